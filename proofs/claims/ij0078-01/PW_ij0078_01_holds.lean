import PyProof.Rows.All
import Wide.All
import OpenK.AllK
import Wide.FinOn
import Lean
import PySem.Challenge.RW_ij0078_01
namespace Mine
open PySem PySem.W PySem.Calls PyProof.Rows
set_option Elab.async false
set_option linter.all false
set_option rowWalk.seconds 0
set_option compiler.extract_closed false
noncomputable section
noncomputable section
set_option maxRecDepth 1000000
set_option maxHeartbeats 0

theorem seed : (PySem.Challenge.pw_ij0078_01.main.body.length == 30) = true := by k_qdec
noncomputable abbrev pw : Program := PySem.Challenge.pw_ij0078_01
noncomputable abbrev pwN : Program := PySem.W.Fast.tw4098556716814465582
noncomputable def en (P : Params) (x : Str) (t : Tok) (v : Value) : DictEntry := ⟨PyData.keyHash P x, .str x t, v⟩
noncomputable def stmtOf (i : Nat) : Stmt := (pwN.main.body[i]?).getD (.Pass default)
noncomputable def fdOf (i : Nat) (g : Addr) (m c : Value) : FuncData := match pwN.main.body[i]? with
  | some (.FunctionDef name args body _ _ _ scope _ _ _) => { name, qualname := name, params := args, body := .stmts body, scope, globals := g, closure := [], defaults := .none, kwdefaults := .none, pyModule := m, code := c }
  | _ => default

noncomputable def s0 : Str := ⟨⟨[95, 95, 110, 97, 109, 101, 95, 95]⟩⟩
noncomputable def s1 : Str := ⟨⟨[98, 117, 105, 108, 116, 105, 110, 115]⟩⟩
noncomputable def s2 : Str := ⟨⟨[95, 95, 100, 111, 99, 95, 95]⟩⟩
noncomputable def s3 : Str := ⟨⟨[95, 95, 112, 97, 99, 107, 97, 103, 101, 95, 95]⟩⟩
noncomputable def s4 : Str := ⟨⟨[95, 95, 108, 111, 97, 100, 101, 114, 95, 95]⟩⟩
noncomputable def s5 : Str := ⟨⟨[95, 95, 115, 112, 101, 99, 95, 95]⟩⟩
noncomputable def s6 : Str := ⟨⟨[95, 95, 98, 117, 105, 108, 100, 95, 99, 108, 97, 115, 115, 95, 95]⟩⟩
noncomputable def s7 : Str := ⟨⟨[95, 95, 105, 109, 112, 111, 114, 116, 95, 95]⟩⟩
noncomputable def s8 : Str := ⟨⟨[97, 98, 115]⟩⟩
noncomputable def s9 : Str := ⟨⟨[97, 108, 108]⟩⟩
noncomputable def s10 : Str := ⟨⟨[97, 110, 121]⟩⟩
noncomputable def s11 : Str := ⟨⟨[97, 115, 99, 105, 105]⟩⟩
noncomputable def s12 : Str := ⟨⟨[98, 105, 110]⟩⟩
noncomputable def s13 : Str := ⟨⟨[98, 114, 101, 97, 107, 112, 111, 105, 110, 116]⟩⟩
noncomputable def s14 : Str := ⟨⟨[99, 97, 108, 108, 97, 98, 108, 101]⟩⟩
noncomputable def s15 : Str := ⟨⟨[99, 104, 114]⟩⟩
noncomputable def s16 : Str := ⟨⟨[99, 111, 109, 112, 105, 108, 101]⟩⟩
noncomputable def s17 : Str := ⟨⟨[100, 101, 108, 97, 116, 116, 114]⟩⟩
noncomputable def s18 : Str := ⟨⟨[100, 105, 114]⟩⟩
noncomputable def s19 : Str := ⟨⟨[100, 105, 118, 109, 111, 100]⟩⟩
noncomputable def s20 : Str := ⟨⟨[101, 118, 97, 108]⟩⟩
noncomputable def s21 : Str := ⟨⟨[101, 120, 101, 99]⟩⟩
noncomputable def s22 : Str := ⟨⟨[102, 111, 114, 109, 97, 116]⟩⟩
noncomputable def s23 : Str := ⟨⟨[103, 101, 116, 97, 116, 116, 114]⟩⟩
noncomputable def s24 : Str := ⟨⟨[103, 108, 111, 98, 97, 108, 115]⟩⟩
noncomputable def s25 : Str := ⟨⟨[104, 97, 115, 97, 116, 116, 114]⟩⟩
noncomputable def s26 : Str := ⟨⟨[104, 97, 115, 104]⟩⟩
noncomputable def s27 : Str := ⟨⟨[104, 101, 120]⟩⟩
noncomputable def s28 : Str := ⟨⟨[105, 100]⟩⟩
noncomputable def s29 : Str := ⟨⟨[105, 110, 112, 117, 116]⟩⟩
noncomputable def s30 : Str := ⟨⟨[105, 115, 105, 110, 115, 116, 97, 110, 99, 101]⟩⟩
noncomputable def s31 : Str := ⟨⟨[105, 115, 115, 117, 98, 99, 108, 97, 115, 115]⟩⟩
noncomputable def s32 : Str := ⟨⟨[105, 116, 101, 114]⟩⟩
noncomputable def s33 : Str := ⟨⟨[97, 105, 116, 101, 114]⟩⟩
noncomputable def s34 : Str := ⟨⟨[108, 101, 110]⟩⟩
noncomputable def s35 : Str := ⟨⟨[108, 111, 99, 97, 108, 115]⟩⟩
noncomputable def s36 : Str := ⟨⟨[109, 97, 120]⟩⟩
noncomputable def s37 : Str := ⟨⟨[109, 105, 110]⟩⟩
noncomputable def s38 : Str := ⟨⟨[110, 101, 120, 116]⟩⟩
noncomputable def s39 : Str := ⟨⟨[97, 110, 101, 120, 116]⟩⟩
noncomputable def s40 : Str := ⟨⟨[111, 99, 116]⟩⟩
noncomputable def s41 : Str := ⟨⟨[111, 114, 100]⟩⟩
noncomputable def s42 : Str := ⟨⟨[112, 111, 119]⟩⟩
noncomputable def s43 : Str := ⟨⟨[112, 114, 105, 110, 116]⟩⟩
noncomputable def s44 : Str := ⟨⟨[114, 101, 112, 114]⟩⟩
noncomputable def s45 : Str := ⟨⟨[114, 111, 117, 110, 100]⟩⟩
noncomputable def s46 : Str := ⟨⟨[115, 101, 116, 97, 116, 116, 114]⟩⟩
noncomputable def s47 : Str := ⟨⟨[115, 111, 114, 116, 101, 100]⟩⟩
noncomputable def s48 : Str := ⟨⟨[115, 117, 109]⟩⟩
noncomputable def s49 : Str := ⟨⟨[118, 97, 114, 115]⟩⟩
noncomputable def s50 : Str := ⟨⟨[78, 111, 110, 101]⟩⟩
noncomputable def s51 : Str := ⟨⟨[69, 108, 108, 105, 112, 115, 105, 115]⟩⟩
noncomputable def s52 : Str := ⟨⟨[78, 111, 116, 73, 109, 112, 108, 101, 109, 101, 110, 116, 101, 100]⟩⟩
noncomputable def s53 : Str := ⟨⟨[70, 97, 108, 115, 101]⟩⟩
noncomputable def s54 : Str := ⟨⟨[84, 114, 117, 101]⟩⟩
noncomputable def s55 : Str := ⟨⟨[98, 111, 111, 108]⟩⟩
noncomputable def s56 : Str := ⟨⟨[109, 101, 109, 111, 114, 121, 118, 105, 101, 119]⟩⟩
noncomputable def s57 : Str := ⟨⟨[98, 121, 116, 101, 97, 114, 114, 97, 121]⟩⟩
noncomputable def s58 : Str := ⟨⟨[98, 121, 116, 101, 115]⟩⟩
noncomputable def s59 : Str := ⟨⟨[99, 108, 97, 115, 115, 109, 101, 116, 104, 111, 100]⟩⟩
noncomputable def s60 : Str := ⟨⟨[99, 111, 109, 112, 108, 101, 120]⟩⟩
noncomputable def s61 : Str := ⟨⟨[100, 105, 99, 116]⟩⟩
noncomputable def s62 : Str := ⟨⟨[101, 110, 117, 109, 101, 114, 97, 116, 101]⟩⟩
noncomputable def s63 : Str := ⟨⟨[102, 105, 108, 116, 101, 114]⟩⟩
noncomputable def s64 : Str := ⟨⟨[102, 108, 111, 97, 116]⟩⟩
noncomputable def s65 : Str := ⟨⟨[102, 114, 111, 122, 101, 110, 115, 101, 116]⟩⟩
noncomputable def s66 : Str := ⟨⟨[112, 114, 111, 112, 101, 114, 116, 121]⟩⟩
noncomputable def s67 : Str := ⟨⟨[105, 110, 116]⟩⟩
noncomputable def s68 : Str := ⟨⟨[108, 105, 115, 116]⟩⟩
noncomputable def s69 : Str := ⟨⟨[109, 97, 112]⟩⟩
noncomputable def s70 : Str := ⟨⟨[111, 98, 106, 101, 99, 116]⟩⟩
noncomputable def s71 : Str := ⟨⟨[114, 97, 110, 103, 101]⟩⟩
noncomputable def s72 : Str := ⟨⟨[114, 101, 118, 101, 114, 115, 101, 100]⟩⟩
noncomputable def s73 : Str := ⟨⟨[115, 101, 116]⟩⟩
noncomputable def s74 : Str := ⟨⟨[115, 108, 105, 99, 101]⟩⟩
noncomputable def s75 : Str := ⟨⟨[115, 116, 97, 116, 105, 99, 109, 101, 116, 104, 111, 100]⟩⟩
noncomputable def s76 : Str := ⟨⟨[115, 116, 114]⟩⟩
noncomputable def s77 : Str := ⟨⟨[115, 117, 112, 101, 114]⟩⟩
noncomputable def s78 : Str := ⟨⟨[116, 117, 112, 108, 101]⟩⟩
noncomputable def s79 : Str := ⟨⟨[116, 121, 112, 101]⟩⟩
noncomputable def s80 : Str := ⟨⟨[122, 105, 112]⟩⟩
noncomputable def s81 : Str := ⟨⟨[95, 95, 100, 101, 98, 117, 103, 95, 95]⟩⟩
noncomputable def s82 : Str := ⟨⟨[66, 97, 115, 101, 69, 120, 99, 101, 112, 116, 105, 111, 110]⟩⟩
noncomputable def s83 : Str := ⟨⟨[66, 97, 115, 101, 69, 120, 99, 101, 112, 116, 105, 111, 110, 71, 114, 111, 117, 112]⟩⟩
noncomputable def s84 : Str := ⟨⟨[69, 120, 99, 101, 112, 116, 105, 111, 110]⟩⟩
noncomputable def s85 : Str := ⟨⟨[71, 101, 110, 101, 114, 97, 116, 111, 114, 69, 120, 105, 116]⟩⟩
noncomputable def s86 : Str := ⟨⟨[75, 101, 121, 98, 111, 97, 114, 100, 73, 110, 116, 101, 114, 114, 117, 112, 116]⟩⟩
noncomputable def s87 : Str := ⟨⟨[83, 121, 115, 116, 101, 109, 69, 120, 105, 116]⟩⟩
noncomputable def s88 : Str := ⟨⟨[65, 114, 105, 116, 104, 109, 101, 116, 105, 99, 69, 114, 114, 111, 114]⟩⟩
noncomputable def s89 : Str := ⟨⟨[65, 115, 115, 101, 114, 116, 105, 111, 110, 69, 114, 114, 111, 114]⟩⟩
noncomputable def s90 : Str := ⟨⟨[65, 116, 116, 114, 105, 98, 117, 116, 101, 69, 114, 114, 111, 114]⟩⟩
noncomputable def s91 : Str := ⟨⟨[66, 117, 102, 102, 101, 114, 69, 114, 114, 111, 114]⟩⟩
noncomputable def s92 : Str := ⟨⟨[69, 79, 70, 69, 114, 114, 111, 114]⟩⟩
noncomputable def s93 : Str := ⟨⟨[73, 109, 112, 111, 114, 116, 69, 114, 114, 111, 114]⟩⟩
noncomputable def s94 : Str := ⟨⟨[76, 111, 111, 107, 117, 112, 69, 114, 114, 111, 114]⟩⟩
noncomputable def s95 : Str := ⟨⟨[77, 101, 109, 111, 114, 121, 69, 114, 114, 111, 114]⟩⟩
noncomputable def s96 : Str := ⟨⟨[78, 97, 109, 101, 69, 114, 114, 111, 114]⟩⟩
noncomputable def s97 : Str := ⟨⟨[79, 83, 69, 114, 114, 111, 114]⟩⟩
noncomputable def s98 : Str := ⟨⟨[82, 101, 102, 101, 114, 101, 110, 99, 101, 69, 114, 114, 111, 114]⟩⟩
noncomputable def s99 : Str := ⟨⟨[82, 117, 110, 116, 105, 109, 101, 69, 114, 114, 111, 114]⟩⟩
noncomputable def s100 : Str := ⟨⟨[83, 116, 111, 112, 65, 115, 121, 110, 99, 73, 116, 101, 114, 97, 116, 105, 111, 110]⟩⟩
noncomputable def s101 : Str := ⟨⟨[83, 116, 111, 112, 73, 116, 101, 114, 97, 116, 105, 111, 110]⟩⟩
noncomputable def s102 : Str := ⟨⟨[83, 121, 110, 116, 97, 120, 69, 114, 114, 111, 114]⟩⟩
noncomputable def s103 : Str := ⟨⟨[83, 121, 115, 116, 101, 109, 69, 114, 114, 111, 114]⟩⟩
noncomputable def s104 : Str := ⟨⟨[84, 121, 112, 101, 69, 114, 114, 111, 114]⟩⟩
noncomputable def s105 : Str := ⟨⟨[86, 97, 108, 117, 101, 69, 114, 114, 111, 114]⟩⟩
noncomputable def s106 : Str := ⟨⟨[87, 97, 114, 110, 105, 110, 103]⟩⟩
noncomputable def s107 : Str := ⟨⟨[70, 108, 111, 97, 116, 105, 110, 103, 80, 111, 105, 110, 116, 69, 114, 114, 111, 114]⟩⟩
noncomputable def s108 : Str := ⟨⟨[79, 118, 101, 114, 102, 108, 111, 119, 69, 114, 114, 111, 114]⟩⟩
noncomputable def s109 : Str := ⟨⟨[90, 101, 114, 111, 68, 105, 118, 105, 115, 105, 111, 110, 69, 114, 114, 111, 114]⟩⟩
noncomputable def s110 : Str := ⟨⟨[66, 121, 116, 101, 115, 87, 97, 114, 110, 105, 110, 103]⟩⟩
noncomputable def s111 : Str := ⟨⟨[68, 101, 112, 114, 101, 99, 97, 116, 105, 111, 110, 87, 97, 114, 110, 105, 110, 103]⟩⟩
noncomputable def s112 : Str := ⟨⟨[69, 110, 99, 111, 100, 105, 110, 103, 87, 97, 114, 110, 105, 110, 103]⟩⟩
noncomputable def s113 : Str := ⟨⟨[70, 117, 116, 117, 114, 101, 87, 97, 114, 110, 105, 110, 103]⟩⟩
noncomputable def s114 : Str := ⟨⟨[73, 109, 112, 111, 114, 116, 87, 97, 114, 110, 105, 110, 103]⟩⟩
noncomputable def s115 : Str := ⟨⟨[80, 101, 110, 100, 105, 110, 103, 68, 101, 112, 114, 101, 99, 97, 116, 105, 111, 110, 87, 97, 114, 110, 105, 110, 103]⟩⟩
noncomputable def s116 : Str := ⟨⟨[82, 101, 115, 111, 117, 114, 99, 101, 87, 97, 114, 110, 105, 110, 103]⟩⟩
noncomputable def s117 : Str := ⟨⟨[82, 117, 110, 116, 105, 109, 101, 87, 97, 114, 110, 105, 110, 103]⟩⟩
noncomputable def s118 : Str := ⟨⟨[83, 121, 110, 116, 97, 120, 87, 97, 114, 110, 105, 110, 103]⟩⟩
noncomputable def s119 : Str := ⟨⟨[85, 110, 105, 99, 111, 100, 101, 87, 97, 114, 110, 105, 110, 103]⟩⟩
noncomputable def s120 : Str := ⟨⟨[85, 115, 101, 114, 87, 97, 114, 110, 105, 110, 103]⟩⟩
noncomputable def s121 : Str := ⟨⟨[66, 108, 111, 99, 107, 105, 110, 103, 73, 79, 69, 114, 114, 111, 114]⟩⟩
noncomputable def s122 : Str := ⟨⟨[67, 104, 105, 108, 100, 80, 114, 111, 99, 101, 115, 115, 69, 114, 114, 111, 114]⟩⟩
noncomputable def s123 : Str := ⟨⟨[67, 111, 110, 110, 101, 99, 116, 105, 111, 110, 69, 114, 114, 111, 114]⟩⟩
noncomputable def s124 : Str := ⟨⟨[70, 105, 108, 101, 69, 120, 105, 115, 116, 115, 69, 114, 114, 111, 114]⟩⟩
noncomputable def s125 : Str := ⟨⟨[70, 105, 108, 101, 78, 111, 116, 70, 111, 117, 110, 100, 69, 114, 114, 111, 114]⟩⟩
noncomputable def s126 : Str := ⟨⟨[73, 110, 116, 101, 114, 114, 117, 112, 116, 101, 100, 69, 114, 114, 111, 114]⟩⟩
noncomputable def s127 : Str := ⟨⟨[73, 115, 65, 68, 105, 114, 101, 99, 116, 111, 114, 121, 69, 114, 114, 111, 114]⟩⟩
noncomputable def s128 : Str := ⟨⟨[78, 111, 116, 65, 68, 105, 114, 101, 99, 116, 111, 114, 121, 69, 114, 114, 111, 114]⟩⟩
noncomputable def s129 : Str := ⟨⟨[80, 101, 114, 109, 105, 115, 115, 105, 111, 110, 69, 114, 114, 111, 114]⟩⟩
noncomputable def s130 : Str := ⟨⟨[80, 114, 111, 99, 101, 115, 115, 76, 111, 111, 107, 117, 112, 69, 114, 114, 111, 114]⟩⟩
noncomputable def s131 : Str := ⟨⟨[84, 105, 109, 101, 111, 117, 116, 69, 114, 114, 111, 114]⟩⟩
noncomputable def s132 : Str := ⟨⟨[73, 110, 100, 101, 110, 116, 97, 116, 105, 111, 110, 69, 114, 114, 111, 114]⟩⟩
noncomputable def s133 : Str := ⟨⟨[95, 73, 110, 99, 111, 109, 112, 108, 101, 116, 101, 73, 110, 112, 117, 116, 69, 114, 114, 111, 114]⟩⟩
noncomputable def s134 : Str := ⟨⟨[73, 110, 100, 101, 120, 69, 114, 114, 111, 114]⟩⟩
noncomputable def s135 : Str := ⟨⟨[75, 101, 121, 69, 114, 114, 111, 114]⟩⟩
noncomputable def s136 : Str := ⟨⟨[77, 111, 100, 117, 108, 101, 78, 111, 116, 70, 111, 117, 110, 100, 69, 114, 114, 111, 114]⟩⟩
noncomputable def s137 : Str := ⟨⟨[78, 111, 116, 73, 109, 112, 108, 101, 109, 101, 110, 116, 101, 100, 69, 114, 114, 111, 114]⟩⟩
noncomputable def s138 : Str := ⟨⟨[80, 121, 116, 104, 111, 110, 70, 105, 110, 97, 108, 105, 122, 97, 116, 105, 111, 110, 69, 114, 114, 111, 114]⟩⟩
noncomputable def s139 : Str := ⟨⟨[82, 101, 99, 117, 114, 115, 105, 111, 110, 69, 114, 114, 111, 114]⟩⟩
noncomputable def s140 : Str := ⟨⟨[85, 110, 98, 111, 117, 110, 100, 76, 111, 99, 97, 108, 69, 114, 114, 111, 114]⟩⟩
noncomputable def s141 : Str := ⟨⟨[85, 110, 105, 99, 111, 100, 101, 69, 114, 114, 111, 114]⟩⟩
noncomputable def s142 : Str := ⟨⟨[66, 114, 111, 107, 101, 110, 80, 105, 112, 101, 69, 114, 114, 111, 114]⟩⟩
noncomputable def s143 : Str := ⟨⟨[67, 111, 110, 110, 101, 99, 116, 105, 111, 110, 65, 98, 111, 114, 116, 101, 100, 69, 114, 114, 111, 114]⟩⟩
noncomputable def s144 : Str := ⟨⟨[67, 111, 110, 110, 101, 99, 116, 105, 111, 110, 82, 101, 102, 117, 115, 101, 100, 69, 114, 114, 111, 114]⟩⟩
noncomputable def s145 : Str := ⟨⟨[67, 111, 110, 110, 101, 99, 116, 105, 111, 110, 82, 101, 115, 101, 116, 69, 114, 114, 111, 114]⟩⟩
noncomputable def s146 : Str := ⟨⟨[84, 97, 98, 69, 114, 114, 111, 114]⟩⟩
noncomputable def s147 : Str := ⟨⟨[85, 110, 105, 99, 111, 100, 101, 68, 101, 99, 111, 100, 101, 69, 114, 114, 111, 114]⟩⟩
noncomputable def s148 : Str := ⟨⟨[85, 110, 105, 99, 111, 100, 101, 69, 110, 99, 111, 100, 101, 69, 114, 114, 111, 114]⟩⟩
noncomputable def s149 : Str := ⟨⟨[85, 110, 105, 99, 111, 100, 101, 84, 114, 97, 110, 115, 108, 97, 116, 101, 69, 114, 114, 111, 114]⟩⟩
noncomputable def s150 : Str := ⟨⟨[69, 120, 99, 101, 112, 116, 105, 111, 110, 71, 114, 111, 117, 112]⟩⟩
noncomputable def s151 : Str := ⟨⟨[69, 110, 118, 105, 114, 111, 110, 109, 101, 110, 116, 69, 114, 114, 111, 114]⟩⟩
noncomputable def s152 : Str := ⟨⟨[73, 79, 69, 114, 114, 111, 114]⟩⟩
noncomputable def s153 : Str := ⟨⟨[111, 112, 101, 110]⟩⟩
noncomputable def s154 : Str := ⟨⟨[113, 117, 105, 116]⟩⟩
noncomputable def s155 : Str := ⟨⟨[101, 120, 105, 116]⟩⟩
noncomputable def s156 : Str := ⟨⟨[99, 111, 112, 121, 114, 105, 103, 104, 116]⟩⟩
noncomputable def s157 : Str := ⟨⟨[99, 114, 101, 100, 105, 116, 115]⟩⟩
noncomputable def s158 : Str := ⟨⟨[108, 105, 99, 101, 110, 115, 101]⟩⟩
noncomputable def s159 : Str := ⟨⟨[104, 101, 108, 112]⟩⟩
noncomputable def s160 : Str := ⟨⟨[95, 95, 109, 97, 105, 110, 95, 95]⟩⟩
noncomputable def s161 : Str := ⟨⟨[95, 115, 114, 101]⟩⟩
noncomputable def s162 : Str := ⟨⟨[105, 109, 112, 111, 114, 116, 46, 108, 111, 97, 100, 101, 100, 46, 95, 115, 114, 101]⟩⟩
noncomputable def s163 : Str := ⟨⟨[99, 108, 97, 115, 115, 46, 95, 102, 114, 111, 122, 101, 110, 95, 105, 109, 112, 111, 114, 116, 108, 105, 98, 46, 66, 117, 105, 108, 116, 105, 110, 73, 109, 112, 111, 114, 116, 101, 114]⟩⟩
noncomputable def s164 : Str := ⟨⟨[119, 97, 116, 99, 104, 101, 100, 46, 105, 109, 112, 111, 114, 116]⟩⟩
noncomputable def s165 : Str := ⟨⟨[99, 108, 97, 115, 115, 46, 95, 102, 114, 111, 122, 101, 110, 95, 105, 109, 112, 111, 114, 116, 108, 105, 98, 46, 77, 111, 100, 117, 108, 101, 83, 112, 101, 99]⟩⟩
noncomputable def s166 : Str := ⟨⟨[115, 121, 115, 46, 109, 111, 100, 117, 108, 101, 115, 46, 98, 111, 111, 107, 101, 100, 45, 101, 112, 111, 99, 104]⟩⟩
noncomputable def s167 : Str := ⟨⟨[105, 109, 112, 111, 114, 116, 46, 108, 97, 116, 101, 114, 45, 108, 97, 105, 100, 46, 95, 115, 114, 101]⟩⟩
noncomputable def s168 : Str := ⟨⟨[119, 97, 116, 99, 104, 101, 100, 46, 108, 105, 98, 114, 97, 114, 121]⟩⟩
noncomputable def s169 : Str := ⟨⟨[119, 97, 116, 99, 104, 101, 100, 46, 108, 105, 98, 114, 97, 114, 121, 45, 111, 98, 106, 101, 99, 116, 115]⟩⟩
noncomputable def s170 : Str := ⟨⟨[119, 97, 116, 99, 104, 101, 100, 46, 108, 105, 98, 114, 97, 114, 121, 45, 100, 101, 101, 112, 46, 95, 115, 114, 101]⟩⟩
noncomputable def s171 : Str := ⟨⟨[95, 95, 97, 110, 110, 111, 116, 97, 116, 105, 111, 110, 115, 95, 95]⟩⟩
noncomputable def s172 : Str := ⟨⟨[95, 95, 98, 117, 105, 108, 116, 105, 110, 115, 95, 95]⟩⟩
noncomputable def s173 : Str := ⟨⟨[95, 95, 102, 105, 108, 101, 95, 95]⟩⟩
noncomputable def s174 : Str := ⟨⟨[47, 99, 108, 97, 105, 109, 47, 99, 117, 116, 46, 112, 121]⟩⟩
noncomputable def s175 : Str := ⟨⟨[95, 95, 99, 97, 99, 104, 101, 100, 95, 95]⟩⟩
noncomputable def s176 : Str := ⟨⟨[60, 109, 111, 100, 117, 108, 101, 62]⟩⟩
noncomputable def s177 : Str := ⟨⟨[]⟩⟩
noncomputable def s178 : Str := ⟨⟨[116, 101, 109, 112, 108, 97, 116, 101]⟩⟩
noncomputable def s179 : Str := ⟨⟨[103, 101, 116, 99, 111, 100, 101, 115, 105, 122, 101]⟩⟩
noncomputable def s180 : Str := ⟨⟨[97, 115, 99, 105, 105, 95, 105, 115, 99, 97, 115, 101, 100]⟩⟩
noncomputable def s181 : Str := ⟨⟨[117, 110, 105, 99, 111, 100, 101, 95, 105, 115, 99, 97, 115, 101, 100]⟩⟩
noncomputable def s182 : Str := ⟨⟨[97, 115, 99, 105, 105, 95, 116, 111, 108, 111, 119, 101, 114]⟩⟩
noncomputable def s183 : Str := ⟨⟨[117, 110, 105, 99, 111, 100, 101, 95, 116, 111, 108, 111, 119, 101, 114]⟩⟩
noncomputable def s184 : Str := ⟨⟨[77, 65, 71, 73, 67]⟩⟩
noncomputable def s185 : Str := ⟨⟨[67, 79, 68, 69, 83, 73, 90, 69]⟩⟩
noncomputable def s186 : Str := ⟨⟨[77, 65, 88, 82, 69, 80, 69, 65, 84]⟩⟩
noncomputable def s187 : Str := ⟨⟨[77, 65, 88, 71, 82, 79, 85, 80, 83]⟩⟩
noncomputable def s188 : Str := ⟨⟨[32, 83, 82, 69, 32, 50, 46, 50, 46, 50, 32, 67, 111, 112, 121, 114, 105, 103, 104, 116, 32, 40, 99, 41, 32, 49, 57, 57, 55, 45, 50, 48, 48, 50, 32, 98, 121, 32, 83, 101, 99, 114, 101, 116, 32, 76, 97, 98, 115, 32, 65, 66, 32]⟩⟩
noncomputable def s189 : Str := ⟨⟨[95, 95, 109, 111, 100, 117, 108, 101, 95, 95]⟩⟩
noncomputable def s190 : Str := ⟨⟨[95, 102, 114, 111, 122, 101, 110, 95, 105, 109, 112, 111, 114, 116, 108, 105, 98]⟩⟩
noncomputable def s191 : Str := ⟨⟨[95, 95, 102, 105, 114, 115, 116, 108, 105, 110, 101, 110, 111, 95, 95]⟩⟩
noncomputable def s192 : Str := ⟨⟨[95, 79, 82, 73, 71, 73, 78]⟩⟩
noncomputable def s193 : Str := ⟨⟨[98, 117, 105, 108, 116, 45, 105, 110]⟩⟩
noncomputable def s194 : Str := ⟨⟨[102, 105, 110, 100, 95, 115, 112, 101, 99]⟩⟩
noncomputable def s195 : Str := ⟨⟨[99, 114, 101, 97, 116, 101, 95, 109, 111, 100, 117, 108, 101]⟩⟩
noncomputable def s196 : Str := ⟨⟨[101, 120, 101, 99, 95, 109, 111, 100, 117, 108, 101]⟩⟩
noncomputable def s197 : Str := ⟨⟨[103, 101, 116, 95, 99, 111, 100, 101]⟩⟩
noncomputable def s198 : Str := ⟨⟨[103, 101, 116, 95, 115, 111, 117, 114, 99, 101]⟩⟩
noncomputable def s199 : Str := ⟨⟨[105, 115, 95, 112, 97, 99, 107, 97, 103, 101]⟩⟩
noncomputable def s200 : Str := ⟨⟨[108, 111, 97, 100, 95, 109, 111, 100, 117, 108, 101]⟩⟩
noncomputable def s201 : Str := ⟨⟨[95, 95, 115, 116, 97, 116, 105, 99, 95, 97, 116, 116, 114, 105, 98, 117, 116, 101, 115, 95, 95]⟩⟩
noncomputable def s202 : Str := ⟨⟨[95, 95, 100, 105, 99, 116, 95, 95]⟩⟩
noncomputable def s203 : Str := ⟨⟨[95, 95, 119, 101, 97, 107, 114, 101, 102, 95, 95]⟩⟩
noncomputable def s204 : Str := ⟨⟨[66, 117, 105, 108, 116, 105, 110, 73, 109, 112, 111, 114, 116, 101, 114]⟩⟩
noncomputable def s205 : Str := ⟨⟨[110, 97, 109, 101]⟩⟩
noncomputable def s206 : Str := ⟨⟨[108, 111, 97, 100, 101, 114]⟩⟩
noncomputable def s207 : Str := ⟨⟨[111, 114, 105, 103, 105, 110]⟩⟩
noncomputable def s208 : Str := ⟨⟨[108, 111, 97, 100, 101, 114, 95, 115, 116, 97, 116, 101]⟩⟩
noncomputable def s209 : Str := ⟨⟨[115, 117, 98, 109, 111, 100, 117, 108, 101, 95, 115, 101, 97, 114, 99, 104, 95, 108, 111, 99, 97, 116, 105, 111, 110, 115]⟩⟩
noncomputable def s210 : Str := ⟨⟨[95, 117, 110, 105, 110, 105, 116, 105, 97, 108, 105, 122, 101, 100, 95, 115, 117, 98, 109, 111, 100, 117, 108, 101, 115]⟩⟩
noncomputable def s211 : Str := ⟨⟨[95, 115, 101, 116, 95, 102, 105, 108, 101, 97, 116, 116, 114]⟩⟩
noncomputable def s212 : Str := ⟨⟨[95, 99, 97, 99, 104, 101, 100]⟩⟩
noncomputable def s213 : Str := ⟨⟨[95, 105, 110, 105, 116, 105, 97, 108, 105, 122, 105, 110, 103]⟩⟩
noncomputable def s214 : Str := ⟨⟨[95, 95, 105, 110, 105, 116, 95, 95]⟩⟩
noncomputable def s215 : Str := ⟨⟨[95, 95, 114, 101, 112, 114, 95, 95]⟩⟩
noncomputable def s216 : Str := ⟨⟨[95, 95, 101, 113, 95, 95]⟩⟩
noncomputable def s217 : Str := ⟨⟨[99, 97, 99, 104, 101, 100]⟩⟩
noncomputable def s218 : Str := ⟨⟨[112, 97, 114, 101, 110, 116]⟩⟩
noncomputable def s219 : Str := ⟨⟨[104, 97, 115, 95, 108, 111, 99, 97, 116, 105, 111, 110]⟩⟩
noncomputable def s220 : Str := ⟨⟨[95, 95, 104, 97, 115, 104, 95, 95]⟩⟩
noncomputable def s221 : Str := ⟨⟨[77, 111, 100, 117, 108, 101, 83, 112, 101, 99]⟩⟩
noncomputable def s222 : Str := ⟨⟨[114, 101]⟩⟩
noncomputable def s223 : Str := ⟨⟨[95, 116, 119, 105, 110, 95, 114, 101, 95, 49]⟩⟩
noncomputable def s224 : Str := ⟨⟨[40, 91, 38, 126, 124, 93, 41]⟩⟩
noncomputable def s225 : Str := ⟨⟨[95, 115, 112, 101, 99, 105, 97, 108, 95, 99, 104, 97, 114, 115, 95, 109, 97, 112]⟩⟩
noncomputable def s226 : Str := ⟨⟨[92, 40]⟩⟩
noncomputable def s227 : Str := ⟨⟨[92, 41]⟩⟩
noncomputable def s228 : Str := ⟨⟨[92, 91]⟩⟩
noncomputable def s229 : Str := ⟨⟨[92, 93]⟩⟩
noncomputable def s230 : Str := ⟨⟨[92, 123]⟩⟩
noncomputable def s231 : Str := ⟨⟨[92, 125]⟩⟩
noncomputable def s232 : Str := ⟨⟨[92, 63]⟩⟩
noncomputable def s233 : Str := ⟨⟨[92, 42]⟩⟩
noncomputable def s234 : Str := ⟨⟨[92, 43]⟩⟩
noncomputable def s235 : Str := ⟨⟨[92, 45]⟩⟩
noncomputable def s236 : Str := ⟨⟨[92, 124]⟩⟩
noncomputable def s237 : Str := ⟨⟨[92, 94]⟩⟩
noncomputable def s238 : Str := ⟨⟨[92, 36]⟩⟩
noncomputable def s239 : Str := ⟨⟨[92, 92]⟩⟩
noncomputable def s240 : Str := ⟨⟨[92, 46]⟩⟩
noncomputable def s241 : Str := ⟨⟨[92, 38]⟩⟩
noncomputable def s242 : Str := ⟨⟨[92, 126]⟩⟩
noncomputable def s243 : Str := ⟨⟨[92, 35]⟩⟩
noncomputable def s244 : Str := ⟨⟨[92, 32]⟩⟩
noncomputable def s245 : Str := ⟨⟨[99, 112, 121, 51, 49, 51, 46, 115, 116, 114, 105, 110, 103, 112, 114, 101, 112]⟩⟩
noncomputable def s246 : Str := ⟨⟨[101, 115, 99, 97, 112, 101]⟩⟩
noncomputable def s247 : Str := ⟨⟨[95, 116, 114, 97, 110, 115, 108, 97, 116, 101]⟩⟩
noncomputable def s248 : Str := ⟨⟨[112, 97, 116, 116, 101, 114, 110]⟩⟩
noncomputable def s249 : Str := ⟨⟨[112, 97, 116]⟩⟩
noncomputable def s250 : Str := ⟨⟨[83, 84, 65, 82]⟩⟩
noncomputable def s251 : Str := ⟨⟨[81, 85, 69, 83, 84, 73, 79, 78, 95, 77, 65, 82, 75]⟩⟩
noncomputable def s252 : Str := ⟨⟨[114, 101, 115]⟩⟩
noncomputable def s253 : Str := ⟨⟨[97, 100, 100]⟩⟩
noncomputable def s254 : Str := ⟨⟨[105]⟩⟩
noncomputable def s255 : Str := ⟨⟨[110]⟩⟩
noncomputable def s256 : Str := ⟨⟨[99]⟩⟩
noncomputable def s257 : Str := ⟨⟨[106]⟩⟩
noncomputable def s258 : Str := ⟨⟨[115, 116, 117, 102, 102]⟩⟩
noncomputable def s259 : Str := ⟨⟨[99, 104, 117, 110, 107, 115]⟩⟩
noncomputable def s260 : Str := ⟨⟨[107]⟩⟩
noncomputable def s261 : Str := ⟨⟨[99, 104, 117, 110, 107]⟩⟩
noncomputable def s262 : Str := ⟨⟨[99, 112, 121, 51, 49, 51, 46, 102, 110, 109, 97, 116, 99, 104]⟩⟩
noncomputable def s263 : Str := ⟨⟨[98, 49, 95, 115, 101, 116]⟩⟩
noncomputable def s264 : Str := ⟨⟨[105, 110, 95, 116, 97, 98, 108, 101, 95, 98, 49]⟩⟩
noncomputable def s265 : Str := ⟨⟨[105, 110, 95, 116, 97, 98, 108, 101, 95, 99, 49, 49]⟩⟩
noncomputable def s266 : Str := ⟨⟨[105, 110, 95, 116, 97, 98, 108, 101, 95, 99, 52]⟩⟩
noncomputable def s267 : Str := ⟨⟨[99, 54, 95, 115, 101, 116]⟩⟩
noncomputable def s268 : Str := ⟨⟨[99, 111, 100, 101]⟩⟩
noncomputable def s269 : Str := ⟨⟨[105, 110, 95, 116, 97, 98, 108, 101, 95, 99, 54]⟩⟩
noncomputable def s270 : Str := ⟨⟨[99, 55, 95, 115, 101, 116]⟩⟩
noncomputable def s271 : Str := ⟨⟨[105, 110, 95, 116, 97, 98, 108, 101, 95, 99, 55]⟩⟩
noncomputable def s272 : Str := ⟨⟨[99, 56, 95, 115, 101, 116]⟩⟩
noncomputable def s273 : Str := ⟨⟨[105, 110, 95, 116, 97, 98, 108, 101, 95, 99, 56]⟩⟩
noncomputable def s274 : Str := ⟨⟨[99, 57, 95, 115, 101, 116]⟩⟩
noncomputable def s275 : Str := ⟨⟨[108, 97, 119, 95, 105, 106, 48, 48, 55, 56, 95, 48, 49]⟩⟩
noncomputable def s276 : Str := ⟨⟨[105, 110, 95, 116, 97, 98, 108, 101, 95, 99, 57]⟩⟩
noncomputable def s277 : Str := ⟨⟨[95, 108, 97, 119, 95, 114, 117, 110, 115]⟩⟩
noncomputable def s278 : Str := ⟨⟨[95, 108, 97, 119, 95, 97, 115, 107, 101, 100]⟩⟩
noncomputable def s279 : Str := ⟨⟨[95, 108, 97, 119, 95, 119, 114, 105, 116, 116, 101, 110]⟩⟩
noncomputable def s280 : Str := ⟨⟨[95, 108, 97, 119, 95, 112, 97, 116, 116, 101, 114, 110]⟩⟩
noncomputable def s281 : Str := ⟨⟨[95, 108, 97, 119, 95, 115, 105, 103, 110]⟩⟩
noncomputable def s282 : Str := ⟨⟨[95, 108, 97, 119, 95, 116, 111, 108, 100]⟩⟩
noncomputable def s283 : Str := ⟨⟨[95, 108, 97, 119, 95, 116, 97, 107, 101, 115]⟩⟩
noncomputable def s284 : Str := ⟨⟨[95, 108, 97, 119, 95, 116, 97, 107, 101, 110]⟩⟩
noncomputable def s285 : Str := ⟨⟨[108, 97, 119]⟩⟩
noncomputable def s286 : Str := ⟨⟨[116, 97, 98, 108, 101]⟩⟩
noncomputable def s287 : Str := ⟨⟨[115, 105, 103, 110]⟩⟩
noncomputable def s288 : Str := ⟨⟨[114, 101, 115, 116]⟩⟩
noncomputable def s289 : Str := ⟨⟨[114, 117, 110, 115]⟩⟩
noncomputable def s290 : Str := ⟨⟨[116, 117, 114, 110]⟩⟩
noncomputable def s291 : Str := ⟨⟨[116, 101, 120, 116]⟩⟩
noncomputable def s292 : Str := ⟨⟨[102, 105, 114, 115, 116]⟩⟩
noncomputable def s293 : Str := ⟨⟨[108, 97, 115, 116]⟩⟩
noncomputable def s294 : Str := ⟨⟨[99, 117, 116]⟩⟩
noncomputable def s295 : Str := ⟨⟨[99, 101, 108, 108, 115]⟩⟩
noncomputable def s296 : Str := ⟨⟨[112, 105, 101, 99, 101, 115]⟩⟩
noncomputable def s297 : Str := ⟨⟨[105, 116, 101, 109, 115]⟩⟩
noncomputable def s298 : Str := ⟨⟨[99, 101, 108, 108]⟩⟩
noncomputable def s299 : Str := ⟨⟨[107, 105, 110, 100]⟩⟩
noncomputable def s300 : Str := ⟨⟨[105, 110, 115, 105, 100, 101]⟩⟩
noncomputable def s301 : Str := ⟨⟨[112, 97, 114, 116]⟩⟩
noncomputable def s302 : Str := ⟨⟨[98, 111, 100, 121]⟩⟩
noncomputable def s303 : Str := ⟨⟨[98, 97, 114, 114, 101, 100]⟩⟩
noncomputable def s304 : Str := ⟨⟨[102, 111, 117, 110, 100]⟩⟩
noncomputable def s305 : Str := ⟨⟨[97, 116]⟩⟩
noncomputable def s306 : Str := ⟨⟨[108, 111, 119]⟩⟩
noncomputable def s307 : Str := ⟨⟨[104, 105, 103, 104]⟩⟩
noncomputable def s308 : Str := ⟨⟨[112, 97, 114, 116, 115]⟩⟩
noncomputable def s309 : Str := ⟨⟨[114, 111, 119]⟩⟩
noncomputable def s310 : Str := ⟨⟨[101, 110, 100, 115]⟩⟩
noncomputable def s311 : Str := ⟨⟨[101, 110, 100]⟩⟩
noncomputable def s312 : Str := ⟨⟨[104, 101, 97, 100, 115]⟩⟩
noncomputable def s313 : Str := ⟨⟨[112, 108, 97, 99, 101]⟩⟩
noncomputable def o0_0 (P : Params) : Obj := ⟨(.type "dict"), none, (.dict ⟨[en P s0 1 (.str s1 160), en P s2 2 (.builtin "builtins.__doc__:str#opaque"), en P s3 3 (.builtin "builtins.__package__:str#opaque"), en P s4 4 (.builtin "builtins.__loader__:shared#opaque"), en P s5 5 (.builtin "builtins.__spec__#opaque"), en P s6 6 (.builtin "__build_class__"), en P s7 7 (.builtin "__import__"), en P s8 8 (.builtin "abs"), en P s9 9 (.builtin "all"), en P s10 10 (.builtin "any"), en P s11 11 (.builtin "ascii"), en P s12 12 (.builtin "bin"), en P s13 13 (.builtin "breakpoint"), en P s14 14 (.builtin "callable"), en P s15 15 (.builtin "chr"), en P s16 16 (.builtin "compile"), en P s17 17 (.builtin "delattr"), en P s18 18 (.builtin "dir"), en P s19 19 (.builtin "divmod"), en P s20 20 (.builtin "eval"), en P s21 21 (.builtin "exec"), en P s22 22 (.builtin "format"), en P s23 23 (.builtin "getattr"), en P s24 24 (.builtin "globals"), en P s25 25 (.builtin "hasattr"), en P s26 26 (.builtin "hash"), en P s27 27 (.builtin "hex"), en P s28 28 (.builtin "id"), en P s29 29 (.builtin "input"), en P s30 30 (.builtin "isinstance"), en P s31 31 (.builtin "issubclass"), en P s32 32 (.builtin "iter"), en P s33 33 (.builtin "aiter"), en P s34 34 (.builtin "len"), en P s35 35 (.builtin "locals"), en P s36 36 (.builtin "max"), en P s37 37 (.builtin "min"), en P s38 38 (.builtin "next"), en P s39 39 (.builtin "anext"), en P s40 40 (.builtin "oct"), en P s41 41 (.builtin "ord"), en P s42 42 (.builtin "pow"), en P s43 43 (.builtin "print"), en P s44 44 (.builtin "repr"), en P s45 45 (.builtin "round"), en P s46 46 (.builtin "setattr"), en P s47 47 (.builtin "sorted"), en P s48 48 (.builtin "sum"), en P s49 49 (.builtin "vars"), en P s50 50 .none, en P s51 51 .ellipsis, en P s52 52 .notImplemented, en P s53 53 (.bool false), en P s54 54 (.bool true), en P s55 55 (.type "bool"), en P s56 56 (.type "memoryview"), en P s57 57 (.type "bytearray"), en P s58 58 (.type "bytes"), en P s59 59 (.type "classmethod"), en P s60 60 (.type "complex"), en P s61 61 (.type "dict"), en P s62 62 (.type "enumerate"), en P s63 63 (.type "filter"), en P s64 64 (.type "float"), en P s65 65 (.type "frozenset"), en P s66 66 (.type "property"), en P s67 67 (.type "int"), en P s68 68 (.type "list"), en P s69 69 (.type "map"), en P s70 70 (.type "object"), en P s71 71 (.type "range"), en P s72 72 (.type "reversed"), en P s73 73 (.type "set"), en P s74 74 (.type "slice"), en P s75 75 (.type "staticmethod"), en P s76 76 (.type "str"), en P s77 77 (.type "super"), en P s78 78 (.type "tuple"), en P s79 79 (.type "type"), en P s80 80 (.type "zip"), en P s81 81 (.bool true), en P s82 82 (.type "BaseException"), en P s83 83 (.type "BaseExceptionGroup"), en P s84 84 (.type "Exception"), en P s85 85 (.type "GeneratorExit"), en P s86 86 (.type "KeyboardInterrupt"), en P s87 87 (.type "SystemExit"), en P s88 88 (.type "ArithmeticError"), en P s89 89 (.type "AssertionError"), en P s90 90 (.type "AttributeError"), en P s91 91 (.type "BufferError"), en P s92 92 (.type "EOFError"), en P s93 93 (.type "ImportError"), en P s94 94 (.type "LookupError"), en P s95 95 (.type "MemoryError"), en P s96 96 (.type "NameError"), en P s97 97 (.type "OSError"), en P s98 98 (.type "ReferenceError"), en P s99 99 (.type "RuntimeError"), en P s100 100 (.type "StopAsyncIteration"), en P s101 101 (.type "StopIteration"), en P s102 102 (.type "SyntaxError"), en P s103 103 (.type "SystemError"), en P s104 104 (.type "TypeError"), en P s105 105 (.type "ValueError"), en P s106 106 (.type "Warning"), en P s107 107 (.type "FloatingPointError"), en P s108 108 (.type "OverflowError"), en P s109 109 (.type "ZeroDivisionError"), en P s110 110 (.type "BytesWarning"), en P s111 111 (.type "DeprecationWarning"), en P s112 112 (.type "EncodingWarning"), en P s113 113 (.type "FutureWarning"), en P s114 114 (.type "ImportWarning"), en P s115 115 (.type "PendingDeprecationWarning"), en P s116 116 (.type "ResourceWarning"), en P s117 117 (.type "RuntimeWarning"), en P s118 118 (.type "SyntaxWarning"), en P s119 119 (.type "UnicodeWarning"), en P s120 120 (.type "UserWarning"), en P s121 121 (.type "BlockingIOError"), en P s122 122 (.type "ChildProcessError"), en P s123 123 (.type "ConnectionError"), en P s124 124 (.type "FileExistsError"), en P s125 125 (.type "FileNotFoundError"), en P s126 126 (.type "InterruptedError"), en P s127 127 (.type "IsADirectoryError"), en P s128 128 (.type "NotADirectoryError"), en P s129 129 (.type "PermissionError"), en P s130 130 (.type "ProcessLookupError"), en P s131 131 (.type "TimeoutError"), en P s132 132 (.type "IndentationError"), en P s133 133 (.type "_IncompleteInputError"), en P s134 134 (.type "IndexError"), en P s135 135 (.type "KeyError"), en P s136 136 (.type "ModuleNotFoundError"), en P s137 137 (.type "NotImplementedError"), en P s138 138 (.type "PythonFinalizationError"), en P s139 139 (.type "RecursionError"), en P s140 140 (.type "UnboundLocalError"), en P s141 141 (.type "UnicodeError"), en P s142 142 (.type "BrokenPipeError"), en P s143 143 (.type "ConnectionAbortedError"), en P s144 144 (.type "ConnectionRefusedError"), en P s145 145 (.type "ConnectionResetError"), en P s146 146 (.type "TabError"), en P s147 147 (.type "UnicodeDecodeError"), en P s148 148 (.type "UnicodeEncodeError"), en P s149 149 (.type "UnicodeTranslateError"), en P s150 150 (.type "ExceptionGroup"), en P s151 151 (.type "OSError"), en P s152 152 (.type "OSError"), en P s153 153 (.builtin "open"), en P s154 154 (.builtin "builtins.quit#opaque"), en P s155 155 (.builtin "builtins.exit#opaque"), en P s156 156 (.builtin "builtins.copyright#opaque"), en P s157 157 (.builtin "builtins.credits#opaque"), en P s158 158 (.builtin "builtins.license#opaque"), en P s159 159 (.builtin "builtins.help#opaque")]⟩ 159), ⟨[]⟩⟩
noncomputable def o1_0 (P : Params) : Obj := ⟨(.type "dict"), none, (.dict ⟨[en P s1 162 (.ref 4), en P s160 163 (.ref 5), en P s161 244 (.ref 12)]⟩ 3), ⟨[]⟩⟩
noncomputable def o2_0 (P : Params) : Obj := ⟨.none, none, (.dict ⟨[en P s162 183 (.bool true), en P s163 185 (.ref 14), en P s164 206 (.ref 18), en P s165 216 (.ref 22), en P s166 245 (.int 3 0), en P s167 270 (.bool true), en P s168 272 (.ref 27), en P s169 0 (.str ⟨⟨[12]⟩⟩ 0), en P s170 273 (.str ⟨⟨[4, 0, 0, 11, 4, 0, 0, 11, 4, 0, 0, 3, 4, 0, 0, 11, 8, 4, 100, 105, 99, 116, 2]⟩⟩ 0)]⟩ 9), ⟨[]⟩⟩
noncomputable def o3_0 (P : Params) : Obj := ⟨(.type "dict"), none, (.dict ⟨[en P s0 165 (.str s160 164), en P s2 166 .none, en P s3 167 .none, en P s4 168 (.builtin "__main__.__loader__#opaque"), en P s5 169 .none, en P s171 170 (.ref 6), en P s172 171 (.ref 4), en P s173 173 (.str s174 172), en P s175 174 .none, en P s161 275 (.ref 12)]⟩ 10), ⟨[]⟩⟩
noncomputable def o4_0 (P : Params) : Obj := ⟨(.type "module"), (some 0), .plain, ⟨[]⟩⟩
noncomputable def o5_0 (P : Params) : Obj := ⟨(.type "module"), (some 3), .plain, ⟨[]⟩⟩
noncomputable def o6_0 (P : Params) : Obj := ⟨(.type "dict"), none, (.dict ⟨[]⟩ 0), ⟨[]⟩⟩
noncomputable def o7_0 (P : Params) : Obj := ⟨(.type "tuple"), none, (.seq ⟨[]⟩ 0), ⟨[]⟩⟩
noncomputable def o8_0 (P : Params) : Obj := ⟨.none, none, (.fields ⟨[]⟩), ⟨[]⟩⟩
noncomputable def o9_0 (P : Params) : Obj := ⟨(.type "code"), none, (.fields ⟨[(.str s176 176), (.str s176 177), (.str s174 178), (.int 1 0), (.int 0 0), (.int 0 0), (.int 0 0), (.int 0 0), (.ref 7), (.bool false), (.int 175 0), (.ref 8), .none, .none, .none, .none, (.int 179 0), (.int 1 0), (.str s174 180)]⟩), ⟨[]⟩⟩
noncomputable def o10_0 (P : Params) : Obj := ⟨(.type "frame"), none, .plain, ⟨[some (.ref 9), some (.ref 3), some (.ref 3), none, some (.str s160 164), none, some (.ref 0)]⟩⟩
noncomputable def o11_0 (P : Params) : Obj := ⟨(.type "dict"), none, (.dict ⟨[en P s0 247 (.str s161 246), en P s2 248 .none, en P s3 250 (.str s177 249), en P s4 251 (.builtin "off-the-table:_sre.__loader__:shared#opaque"), en P s5 252 (.builtin "off-the-table:_sre.__spec__:shared#opaque"), en P s16 253 (.builtin "_sre.compile"), en P s178 254 (.builtin "off-the-table:_sre.template:shared#opaque"), en P s179 255 (.builtin "off-the-table:_sre.getcodesize:shared#opaque"), en P s180 256 (.builtin "off-the-table:_sre.ascii_iscased:shared#opaque"), en P s181 257 (.builtin "off-the-table:_sre.unicode_iscased:shared#opaque"), en P s182 258 (.builtin "off-the-table:_sre.ascii_tolower:shared#opaque"), en P s183 259 (.builtin "off-the-table:_sre.unicode_tolower:shared#opaque"), en P s184 261 (.int 20230612 260), en P s185 263 (.int 4 262), en P s186 265 (.int 4294967295 264), en P s187 267 (.int 1073741823 266), en P s156 269 (.str s188 268)]⟩ 17), ⟨[]⟩⟩
noncomputable def o12_0 (P : Params) : Obj := ⟨(.type "module"), (some 11), .plain, ⟨[]⟩⟩
noncomputable def o13_0 (P : Params) : Obj := ⟨(.type "dict"), none, (.dict ⟨[en P s189 189 (.str s190 186), en P s191 190 (.int 971 187), en P s2 191 (.builtin "_frozen_importlib.BuiltinImporter.__doc__:str#opaque"), en P s192 192 (.str s193 188), en P s194 193 (.builtin "_frozen_importlib.BuiltinImporter.find_spec#opaque"), en P s195 194 (.builtin "_frozen_importlib.BuiltinImporter.create_module#opaque"), en P s196 195 (.builtin "_frozen_importlib.BuiltinImporter.exec_module#opaque"), en P s197 196 (.builtin "_frozen_importlib.BuiltinImporter.get_code#opaque"), en P s198 197 (.builtin "_frozen_importlib.BuiltinImporter.get_source#opaque"), en P s199 198 (.builtin "_frozen_importlib.BuiltinImporter.is_package#opaque"), en P s200 199 (.builtin "_frozen_importlib.BuiltinImporter.load_module#opaque"), en P s201 200 (.ref 15), en P s202 202 (.ref 16), en P s203 204 (.ref 17)]⟩ 14), ⟨[]⟩⟩
noncomputable def o14_0 (P : Params) : Obj := ⟨(.type "type"), none, (.cls ⟨s204, [(.type "object")], [(.ref 14), (.type "object")], 13, s204, true, [], [], false, none, false⟩), ⟨[]⟩⟩
noncomputable def o15_0 (P : Params) : Obj := ⟨(.type "tuple"), none, (.seq ⟨[]⟩ 0), ⟨[]⟩⟩
noncomputable def o16_0 (P : Params) : Obj := ⟨(.type "getset_descriptor"), none, (.fields ⟨[(.str s202 201), (.ref 14), (.builtin "function.__dict__"), (.builtin "function.__dict__#set")]⟩), ⟨[]⟩⟩
noncomputable def o17_0 (P : Params) : Obj := ⟨(.type "getset_descriptor"), none, (.fields ⟨[(.str s203 203), (.ref 14), (.builtin "ExceptionGroup.__weakref__"), .none]⟩), ⟨[]⟩⟩
noncomputable def o18_0 (P : Params) : Obj := ⟨.none, none, (.seq ⟨[(.int 13 0), (.str ⟨⟨[6, 189, 10, 95, 95, 109, 111, 100, 117, 108, 101, 95, 95, 6, 186, 17, 95, 102, 114, 111, 122, 101, 110, 95, 105, 109, 112, 111, 114, 116, 108, 105, 98, 6, 190, 15, 95, 95, 102, 105, 114, 115, 116, 108, 105, 110, 101, 110, 111, 95, 95, 4, 187, 0, 971, 6, 191, 7, 95, 95, 100, 111, 99, 95, 95, 9, 52, 95, 102, 114, 111, 122, 101, 110, 95, 105, 109, 112, 111, 114, 116, 108, 105, 98, 46, 66, 117, 105, 108, 116, 105, 110, 73, 109, 112, 111, 114, 116, 101, 114, 46, 95, 95, 100, 111, 99, 95, 95, 58, 115, 116, 114, 35, 111, 112, 97, 113, 117, 101, 6, 192, 7, 95, 79, 82, 73, 71, 73, 78, 6, 188, 8, 98, 117, 105, 108, 116, 45, 105, 110, 6, 193, 9, 102, 105, 110, 100, 95, 115, 112, 101, 99, 9, 50, 95, 102, 114, 111, 122, 101, 110, 95, 105, 109, 112, 111, 114, 116, 108, 105, 98, 46, 66, 117, 105, 108, 116, 105, 110, 73, 109, 112, 111, 114, 116, 101, 114, 46, 102, 105, 110, 100, 95, 115, 112, 101, 99, 35, 111, 112, 97, 113, 117, 101, 6, 194, 13, 99, 114, 101, 97, 116, 101, 95, 109, 111, 100, 117, 108, 101, 9, 54, 95, 102, 114, 111, 122, 101, 110, 95, 105, 109, 112, 111, 114, 116, 108, 105, 98, 46, 66, 117, 105, 108, 116, 105, 110, 73, 109, 112, 111, 114, 116, 101, 114, 46, 99, 114, 101, 97, 116, 101, 95, 109, 111, 100, 117, 108, 101, 35, 111, 112, 97, 113, 117, 101, 6, 195, 11, 101, 120, 101, 99, 95, 109, 111, 100, 117, 108, 101, 9, 52, 95, 102, 114, 111, 122, 101, 110, 95, 105, 109, 112, 111, 114, 116, 108, 105, 98, 46, 66, 117, 105, 108, 116, 105, 110, 73, 109, 112, 111, 114, 116, 101, 114, 46, 101, 120, 101, 99, 95, 109, 111, 100, 117, 108, 101, 35, 111, 112, 97, 113, 117, 101, 6, 196, 8, 103, 101, 116, 95, 99, 111, 100, 101, 9, 49, 95, 102, 114, 111, 122, 101, 110, 95, 105, 109, 112, 111, 114, 116, 108, 105, 98, 46, 66, 117, 105, 108, 116, 105, 110, 73, 109, 112, 111, 114, 116, 101, 114, 46, 103, 101, 116, 95, 99, 111, 100, 101, 35, 111, 112, 97, 113, 117, 101, 6, 197, 10, 103, 101, 116, 95, 115, 111, 117, 114, 99, 101, 9, 51, 95, 102, 114, 111, 122, 101, 110, 95, 105, 109, 112, 111, 114, 116, 108, 105, 98, 46, 66, 117, 105, 108, 116, 105, 110, 73, 109, 112, 111, 114, 116, 101, 114, 46, 103, 101, 116, 95, 115, 111, 117, 114, 99, 101, 35, 111, 112, 97, 113, 117, 101, 6, 198, 10, 105, 115, 95, 112, 97, 99, 107, 97, 103, 101, 9, 51, 95, 102, 114, 111, 122, 101, 110, 95, 105, 109, 112, 111, 114, 116, 108, 105, 98, 46, 66, 117, 105, 108, 116, 105, 110, 73, 109, 112, 111, 114, 116, 101, 114, 46, 105, 115, 95, 112, 97, 99, 107, 97, 103, 101, 35, 111, 112, 97, 113, 117, 101, 6, 199, 11, 108, 111, 97, 100, 95, 109, 111, 100, 117, 108, 101, 9, 52, 95, 102, 114, 111, 122, 101, 110, 95, 105, 109, 112, 111, 114, 116, 108, 105, 98, 46, 66, 117, 105, 108, 116, 105, 110, 73, 109, 112, 111, 114, 116, 101, 114, 46, 108, 111, 97, 100, 95, 109, 111, 100, 117, 108, 101, 35, 111, 112, 97, 113, 117, 101, 6, 200, 21, 95, 95, 115, 116, 97, 116, 105, 99, 95, 97, 116, 116, 114, 105, 98, 117, 116, 101, 115, 95, 95, 4, 0, 0, 15, 6, 202, 8, 95, 95, 100, 105, 99, 116, 95, 95, 4, 0, 0, 16, 6, 204, 11, 95, 95, 119, 101, 97, 107, 114, 101, 102, 95, 95, 4, 0, 0, 17]⟩⟩ 0), (.bool true), (.bool true), (.str s177 205), (.int 21 0), (.str ⟨⟨[6, 227, 10, 95, 95, 109, 111, 100, 117, 108, 101, 95, 95, 6, 217, 17, 95, 102, 114, 111, 122, 101, 110, 95, 105, 109, 112, 111, 114, 116, 108, 105, 98, 6, 228, 15, 95, 95, 102, 105, 114, 115, 116, 108, 105, 110, 101, 110, 111, 95, 95, 4, 218, 0, 562, 6, 229, 7, 95, 95, 100, 111, 99, 95, 95, 9, 47, 95, 102, 114, 111, 122, 101, 110, 95, 105, 109, 112, 111, 114, 116, 108, 105, 98, 46, 77, 111, 100, 117, 108, 101, 83, 112, 101, 99, 46, 95, 95, 100, 111, 99, 95, 95, 58, 115, 116, 114, 35, 111, 112, 97, 113, 117, 101, 6, 230, 8, 95, 95, 105, 110, 105, 116, 95, 95, 9, 44, 95, 102, 114, 111, 122, 101, 110, 95, 105, 109, 112, 111, 114, 116, 108, 105, 98, 46, 77, 111, 100, 117, 108, 101, 83, 112, 101, 99, 46, 95, 95, 105, 110, 105, 116, 95, 95, 35, 111, 112, 97, 113, 117, 101, 6, 231, 8, 95, 95, 114, 101, 112, 114, 95, 95, 9, 44, 95, 102, 114, 111, 122, 101, 110, 95, 105, 109, 112, 111, 114, 116, 108, 105, 98, 46, 77, 111, 100, 117, 108, 101, 83, 112, 101, 99, 46, 95, 95, 114, 101, 112, 114, 95, 95, 35, 111, 112, 97, 113, 117, 101, 6, 232, 6, 95, 95, 101, 113, 95, 95, 9, 42, 95, 102, 114, 111, 122, 101, 110, 95, 105, 109, 112, 111, 114, 116, 108, 105, 98, 46, 77, 111, 100, 117, 108, 101, 83, 112, 101, 99, 46, 95, 95, 101, 113, 95, 95, 35, 111, 112, 97, 113, 117, 101, 6, 233, 6, 99, 97, 99, 104, 101, 100, 9, 42, 95, 102, 114, 111, 122, 101, 110, 95, 105, 109, 112, 111, 114, 116, 108, 105, 98, 46, 77, 111, 100, 117, 108, 101, 83, 112, 101, 99, 46, 99, 97, 99, 104, 101, 100, 35, 111, 112, 97, 113, 117, 101, 6, 234, 6, 112, 97, 114, 101, 110, 116, 9, 42, 95, 102, 114, 111, 122, 101, 110, 95, 105, 109, 112, 111, 114, 116, 108, 105, 98, 46, 77, 111, 100, 117, 108, 101, 83, 112, 101, 99, 46, 112, 97, 114, 101, 110, 116, 35, 111, 112, 97, 113, 117, 101, 6, 235, 12, 104, 97, 115, 95, 108, 111, 99, 97, 116, 105, 111, 110, 9, 48, 95, 102, 114, 111, 122, 101, 110, 95, 105, 109, 112, 111, 114, 116, 108, 105, 98, 46, 77, 111, 100, 117, 108, 101, 83, 112, 101, 99, 46, 104, 97, 115, 95, 108, 111, 99, 97, 116, 105, 111, 110, 35, 111, 112, 97, 113, 117, 101, 6, 236, 21, 95, 95, 115, 116, 97, 116, 105, 99, 95, 97, 116, 116, 114, 105, 98, 117, 116, 101, 115, 95, 95, 4, 0, 0, 23, 6, 238, 8, 95, 95, 100, 105, 99, 116, 95, 95, 4, 0, 0, 24, 6, 240, 11, 95, 95, 119, 101, 97, 107, 114, 101, 102, 95, 95, 4, 0, 0, 25, 6, 241, 8, 95, 95, 104, 97, 115, 104, 95, 95, 0]⟩⟩ 0), (.bool true), (.bool true), (.str s177 242)]⟩ 1), ⟨[]⟩⟩
noncomputable def o19_0 (P : Params) : Obj := ⟨(.type "list"), none, (.seq ⟨[]⟩ 0), ⟨[]⟩⟩
noncomputable def o20_0 (P : Params) : Obj := ⟨(.type "dict"), none, (.dict ⟨[en P s205 208 (.str s161 207), en P s206 209 (.ref 14), en P s207 210 (.str s193 184), en P s208 211 .none, en P s209 212 .none, en P s210 213 (.ref 19), en P s211 214 (.bool false), en P s212 215 .none, en P s213 243 (.bool false)]⟩ 9), ⟨[]⟩⟩
noncomputable def o21_0 (P : Params) : Obj := ⟨(.type "dict"), none, (.dict ⟨[en P s189 227 (.str s190 217), en P s191 228 (.int 562 218), en P s2 229 (.builtin "_frozen_importlib.ModuleSpec.__doc__:str#opaque"), en P s214 230 (.builtin "_frozen_importlib.ModuleSpec.__init__#opaque"), en P s215 231 (.builtin "_frozen_importlib.ModuleSpec.__repr__#opaque"), en P s216 232 (.builtin "_frozen_importlib.ModuleSpec.__eq__#opaque"), en P s217 233 (.builtin "_frozen_importlib.ModuleSpec.cached#opaque"), en P s218 234 (.builtin "_frozen_importlib.ModuleSpec.parent#opaque"), en P s219 235 (.builtin "_frozen_importlib.ModuleSpec.has_location#opaque"), en P s201 236 (.ref 23), en P s202 238 (.ref 24), en P s203 240 (.ref 25), en P s220 241 .none]⟩ 13), ⟨[]⟩⟩
noncomputable def o22_0 (P : Params) : Obj := ⟨(.type "type"), none, (.cls ⟨s221, [(.type "object")], [(.ref 22), (.type "object")], 21, s221, true, [], [], false, none, false⟩), ⟨[]⟩⟩
noncomputable def o23_0 (P : Params) : Obj := ⟨(.type "tuple"), none, (.seq ⟨[(.str s212 219), (.str s211 220), (.str s210 221), (.str s206 222), (.str s208 223), (.str s205 224), (.str s207 225), (.str s209 226)]⟩ 0), ⟨[]⟩⟩
noncomputable def o24_0 (P : Params) : Obj := ⟨(.type "getset_descriptor"), none, (.fields ⟨[(.str s202 237), (.ref 22), (.builtin "function.__dict__"), (.builtin "function.__dict__#set")]⟩), ⟨[]⟩⟩
noncomputable def o25_0 (P : Params) : Obj := ⟨(.type "getset_descriptor"), none, (.fields ⟨[(.str s203 239), (.ref 22), (.builtin "ExceptionGroup.__weakref__"), .none]⟩), ⟨[]⟩⟩
noncomputable def o26_0 (P : Params) : Obj := ⟨(.ref 22), (some 20), .plain, ⟨[]⟩⟩
noncomputable def o27_0 (P : Params) : Obj := ⟨.none, none, (.seq ⟨[(.int 11 0), (.str ⟨⟨[6, 247, 8, 95, 95, 110, 97, 109, 101, 95, 95, 6, 246, 4, 95, 115, 114, 101, 6, 248, 7, 95, 95, 100, 111, 99, 95, 95, 0, 6, 250, 11, 95, 95, 112, 97, 99, 107, 97, 103, 101, 95, 95, 6, 249, 0, 6, 251, 10, 95, 95, 108, 111, 97, 100, 101, 114, 95, 95, 4, 0, 0, 14, 6, 252, 8, 95, 95, 115, 112, 101, 99, 95, 95, 4, 0, 0, 26, 6, 253, 7, 99, 111, 109, 112, 105, 108, 101, 9, 12, 95, 115, 114, 101, 46, 99, 111, 109, 112, 105, 108, 101, 6, 254, 8, 116, 101, 109, 112, 108, 97, 116, 101, 9, 13, 95, 115, 114, 101, 46, 116, 101, 109, 112, 108, 97, 116, 101, 6, 255, 11, 103, 101, 116, 99, 111, 100, 101, 115, 105, 122, 101, 9, 16, 95, 115, 114, 101, 46, 103, 101, 116, 99, 111, 100, 101, 115, 105, 122, 101, 6, 256, 13, 97, 115, 99, 105, 105, 95, 105, 115, 99, 97, 115, 101, 100, 9, 18, 95, 115, 114, 101, 46, 97, 115, 99, 105, 105, 95, 105, 115, 99, 97, 115, 101, 100, 6, 257, 15, 117, 110, 105, 99, 111, 100, 101, 95, 105, 115, 99, 97, 115, 101, 100, 9, 20, 95, 115, 114, 101, 46, 117, 110, 105, 99, 111, 100, 101, 95, 105, 115, 99, 97, 115, 101, 100, 6, 258, 13, 97, 115, 99, 105, 105, 95, 116, 111, 108, 111, 119, 101, 114, 9, 18, 95, 115, 114, 101, 46, 97, 115, 99, 105, 105, 95, 116, 111, 108, 111, 119, 101, 114, 6, 259, 15, 117, 110, 105, 99, 111, 100, 101, 95, 116, 111, 108, 111, 119, 101, 114, 9, 20, 95, 115, 114, 101, 46, 117, 110, 105, 99, 111, 100, 101, 95, 116, 111, 108, 111, 119, 101, 114, 6, 261, 5, 77, 65, 71, 73, 67, 4, 260, 0, 20230612, 6, 263, 8, 67, 79, 68, 69, 83, 73, 90, 69, 4, 262, 0, 4, 6, 265, 9, 77, 65, 88, 82, 69, 80, 69, 65, 84, 4, 264, 0, 4294967295, 6, 267, 9, 77, 65, 88, 71, 82, 79, 85, 80, 83, 4, 266, 0, 1073741823, 6, 269, 9, 99, 111, 112, 121, 114, 105, 103, 104, 116, 6, 268, 53, 32, 83, 82, 69, 32, 50, 46, 50, 46, 50, 32, 67, 111, 112, 121, 114, 105, 103, 104, 116, 32, 40, 99, 41, 32, 49, 57, 57, 55, 45, 50, 48, 48, 50, 32, 98, 121, 32, 83, 101, 99, 114, 101, 116, 32, 76, 97, 98, 115, 32, 65, 66, 32]⟩⟩ 0), (.bool true), (.bool false), (.str s161 271)]⟩ 0), ⟨[]⟩⟩
noncomputable def o28_0 (P : Params) : Obj := ⟨(.type "tuple"), none, (.seq ⟨[]⟩ 0), ⟨[]⟩⟩
noncomputable def o29_0 (P : Params) : Obj := ⟨.none, none, (.fields ⟨[]⟩), ⟨[]⟩⟩
noncomputable def o30_0 (P : Params) : Obj := ⟨(.type "code"), none, (.fields ⟨[(.str s176 277), (.str s176 278), (.str s174 279), (.int 1 0), (.int 0 0), (.int 0 0), (.int 0 0), (.int 0 0), (.ref 28), (.bool false), (.int 276 0), (.ref 29), .none, .none, .none, .none, (.int 280 0), (.int 1 0), (.str s174 281)]⟩), ⟨[]⟩⟩
noncomputable def o31_0 (P : Params) : Obj := ⟨(.type "frame"), none, .plain, ⟨[some (.ref 30), some (.ref 3), some (.ref 3), none, some (.str s160 164), none, some (.ref 0)]⟩⟩
noncomputable def o3_1 (P : Params) : Obj := ⟨(.type "dict"), none, (.dict ⟨[en P s0 165 (.str s222 320), en P s2 166 .none, en P s3 167 .none, en P s4 168 (.builtin "__main__.__loader__#opaque"), en P s5 169 .none, en P s171 170 (.ref 6), en P s172 171 (.ref 4), en P s173 173 (.str s174 172), en P s175 174 .none, en P s161 275 (.ref 12), en P s223 319 (.ref 36)]⟩ 11), ⟨[]⟩⟩
noncomputable def o32_0 (P : Params) : Obj := ⟨(.type "list"), none, (.seq ⟨[(.int 14 285), (.int 14 286), (.int 4 287), (.int 1 288), (.int 1 289), (.int 9 290), (.int 0 291), (.int 64 292), (.int 0 293), (.int 1342177280 294), (.int 0 295), (.int 0 296), (.int 0 297), (.int 0 298), (.int 0 299), (.int 17 300), (.int 0 301), (.int 13 302), (.int 11 303), (.int 9 304), (.int 0 305), (.int 64 306), (.int 0 307), (.int 1342177280 308), (.int 0 309), (.int 0 310), (.int 0 311), (.int 0 312), (.int 0 313), (.int 17 314), (.int 1 315), (.int 1 316)]⟩ 0), ⟨[]⟩⟩
noncomputable def o33_0 (P : Params) : Obj := ⟨(.type "dict"), none, (.dict ⟨[]⟩ 0), ⟨[]⟩⟩
noncomputable def o34_0 (P : Params) : Obj := ⟨(.type "tuple"), none, (.seq ⟨[.none, .none]⟩ 0), ⟨[]⟩⟩
noncomputable def o35_0 (P : Params) : Obj := ⟨(.type "tuple"), none, (.seq ⟨[(.int 14 0), (.int 14 0), (.int 4 0), (.int 1 0), (.int 1 0), (.int 9 0), (.int 0 0), (.int 64 0), (.int 0 0), (.int 1342177280 0), (.int 0 0), (.int 0 0), (.int 0 0), (.int 0 0), (.int 0 0), (.int 17 0), (.int 0 0), (.int 13 0), (.int 11 0), (.int 9 0), (.int 0 0), (.int 64 0), (.int 0 0), (.int 1342177280 0), (.int 0 0), (.int 0 0), (.int 0 0), (.int 0 0), (.int 0 0), (.int 17 0), (.int 1 0), (.int 1 0)]⟩ 0), ⟨[]⟩⟩
noncomputable def o36_0 (P : Params) : Obj := ⟨(.type "re.Pattern"), none, (.fields ⟨[(.str s224 283), (.int 32 318), (.int 1 0), .none, .none, (.ref 35), (.int 0 0)]⟩), ⟨[]⟩⟩
noncomputable def o3_2 (P : Params) : Obj := ⟨(.type "dict"), none, (.dict ⟨[en P s0 165 (.str s222 320), en P s2 166 .none, en P s3 167 .none, en P s4 168 (.builtin "__main__.__loader__#opaque"), en P s5 169 .none, en P s171 170 (.ref 6), en P s172 171 (.ref 4), en P s173 173 (.str s174 172), en P s175 174 .none, en P s161 275 (.ref 12), en P s223 319 (.ref 36), en P s225 467 (.ref 38)]⟩ 12), ⟨[]⟩⟩
noncomputable def o37_0 (P : Params) : Obj := ⟨(.type "bytes_iterator"), none, (.fields ⟨[.none, (.int 24 0)]⟩), ⟨[]⟩⟩
noncomputable def o38_0 (P : Params) : Obj := ⟨(.type "dict"), none, (.dict ⟨[⟨40, (.int 40 323), (.str s226 327)⟩, ⟨41, (.int 41 329), (.str s227 333)⟩, ⟨91, (.int 91 335), (.str s228 339)⟩, ⟨93, (.int 93 341), (.str s229 345)⟩, ⟨123, (.int 123 347), (.str s230 351)⟩, ⟨125, (.int 125 353), (.str s231 357)⟩, ⟨63, (.int 63 359), (.str s232 363)⟩, ⟨42, (.int 42 365), (.str s233 369)⟩, ⟨43, (.int 43 371), (.str s234 375)⟩, ⟨45, (.int 45 377), (.str s235 381)⟩, ⟨124, (.int 124 383), (.str s236 387)⟩, ⟨94, (.int 94 389), (.str s237 393)⟩, ⟨36, (.int 36 395), (.str s238 399)⟩, ⟨92, (.int 92 401), (.str s239 405)⟩, ⟨46, (.int 46 407), (.str s240 411)⟩, ⟨38, (.int 38 413), (.str s241 417)⟩, ⟨126, (.int 126 419), (.str s242 423)⟩, ⟨35, (.int 35 425), (.str s243 429)⟩, ⟨32, (.int 32 431), (.str s244 435)⟩, ⟨9, (.int 9 437), (.str ⟨⟨[92, 9]⟩⟩ 441)⟩, ⟨10, (.int 10 443), (.str ⟨⟨[92, 10]⟩⟩ 447)⟩, ⟨13, (.int 13 449), (.str ⟨⟨[92, 13]⟩⟩ 453)⟩, ⟨11, (.int 11 455), (.str ⟨⟨[92, 11]⟩⟩ 459)⟩, ⟨12, (.int 12 461), (.str ⟨⟨[92, 12]⟩⟩ 465)⟩]⟩ 24), ⟨[]⟩⟩
noncomputable def o39_0 (P : Params) : Obj := ⟨(.type "dict"), none, (.dict ⟨[]⟩ 2), ⟨[]⟩⟩
noncomputable def o40_0 (P : Params) : Obj := ⟨(.type "tuple"), none, (.seq ⟨[]⟩ 0), ⟨[]⟩⟩
noncomputable def o41_0 (P : Params) : Obj := ⟨(.type "StopIteration"), none, (.fields ⟨[(.ref 40), .none, .none, .none, (.bool false), .none]⟩), ⟨[]⟩⟩
noncomputable def o3_3 (P : Params) : Obj := ⟨(.type "dict"), none, (.dict ⟨[en P s0 165 (.str s245 496), en P s2 166 .none, en P s3 167 .none, en P s4 168 (.builtin "__main__.__loader__#opaque"), en P s5 169 .none, en P s171 170 (.ref 6), en P s172 171 (.ref 4), en P s173 173 (.str s174 172), en P s175 174 .none, en P s161 275 (.ref 12), en P s223 319 (.ref 36), en P s225 467 (.ref 38), en P s246 474 (.ref 48), en P s247 495 (.ref 55)]⟩ 14), ⟨[]⟩⟩
noncomputable def o29_1 (P : Params) : Obj := ⟨.none, none, (.fields ⟨[(.int 5 0), (.int 0 0), (.ref 47), (.int 12 0), (.int 0 0), (.ref 54)]⟩), ⟨[]⟩⟩
noncomputable def o42_0 (P : Params) : Obj := ⟨(.type "tuple"), none, (.seq ⟨[]⟩ 0), ⟨[]⟩⟩
noncomputable def o43_0 (P : Params) : Obj := ⟨.none, none, (.fields ⟨[]⟩), ⟨[]⟩⟩
noncomputable def o44_0 (P : Params) : Obj := ⟨(.type "tuple"), none, (.seq ⟨[(.str s248 471)]⟩ 0), ⟨[]⟩⟩
noncomputable def o45_0 (P : Params) : Obj := ⟨(.type "tuple"), none, (.seq ⟨[]⟩ 0), ⟨[]⟩⟩
noncomputable def o46_0 (P : Params) : Obj := ⟨.none, none, (.func (fdOf 4 0 .none .none)), ⟨[]⟩⟩
noncomputable def o47_0 (P : Params) : Obj := ⟨(.type "code"), none, (.fields ⟨[(.str s246 468), (.str s246 469), (.str s174 470), (.int 5 0), (.int 1 0), (.int 0 0), (.int 0 0), (.int 3 0), (.ref 42), (.bool true), (.int 276 0), (.ref 43), .none, (.ref 44), (.ref 45), (.ref 46), (.int 472 0), (.int 5 0), (.str s174 473)]⟩), ⟨[]⟩⟩
noncomputable def o48_0 (P : Params) : Obj := ⟨(.type "function"), none, (.func (fdOf 4 3 (.str s222 320) (.ref 47))), ⟨[]⟩⟩
noncomputable def o49_0 (P : Params) : Obj := ⟨(.type "tuple"), none, (.seq ⟨[]⟩ 0), ⟨[]⟩⟩
noncomputable def o50_0 (P : Params) : Obj := ⟨.none, none, (.fields ⟨[]⟩), ⟨[]⟩⟩
noncomputable def o51_0 (P : Params) : Obj := ⟨(.type "tuple"), none, (.seq ⟨[(.str s249 480), (.str s250 481), (.str s251 482), (.str s252 483), (.str s253 484), (.str s254 485), (.str s255 486), (.str s256 487), (.str s257 488), (.str s258 489), (.str s259 490), (.str s260 491), (.str s261 492)]⟩ 0), ⟨[]⟩⟩
noncomputable def o52_0 (P : Params) : Obj := ⟨(.type "tuple"), none, (.seq ⟨[]⟩ 0), ⟨[]⟩⟩
noncomputable def o53_0 (P : Params) : Obj := ⟨.none, none, (.func (fdOf 6 0 .none .none)), ⟨[]⟩⟩
noncomputable def o54_0 (P : Params) : Obj := ⟨(.type "code"), none, (.fields ⟨[(.str s247 477), (.str s247 478), (.str s174 479), (.int 12 0), (.int 3 0), (.int 0 0), (.int 0 0), (.int 3 0), (.ref 49), (.bool true), (.int 276 0), (.ref 50), .none, (.ref 51), (.ref 52), (.ref 53), (.int 493 0), (.int 12 0), (.str s174 494)]⟩), ⟨[]⟩⟩
noncomputable def o55_0 (P : Params) : Obj := ⟨(.type "function"), none, (.func (fdOf 6 3 (.str s262 475) (.ref 54))), ⟨[]⟩⟩
noncomputable def o3_4 (P : Params) : Obj := ⟨(.type "dict"), none, (.dict ⟨[en P s0 165 (.str s245 496), en P s2 166 .none, en P s3 167 .none, en P s4 168 (.builtin "__main__.__loader__#opaque"), en P s5 169 .none, en P s171 170 (.ref 6), en P s172 171 (.ref 4), en P s173 173 (.str s174 172), en P s175 174 .none, en P s161 275 (.ref 12), en P s223 319 (.ref 36), en P s225 467 (.ref 38), en P s246 474 (.ref 48), en P s247 495 (.ref 55), en P s263 557 (.ref 63)]⟩ 15), ⟨[]⟩⟩
noncomputable def o56_0 (P : Params) : Obj := ⟨(.type "list"), none, (.seq ⟨[(.int 173 498), (.int 847 499), (.int 6150 500), (.int 6155 501), (.int 6156 502), (.int 6157 503), (.int 8203 504), (.int 8204 505), (.int 8205 506), (.int 8288 507), (.int 65279 508)]⟩ 0), ⟨[]⟩⟩
noncomputable def o57_0 (P : Params) : Obj := ⟨(.type "range"), none, (.fields ⟨[(.int 65024 509), (.int 65040 510), (.int 1 511)]⟩), ⟨[]⟩⟩
noncomputable def o58_0 (P : Params) : Obj := ⟨(.type "list"), none, (.seq ⟨[(.int 65024 514), (.int 65025 515), (.int 65026 516), (.int 65027 517), (.int 65028 518), (.int 65029 519), (.int 65030 520), (.int 65031 521), (.int 65032 522), (.int 65033 523), (.int 65034 524), (.int 65035 525), (.int 65036 526), (.int 65037 527), (.int 65038 528), (.int 65039 529)]⟩ 18), ⟨[]⟩⟩
noncomputable def o59_0 (P : Params) : Obj := ⟨(.type "range_iterator"), none, (.fields ⟨[(.int 65040 0), (.int 0 0), (.int 1 0)]⟩), ⟨[]⟩⟩
noncomputable def o60_0 (P : Params) : Obj := ⟨(.type "tuple"), none, (.seq ⟨[]⟩ 0), ⟨[]⟩⟩
noncomputable def o61_0 (P : Params) : Obj := ⟨(.type "StopIteration"), none, (.fields ⟨[(.ref 60), .none, .none, .none, (.bool false), .none]⟩), ⟨[]⟩⟩
noncomputable def o62_0 (P : Params) : Obj := ⟨(.type "list"), none, (.seq ⟨[(.int 173 498), (.int 847 499), (.int 6150 500), (.int 6155 501), (.int 6156 502), (.int 6157 503), (.int 8203 504), (.int 8204 505), (.int 8205 506), (.int 8288 507), (.int 65279 508), (.int 65024 514), (.int 65025 515), (.int 65026 516), (.int 65027 517), (.int 65028 518), (.int 65029 519), (.int 65030 520), (.int 65031 521), (.int 65032 522), (.int 65033 523), (.int 65034 524), (.int 65035 525), (.int 65036 526), (.int 65037 527), (.int 65038 528), (.int 65039 529)]⟩ 0), ⟨[]⟩⟩
noncomputable def o63_0 (P : Params) : Obj := ⟨(.type "set"), none, (.set ⟨[(65024, (.int 65024 514)), (65025, (.int 65025 515)), (65026, (.int 65026 516)), (65027, (.int 65027 517)), (65028, (.int 65028 518)), (65029, (.int 65029 519)), (6150, (.int 6150 500)), (65030, (.int 65030 520)), (65031, (.int 65031 521)), (65032, (.int 65032 522)), (65033, (.int 65033 523)), (6155, (.int 6155 501)), (6156, (.int 6156 502)), (6157, (.int 6157 503)), (8203, (.int 8203 504)), (8204, (.int 8204 505)), (8205, (.int 8205 506)), (65034, (.int 65034 524)), (65035, (.int 65035 525)), (65036, (.int 65036 526)), (65037, (.int 65037 527)), (65038, (.int 65038 528)), (65039, (.int 65039 529)), (173, (.int 173 498)), (847, (.int 847 499)), (8288, (.int 8288 507)), (65279, (.int 65279 508))]⟩ 29 ⟨127, ⟨[0, 1, 2, 3, 4, 5, 6, 7, 8, 9, 10, 11, 12, 13, 14, 15, 16, 17, 18, 19, 20, 21, 22, 45, 79, 96, 127]⟩, ⟨[]⟩, 0, !P.followText "set-order", 2, true⟩), ⟨[]⟩⟩
noncomputable def o64_0 (P : Params) : Obj := ⟨(.type "list_iterator"), none, (.fields ⟨[.none, (.int 27 0)]⟩), ⟨[]⟩⟩
noncomputable def o65_0 (P : Params) : Obj := ⟨(.type "tuple"), none, (.seq ⟨[]⟩ 0), ⟨[]⟩⟩
noncomputable def o66_0 (P : Params) : Obj := ⟨(.type "StopIteration"), none, (.fields ⟨[(.ref 65), .none, .none, .none, (.bool false), .none]⟩), ⟨[]⟩⟩
noncomputable def o3_5 (P : Params) : Obj := ⟨(.type "dict"), none, (.dict ⟨[en P s0 165 (.str s245 496), en P s2 166 .none, en P s3 167 .none, en P s4 168 (.builtin "__main__.__loader__#opaque"), en P s5 169 .none, en P s171 170 (.ref 6), en P s172 171 (.ref 4), en P s173 173 (.str s174 172), en P s175 174 .none, en P s161 275 (.ref 12), en P s223 319 (.ref 36), en P s225 467 (.ref 38), en P s246 474 (.ref 48), en P s247 495 (.ref 55), en P s263 557 (.ref 63), en P s264 564 (.ref 73), en P s265 571 (.ref 80), en P s266 579 (.ref 87), en P s267 593 (.ref 89)]⟩ 19), ⟨[]⟩⟩
noncomputable def o29_2 (P : Params) : Obj := ⟨.none, none, (.fields ⟨[(.int 5 0), (.int 0 0), (.ref 47), (.int 12 0), (.int 0 0), (.ref 54), (.int 76 0), (.int 0 0), (.ref 72), (.int 78 0), (.int 0 0), (.ref 79), (.int 80 0), (.int 0 0), (.ref 86)]⟩), ⟨[]⟩⟩
noncomputable def o67_0 (P : Params) : Obj := ⟨(.type "tuple"), none, (.seq ⟨[]⟩ 0), ⟨[]⟩⟩
noncomputable def o68_0 (P : Params) : Obj := ⟨.none, none, (.fields ⟨[]⟩), ⟨[]⟩⟩
noncomputable def o69_0 (P : Params) : Obj := ⟨(.type "tuple"), none, (.seq ⟨[(.str s268 561)]⟩ 0), ⟨[]⟩⟩
noncomputable def o70_0 (P : Params) : Obj := ⟨(.type "tuple"), none, (.seq ⟨[]⟩ 0), ⟨[]⟩⟩
noncomputable def o71_0 (P : Params) : Obj := ⟨.none, none, (.func (fdOf 9 0 .none .none)), ⟨[]⟩⟩
noncomputable def o72_0 (P : Params) : Obj := ⟨(.type "code"), none, (.fields ⟨[(.str s264 558), (.str s264 559), (.str s174 560), (.int 76 0), (.int 1 0), (.int 0 0), (.int 0 0), (.int 3 0), (.ref 67), (.bool true), (.int 276 0), (.ref 68), .none, (.ref 69), (.ref 70), (.ref 71), (.int 562 0), (.int 76 0), (.str s174 563)]⟩), ⟨[]⟩⟩
noncomputable def o73_0 (P : Params) : Obj := ⟨(.type "function"), none, (.func (fdOf 9 3 (.str s245 496) (.ref 72))), ⟨[]⟩⟩
noncomputable def o74_0 (P : Params) : Obj := ⟨(.type "tuple"), none, (.seq ⟨[]⟩ 0), ⟨[]⟩⟩
noncomputable def o75_0 (P : Params) : Obj := ⟨.none, none, (.fields ⟨[]⟩), ⟨[]⟩⟩
noncomputable def o76_0 (P : Params) : Obj := ⟨(.type "tuple"), none, (.seq ⟨[(.str s268 568)]⟩ 0), ⟨[]⟩⟩
noncomputable def o77_0 (P : Params) : Obj := ⟨(.type "tuple"), none, (.seq ⟨[]⟩ 0), ⟨[]⟩⟩
noncomputable def o78_0 (P : Params) : Obj := ⟨.none, none, (.func (fdOf 10 0 .none .none)), ⟨[]⟩⟩
noncomputable def o79_0 (P : Params) : Obj := ⟨(.type "code"), none, (.fields ⟨[(.str s265 565), (.str s265 566), (.str s174 567), (.int 78 0), (.int 1 0), (.int 0 0), (.int 0 0), (.int 3 0), (.ref 74), (.bool true), (.int 276 0), (.ref 75), .none, (.ref 76), (.ref 77), (.ref 78), (.int 569 0), (.int 78 0), (.str s174 570)]⟩), ⟨[]⟩⟩
noncomputable def o80_0 (P : Params) : Obj := ⟨(.type "function"), none, (.func (fdOf 10 3 (.str s245 496) (.ref 79))), ⟨[]⟩⟩
noncomputable def o81_0 (P : Params) : Obj := ⟨(.type "tuple"), none, (.seq ⟨[]⟩ 0), ⟨[]⟩⟩
noncomputable def o82_0 (P : Params) : Obj := ⟨.none, none, (.fields ⟨[]⟩), ⟨[]⟩⟩
noncomputable def o83_0 (P : Params) : Obj := ⟨(.type "tuple"), none, (.seq ⟨[(.str s268 575), (.str s256 576)]⟩ 0), ⟨[]⟩⟩
noncomputable def o84_0 (P : Params) : Obj := ⟨(.type "tuple"), none, (.seq ⟨[]⟩ 0), ⟨[]⟩⟩
noncomputable def o85_0 (P : Params) : Obj := ⟨.none, none, (.func (fdOf 11 0 .none .none)), ⟨[]⟩⟩
noncomputable def o86_0 (P : Params) : Obj := ⟨(.type "code"), none, (.fields ⟨[(.str s266 572), (.str s266 573), (.str s174 574), (.int 80 0), (.int 1 0), (.int 0 0), (.int 0 0), (.int 3 0), (.ref 81), (.bool true), (.int 276 0), (.ref 82), .none, (.ref 83), (.ref 84), (.ref 85), (.int 577 0), (.int 80 0), (.str s174 578)]⟩), ⟨[]⟩⟩
noncomputable def o87_0 (P : Params) : Obj := ⟨(.type "function"), none, (.func (fdOf 11 3 (.str s245 496) (.ref 86))), ⟨[]⟩⟩
noncomputable def o88_0 (P : Params) : Obj := ⟨(.type "range"), none, (.fields ⟨[(.int 65529 580), (.int 65534 581), (.int 1 582)]⟩), ⟨[]⟩⟩
noncomputable def o89_0 (P : Params) : Obj := ⟨(.type "set"), none, (.set ⟨[(65529, (.int 65529 583)), (65530, (.int 65530 585)), (65531, (.int 65531 587)), (65532, (.int 65532 589)), (65533, (.int 65533 591))]⟩ 6 ⟨31, ⟨[25, 26, 27, 28, 29]⟩, ⟨[]⟩, 0, !P.followText "set-order", 1, true⟩), ⟨[]⟩⟩
noncomputable def o90_0 (P : Params) : Obj := ⟨(.type "range_iterator"), none, (.fields ⟨[(.int 65534 0), (.int 0 0), (.int 1 0)]⟩), ⟨[]⟩⟩
noncomputable def o91_0 (P : Params) : Obj := ⟨(.type "tuple"), none, (.seq ⟨[]⟩ 0), ⟨[]⟩⟩
noncomputable def o92_0 (P : Params) : Obj := ⟨(.type "StopIteration"), none, (.fields ⟨[(.ref 91), .none, .none, .none, (.bool false), .none]⟩), ⟨[]⟩⟩
noncomputable def o3_6 (P : Params) : Obj := ⟨(.type "dict"), none, (.dict ⟨[en P s0 165 (.str s245 496), en P s2 166 .none, en P s3 167 .none, en P s4 168 (.builtin "__main__.__loader__#opaque"), en P s5 169 .none, en P s171 170 (.ref 6), en P s172 171 (.ref 4), en P s173 173 (.str s174 172), en P s175 174 .none, en P s161 275 (.ref 12), en P s223 319 (.ref 36), en P s225 467 (.ref 38), en P s246 474 (.ref 48), en P s247 495 (.ref 55), en P s263 557 (.ref 63), en P s264 564 (.ref 73), en P s265 571 (.ref 80), en P s266 579 (.ref 87), en P s267 593 (.ref 89), en P s269 600 (.ref 99), en P s270 628 (.ref 101)]⟩ 21), ⟨[]⟩⟩
noncomputable def o29_3 (P : Params) : Obj := ⟨.none, none, (.fields ⟨[(.int 5 0), (.int 0 0), (.ref 47), (.int 12 0), (.int 0 0), (.ref 54), (.int 76 0), (.int 0 0), (.ref 72), (.int 78 0), (.int 0 0), (.ref 79), (.int 80 0), (.int 0 0), (.ref 86), (.int 88 0), (.int 0 0), (.ref 98)]⟩), ⟨[]⟩⟩
noncomputable def o93_0 (P : Params) : Obj := ⟨(.type "tuple"), none, (.seq ⟨[]⟩ 0), ⟨[]⟩⟩
noncomputable def o94_0 (P : Params) : Obj := ⟨.none, none, (.fields ⟨[]⟩), ⟨[]⟩⟩
noncomputable def o95_0 (P : Params) : Obj := ⟨(.type "tuple"), none, (.seq ⟨[(.str s268 597)]⟩ 0), ⟨[]⟩⟩
noncomputable def o96_0 (P : Params) : Obj := ⟨(.type "tuple"), none, (.seq ⟨[]⟩ 0), ⟨[]⟩⟩
noncomputable def o97_0 (P : Params) : Obj := ⟨.none, none, (.func (fdOf 13 0 .none .none)), ⟨[]⟩⟩
noncomputable def o98_0 (P : Params) : Obj := ⟨(.type "code"), none, (.fields ⟨[(.str s269 594), (.str s269 595), (.str s174 596), (.int 88 0), (.int 1 0), (.int 0 0), (.int 0 0), (.int 3 0), (.ref 93), (.bool true), (.int 276 0), (.ref 94), .none, (.ref 95), (.ref 96), (.ref 97), (.int 598 0), (.int 88 0), (.str s174 599)]⟩), ⟨[]⟩⟩
noncomputable def o99_0 (P : Params) : Obj := ⟨(.type "function"), none, (.func (fdOf 13 3 (.str s245 496) (.ref 98))), ⟨[]⟩⟩
noncomputable def o100_0 (P : Params) : Obj := ⟨(.type "range"), none, (.fields ⟨[(.int 12272 601), (.int 12284 602), (.int 1 603)]⟩), ⟨[]⟩⟩
noncomputable def o101_0 (P : Params) : Obj := ⟨(.type "set"), none, (.set ⟨[(12272, (.int 12272 604)), (12273, (.int 12273 606)), (12274, (.int 12274 608)), (12275, (.int 12275 610)), (12276, (.int 12276 612)), (12277, (.int 12277 614)), (12278, (.int 12278 616)), (12279, (.int 12279 618)), (12280, (.int 12280 620)), (12281, (.int 12281 622)), (12282, (.int 12282 624)), (12283, (.int 12283 626))]⟩ 13 ⟨31, ⟨[16, 17, 18, 19, 20, 21, 22, 23, 24, 25, 26, 27]⟩, ⟨[]⟩, 0, !P.followText "set-order", 1, true⟩), ⟨[]⟩⟩
noncomputable def o102_0 (P : Params) : Obj := ⟨(.type "range_iterator"), none, (.fields ⟨[(.int 12284 0), (.int 0 0), (.int 1 0)]⟩), ⟨[]⟩⟩
noncomputable def o103_0 (P : Params) : Obj := ⟨(.type "tuple"), none, (.seq ⟨[]⟩ 0), ⟨[]⟩⟩
noncomputable def o104_0 (P : Params) : Obj := ⟨(.type "StopIteration"), none, (.fields ⟨[(.ref 103), .none, .none, .none, (.bool false), .none]⟩), ⟨[]⟩⟩
noncomputable def o3_7 (P : Params) : Obj := ⟨(.type "dict"), none, (.dict ⟨[en P s0 165 (.str s245 496), en P s2 166 .none, en P s3 167 .none, en P s4 168 (.builtin "__main__.__loader__#opaque"), en P s5 169 .none, en P s171 170 (.ref 6), en P s172 171 (.ref 4), en P s173 173 (.str s174 172), en P s175 174 .none, en P s161 275 (.ref 12), en P s223 319 (.ref 36), en P s225 467 (.ref 38), en P s246 474 (.ref 48), en P s247 495 (.ref 55), en P s263 557 (.ref 63), en P s264 564 (.ref 73), en P s265 571 (.ref 80), en P s266 579 (.ref 87), en P s267 593 (.ref 89), en P s269 600 (.ref 99), en P s270 628 (.ref 101), en P s271 635 (.ref 111), en P s272 676 (.ref 125)]⟩ 23), ⟨[]⟩⟩
noncomputable def o29_4 (P : Params) : Obj := ⟨.none, none, (.fields ⟨[(.int 5 0), (.int 0 0), (.ref 47), (.int 12 0), (.int 0 0), (.ref 54), (.int 76 0), (.int 0 0), (.ref 72), (.int 78 0), (.int 0 0), (.ref 79), (.int 80 0), (.int 0 0), (.ref 86), (.int 88 0), (.int 0 0), (.ref 98), (.int 91 0), (.int 0 0), (.ref 110)]⟩), ⟨[]⟩⟩
noncomputable def o105_0 (P : Params) : Obj := ⟨(.type "tuple"), none, (.seq ⟨[]⟩ 0), ⟨[]⟩⟩
noncomputable def o106_0 (P : Params) : Obj := ⟨.none, none, (.fields ⟨[]⟩), ⟨[]⟩⟩
noncomputable def o107_0 (P : Params) : Obj := ⟨(.type "tuple"), none, (.seq ⟨[(.str s268 632)]⟩ 0), ⟨[]⟩⟩
noncomputable def o108_0 (P : Params) : Obj := ⟨(.type "tuple"), none, (.seq ⟨[]⟩ 0), ⟨[]⟩⟩
noncomputable def o109_0 (P : Params) : Obj := ⟨.none, none, (.func (fdOf 15 0 .none .none)), ⟨[]⟩⟩
noncomputable def o110_0 (P : Params) : Obj := ⟨(.type "code"), none, (.fields ⟨[(.str s271 629), (.str s271 630), (.str s174 631), (.int 91 0), (.int 1 0), (.int 0 0), (.int 0 0), (.int 3 0), (.ref 105), (.bool true), (.int 276 0), (.ref 106), .none, (.ref 107), (.ref 108), (.ref 109), (.int 633 0), (.int 91 0), (.str s174 634)]⟩), ⟨[]⟩⟩
noncomputable def o111_0 (P : Params) : Obj := ⟨(.type "function"), none, (.func (fdOf 15 3 (.str s245 496) (.ref 110))), ⟨[]⟩⟩
noncomputable def o112_0 (P : Params) : Obj := ⟨(.type "list"), none, (.seq ⟨[(.int 832 636), (.int 833 637), (.int 8206 638), (.int 8207 639)]⟩ 0), ⟨[]⟩⟩
noncomputable def o113_0 (P : Params) : Obj := ⟨(.type "range"), none, (.fields ⟨[(.int 8234 640), (.int 8239 641), (.int 1 642)]⟩), ⟨[]⟩⟩
noncomputable def o114_0 (P : Params) : Obj := ⟨(.type "list"), none, (.seq ⟨[(.int 8234 645), (.int 8235 646), (.int 8236 647), (.int 8237 648), (.int 8238 649)]⟩ 7), ⟨[]⟩⟩
noncomputable def o115_0 (P : Params) : Obj := ⟨(.type "range_iterator"), none, (.fields ⟨[(.int 8239 0), (.int 0 0), (.int 1 0)]⟩), ⟨[]⟩⟩
noncomputable def o116_0 (P : Params) : Obj := ⟨(.type "tuple"), none, (.seq ⟨[]⟩ 0), ⟨[]⟩⟩
noncomputable def o117_0 (P : Params) : Obj := ⟨(.type "StopIteration"), none, (.fields ⟨[(.ref 116), .none, .none, .none, (.bool false), .none]⟩), ⟨[]⟩⟩
noncomputable def o118_0 (P : Params) : Obj := ⟨(.type "list"), none, (.seq ⟨[(.int 832 636), (.int 833 637), (.int 8206 638), (.int 8207 639), (.int 8234 645), (.int 8235 646), (.int 8236 647), (.int 8237 648), (.int 8238 649)]⟩ 0), ⟨[]⟩⟩
noncomputable def o119_0 (P : Params) : Obj := ⟨(.type "range"), none, (.fields ⟨[(.int 8298 650), (.int 8304 651), (.int 1 652)]⟩), ⟨[]⟩⟩
noncomputable def o120_0 (P : Params) : Obj := ⟨(.type "list"), none, (.seq ⟨[(.int 8298 655), (.int 8299 656), (.int 8300 657), (.int 8301 658), (.int 8302 659), (.int 8303 660)]⟩ 8), ⟨[]⟩⟩
noncomputable def o121_0 (P : Params) : Obj := ⟨(.type "range_iterator"), none, (.fields ⟨[(.int 8304 0), (.int 0 0), (.int 1 0)]⟩), ⟨[]⟩⟩
noncomputable def o122_0 (P : Params) : Obj := ⟨(.type "tuple"), none, (.seq ⟨[]⟩ 0), ⟨[]⟩⟩
noncomputable def o123_0 (P : Params) : Obj := ⟨(.type "StopIteration"), none, (.fields ⟨[(.ref 122), .none, .none, .none, (.bool false), .none]⟩), ⟨[]⟩⟩
noncomputable def o124_0 (P : Params) : Obj := ⟨(.type "list"), none, (.seq ⟨[(.int 832 636), (.int 833 637), (.int 8206 638), (.int 8207 639), (.int 8234 645), (.int 8235 646), (.int 8236 647), (.int 8237 648), (.int 8238 649), (.int 8298 655), (.int 8299 656), (.int 8300 657), (.int 8301 658), (.int 8302 659), (.int 8303 660)]⟩ 0), ⟨[]⟩⟩
noncomputable def o125_0 (P : Params) : Obj := ⟨(.type "set"), none, (.set ⟨[(832, (.int 832 636)), (833, (.int 833 637)), (8234, (.int 8234 645)), (8235, (.int 8235 646)), (8236, (.int 8236 647)), (8237, (.int 8237 648)), (8206, (.int 8206 638)), (8207, (.int 8207 639)), (8238, (.int 8238 649)), (8298, (.int 8298 655)), (8299, (.int 8299 656)), (8300, (.int 8300 657)), (8301, (.int 8301 658)), (8302, (.int 8302 659)), (8303, (.int 8303 660))]⟩ 16 ⟨31, ⟨[0, 1, 10, 11, 12, 13, 14, 15, 16, 17, 18, 19, 20, 21, 22]⟩, ⟨[]⟩, 0, !P.followText "set-order", 1, true⟩), ⟨[]⟩⟩
noncomputable def o126_0 (P : Params) : Obj := ⟨(.type "list_iterator"), none, (.fields ⟨[.none, (.int 15 0)]⟩), ⟨[]⟩⟩
noncomputable def o127_0 (P : Params) : Obj := ⟨(.type "tuple"), none, (.seq ⟨[]⟩ 0), ⟨[]⟩⟩
noncomputable def o128_0 (P : Params) : Obj := ⟨(.type "StopIteration"), none, (.fields ⟨[(.ref 127), .none, .none, .none, (.bool false), .none]⟩), ⟨[]⟩⟩
noncomputable def o3_8 (P : Params) : Obj := ⟨(.type "dict"), none, (.dict ⟨[en P s0 165 (.str s245 496), en P s2 166 .none, en P s3 167 .none, en P s4 168 (.builtin "__main__.__loader__#opaque"), en P s5 169 .none, en P s171 170 (.ref 6), en P s172 171 (.ref 4), en P s173 173 (.str s174 172), en P s175 174 .none, en P s161 275 (.ref 12), en P s223 319 (.ref 36), en P s225 467 (.ref 38), en P s246 474 (.ref 48), en P s247 495 (.ref 55), en P s263 557 (.ref 63), en P s264 564 (.ref 73), en P s265 571 (.ref 80), en P s266 579 (.ref 87), en P s267 593 (.ref 89), en P s269 600 (.ref 99), en P s270 628 (.ref 101), en P s271 635 (.ref 111), en P s272 676 (.ref 125), en P s273 683 (.ref 135)]⟩ 24), ⟨[]⟩⟩
noncomputable def o29_5 (P : Params) : Obj := ⟨.none, none, (.fields ⟨[(.int 5 0), (.int 0 0), (.ref 47), (.int 12 0), (.int 0 0), (.ref 54), (.int 76 0), (.int 0 0), (.ref 72), (.int 78 0), (.int 0 0), (.ref 79), (.int 80 0), (.int 0 0), (.ref 86), (.int 88 0), (.int 0 0), (.ref 98), (.int 91 0), (.int 0 0), (.ref 110), (.int 94 0), (.int 0 0), (.ref 134)]⟩), ⟨[]⟩⟩
noncomputable def o129_0 (P : Params) : Obj := ⟨(.type "tuple"), none, (.seq ⟨[]⟩ 0), ⟨[]⟩⟩
noncomputable def o130_0 (P : Params) : Obj := ⟨.none, none, (.fields ⟨[]⟩), ⟨[]⟩⟩
noncomputable def o131_0 (P : Params) : Obj := ⟨(.type "tuple"), none, (.seq ⟨[(.str s268 680)]⟩ 0), ⟨[]⟩⟩
noncomputable def o132_0 (P : Params) : Obj := ⟨(.type "tuple"), none, (.seq ⟨[]⟩ 0), ⟨[]⟩⟩
noncomputable def o133_0 (P : Params) : Obj := ⟨.none, none, (.func (fdOf 17 0 .none .none)), ⟨[]⟩⟩
noncomputable def o134_0 (P : Params) : Obj := ⟨(.type "code"), none, (.fields ⟨[(.str s273 677), (.str s273 678), (.str s174 679), (.int 94 0), (.int 1 0), (.int 0 0), (.int 0 0), (.int 3 0), (.ref 129), (.bool true), (.int 276 0), (.ref 130), .none, (.ref 131), (.ref 132), (.ref 133), (.int 681 0), (.int 94 0), (.str s174 682)]⟩), ⟨[]⟩⟩
noncomputable def o135_0 (P : Params) : Obj := ⟨(.type "function"), none, (.func (fdOf 17 3 (.str s245 496) (.ref 134))), ⟨[]⟩⟩
noncomputable def o3_9 (P : Params) : Obj := ⟨(.type "dict"), none, (.dict ⟨[en P s0 165 (.str s245 496), en P s2 166 .none, en P s3 167 .none, en P s4 168 (.builtin "__main__.__loader__#opaque"), en P s5 169 .none, en P s171 170 (.ref 6), en P s172 171 (.ref 4), en P s173 173 (.str s174 172), en P s175 174 .none, en P s161 275 (.ref 12), en P s223 319 (.ref 36), en P s225 467 (.ref 38), en P s246 474 (.ref 48), en P s247 495 (.ref 55), en P s263 557 (.ref 63), en P s264 564 (.ref 73), en P s265 571 (.ref 80), en P s266 579 (.ref 87), en P s267 593 (.ref 89), en P s269 600 (.ref 99), en P s270 628 (.ref 101), en P s271 635 (.ref 111), en P s272 676 (.ref 125), en P s273 683 (.ref 135), en P s274 883 (.ref 143)]⟩ 25), ⟨[]⟩⟩
noncomputable def o136_0 (P : Params) : Obj := ⟨(.type "list"), none, (.seq ⟨[(.int 917505 684)]⟩ 0), ⟨[]⟩⟩
noncomputable def o137_0 (P : Params) : Obj := ⟨(.type "range"), none, (.fields ⟨[(.int 917536 685), (.int 917632 686), (.int 1 687)]⟩), ⟨[]⟩⟩
noncomputable def o138_0 (P : Params) : Obj := ⟨(.type "list"), none, (.seq ⟨[(.int 917536 690), (.int 917537 691), (.int 917538 692), (.int 917539 693), (.int 917540 694), (.int 917541 695), (.int 917542 696), (.int 917543 697), (.int 917544 698), (.int 917545 699), (.int 917546 700), (.int 917547 701), (.int 917548 702), (.int 917549 703), (.int 917550 704), (.int 917551 705), (.int 917552 706), (.int 917553 707), (.int 917554 708), (.int 917555 709), (.int 917556 710), (.int 917557 711), (.int 917558 712), (.int 917559 713), (.int 917560 714), (.int 917561 715), (.int 917562 716), (.int 917563 717), (.int 917564 718), (.int 917565 719), (.int 917566 720), (.int 917567 721), (.int 917568 722), (.int 917569 723), (.int 917570 724), (.int 917571 725), (.int 917572 726), (.int 917573 727), (.int 917574 728), (.int 917575 729), (.int 917576 730), (.int 917577 731), (.int 917578 732), (.int 917579 733), (.int 917580 734), (.int 917581 735), (.int 917582 736), (.int 917583 737), (.int 917584 738), (.int 917585 739), (.int 917586 740), (.int 917587 741), (.int 917588 742), (.int 917589 743), (.int 917590 744), (.int 917591 745), (.int 917592 746), (.int 917593 747), (.int 917594 748), (.int 917595 749), (.int 917596 750), (.int 917597 751), (.int 917598 752), (.int 917599 753), (.int 917600 754), (.int 917601 755), (.int 917602 756), (.int 917603 757), (.int 917604 758), (.int 917605 759), (.int 917606 760), (.int 917607 761), (.int 917608 762), (.int 917609 763), (.int 917610 764), (.int 917611 765), (.int 917612 766), (.int 917613 767), (.int 917614 768), (.int 917615 769), (.int 917616 770), (.int 917617 771), (.int 917618 772), (.int 917619 773), (.int 917620 774), (.int 917621 775), (.int 917622 776), (.int 917623 777), (.int 917624 778), (.int 917625 779), (.int 917626 780), (.int 917627 781), (.int 917628 782), (.int 917629 783), (.int 917630 784), (.int 917631 785)]⟩ 98), ⟨[]⟩⟩
noncomputable def o139_0 (P : Params) : Obj := ⟨(.type "range_iterator"), none, (.fields ⟨[(.int 917632 0), (.int 0 0), (.int 1 0)]⟩), ⟨[]⟩⟩
noncomputable def o140_0 (P : Params) : Obj := ⟨(.type "tuple"), none, (.seq ⟨[]⟩ 0), ⟨[]⟩⟩
noncomputable def o141_0 (P : Params) : Obj := ⟨(.type "StopIteration"), none, (.fields ⟨[(.ref 140), .none, .none, .none, (.bool false), .none]⟩), ⟨[]⟩⟩
noncomputable def o142_0 (P : Params) : Obj := ⟨(.type "list"), none, (.seq ⟨[(.int 917505 684), (.int 917536 690), (.int 917537 691), (.int 917538 692), (.int 917539 693), (.int 917540 694), (.int 917541 695), (.int 917542 696), (.int 917543 697), (.int 917544 698), (.int 917545 699), (.int 917546 700), (.int 917547 701), (.int 917548 702), (.int 917549 703), (.int 917550 704), (.int 917551 705), (.int 917552 706), (.int 917553 707), (.int 917554 708), (.int 917555 709), (.int 917556 710), (.int 917557 711), (.int 917558 712), (.int 917559 713), (.int 917560 714), (.int 917561 715), (.int 917562 716), (.int 917563 717), (.int 917564 718), (.int 917565 719), (.int 917566 720), (.int 917567 721), (.int 917568 722), (.int 917569 723), (.int 917570 724), (.int 917571 725), (.int 917572 726), (.int 917573 727), (.int 917574 728), (.int 917575 729), (.int 917576 730), (.int 917577 731), (.int 917578 732), (.int 917579 733), (.int 917580 734), (.int 917581 735), (.int 917582 736), (.int 917583 737), (.int 917584 738), (.int 917585 739), (.int 917586 740), (.int 917587 741), (.int 917588 742), (.int 917589 743), (.int 917590 744), (.int 917591 745), (.int 917592 746), (.int 917593 747), (.int 917594 748), (.int 917595 749), (.int 917596 750), (.int 917597 751), (.int 917598 752), (.int 917599 753), (.int 917600 754), (.int 917601 755), (.int 917602 756), (.int 917603 757), (.int 917604 758), (.int 917605 759), (.int 917606 760), (.int 917607 761), (.int 917608 762), (.int 917609 763), (.int 917610 764), (.int 917611 765), (.int 917612 766), (.int 917613 767), (.int 917614 768), (.int 917615 769), (.int 917616 770), (.int 917617 771), (.int 917618 772), (.int 917619 773), (.int 917620 774), (.int 917621 775), (.int 917622 776), (.int 917623 777), (.int 917624 778), (.int 917625 779), (.int 917626 780), (.int 917627 781), (.int 917628 782), (.int 917629 783), (.int 917630 784), (.int 917631 785)]⟩ 0), ⟨[]⟩⟩
noncomputable def o143_0 (P : Params) : Obj := ⟨(.type "set"), none, (.set ⟨[(917505, (.int 917505 684)), (917536, (.int 917536 690)), (917537, (.int 917537 691)), (917538, (.int 917538 692)), (917539, (.int 917539 693)), (917540, (.int 917540 694)), (917541, (.int 917541 695)), (917542, (.int 917542 696)), (917543, (.int 917543 697)), (917544, (.int 917544 698)), (917545, (.int 917545 699)), (917546, (.int 917546 700)), (917547, (.int 917547 701)), (917548, (.int 917548 702)), (917549, (.int 917549 703)), (917550, (.int 917550 704)), (917551, (.int 917551 705)), (917552, (.int 917552 706)), (917553, (.int 917553 707)), (917554, (.int 917554 708)), (917555, (.int 917555 709)), (917556, (.int 917556 710)), (917557, (.int 917557 711)), (917558, (.int 917558 712)), (917559, (.int 917559 713)), (917560, (.int 917560 714)), (917561, (.int 917561 715)), (917562, (.int 917562 716)), (917563, (.int 917563 717)), (917564, (.int 917564 718)), (917565, (.int 917565 719)), (917566, (.int 917566 720)), (917567, (.int 917567 721)), (917568, (.int 917568 722)), (917569, (.int 917569 723)), (917570, (.int 917570 724)), (917571, (.int 917571 725)), (917572, (.int 917572 726)), (917573, (.int 917573 727)), (917574, (.int 917574 728)), (917575, (.int 917575 729)), (917576, (.int 917576 730)), (917577, (.int 917577 731)), (917578, (.int 917578 732)), (917579, (.int 917579 733)), (917580, (.int 917580 734)), (917581, (.int 917581 735)), (917582, (.int 917582 736)), (917583, (.int 917583 737)), (917584, (.int 917584 738)), (917585, (.int 917585 739)), (917586, (.int 917586 740)), (917587, (.int 917587 741)), (917588, (.int 917588 742)), (917589, (.int 917589 743)), (917590, (.int 917590 744)), (917591, (.int 917591 745)), (917592, (.int 917592 746)), (917593, (.int 917593 747)), (917594, (.int 917594 748)), (917595, (.int 917595 749)), (917596, (.int 917596 750)), (917597, (.int 917597 751)), (917598, (.int 917598 752)), (917599, (.int 917599 753)), (917600, (.int 917600 754)), (917601, (.int 917601 755)), (917602, (.int 917602 756)), (917603, (.int 917603 757)), (917604, (.int 917604 758)), (917605, (.int 917605 759)), (917606, (.int 917606 760)), (917607, (.int 917607 761)), (917608, (.int 917608 762)), (917609, (.int 917609 763)), (917610, (.int 917610 764)), (917611, (.int 917611 765)), (917612, (.int 917612 766)), (917613, (.int 917613 767)), (917614, (.int 917614 768)), (917615, (.int 917615 769)), (917616, (.int 917616 770)), (917617, (.int 917617 771)), (917618, (.int 917618 772)), (917619, (.int 917619 773)), (917620, (.int 917620 774)), (917621, (.int 917621 775)), (917622, (.int 917622 776)), (917623, (.int 917623 777)), (917624, (.int 917624 778)), (917625, (.int 917625 779)), (917626, (.int 917626 780)), (917627, (.int 917627 781)), (917628, (.int 917628 782)), (917629, (.int 917629 783)), (917630, (.int 917630 784)), (917631, (.int 917631 785))]⟩ 100 ⟨511, ⟨[1, 32, 33, 34, 35, 36, 37, 38, 39, 40, 41, 42, 43, 44, 45, 46, 47, 48, 49, 50, 51, 52, 53, 54, 55, 56, 57, 58, 59, 60, 61, 62, 63, 64, 65, 66, 67, 68, 69, 70, 71, 72, 73, 74, 75, 76, 77, 78, 79, 80, 81, 82, 83, 84, 85, 86, 87, 88, 89, 90, 91, 92, 93, 94, 95, 96, 97, 98, 99, 100, 101, 102, 103, 104, 105, 106, 107, 108, 109, 110, 111, 112, 113, 114, 115, 116, 117, 118, 119, 120, 121, 122, 123, 124, 125, 126, 127]⟩, ⟨[]⟩, 0, !P.followText "set-order", 3, true⟩), ⟨[]⟩⟩
noncomputable def o144_0 (P : Params) : Obj := ⟨(.type "list_iterator"), none, (.fields ⟨[.none, (.int 97 0)]⟩), ⟨[]⟩⟩
noncomputable def o145_0 (P : Params) : Obj := ⟨(.type "tuple"), none, (.seq ⟨[]⟩ 0), ⟨[]⟩⟩
noncomputable def o146_0 (P : Params) : Obj := ⟨(.type "StopIteration"), none, (.fields ⟨[(.ref 145), .none, .none, .none, (.bool false), .none]⟩), ⟨[]⟩⟩
noncomputable def o3_10 (P : Params) : Obj := ⟨(.type "dict"), none, (.dict ⟨[en P s0 165 (.str s275 891), en P s2 166 .none, en P s3 167 .none, en P s4 168 (.builtin "__main__.__loader__#opaque"), en P s5 169 .none, en P s171 170 (.ref 6), en P s172 171 (.ref 4), en P s173 173 (.str s174 172), en P s175 174 .none, en P s161 275 (.ref 12), en P s223 319 (.ref 36), en P s225 467 (.ref 38), en P s246 474 (.ref 48), en P s247 495 (.ref 55), en P s263 557 (.ref 63), en P s264 564 (.ref 73), en P s265 571 (.ref 80), en P s266 579 (.ref 87), en P s267 593 (.ref 89), en P s269 600 (.ref 99), en P s270 628 (.ref 101), en P s271 635 (.ref 111), en P s272 676 (.ref 125), en P s273 683 (.ref 135), en P s274 883 (.ref 143), en P s276 890 (.ref 153), en P s277 898 (.ref 158), en P s278 906 (.ref 165), en P s279 920 (.ref 172), en P s280 934 (.ref 179), en P s281 946 (.ref 186), en P s282 952 (.ref 191), en P s283 966 (.ref 198), en P s284 981 (.ref 205), en P s285 987 (.ref 210)]⟩ 35), ⟨[]⟩⟩
noncomputable def o29_6 (P : Params) : Obj := ⟨.none, none, (.fields ⟨[(.int 5 0), (.int 0 0), (.ref 47), (.int 12 0), (.int 0 0), (.ref 54), (.int 76 0), (.int 0 0), (.ref 72), (.int 78 0), (.int 0 0), (.ref 79), (.int 80 0), (.int 0 0), (.ref 86), (.int 88 0), (.int 0 0), (.ref 98), (.int 91 0), (.int 0 0), (.ref 110), (.int 94 0), (.int 0 0), (.ref 134), (.int 97 0), (.int 0 0), (.ref 152), (.int 100 0), (.int 0 0), (.ref 157), (.int 103 0), (.int 0 0), (.ref 164), (.int 117 0), (.int 0 0), (.ref 171), (.int 132 0), (.int 0 0), (.ref 178), (.int 152 0), (.int 0 0), (.ref 185), (.int 158 0), (.int 0 0), (.ref 190), (.int 167 0), (.int 0 0), (.ref 197), (.int 187 0), (.int 0 0), (.ref 204), (.int 203 0), (.int 0 0), (.ref 209)]⟩), ⟨[]⟩⟩
noncomputable def o147_0 (P : Params) : Obj := ⟨(.type "tuple"), none, (.seq ⟨[]⟩ 0), ⟨[]⟩⟩
noncomputable def o148_0 (P : Params) : Obj := ⟨.none, none, (.fields ⟨[]⟩), ⟨[]⟩⟩
noncomputable def o149_0 (P : Params) : Obj := ⟨(.type "tuple"), none, (.seq ⟨[(.str s268 887)]⟩ 0), ⟨[]⟩⟩
noncomputable def o150_0 (P : Params) : Obj := ⟨(.type "tuple"), none, (.seq ⟨[]⟩ 0), ⟨[]⟩⟩
noncomputable def o151_0 (P : Params) : Obj := ⟨.none, none, (.func (fdOf 19 0 .none .none)), ⟨[]⟩⟩
noncomputable def o152_0 (P : Params) : Obj := ⟨(.type "code"), none, (.fields ⟨[(.str s276 884), (.str s276 885), (.str s174 886), (.int 97 0), (.int 1 0), (.int 0 0), (.int 0 0), (.int 3 0), (.ref 147), (.bool true), (.int 276 0), (.ref 148), .none, (.ref 149), (.ref 150), (.ref 151), (.int 888 0), (.int 97 0), (.str s174 889)]⟩), ⟨[]⟩⟩
noncomputable def o153_0 (P : Params) : Obj := ⟨(.type "function"), none, (.func (fdOf 19 3 (.str s245 496) (.ref 152))), ⟨[]⟩⟩
noncomputable def o154_0 (P : Params) : Obj := ⟨(.type "tuple"), none, (.seq ⟨[]⟩ 0), ⟨[]⟩⟩
noncomputable def o155_0 (P : Params) : Obj := ⟨.none, none, (.fields ⟨[]⟩), ⟨[]⟩⟩
noncomputable def o156_0 (P : Params) : Obj := ⟨.none, none, (.func (fdOf 21 0 .none .none)), ⟨[]⟩⟩
noncomputable def o157_0 (P : Params) : Obj := ⟨(.type "code"), none, (.fields ⟨[(.str s277 893), (.str s277 894), (.str s174 895), (.int 100 0), (.int 1 0), (.int 0 0), (.int 0 0), (.int 3 0), (.ref 154), (.bool true), (.int 276 0), (.ref 155), .none, .none, .none, (.ref 156), (.int 896 0), (.int 100 0), (.str s174 897)]⟩), ⟨[]⟩⟩
noncomputable def o158_0 (P : Params) : Obj := ⟨(.type "function"), none, (.func (fdOf 21 3 (.str s275 891) (.ref 157))), ⟨[]⟩⟩
noncomputable def o159_0 (P : Params) : Obj := ⟨(.type "tuple"), none, (.seq ⟨[]⟩ 0), ⟨[]⟩⟩
noncomputable def o160_0 (P : Params) : Obj := ⟨.none, none, (.fields ⟨[]⟩), ⟨[]⟩⟩
noncomputable def o161_0 (P : Params) : Obj := ⟨(.type "tuple"), none, (.seq ⟨[(.str s286 902), (.str s287 903)]⟩ 0), ⟨[]⟩⟩
noncomputable def o162_0 (P : Params) : Obj := ⟨(.type "tuple"), none, (.seq ⟨[]⟩ 0), ⟨[]⟩⟩
noncomputable def o163_0 (P : Params) : Obj := ⟨.none, none, (.func (fdOf 22 0 .none .none)), ⟨[]⟩⟩
noncomputable def o164_0 (P : Params) : Obj := ⟨(.type "code"), none, (.fields ⟨[(.str s278 899), (.str s278 900), (.str s174 901), (.int 103 0), (.int 2 0), (.int 0 0), (.int 0 0), (.int 3 0), (.ref 159), (.bool true), (.int 276 0), (.ref 160), .none, (.ref 161), (.ref 162), (.ref 163), (.int 904 0), (.int 103 0), (.str s174 905)]⟩), ⟨[]⟩⟩
noncomputable def o165_0 (P : Params) : Obj := ⟨(.type "function"), none, (.func (fdOf 22 3 (.str s275 891) (.ref 164))), ⟨[]⟩⟩
noncomputable def o166_0 (P : Params) : Obj := ⟨(.type "tuple"), none, (.seq ⟨[]⟩ 0), ⟨[]⟩⟩
noncomputable def o167_0 (P : Params) : Obj := ⟨.none, none, (.fields ⟨[]⟩), ⟨[]⟩⟩
noncomputable def o168_0 (P : Params) : Obj := ⟨(.type "tuple"), none, (.seq ⟨[(.str s286 910), (.str s288 911), (.str s289 912), (.str s290 913), (.str s291 914), (.str s292 915), (.str s293 916), (.str s294 917)]⟩ 0), ⟨[]⟩⟩
noncomputable def o169_0 (P : Params) : Obj := ⟨(.type "tuple"), none, (.seq ⟨[]⟩ 0), ⟨[]⟩⟩
noncomputable def o170_0 (P : Params) : Obj := ⟨.none, none, (.func (fdOf 23 0 .none .none)), ⟨[]⟩⟩
noncomputable def o171_0 (P : Params) : Obj := ⟨(.type "code"), none, (.fields ⟨[(.str s279 907), (.str s279 908), (.str s174 909), (.int 117 0), (.int 2 0), (.int 0 0), (.int 0 0), (.int 3 0), (.ref 166), (.bool true), (.int 276 0), (.ref 167), .none, (.ref 168), (.ref 169), (.ref 170), (.int 918 0), (.int 117 0), (.str s174 919)]⟩), ⟨[]⟩⟩
noncomputable def o172_0 (P : Params) : Obj := ⟨(.type "function"), none, (.func (fdOf 23 3 (.str s275 891) (.ref 171))), ⟨[]⟩⟩
noncomputable def o173_0 (P : Params) : Obj := ⟨(.type "tuple"), none, (.seq ⟨[]⟩ 0), ⟨[]⟩⟩
noncomputable def o174_0 (P : Params) : Obj := ⟨.none, none, (.fields ⟨[]⟩), ⟨[]⟩⟩
noncomputable def o175_0 (P : Params) : Obj := ⟨(.type "tuple"), none, (.seq ⟨[(.str s295 924), (.str s296 925), (.str s297 926), (.str s298 927), (.str s299 928), (.str s288 929), (.str s286 930), (.str s291 931)]⟩ 0), ⟨[]⟩⟩
noncomputable def o176_0 (P : Params) : Obj := ⟨(.type "tuple"), none, (.seq ⟨[]⟩ 0), ⟨[]⟩⟩
noncomputable def o177_0 (P : Params) : Obj := ⟨.none, none, (.func (fdOf 24 0 .none .none)), ⟨[]⟩⟩
noncomputable def o178_0 (P : Params) : Obj := ⟨(.type "code"), none, (.fields ⟨[(.str s280 921), (.str s280 922), (.str s174 923), (.int 132 0), (.int 1 0), (.int 0 0), (.int 0 0), (.int 3 0), (.ref 173), (.bool true), (.int 276 0), (.ref 174), .none, (.ref 175), (.ref 176), (.ref 177), (.int 932 0), (.int 132 0), (.str s174 933)]⟩), ⟨[]⟩⟩
noncomputable def o179_0 (P : Params) : Obj := ⟨(.type "function"), none, (.func (fdOf 24 3 (.str s275 891) (.ref 178))), ⟨[]⟩⟩
noncomputable def o180_0 (P : Params) : Obj := ⟨(.type "tuple"), none, (.seq ⟨[]⟩ 0), ⟨[]⟩⟩
noncomputable def o181_0 (P : Params) : Obj := ⟨.none, none, (.fields ⟨[]⟩), ⟨[]⟩⟩
noncomputable def o182_0 (P : Params) : Obj := ⟨(.type "tuple"), none, (.seq ⟨[(.str s288 938), (.str s289 939), (.str s292 940), (.str s293 941), (.str s300 942), (.str s268 943)]⟩ 0), ⟨[]⟩⟩
noncomputable def o183_0 (P : Params) : Obj := ⟨(.type "tuple"), none, (.seq ⟨[]⟩ 0), ⟨[]⟩⟩
noncomputable def o184_0 (P : Params) : Obj := ⟨.none, none, (.func (fdOf 25 0 .none .none)), ⟨[]⟩⟩
noncomputable def o185_0 (P : Params) : Obj := ⟨(.type "code"), none, (.fields ⟨[(.str s281 935), (.str s281 936), (.str s174 937), (.int 152 0), (.int 1 0), (.int 0 0), (.int 0 0), (.int 3 0), (.ref 180), (.bool true), (.int 276 0), (.ref 181), .none, (.ref 182), (.ref 183), (.ref 184), (.int 944 0), (.int 152 0), (.str s174 945)]⟩), ⟨[]⟩⟩
noncomputable def o186_0 (P : Params) : Obj := ⟨(.type "function"), none, (.func (fdOf 25 3 (.str s275 891) (.ref 185))), ⟨[]⟩⟩
noncomputable def o187_0 (P : Params) : Obj := ⟨(.type "tuple"), none, (.seq ⟨[]⟩ 0), ⟨[]⟩⟩
noncomputable def o188_0 (P : Params) : Obj := ⟨.none, none, (.fields ⟨[]⟩), ⟨[]⟩⟩
noncomputable def o189_0 (P : Params) : Obj := ⟨.none, none, (.func (fdOf 26 0 .none .none)), ⟨[]⟩⟩
noncomputable def o190_0 (P : Params) : Obj := ⟨(.type "code"), none, (.fields ⟨[(.str s282 947), (.str s282 948), (.str s174 949), (.int 158 0), (.int 2 0), (.int 0 0), (.int 0 0), (.int 3 0), (.ref 187), (.bool true), (.int 276 0), (.ref 188), .none, .none, .none, (.ref 189), (.int 950 0), (.int 158 0), (.str s174 951)]⟩), ⟨[]⟩⟩
noncomputable def o191_0 (P : Params) : Obj := ⟨(.type "function"), none, (.func (fdOf 26 3 (.str s275 891) (.ref 190))), ⟨[]⟩⟩
noncomputable def o192_0 (P : Params) : Obj := ⟨(.type "tuple"), none, (.seq ⟨[]⟩ 0), ⟨[]⟩⟩
noncomputable def o193_0 (P : Params) : Obj := ⟨.none, none, (.fields ⟨[]⟩), ⟨[]⟩⟩
noncomputable def o194_0 (P : Params) : Obj := ⟨(.type "tuple"), none, (.seq ⟨[(.str s301 956), (.str s287 957), (.str s302 958), (.str s303 959), (.str s304 960), (.str s305 961), (.str s306 962), (.str s307 963)]⟩ 0), ⟨[]⟩⟩
noncomputable def o195_0 (P : Params) : Obj := ⟨(.type "tuple"), none, (.seq ⟨[]⟩ 0), ⟨[]⟩⟩
noncomputable def o196_0 (P : Params) : Obj := ⟨.none, none, (.func (fdOf 27 0 .none .none)), ⟨[]⟩⟩
noncomputable def o197_0 (P : Params) : Obj := ⟨(.type "code"), none, (.fields ⟨[(.str s283 953), (.str s283 954), (.str s174 955), (.int 167 0), (.int 2 0), (.int 0 0), (.int 0 0), (.int 3 0), (.ref 192), (.bool true), (.int 276 0), (.ref 193), .none, (.ref 194), (.ref 195), (.ref 196), (.int 964 0), (.int 167 0), (.str s174 965)]⟩), ⟨[]⟩⟩
noncomputable def o198_0 (P : Params) : Obj := ⟨(.type "function"), none, (.func (fdOf 27 3 (.str s275 891) (.ref 197))), ⟨[]⟩⟩
noncomputable def o199_0 (P : Params) : Obj := ⟨(.type "tuple"), none, (.seq ⟨[]⟩ 0), ⟨[]⟩⟩
noncomputable def o200_0 (P : Params) : Obj := ⟨.none, none, (.fields ⟨[]⟩), ⟨[]⟩⟩
noncomputable def o201_0 (P : Params) : Obj := ⟨(.type "tuple"), none, (.seq ⟨[(.str s308 970), (.str s205 971), (.str s309 972), (.str s301 973), (.str s310 974), (.str s311 975), (.str s287 976), (.str s312 977), (.str s313 978)]⟩ 0), ⟨[]⟩⟩
noncomputable def o202_0 (P : Params) : Obj := ⟨(.type "tuple"), none, (.seq ⟨[]⟩ 0), ⟨[]⟩⟩
noncomputable def o203_0 (P : Params) : Obj := ⟨.none, none, (.func (fdOf 28 0 .none .none)), ⟨[]⟩⟩
noncomputable def o204_0 (P : Params) : Obj := ⟨(.type "code"), none, (.fields ⟨[(.str s284 967), (.str s284 968), (.str s174 969), (.int 187 0), (.int 2 0), (.int 0 0), (.int 0 0), (.int 3 0), (.ref 199), (.bool true), (.int 276 0), (.ref 200), .none, (.ref 201), (.ref 202), (.ref 203), (.int 979 0), (.int 187 0), (.str s174 980)]⟩), ⟨[]⟩⟩
noncomputable def o205_0 (P : Params) : Obj := ⟨(.type "function"), none, (.func (fdOf 28 3 (.str s275 891) (.ref 204))), ⟨[]⟩⟩
noncomputable def o206_0 (P : Params) : Obj := ⟨(.type "tuple"), none, (.seq ⟨[]⟩ 0), ⟨[]⟩⟩
noncomputable def o207_0 (P : Params) : Obj := ⟨.none, none, (.fields ⟨[]⟩), ⟨[]⟩⟩
noncomputable def o208_0 (P : Params) : Obj := ⟨.none, none, (.func (fdOf 29 0 .none .none)), ⟨[]⟩⟩
noncomputable def o209_0 (P : Params) : Obj := ⟨(.type "code"), none, (.fields ⟨[(.str s285 982), (.str s285 983), (.str s174 984), (.int 203 0), (.int 1 0), (.int 0 0), (.int 0 0), (.int 3 0), (.ref 206), (.bool true), (.int 276 0), (.ref 207), .none, .none, .none, (.ref 208), (.int 985 0), (.int 203 0), (.str s174 986)]⟩), ⟨[]⟩⟩
noncomputable def o210_0 (P : Params) : Obj := ⟨(.type "function"), none, (.func (fdOf 29 3 (.str s275 891) (.ref 209))), ⟨[]⟩⟩
noncomputable def o143_1 (P : Params) : Obj := ⟨(.type "set"), none, (.set ⟨[(917505, (.int 917505 684)), (917536, (.int 917536 690)), (917537, (.int 917537 691)), (917538, (.int 917538 692)), (917539, (.int 917539 693)), (917540, (.int 917540 694)), (917541, (.int 917541 695)), (917542, (.int 917542 696)), (917543, (.int 917543 697)), (917544, (.int 917544 698)), (917545, (.int 917545 699)), (917546, (.int 917546 700)), (917547, (.int 917547 701)), (917548, (.int 917548 702)), (917549, (.int 917549 703)), (917550, (.int 917550 704)), (917551, (.int 917551 705)), (917552, (.int 917552 706)), (917553, (.int 917553 707))]⟩ 21 ⟨127, ⟨[1, 32, 33, 34, 35, 36, 37, 38, 39, 40, 41, 42, 43, 44, 45, 46, 47, 48, 49]⟩, ⟨[]⟩, 0, !P.followText "set-order", 2, true⟩), ⟨[]⟩⟩
noncomputable def o144_1 (P : Params) : Obj := ⟨(.type "list_iterator"), none, (.fields ⟨[(.ref 142), (.int 19 0)]⟩), ⟨[]⟩⟩
noncomputable def o143_2 (P : Params) : Obj := ⟨(.type "set"), none, (.set ⟨[(917505, (.int 917505 684)), (917536, (.int 917536 690)), (917537, (.int 917537 691)), (917538, (.int 917538 692)), (917539, (.int 917539 693)), (917540, (.int 917540 694)), (917541, (.int 917541 695)), (917542, (.int 917542 696)), (917543, (.int 917543 697)), (917544, (.int 917544 698)), (917545, (.int 917545 699)), (917546, (.int 917546 700)), (917547, (.int 917547 701)), (917548, (.int 917548 702)), (917549, (.int 917549 703)), (917550, (.int 917550 704)), (917551, (.int 917551 705)), (917552, (.int 917552 706)), (917553, (.int 917553 707))]⟩ 21 ⟨127, ⟨[]⟩, ⟨[]⟩, 0, !P.followText "set-order", 2, true⟩), ⟨[]⟩⟩
noncomputable def o143_3 (P : Params) : Obj := ⟨(.type "set"), none, (.set ⟨[(917505, (.int 917505 684)), (917536, (.int 917536 690)), (917537, (.int 917537 691)), (917538, (.int 917538 692)), (917539, (.int 917539 693)), (917540, (.int 917540 694)), (917541, (.int 917541 695)), (917542, (.int 917542 696)), (917543, (.int 917543 697)), (917544, (.int 917544 698)), (917545, (.int 917545 699)), (917546, (.int 917546 700)), (917547, (.int 917547 701)), (917548, (.int 917548 702)), (917549, (.int 917549 703)), (917550, (.int 917550 704)), (917551, (.int 917551 705)), (917552, (.int 917552 706)), (917553, (.int 917553 707)), (917554, (.int 917554 708)), (917555, (.int 917555 709)), (917556, (.int 917556 710)), (917557, (.int 917557 711)), (917558, (.int 917558 712)), (917559, (.int 917559 713)), (917560, (.int 917560 714)), (917561, (.int 917561 715)), (917562, (.int 917562 716)), (917563, (.int 917563 717)), (917564, (.int 917564 718)), (917565, (.int 917565 719))]⟩ 33 ⟨127, ⟨[1, 32, 33, 34, 35, 36, 37, 38, 39, 40, 41, 42, 43, 44, 45, 46, 47, 48, 49, 50, 51, 52, 53, 54, 55, 56, 57, 58, 59, 60, 61]⟩, ⟨[]⟩, 0, !P.followText "set-order", 2, true⟩), ⟨[]⟩⟩
noncomputable def o144_2 (P : Params) : Obj := ⟨(.type "list_iterator"), none, (.fields ⟨[(.ref 142), (.int 31 0)]⟩), ⟨[]⟩⟩
noncomputable def o143_4 (P : Params) : Obj := ⟨(.type "set"), none, (.set ⟨[(917505, (.int 917505 684)), (917536, (.int 917536 690)), (917537, (.int 917537 691)), (917538, (.int 917538 692)), (917539, (.int 917539 693)), (917540, (.int 917540 694)), (917541, (.int 917541 695)), (917542, (.int 917542 696)), (917543, (.int 917543 697)), (917544, (.int 917544 698)), (917545, (.int 917545 699)), (917546, (.int 917546 700)), (917547, (.int 917547 701)), (917548, (.int 917548 702)), (917549, (.int 917549 703)), (917550, (.int 917550 704)), (917551, (.int 917551 705)), (917552, (.int 917552 706)), (917553, (.int 917553 707)), (917554, (.int 917554 708)), (917555, (.int 917555 709)), (917556, (.int 917556 710)), (917557, (.int 917557 711)), (917558, (.int 917558 712)), (917559, (.int 917559 713)), (917560, (.int 917560 714)), (917561, (.int 917561 715)), (917562, (.int 917562 716)), (917563, (.int 917563 717)), (917564, (.int 917564 718)), (917565, (.int 917565 719))]⟩ 33 ⟨127, ⟨[]⟩, ⟨[]⟩, 0, !P.followText "set-order", 2, true⟩), ⟨[]⟩⟩
noncomputable def o143_5 (P : Params) : Obj := ⟨(.type "set"), none, (.set ⟨[(917505, (.int 917505 684)), (917536, (.int 917536 690)), (917537, (.int 917537 691)), (917538, (.int 917538 692)), (917539, (.int 917539 693)), (917540, (.int 917540 694)), (917541, (.int 917541 695)), (917542, (.int 917542 696)), (917543, (.int 917543 697)), (917544, (.int 917544 698)), (917545, (.int 917545 699)), (917546, (.int 917546 700)), (917547, (.int 917547 701)), (917548, (.int 917548 702)), (917549, (.int 917549 703)), (917550, (.int 917550 704)), (917551, (.int 917551 705)), (917552, (.int 917552 706)), (917553, (.int 917553 707)), (917554, (.int 917554 708)), (917555, (.int 917555 709)), (917556, (.int 917556 710)), (917557, (.int 917557 711)), (917558, (.int 917558 712)), (917559, (.int 917559 713)), (917560, (.int 917560 714)), (917561, (.int 917561 715)), (917562, (.int 917562 716)), (917563, (.int 917563 717)), (917564, (.int 917564 718)), (917565, (.int 917565 719)), (917566, (.int 917566 720)), (917567, (.int 917567 721)), (917568, (.int 917568 722)), (917569, (.int 917569 723)), (917570, (.int 917570 724)), (917571, (.int 917571 725)), (917572, (.int 917572 726)), (917573, (.int 917573 727)), (917574, (.int 917574 728)), (917575, (.int 917575 729))]⟩ 43 ⟨127, ⟨[1, 32, 33, 34, 35, 36, 37, 38, 39, 40, 41, 42, 43, 44, 45, 46, 47, 48, 49, 50, 51, 52, 53, 54, 55, 56, 57, 58, 59, 60, 61, 62, 63, 64, 65, 66, 67, 68, 69, 70, 71]⟩, ⟨[]⟩, 0, !P.followText "set-order", 2, true⟩), ⟨[]⟩⟩
noncomputable def o144_3 (P : Params) : Obj := ⟨(.type "list_iterator"), none, (.fields ⟨[(.ref 142), (.int 41 0)]⟩), ⟨[]⟩⟩
noncomputable def o143_6 (P : Params) : Obj := ⟨(.type "set"), none, (.set ⟨[(917505, (.int 917505 684)), (917536, (.int 917536 690)), (917537, (.int 917537 691)), (917538, (.int 917538 692)), (917539, (.int 917539 693)), (917540, (.int 917540 694)), (917541, (.int 917541 695)), (917542, (.int 917542 696)), (917543, (.int 917543 697)), (917544, (.int 917544 698)), (917545, (.int 917545 699)), (917546, (.int 917546 700)), (917547, (.int 917547 701)), (917548, (.int 917548 702)), (917549, (.int 917549 703)), (917550, (.int 917550 704)), (917551, (.int 917551 705)), (917552, (.int 917552 706)), (917553, (.int 917553 707)), (917554, (.int 917554 708)), (917555, (.int 917555 709)), (917556, (.int 917556 710)), (917557, (.int 917557 711)), (917558, (.int 917558 712)), (917559, (.int 917559 713)), (917560, (.int 917560 714)), (917561, (.int 917561 715)), (917562, (.int 917562 716)), (917563, (.int 917563 717)), (917564, (.int 917564 718)), (917565, (.int 917565 719)), (917566, (.int 917566 720)), (917567, (.int 917567 721)), (917568, (.int 917568 722)), (917569, (.int 917569 723)), (917570, (.int 917570 724)), (917571, (.int 917571 725)), (917572, (.int 917572 726)), (917573, (.int 917573 727)), (917574, (.int 917574 728)), (917575, (.int 917575 729))]⟩ 43 ⟨127, ⟨[]⟩, ⟨[]⟩, 0, !P.followText "set-order", 2, true⟩), ⟨[]⟩⟩
noncomputable def o143_7 (P : Params) : Obj := ⟨(.type "set"), none, (.set ⟨[(917505, (.int 917505 684)), (917536, (.int 917536 690)), (917537, (.int 917537 691)), (917538, (.int 917538 692)), (917539, (.int 917539 693)), (917540, (.int 917540 694)), (917541, (.int 917541 695)), (917542, (.int 917542 696)), (917543, (.int 917543 697)), (917544, (.int 917544 698)), (917545, (.int 917545 699)), (917546, (.int 917546 700)), (917547, (.int 917547 701)), (917548, (.int 917548 702)), (917549, (.int 917549 703)), (917550, (.int 917550 704)), (917551, (.int 917551 705)), (917552, (.int 917552 706)), (917553, (.int 917553 707)), (917554, (.int 917554 708)), (917555, (.int 917555 709)), (917556, (.int 917556 710)), (917557, (.int 917557 711)), (917558, (.int 917558 712)), (917559, (.int 917559 713)), (917560, (.int 917560 714)), (917561, (.int 917561 715)), (917562, (.int 917562 716)), (917563, (.int 917563 717)), (917564, (.int 917564 718)), (917565, (.int 917565 719)), (917566, (.int 917566 720)), (917567, (.int 917567 721)), (917568, (.int 917568 722)), (917569, (.int 917569 723)), (917570, (.int 917570 724)), (917571, (.int 917571 725)), (917572, (.int 917572 726)), (917573, (.int 917573 727)), (917574, (.int 917574 728)), (917575, (.int 917575 729)), (917576, (.int 917576 730)), (917577, (.int 917577 731)), (917578, (.int 917578 732)), (917579, (.int 917579 733)), (917580, (.int 917580 734)), (917581, (.int 917581 735)), (917582, (.int 917582 736)), (917583, (.int 917583 737)), (917584, (.int 917584 738)), (917585, (.int 917585 739))]⟩ 53 ⟨127, ⟨[1, 32, 33, 34, 35, 36, 37, 38, 39, 40, 41, 42, 43, 44, 45, 46, 47, 48, 49, 50, 51, 52, 53, 54, 55, 56, 57, 58, 59, 60, 61, 62, 63, 64, 65, 66, 67, 68, 69, 70, 71, 72, 73, 74, 75, 76, 77, 78, 79, 80, 81]⟩, ⟨[]⟩, 0, !P.followText "set-order", 2, true⟩), ⟨[]⟩⟩
noncomputable def o144_4 (P : Params) : Obj := ⟨(.type "list_iterator"), none, (.fields ⟨[(.ref 142), (.int 51 0)]⟩), ⟨[]⟩⟩
noncomputable def o143_8 (P : Params) : Obj := ⟨(.type "set"), none, (.set ⟨[(917505, (.int 917505 684)), (917536, (.int 917536 690)), (917537, (.int 917537 691)), (917538, (.int 917538 692)), (917539, (.int 917539 693)), (917540, (.int 917540 694)), (917541, (.int 917541 695)), (917542, (.int 917542 696)), (917543, (.int 917543 697)), (917544, (.int 917544 698)), (917545, (.int 917545 699)), (917546, (.int 917546 700)), (917547, (.int 917547 701)), (917548, (.int 917548 702)), (917549, (.int 917549 703)), (917550, (.int 917550 704)), (917551, (.int 917551 705)), (917552, (.int 917552 706)), (917553, (.int 917553 707)), (917554, (.int 917554 708)), (917555, (.int 917555 709)), (917556, (.int 917556 710)), (917557, (.int 917557 711)), (917558, (.int 917558 712)), (917559, (.int 917559 713)), (917560, (.int 917560 714)), (917561, (.int 917561 715)), (917562, (.int 917562 716)), (917563, (.int 917563 717)), (917564, (.int 917564 718)), (917565, (.int 917565 719)), (917566, (.int 917566 720)), (917567, (.int 917567 721)), (917568, (.int 917568 722)), (917569, (.int 917569 723)), (917570, (.int 917570 724)), (917571, (.int 917571 725)), (917572, (.int 917572 726)), (917573, (.int 917573 727)), (917574, (.int 917574 728)), (917575, (.int 917575 729)), (917576, (.int 917576 730)), (917577, (.int 917577 731)), (917578, (.int 917578 732)), (917579, (.int 917579 733)), (917580, (.int 917580 734)), (917581, (.int 917581 735)), (917582, (.int 917582 736)), (917583, (.int 917583 737)), (917584, (.int 917584 738)), (917585, (.int 917585 739))]⟩ 53 ⟨127, ⟨[]⟩, ⟨[]⟩, 0, !P.followText "set-order", 2, true⟩), ⟨[]⟩⟩
noncomputable def o143_9 (P : Params) : Obj := ⟨(.type "set"), none, (.set ⟨[(917505, (.int 917505 684)), (917536, (.int 917536 690)), (917537, (.int 917537 691)), (917538, (.int 917538 692)), (917539, (.int 917539 693)), (917540, (.int 917540 694)), (917541, (.int 917541 695)), (917542, (.int 917542 696)), (917543, (.int 917543 697)), (917544, (.int 917544 698)), (917545, (.int 917545 699)), (917546, (.int 917546 700)), (917547, (.int 917547 701)), (917548, (.int 917548 702)), (917549, (.int 917549 703)), (917550, (.int 917550 704)), (917551, (.int 917551 705)), (917552, (.int 917552 706)), (917553, (.int 917553 707)), (917554, (.int 917554 708)), (917555, (.int 917555 709)), (917556, (.int 917556 710)), (917557, (.int 917557 711)), (917558, (.int 917558 712)), (917559, (.int 917559 713)), (917560, (.int 917560 714)), (917561, (.int 917561 715)), (917562, (.int 917562 716)), (917563, (.int 917563 717)), (917564, (.int 917564 718)), (917565, (.int 917565 719)), (917566, (.int 917566 720)), (917567, (.int 917567 721)), (917568, (.int 917568 722)), (917569, (.int 917569 723)), (917570, (.int 917570 724)), (917571, (.int 917571 725)), (917572, (.int 917572 726)), (917573, (.int 917573 727)), (917574, (.int 917574 728)), (917575, (.int 917575 729)), (917576, (.int 917576 730)), (917577, (.int 917577 731)), (917578, (.int 917578 732)), (917579, (.int 917579 733)), (917580, (.int 917580 734)), (917581, (.int 917581 735)), (917582, (.int 917582 736)), (917583, (.int 917583 737)), (917584, (.int 917584 738)), (917585, (.int 917585 739)), (917586, (.int 917586 740)), (917587, (.int 917587 741)), (917588, (.int 917588 742)), (917589, (.int 917589 743)), (917590, (.int 917590 744)), (917591, (.int 917591 745)), (917592, (.int 917592 746)), (917593, (.int 917593 747)), (917594, (.int 917594 748)), (917595, (.int 917595 749))]⟩ 63 ⟨127, ⟨[1, 32, 33, 34, 35, 36, 37, 38, 39, 40, 41, 42, 43, 44, 45, 46, 47, 48, 49, 50, 51, 52, 53, 54, 55, 56, 57, 58, 59, 60, 61, 62, 63, 64, 65, 66, 67, 68, 69, 70, 71, 72, 73, 74, 75, 76, 77, 78, 79, 80, 81, 82, 83, 84, 85, 86, 87, 88, 89, 90, 91]⟩, ⟨[]⟩, 0, !P.followText "set-order", 2, true⟩), ⟨[]⟩⟩
noncomputable def o144_5 (P : Params) : Obj := ⟨(.type "list_iterator"), none, (.fields ⟨[(.ref 142), (.int 61 0)]⟩), ⟨[]⟩⟩
noncomputable def o143_10 (P : Params) : Obj := ⟨(.type "set"), none, (.set ⟨[(917505, (.int 917505 684)), (917536, (.int 917536 690)), (917537, (.int 917537 691)), (917538, (.int 917538 692)), (917539, (.int 917539 693)), (917540, (.int 917540 694)), (917541, (.int 917541 695)), (917542, (.int 917542 696)), (917543, (.int 917543 697)), (917544, (.int 917544 698)), (917545, (.int 917545 699)), (917546, (.int 917546 700)), (917547, (.int 917547 701)), (917548, (.int 917548 702)), (917549, (.int 917549 703)), (917550, (.int 917550 704)), (917551, (.int 917551 705)), (917552, (.int 917552 706)), (917553, (.int 917553 707)), (917554, (.int 917554 708)), (917555, (.int 917555 709)), (917556, (.int 917556 710)), (917557, (.int 917557 711)), (917558, (.int 917558 712)), (917559, (.int 917559 713)), (917560, (.int 917560 714)), (917561, (.int 917561 715)), (917562, (.int 917562 716)), (917563, (.int 917563 717)), (917564, (.int 917564 718)), (917565, (.int 917565 719)), (917566, (.int 917566 720)), (917567, (.int 917567 721)), (917568, (.int 917568 722)), (917569, (.int 917569 723)), (917570, (.int 917570 724)), (917571, (.int 917571 725)), (917572, (.int 917572 726)), (917573, (.int 917573 727)), (917574, (.int 917574 728)), (917575, (.int 917575 729)), (917576, (.int 917576 730)), (917577, (.int 917577 731)), (917578, (.int 917578 732)), (917579, (.int 917579 733)), (917580, (.int 917580 734)), (917581, (.int 917581 735)), (917582, (.int 917582 736)), (917583, (.int 917583 737)), (917584, (.int 917584 738)), (917585, (.int 917585 739)), (917586, (.int 917586 740)), (917587, (.int 917587 741)), (917588, (.int 917588 742)), (917589, (.int 917589 743)), (917590, (.int 917590 744)), (917591, (.int 917591 745)), (917592, (.int 917592 746)), (917593, (.int 917593 747)), (917594, (.int 917594 748)), (917595, (.int 917595 749))]⟩ 63 ⟨127, ⟨[]⟩, ⟨[]⟩, 0, !P.followText "set-order", 2, true⟩), ⟨[]⟩⟩
noncomputable def o143_11 (P : Params) : Obj := ⟨(.type "set"), none, (.set ⟨[(917505, (.int 917505 684)), (917536, (.int 917536 690)), (917537, (.int 917537 691)), (917538, (.int 917538 692)), (917539, (.int 917539 693)), (917540, (.int 917540 694)), (917541, (.int 917541 695)), (917542, (.int 917542 696)), (917543, (.int 917543 697)), (917544, (.int 917544 698)), (917545, (.int 917545 699)), (917546, (.int 917546 700)), (917547, (.int 917547 701)), (917548, (.int 917548 702)), (917549, (.int 917549 703)), (917550, (.int 917550 704)), (917551, (.int 917551 705)), (917552, (.int 917552 706)), (917553, (.int 917553 707)), (917554, (.int 917554 708)), (917555, (.int 917555 709)), (917556, (.int 917556 710)), (917557, (.int 917557 711)), (917558, (.int 917558 712)), (917559, (.int 917559 713)), (917560, (.int 917560 714)), (917561, (.int 917561 715)), (917562, (.int 917562 716)), (917563, (.int 917563 717)), (917564, (.int 917564 718)), (917565, (.int 917565 719)), (917566, (.int 917566 720)), (917567, (.int 917567 721)), (917568, (.int 917568 722)), (917569, (.int 917569 723)), (917570, (.int 917570 724)), (917571, (.int 917571 725)), (917572, (.int 917572 726)), (917573, (.int 917573 727)), (917574, (.int 917574 728)), (917575, (.int 917575 729)), (917576, (.int 917576 730)), (917577, (.int 917577 731)), (917578, (.int 917578 732)), (917579, (.int 917579 733)), (917580, (.int 917580 734)), (917581, (.int 917581 735)), (917582, (.int 917582 736)), (917583, (.int 917583 737)), (917584, (.int 917584 738)), (917585, (.int 917585 739)), (917586, (.int 917586 740)), (917587, (.int 917587 741)), (917588, (.int 917588 742)), (917589, (.int 917589 743)), (917590, (.int 917590 744)), (917591, (.int 917591 745)), (917592, (.int 917592 746)), (917593, (.int 917593 747)), (917594, (.int 917594 748)), (917595, (.int 917595 749)), (917596, (.int 917596 750)), (917597, (.int 917597 751)), (917598, (.int 917598 752)), (917599, (.int 917599 753)), (917600, (.int 917600 754)), (917601, (.int 917601 755)), (917602, (.int 917602 756)), (917603, (.int 917603 757))]⟩ 71 ⟨127, ⟨[1, 32, 33, 34, 35, 36, 37, 38, 39, 40, 41, 42, 43, 44, 45, 46, 47, 48, 49, 50, 51, 52, 53, 54, 55, 56, 57, 58, 59, 60, 61, 62, 63, 64, 65, 66, 67, 68, 69, 70, 71, 72, 73, 74, 75, 76, 77, 78, 79, 80, 81, 82, 83, 84, 85, 86, 87, 88, 89, 90, 91, 92, 93, 94, 95, 96, 97, 98, 99]⟩, ⟨[]⟩, 0, !P.followText "set-order", 2, true⟩), ⟨[]⟩⟩
noncomputable def o144_6 (P : Params) : Obj := ⟨(.type "list_iterator"), none, (.fields ⟨[(.ref 142), (.int 69 0)]⟩), ⟨[]⟩⟩
noncomputable def o143_12 (P : Params) : Obj := ⟨(.type "set"), none, (.set ⟨[(917505, (.int 917505 684)), (917536, (.int 917536 690)), (917537, (.int 917537 691)), (917538, (.int 917538 692)), (917539, (.int 917539 693)), (917540, (.int 917540 694)), (917541, (.int 917541 695)), (917542, (.int 917542 696)), (917543, (.int 917543 697)), (917544, (.int 917544 698)), (917545, (.int 917545 699)), (917546, (.int 917546 700)), (917547, (.int 917547 701)), (917548, (.int 917548 702)), (917549, (.int 917549 703)), (917550, (.int 917550 704)), (917551, (.int 917551 705)), (917552, (.int 917552 706)), (917553, (.int 917553 707)), (917554, (.int 917554 708)), (917555, (.int 917555 709)), (917556, (.int 917556 710)), (917557, (.int 917557 711)), (917558, (.int 917558 712)), (917559, (.int 917559 713)), (917560, (.int 917560 714)), (917561, (.int 917561 715)), (917562, (.int 917562 716)), (917563, (.int 917563 717)), (917564, (.int 917564 718)), (917565, (.int 917565 719)), (917566, (.int 917566 720)), (917567, (.int 917567 721)), (917568, (.int 917568 722)), (917569, (.int 917569 723)), (917570, (.int 917570 724)), (917571, (.int 917571 725)), (917572, (.int 917572 726)), (917573, (.int 917573 727)), (917574, (.int 917574 728)), (917575, (.int 917575 729)), (917576, (.int 917576 730)), (917577, (.int 917577 731)), (917578, (.int 917578 732)), (917579, (.int 917579 733)), (917580, (.int 917580 734)), (917581, (.int 917581 735)), (917582, (.int 917582 736)), (917583, (.int 917583 737)), (917584, (.int 917584 738)), (917585, (.int 917585 739)), (917586, (.int 917586 740)), (917587, (.int 917587 741)), (917588, (.int 917588 742)), (917589, (.int 917589 743)), (917590, (.int 917590 744)), (917591, (.int 917591 745)), (917592, (.int 917592 746)), (917593, (.int 917593 747)), (917594, (.int 917594 748)), (917595, (.int 917595 749)), (917596, (.int 917596 750)), (917597, (.int 917597 751)), (917598, (.int 917598 752)), (917599, (.int 917599 753)), (917600, (.int 917600 754)), (917601, (.int 917601 755)), (917602, (.int 917602 756)), (917603, (.int 917603 757))]⟩ 71 ⟨127, ⟨[]⟩, ⟨[]⟩, 0, !P.followText "set-order", 2, true⟩), ⟨[]⟩⟩
noncomputable def o143_13 (P : Params) : Obj := ⟨(.type "set"), none, (.set ⟨[(917505, (.int 917505 684)), (917536, (.int 917536 690)), (917537, (.int 917537 691)), (917538, (.int 917538 692)), (917539, (.int 917539 693)), (917540, (.int 917540 694)), (917541, (.int 917541 695)), (917542, (.int 917542 696)), (917543, (.int 917543 697)), (917544, (.int 917544 698)), (917545, (.int 917545 699)), (917546, (.int 917546 700)), (917547, (.int 917547 701)), (917548, (.int 917548 702)), (917549, (.int 917549 703)), (917550, (.int 917550 704)), (917551, (.int 917551 705)), (917552, (.int 917552 706)), (917553, (.int 917553 707)), (917554, (.int 917554 708)), (917555, (.int 917555 709)), (917556, (.int 917556 710)), (917557, (.int 917557 711)), (917558, (.int 917558 712)), (917559, (.int 917559 713)), (917560, (.int 917560 714)), (917561, (.int 917561 715)), (917562, (.int 917562 716)), (917563, (.int 917563 717)), (917564, (.int 917564 718)), (917565, (.int 917565 719)), (917566, (.int 917566 720)), (917567, (.int 917567 721)), (917568, (.int 917568 722)), (917569, (.int 917569 723)), (917570, (.int 917570 724)), (917571, (.int 917571 725)), (917572, (.int 917572 726)), (917573, (.int 917573 727)), (917574, (.int 917574 728)), (917575, (.int 917575 729)), (917576, (.int 917576 730)), (917577, (.int 917577 731)), (917578, (.int 917578 732)), (917579, (.int 917579 733)), (917580, (.int 917580 734)), (917581, (.int 917581 735)), (917582, (.int 917582 736)), (917583, (.int 917583 737)), (917584, (.int 917584 738)), (917585, (.int 917585 739)), (917586, (.int 917586 740)), (917587, (.int 917587 741)), (917588, (.int 917588 742)), (917589, (.int 917589 743)), (917590, (.int 917590 744)), (917591, (.int 917591 745)), (917592, (.int 917592 746)), (917593, (.int 917593 747)), (917594, (.int 917594 748)), (917595, (.int 917595 749)), (917596, (.int 917596 750)), (917597, (.int 917597 751)), (917598, (.int 917598 752)), (917599, (.int 917599 753)), (917600, (.int 917600 754)), (917601, (.int 917601 755)), (917602, (.int 917602 756)), (917603, (.int 917603 757)), (917604, (.int 917604 758)), (917605, (.int 917605 759)), (917606, (.int 917606 760)), (917607, (.int 917607 761)), (917608, (.int 917608 762)), (917609, (.int 917609 763)), (917610, (.int 917610 764)), (917611, (.int 917611 765))]⟩ 80 ⟨511, ⟨[1, 32, 33, 34, 35, 36, 37, 38, 39, 40, 41, 42, 43, 44, 45, 46, 47, 48, 49, 50, 51, 52, 53, 54, 55, 56, 57, 58, 59, 60, 61, 62, 63, 64, 65, 66, 67, 68, 69, 70, 71, 72, 73, 74, 75, 76, 77, 78, 79, 80, 81, 82, 83, 84, 85, 86, 87, 88, 89, 90, 91, 92, 93, 94, 95, 96, 97, 98, 99, 100, 101, 102, 103, 104, 105, 106, 107]⟩, ⟨[]⟩, 0, !P.followText "set-order", 3, true⟩), ⟨[]⟩⟩
noncomputable def o144_7 (P : Params) : Obj := ⟨(.type "list_iterator"), none, (.fields ⟨[(.ref 142), (.int 77 0)]⟩), ⟨[]⟩⟩
noncomputable def o143_14 (P : Params) : Obj := ⟨(.type "set"), none, (.set ⟨[(917505, (.int 917505 684)), (917536, (.int 917536 690)), (917537, (.int 917537 691)), (917538, (.int 917538 692)), (917539, (.int 917539 693)), (917540, (.int 917540 694)), (917541, (.int 917541 695)), (917542, (.int 917542 696)), (917543, (.int 917543 697)), (917544, (.int 917544 698)), (917545, (.int 917545 699)), (917546, (.int 917546 700)), (917547, (.int 917547 701)), (917548, (.int 917548 702)), (917549, (.int 917549 703)), (917550, (.int 917550 704)), (917551, (.int 917551 705)), (917552, (.int 917552 706)), (917553, (.int 917553 707)), (917554, (.int 917554 708)), (917555, (.int 917555 709)), (917556, (.int 917556 710)), (917557, (.int 917557 711)), (917558, (.int 917558 712)), (917559, (.int 917559 713)), (917560, (.int 917560 714)), (917561, (.int 917561 715)), (917562, (.int 917562 716)), (917563, (.int 917563 717)), (917564, (.int 917564 718)), (917565, (.int 917565 719)), (917566, (.int 917566 720)), (917567, (.int 917567 721)), (917568, (.int 917568 722)), (917569, (.int 917569 723)), (917570, (.int 917570 724)), (917571, (.int 917571 725)), (917572, (.int 917572 726)), (917573, (.int 917573 727)), (917574, (.int 917574 728)), (917575, (.int 917575 729)), (917576, (.int 917576 730)), (917577, (.int 917577 731)), (917578, (.int 917578 732)), (917579, (.int 917579 733)), (917580, (.int 917580 734)), (917581, (.int 917581 735)), (917582, (.int 917582 736)), (917583, (.int 917583 737)), (917584, (.int 917584 738)), (917585, (.int 917585 739)), (917586, (.int 917586 740)), (917587, (.int 917587 741)), (917588, (.int 917588 742)), (917589, (.int 917589 743)), (917590, (.int 917590 744)), (917591, (.int 917591 745)), (917592, (.int 917592 746)), (917593, (.int 917593 747)), (917594, (.int 917594 748)), (917595, (.int 917595 749)), (917596, (.int 917596 750)), (917597, (.int 917597 751)), (917598, (.int 917598 752)), (917599, (.int 917599 753)), (917600, (.int 917600 754)), (917601, (.int 917601 755)), (917602, (.int 917602 756)), (917603, (.int 917603 757)), (917604, (.int 917604 758)), (917605, (.int 917605 759)), (917606, (.int 917606 760)), (917607, (.int 917607 761)), (917608, (.int 917608 762)), (917609, (.int 917609 763)), (917610, (.int 917610 764)), (917611, (.int 917611 765))]⟩ 80 ⟨511, ⟨[]⟩, ⟨[]⟩, 0, !P.followText "set-order", 3, true⟩), ⟨[]⟩⟩
noncomputable def o143_15 (P : Params) : Obj := ⟨(.type "set"), none, (.set ⟨[(917505, (.int 917505 684)), (917536, (.int 917536 690)), (917537, (.int 917537 691)), (917538, (.int 917538 692)), (917539, (.int 917539 693)), (917540, (.int 917540 694)), (917541, (.int 917541 695)), (917542, (.int 917542 696)), (917543, (.int 917543 697)), (917544, (.int 917544 698)), (917545, (.int 917545 699)), (917546, (.int 917546 700)), (917547, (.int 917547 701)), (917548, (.int 917548 702)), (917549, (.int 917549 703)), (917550, (.int 917550 704)), (917551, (.int 917551 705)), (917552, (.int 917552 706)), (917553, (.int 917553 707)), (917554, (.int 917554 708)), (917555, (.int 917555 709)), (917556, (.int 917556 710)), (917557, (.int 917557 711)), (917558, (.int 917558 712)), (917559, (.int 917559 713)), (917560, (.int 917560 714)), (917561, (.int 917561 715)), (917562, (.int 917562 716)), (917563, (.int 917563 717)), (917564, (.int 917564 718)), (917565, (.int 917565 719)), (917566, (.int 917566 720)), (917567, (.int 917567 721)), (917568, (.int 917568 722)), (917569, (.int 917569 723)), (917570, (.int 917570 724)), (917571, (.int 917571 725)), (917572, (.int 917572 726)), (917573, (.int 917573 727)), (917574, (.int 917574 728)), (917575, (.int 917575 729)), (917576, (.int 917576 730)), (917577, (.int 917577 731)), (917578, (.int 917578 732)), (917579, (.int 917579 733)), (917580, (.int 917580 734)), (917581, (.int 917581 735)), (917582, (.int 917582 736)), (917583, (.int 917583 737)), (917584, (.int 917584 738)), (917585, (.int 917585 739)), (917586, (.int 917586 740)), (917587, (.int 917587 741)), (917588, (.int 917588 742)), (917589, (.int 917589 743)), (917590, (.int 917590 744)), (917591, (.int 917591 745)), (917592, (.int 917592 746)), (917593, (.int 917593 747)), (917594, (.int 917594 748)), (917595, (.int 917595 749)), (917596, (.int 917596 750)), (917597, (.int 917597 751)), (917598, (.int 917598 752)), (917599, (.int 917599 753)), (917600, (.int 917600 754)), (917601, (.int 917601 755)), (917602, (.int 917602 756)), (917603, (.int 917603 757)), (917604, (.int 917604 758)), (917605, (.int 917605 759)), (917606, (.int 917606 760)), (917607, (.int 917607 761)), (917608, (.int 917608 762)), (917609, (.int 917609 763)), (917610, (.int 917610 764)), (917611, (.int 917611 765)), (917612, (.int 917612 766)), (917613, (.int 917613 767)), (917614, (.int 917614 768)), (917615, (.int 917615 769)), (917616, (.int 917616 770))]⟩ 85 ⟨511, ⟨[1, 32, 33, 34, 35, 36, 37, 38, 39, 40, 41, 42, 43, 44, 45, 46, 47, 48, 49, 50, 51, 52, 53, 54, 55, 56, 57, 58, 59, 60, 61, 62, 63, 64, 65, 66, 67, 68, 69, 70, 71, 72, 73, 74, 75, 76, 77, 78, 79, 80, 81, 82, 83, 84, 85, 86, 87, 88, 89, 90, 91, 92, 93, 94, 95, 96, 97, 98, 99, 100, 101, 102, 103, 104, 105, 106, 107, 108, 109, 110, 111, 112]⟩, ⟨[]⟩, 0, !P.followText "set-order", 3, true⟩), ⟨[]⟩⟩
noncomputable def o144_8 (P : Params) : Obj := ⟨(.type "list_iterator"), none, (.fields ⟨[(.ref 142), (.int 82 0)]⟩), ⟨[]⟩⟩
noncomputable def o143_16 (P : Params) : Obj := ⟨(.type "set"), none, (.set ⟨[(917505, (.int 917505 684)), (917536, (.int 917536 690)), (917537, (.int 917537 691)), (917538, (.int 917538 692)), (917539, (.int 917539 693)), (917540, (.int 917540 694)), (917541, (.int 917541 695)), (917542, (.int 917542 696)), (917543, (.int 917543 697)), (917544, (.int 917544 698)), (917545, (.int 917545 699)), (917546, (.int 917546 700)), (917547, (.int 917547 701)), (917548, (.int 917548 702)), (917549, (.int 917549 703)), (917550, (.int 917550 704)), (917551, (.int 917551 705)), (917552, (.int 917552 706)), (917553, (.int 917553 707)), (917554, (.int 917554 708)), (917555, (.int 917555 709)), (917556, (.int 917556 710)), (917557, (.int 917557 711)), (917558, (.int 917558 712)), (917559, (.int 917559 713)), (917560, (.int 917560 714)), (917561, (.int 917561 715)), (917562, (.int 917562 716)), (917563, (.int 917563 717)), (917564, (.int 917564 718)), (917565, (.int 917565 719)), (917566, (.int 917566 720)), (917567, (.int 917567 721)), (917568, (.int 917568 722)), (917569, (.int 917569 723)), (917570, (.int 917570 724)), (917571, (.int 917571 725)), (917572, (.int 917572 726)), (917573, (.int 917573 727)), (917574, (.int 917574 728)), (917575, (.int 917575 729)), (917576, (.int 917576 730)), (917577, (.int 917577 731)), (917578, (.int 917578 732)), (917579, (.int 917579 733)), (917580, (.int 917580 734)), (917581, (.int 917581 735)), (917582, (.int 917582 736)), (917583, (.int 917583 737)), (917584, (.int 917584 738)), (917585, (.int 917585 739)), (917586, (.int 917586 740)), (917587, (.int 917587 741)), (917588, (.int 917588 742)), (917589, (.int 917589 743)), (917590, (.int 917590 744)), (917591, (.int 917591 745)), (917592, (.int 917592 746)), (917593, (.int 917593 747)), (917594, (.int 917594 748)), (917595, (.int 917595 749)), (917596, (.int 917596 750)), (917597, (.int 917597 751)), (917598, (.int 917598 752)), (917599, (.int 917599 753)), (917600, (.int 917600 754)), (917601, (.int 917601 755)), (917602, (.int 917602 756)), (917603, (.int 917603 757)), (917604, (.int 917604 758)), (917605, (.int 917605 759)), (917606, (.int 917606 760)), (917607, (.int 917607 761)), (917608, (.int 917608 762)), (917609, (.int 917609 763)), (917610, (.int 917610 764)), (917611, (.int 917611 765)), (917612, (.int 917612 766)), (917613, (.int 917613 767)), (917614, (.int 917614 768)), (917615, (.int 917615 769)), (917616, (.int 917616 770))]⟩ 85 ⟨511, ⟨[]⟩, ⟨[]⟩, 0, !P.followText "set-order", 3, true⟩), ⟨[]⟩⟩
noncomputable def o143_17 (P : Params) : Obj := ⟨(.type "set"), none, (.set ⟨[(917505, (.int 917505 684)), (917536, (.int 917536 690)), (917537, (.int 917537 691)), (917538, (.int 917538 692)), (917539, (.int 917539 693)), (917540, (.int 917540 694)), (917541, (.int 917541 695)), (917542, (.int 917542 696)), (917543, (.int 917543 697)), (917544, (.int 917544 698)), (917545, (.int 917545 699)), (917546, (.int 917546 700)), (917547, (.int 917547 701)), (917548, (.int 917548 702)), (917549, (.int 917549 703)), (917550, (.int 917550 704)), (917551, (.int 917551 705)), (917552, (.int 917552 706)), (917553, (.int 917553 707)), (917554, (.int 917554 708)), (917555, (.int 917555 709)), (917556, (.int 917556 710)), (917557, (.int 917557 711)), (917558, (.int 917558 712)), (917559, (.int 917559 713)), (917560, (.int 917560 714)), (917561, (.int 917561 715)), (917562, (.int 917562 716)), (917563, (.int 917563 717)), (917564, (.int 917564 718)), (917565, (.int 917565 719)), (917566, (.int 917566 720)), (917567, (.int 917567 721)), (917568, (.int 917568 722)), (917569, (.int 917569 723)), (917570, (.int 917570 724)), (917571, (.int 917571 725)), (917572, (.int 917572 726)), (917573, (.int 917573 727)), (917574, (.int 917574 728)), (917575, (.int 917575 729)), (917576, (.int 917576 730)), (917577, (.int 917577 731)), (917578, (.int 917578 732)), (917579, (.int 917579 733)), (917580, (.int 917580 734)), (917581, (.int 917581 735)), (917582, (.int 917582 736)), (917583, (.int 917583 737)), (917584, (.int 917584 738)), (917585, (.int 917585 739)), (917586, (.int 917586 740)), (917587, (.int 917587 741)), (917588, (.int 917588 742)), (917589, (.int 917589 743)), (917590, (.int 917590 744)), (917591, (.int 917591 745)), (917592, (.int 917592 746)), (917593, (.int 917593 747)), (917594, (.int 917594 748)), (917595, (.int 917595 749)), (917596, (.int 917596 750)), (917597, (.int 917597 751)), (917598, (.int 917598 752)), (917599, (.int 917599 753)), (917600, (.int 917600 754)), (917601, (.int 917601 755)), (917602, (.int 917602 756)), (917603, (.int 917603 757)), (917604, (.int 917604 758)), (917605, (.int 917605 759)), (917606, (.int 917606 760)), (917607, (.int 917607 761)), (917608, (.int 917608 762)), (917609, (.int 917609 763)), (917610, (.int 917610 764)), (917611, (.int 917611 765)), (917612, (.int 917612 766)), (917613, (.int 917613 767)), (917614, (.int 917614 768)), (917615, (.int 917615 769)), (917616, (.int 917616 770)), (917617, (.int 917617 771)), (917618, (.int 917618 772)), (917619, (.int 917619 773)), (917620, (.int 917620 774)), (917621, (.int 917621 775))]⟩ 90 ⟨511, ⟨[1, 32, 33, 34, 35, 36, 37, 38, 39, 40, 41, 42, 43, 44, 45, 46, 47, 48, 49, 50, 51, 52, 53, 54, 55, 56, 57, 58, 59, 60, 61, 62, 63, 64, 65, 66, 67, 68, 69, 70, 71, 72, 73, 74, 75, 76, 77, 78, 79, 80, 81, 82, 83, 84, 85, 86, 87, 88, 89, 90, 91, 92, 93, 94, 95, 96, 97, 98, 99, 100, 101, 102, 103, 104, 105, 106, 107, 108, 109, 110, 111, 112, 113, 114, 115, 116, 117]⟩, ⟨[]⟩, 0, !P.followText "set-order", 3, true⟩), ⟨[]⟩⟩
noncomputable def o144_9 (P : Params) : Obj := ⟨(.type "list_iterator"), none, (.fields ⟨[(.ref 142), (.int 87 0)]⟩), ⟨[]⟩⟩
noncomputable def o143_18 (P : Params) : Obj := ⟨(.type "set"), none, (.set ⟨[(917505, (.int 917505 684)), (917536, (.int 917536 690)), (917537, (.int 917537 691)), (917538, (.int 917538 692)), (917539, (.int 917539 693)), (917540, (.int 917540 694)), (917541, (.int 917541 695)), (917542, (.int 917542 696)), (917543, (.int 917543 697)), (917544, (.int 917544 698)), (917545, (.int 917545 699)), (917546, (.int 917546 700)), (917547, (.int 917547 701)), (917548, (.int 917548 702)), (917549, (.int 917549 703)), (917550, (.int 917550 704)), (917551, (.int 917551 705)), (917552, (.int 917552 706)), (917553, (.int 917553 707)), (917554, (.int 917554 708)), (917555, (.int 917555 709)), (917556, (.int 917556 710)), (917557, (.int 917557 711)), (917558, (.int 917558 712)), (917559, (.int 917559 713)), (917560, (.int 917560 714)), (917561, (.int 917561 715)), (917562, (.int 917562 716)), (917563, (.int 917563 717)), (917564, (.int 917564 718)), (917565, (.int 917565 719)), (917566, (.int 917566 720)), (917567, (.int 917567 721)), (917568, (.int 917568 722)), (917569, (.int 917569 723)), (917570, (.int 917570 724)), (917571, (.int 917571 725)), (917572, (.int 917572 726)), (917573, (.int 917573 727)), (917574, (.int 917574 728)), (917575, (.int 917575 729)), (917576, (.int 917576 730)), (917577, (.int 917577 731)), (917578, (.int 917578 732)), (917579, (.int 917579 733)), (917580, (.int 917580 734)), (917581, (.int 917581 735)), (917582, (.int 917582 736)), (917583, (.int 917583 737)), (917584, (.int 917584 738)), (917585, (.int 917585 739)), (917586, (.int 917586 740)), (917587, (.int 917587 741)), (917588, (.int 917588 742)), (917589, (.int 917589 743)), (917590, (.int 917590 744)), (917591, (.int 917591 745)), (917592, (.int 917592 746)), (917593, (.int 917593 747)), (917594, (.int 917594 748)), (917595, (.int 917595 749)), (917596, (.int 917596 750)), (917597, (.int 917597 751)), (917598, (.int 917598 752)), (917599, (.int 917599 753)), (917600, (.int 917600 754)), (917601, (.int 917601 755)), (917602, (.int 917602 756)), (917603, (.int 917603 757)), (917604, (.int 917604 758)), (917605, (.int 917605 759)), (917606, (.int 917606 760)), (917607, (.int 917607 761)), (917608, (.int 917608 762)), (917609, (.int 917609 763)), (917610, (.int 917610 764)), (917611, (.int 917611 765)), (917612, (.int 917612 766)), (917613, (.int 917613 767)), (917614, (.int 917614 768)), (917615, (.int 917615 769)), (917616, (.int 917616 770)), (917617, (.int 917617 771)), (917618, (.int 917618 772)), (917619, (.int 917619 773)), (917620, (.int 917620 774)), (917621, (.int 917621 775))]⟩ 90 ⟨511, ⟨[]⟩, ⟨[]⟩, 0, !P.followText "set-order", 3, true⟩), ⟨[]⟩⟩
noncomputable def o143_19 (P : Params) : Obj := ⟨(.type "set"), none, (.set ⟨[(917505, (.int 917505 684)), (917536, (.int 917536 690)), (917537, (.int 917537 691)), (917538, (.int 917538 692)), (917539, (.int 917539 693)), (917540, (.int 917540 694)), (917541, (.int 917541 695)), (917542, (.int 917542 696)), (917543, (.int 917543 697)), (917544, (.int 917544 698)), (917545, (.int 917545 699)), (917546, (.int 917546 700)), (917547, (.int 917547 701)), (917548, (.int 917548 702)), (917549, (.int 917549 703)), (917550, (.int 917550 704)), (917551, (.int 917551 705)), (917552, (.int 917552 706)), (917553, (.int 917553 707)), (917554, (.int 917554 708)), (917555, (.int 917555 709)), (917556, (.int 917556 710)), (917557, (.int 917557 711)), (917558, (.int 917558 712)), (917559, (.int 917559 713)), (917560, (.int 917560 714)), (917561, (.int 917561 715)), (917562, (.int 917562 716)), (917563, (.int 917563 717)), (917564, (.int 917564 718)), (917565, (.int 917565 719)), (917566, (.int 917566 720)), (917567, (.int 917567 721)), (917568, (.int 917568 722)), (917569, (.int 917569 723)), (917570, (.int 917570 724)), (917571, (.int 917571 725)), (917572, (.int 917572 726)), (917573, (.int 917573 727)), (917574, (.int 917574 728)), (917575, (.int 917575 729)), (917576, (.int 917576 730)), (917577, (.int 917577 731)), (917578, (.int 917578 732)), (917579, (.int 917579 733)), (917580, (.int 917580 734)), (917581, (.int 917581 735)), (917582, (.int 917582 736)), (917583, (.int 917583 737)), (917584, (.int 917584 738)), (917585, (.int 917585 739)), (917586, (.int 917586 740)), (917587, (.int 917587 741)), (917588, (.int 917588 742)), (917589, (.int 917589 743)), (917590, (.int 917590 744)), (917591, (.int 917591 745)), (917592, (.int 917592 746)), (917593, (.int 917593 747)), (917594, (.int 917594 748)), (917595, (.int 917595 749)), (917596, (.int 917596 750)), (917597, (.int 917597 751)), (917598, (.int 917598 752)), (917599, (.int 917599 753)), (917600, (.int 917600 754)), (917601, (.int 917601 755)), (917602, (.int 917602 756)), (917603, (.int 917603 757)), (917604, (.int 917604 758)), (917605, (.int 917605 759)), (917606, (.int 917606 760)), (917607, (.int 917607 761)), (917608, (.int 917608 762)), (917609, (.int 917609 763)), (917610, (.int 917610 764)), (917611, (.int 917611 765)), (917612, (.int 917612 766)), (917613, (.int 917613 767)), (917614, (.int 917614 768)), (917615, (.int 917615 769)), (917616, (.int 917616 770)), (917617, (.int 917617 771)), (917618, (.int 917618 772)), (917619, (.int 917619 773)), (917620, (.int 917620 774)), (917621, (.int 917621 775)), (917622, (.int 917622 776)), (917623, (.int 917623 777)), (917624, (.int 917624 778)), (917625, (.int 917625 779)), (917626, (.int 917626 780))]⟩ 95 ⟨511, ⟨[1, 32, 33, 34, 35, 36, 37, 38, 39, 40, 41, 42, 43, 44, 45, 46, 47, 48, 49, 50, 51, 52, 53, 54, 55, 56, 57, 58, 59, 60, 61, 62, 63, 64, 65, 66, 67, 68, 69, 70, 71, 72, 73, 74, 75, 76, 77, 78, 79, 80, 81, 82, 83, 84, 85, 86, 87, 88, 89, 90, 91, 92, 93, 94, 95, 96, 97, 98, 99, 100, 101, 102, 103, 104, 105, 106, 107, 108, 109, 110, 111, 112, 113, 114, 115, 116, 117, 118, 119, 120, 121, 122]⟩, ⟨[]⟩, 0, !P.followText "set-order", 3, true⟩), ⟨[]⟩⟩
noncomputable def o144_10 (P : Params) : Obj := ⟨(.type "list_iterator"), none, (.fields ⟨[(.ref 142), (.int 92 0)]⟩), ⟨[]⟩⟩
noncomputable def o143_20 (P : Params) : Obj := ⟨(.type "set"), none, (.set ⟨[(917505, (.int 917505 684)), (917536, (.int 917536 690)), (917537, (.int 917537 691)), (917538, (.int 917538 692)), (917539, (.int 917539 693)), (917540, (.int 917540 694)), (917541, (.int 917541 695)), (917542, (.int 917542 696)), (917543, (.int 917543 697)), (917544, (.int 917544 698)), (917545, (.int 917545 699)), (917546, (.int 917546 700)), (917547, (.int 917547 701)), (917548, (.int 917548 702)), (917549, (.int 917549 703)), (917550, (.int 917550 704)), (917551, (.int 917551 705)), (917552, (.int 917552 706)), (917553, (.int 917553 707)), (917554, (.int 917554 708)), (917555, (.int 917555 709)), (917556, (.int 917556 710)), (917557, (.int 917557 711)), (917558, (.int 917558 712)), (917559, (.int 917559 713)), (917560, (.int 917560 714)), (917561, (.int 917561 715)), (917562, (.int 917562 716)), (917563, (.int 917563 717)), (917564, (.int 917564 718)), (917565, (.int 917565 719)), (917566, (.int 917566 720)), (917567, (.int 917567 721)), (917568, (.int 917568 722)), (917569, (.int 917569 723)), (917570, (.int 917570 724)), (917571, (.int 917571 725)), (917572, (.int 917572 726)), (917573, (.int 917573 727)), (917574, (.int 917574 728)), (917575, (.int 917575 729)), (917576, (.int 917576 730)), (917577, (.int 917577 731)), (917578, (.int 917578 732)), (917579, (.int 917579 733)), (917580, (.int 917580 734)), (917581, (.int 917581 735)), (917582, (.int 917582 736)), (917583, (.int 917583 737)), (917584, (.int 917584 738)), (917585, (.int 917585 739)), (917586, (.int 917586 740)), (917587, (.int 917587 741)), (917588, (.int 917588 742)), (917589, (.int 917589 743)), (917590, (.int 917590 744)), (917591, (.int 917591 745)), (917592, (.int 917592 746)), (917593, (.int 917593 747)), (917594, (.int 917594 748)), (917595, (.int 917595 749)), (917596, (.int 917596 750)), (917597, (.int 917597 751)), (917598, (.int 917598 752)), (917599, (.int 917599 753)), (917600, (.int 917600 754)), (917601, (.int 917601 755)), (917602, (.int 917602 756)), (917603, (.int 917603 757)), (917604, (.int 917604 758)), (917605, (.int 917605 759)), (917606, (.int 917606 760)), (917607, (.int 917607 761)), (917608, (.int 917608 762)), (917609, (.int 917609 763)), (917610, (.int 917610 764)), (917611, (.int 917611 765)), (917612, (.int 917612 766)), (917613, (.int 917613 767)), (917614, (.int 917614 768)), (917615, (.int 917615 769)), (917616, (.int 917616 770)), (917617, (.int 917617 771)), (917618, (.int 917618 772)), (917619, (.int 917619 773)), (917620, (.int 917620 774)), (917621, (.int 917621 775)), (917622, (.int 917622 776)), (917623, (.int 917623 777)), (917624, (.int 917624 778)), (917625, (.int 917625 779)), (917626, (.int 917626 780))]⟩ 95 ⟨511, ⟨[]⟩, ⟨[]⟩, 0, !P.followText "set-order", 3, true⟩), ⟨[]⟩⟩
noncomputable def o144_11 (P : Params) : Obj := ⟨(.type "list_iterator"), none, (.fields ⟨[(.ref 142), (.int 97 0)]⟩), ⟨[]⟩⟩
noncomputable def o143_21 (P : Params) : Obj := ⟨(.type "set"), none, (.set ⟨[(917505, (.int 917505 684)), (917536, (.int 917536 690)), (917537, (.int 917537 691)), (917538, (.int 917538 692)), (917539, (.int 917539 693)), (917540, (.int 917540 694)), (917541, (.int 917541 695)), (917542, (.int 917542 696)), (917543, (.int 917543 697)), (917544, (.int 917544 698)), (917545, (.int 917545 699)), (917546, (.int 917546 700)), (917547, (.int 917547 701)), (917548, (.int 917548 702)), (917549, (.int 917549 703)), (917550, (.int 917550 704)), (917551, (.int 917551 705)), (917552, (.int 917552 706)), (917553, (.int 917553 707)), (917554, (.int 917554 708)), (917555, (.int 917555 709)), (917556, (.int 917556 710)), (917557, (.int 917557 711)), (917558, (.int 917558 712)), (917559, (.int 917559 713)), (917560, (.int 917560 714)), (917561, (.int 917561 715)), (917562, (.int 917562 716)), (917563, (.int 917563 717)), (917564, (.int 917564 718)), (917565, (.int 917565 719)), (917566, (.int 917566 720)), (917567, (.int 917567 721)), (917568, (.int 917568 722)), (917569, (.int 917569 723)), (917570, (.int 917570 724)), (917571, (.int 917571 725)), (917572, (.int 917572 726)), (917573, (.int 917573 727)), (917574, (.int 917574 728)), (917575, (.int 917575 729)), (917576, (.int 917576 730)), (917577, (.int 917577 731)), (917578, (.int 917578 732)), (917579, (.int 917579 733)), (917580, (.int 917580 734)), (917581, (.int 917581 735)), (917582, (.int 917582 736)), (917583, (.int 917583 737)), (917584, (.int 917584 738)), (917585, (.int 917585 739)), (917586, (.int 917586 740)), (917587, (.int 917587 741)), (917588, (.int 917588 742)), (917589, (.int 917589 743)), (917590, (.int 917590 744)), (917591, (.int 917591 745)), (917592, (.int 917592 746)), (917593, (.int 917593 747)), (917594, (.int 917594 748)), (917595, (.int 917595 749)), (917596, (.int 917596 750)), (917597, (.int 917597 751)), (917598, (.int 917598 752)), (917599, (.int 917599 753)), (917600, (.int 917600 754)), (917601, (.int 917601 755)), (917602, (.int 917602 756)), (917603, (.int 917603 757)), (917604, (.int 917604 758)), (917605, (.int 917605 759)), (917606, (.int 917606 760)), (917607, (.int 917607 761)), (917608, (.int 917608 762)), (917609, (.int 917609 763)), (917610, (.int 917610 764)), (917611, (.int 917611 765)), (917612, (.int 917612 766)), (917613, (.int 917613 767)), (917614, (.int 917614 768)), (917615, (.int 917615 769)), (917616, (.int 917616 770)), (917617, (.int 917617 771)), (917618, (.int 917618 772)), (917619, (.int 917619 773)), (917620, (.int 917620 774)), (917621, (.int 917621 775)), (917622, (.int 917622 776)), (917623, (.int 917623 777)), (917624, (.int 917624 778)), (917625, (.int 917625 779)), (917626, (.int 917626 780)), (917627, (.int 917627 781)), (917628, (.int 917628 782)), (917629, (.int 917629 783)), (917630, (.int 917630 784)), (917631, (.int 917631 785))]⟩ 100 ⟨511, ⟨[]⟩, ⟨[]⟩, 0, !P.followText "set-order", 3, true⟩), ⟨[]⟩⟩
noncomputable def T_s0 (P : Params) : BT := (.node (o0_0 P) (.node (o1_0 P) (.node (o3_0 P) (.node (o7_0 P) (.node (o15_0 P) .nil .nil) (.node (o23_0 P) .nil .nil)) (.node (o11_0 P) (.node (o19_0 P) .nil .nil) (.node (o27_0 P) .nil .nil))) (.node (o5_0 P) (.node (o9_0 P) (.node (o17_0 P) .nil .nil) (.node (o25_0 P) .nil .nil)) (.node (o13_0 P) (.node (o21_0 P) .nil .nil) .nil))) (.node (o2_0 P) (.node (o4_0 P) (.node (o8_0 P) (.node (o16_0 P) .nil .nil) (.node (o24_0 P) .nil .nil)) (.node (o12_0 P) (.node (o20_0 P) .nil .nil) .nil)) (.node (o6_0 P) (.node (o10_0 P) (.node (o18_0 P) .nil .nil) (.node (o26_0 P) .nil .nil)) (.node (o14_0 P) (.node (o22_0 P) .nil .nil) .nil))))
noncomputable def S_s0 (w : World) (os : OsState) : SharedT := ⟨T_s0 w.params, 28, {}, #[], {}, 276, os⟩
noncomputable def T_pre (P : Params) : BT := (.node (o0_0 P) (.node (o1_0 P) (.node (o3_0 P) (.node (o7_0 P) (.node (o15_0 P) (.node (o31_0 P) .nil .nil) .nil) (.node (o23_0 P) .nil .nil)) (.node (o11_0 P) (.node (o19_0 P) .nil .nil) (.node (o27_0 P) .nil .nil))) (.node (o5_0 P) (.node (o9_0 P) (.node (o17_0 P) .nil .nil) (.node (o25_0 P) .nil .nil)) (.node (o13_0 P) (.node (o21_0 P) .nil .nil) (.node (o29_0 P) .nil .nil)))) (.node (o2_0 P) (.node (o4_0 P) (.node (o8_0 P) (.node (o16_0 P) .nil .nil) (.node (o24_0 P) .nil .nil)) (.node (o12_0 P) (.node (o20_0 P) .nil .nil) (.node (o28_0 P) .nil .nil))) (.node (o6_0 P) (.node (o10_0 P) (.node (o18_0 P) .nil .nil) (.node (o26_0 P) .nil .nil)) (.node (o14_0 P) (.node (o22_0 P) .nil .nil) (.node (o30_0 P) .nil .nil)))))
noncomputable def S_pre (w : World) (os : OsState) : SharedT := ⟨T_pre w.params, 32, {}, #[], {}, 282, os⟩
noncomputable def T_g1 (P : Params) : BT := (.node (o0_0 P) (.node (o1_0 P) (.node (o3_1 P) (.node (o7_0 P) (.node (o15_0 P) (.node (o31_0 P) .nil .nil) .nil) (.node (o23_0 P) .nil .nil)) (.node (o11_0 P) (.node (o19_0 P) (.node (o35_0 P) .nil .nil) .nil) (.node (o27_0 P) .nil .nil))) (.node (o5_0 P) (.node (o9_0 P) (.node (o17_0 P) (.node (o33_0 P) .nil .nil) .nil) (.node (o25_0 P) .nil .nil)) (.node (o13_0 P) (.node (o21_0 P) .nil .nil) (.node (o29_0 P) .nil .nil)))) (.node (o2_0 P) (.node (o4_0 P) (.node (o8_0 P) (.node (o16_0 P) (.node (o32_0 P) .nil .nil) .nil) (.node (o24_0 P) .nil .nil)) (.node (o12_0 P) (.node (o20_0 P) (.node (o36_0 P) .nil .nil) .nil) (.node (o28_0 P) .nil .nil))) (.node (o6_0 P) (.node (o10_0 P) (.node (o18_0 P) (.node (o34_0 P) .nil .nil) .nil) (.node (o26_0 P) .nil .nil)) (.node (o14_0 P) (.node (o22_0 P) .nil .nil) (.node (o30_0 P) .nil .nil)))))
noncomputable def S_g1 (w : World) (os : OsState) : SharedT := ⟨T_g1 w.params, 37, {}, #[], {}, 322, os⟩
noncomputable def T_g2 (P : Params) : BT := (.node (o0_0 P) (.node (o1_0 P) (.node (o3_2 P) (.node (o7_0 P) (.node (o15_0 P) (.node (o31_0 P) .nil .nil) .nil) (.node (o23_0 P) (.node (o39_0 P) .nil .nil) .nil)) (.node (o11_0 P) (.node (o19_0 P) (.node (o35_0 P) .nil .nil) .nil) (.node (o27_0 P) .nil .nil))) (.node (o5_0 P) (.node (o9_0 P) (.node (o17_0 P) (.node (o33_0 P) .nil .nil) .nil) (.node (o25_0 P) (.node (o41_0 P) .nil .nil) .nil)) (.node (o13_0 P) (.node (o21_0 P) (.node (o37_0 P) .nil .nil) .nil) (.node (o29_0 P) .nil .nil)))) (.node (o2_0 P) (.node (o4_0 P) (.node (o8_0 P) (.node (o16_0 P) (.node (o32_0 P) .nil .nil) .nil) (.node (o24_0 P) (.node (o40_0 P) .nil .nil) .nil)) (.node (o12_0 P) (.node (o20_0 P) (.node (o36_0 P) .nil .nil) .nil) (.node (o28_0 P) .nil .nil))) (.node (o6_0 P) (.node (o10_0 P) (.node (o18_0 P) (.node (o34_0 P) .nil .nil) .nil) (.node (o26_0 P) .nil .nil)) (.node (o14_0 P) (.node (o22_0 P) (.node (o38_0 P) .nil .nil) .nil) (.node (o30_0 P) .nil .nil)))))
noncomputable def S_g2 (w : World) (os : OsState) : SharedT := ⟨T_g2 w.params, 42, {}, #[], {}, 468, os⟩
noncomputable def T_g3 (P : Params) : BT := (.node (o0_0 P) (.node (o1_0 P) (.node (o3_3 P) (.node (o7_0 P) (.node (o15_0 P) (.node (o31_0 P) .nil .nil) (.node (o47_0 P) .nil .nil)) (.node (o23_0 P) (.node (o39_0 P) .nil .nil) (.node (o55_0 P) .nil .nil))) (.node (o11_0 P) (.node (o19_0 P) (.node (o35_0 P) .nil .nil) (.node (o51_0 P) .nil .nil)) (.node (o27_0 P) (.node (o43_0 P) .nil .nil) .nil))) (.node (o5_0 P) (.node (o9_0 P) (.node (o17_0 P) (.node (o33_0 P) .nil .nil) (.node (o49_0 P) .nil .nil)) (.node (o25_0 P) (.node (o41_0 P) .nil .nil) .nil)) (.node (o13_0 P) (.node (o21_0 P) (.node (o37_0 P) .nil .nil) (.node (o53_0 P) .nil .nil)) (.node (o29_1 P) (.node (o45_0 P) .nil .nil) .nil)))) (.node (o2_0 P) (.node (o4_0 P) (.node (o8_0 P) (.node (o16_0 P) (.node (o32_0 P) .nil .nil) (.node (o48_0 P) .nil .nil)) (.node (o24_0 P) (.node (o40_0 P) .nil .nil) .nil)) (.node (o12_0 P) (.node (o20_0 P) (.node (o36_0 P) .nil .nil) (.node (o52_0 P) .nil .nil)) (.node (o28_0 P) (.node (o44_0 P) .nil .nil) .nil))) (.node (o6_0 P) (.node (o10_0 P) (.node (o18_0 P) (.node (o34_0 P) .nil .nil) (.node (o50_0 P) .nil .nil)) (.node (o26_0 P) (.node (o42_0 P) .nil .nil) .nil)) (.node (o14_0 P) (.node (o22_0 P) (.node (o38_0 P) .nil .nil) (.node (o54_0 P) .nil .nil)) (.node (o30_0 P) (.node (o46_0 P) .nil .nil) .nil)))))
noncomputable def S_g3 (w : World) (os : OsState) : SharedT := ⟨T_g3 w.params, 56, {}, #[], {}, 498, os⟩
noncomputable def T_g4 (P : Params) : BT := (.node (o0_0 P) (.node (o1_0 P) (.node (o3_4 P) (.node (o7_0 P) (.node (o15_0 P) (.node (o31_0 P) (.node (o63_0 P) .nil .nil) .nil) (.node (o47_0 P) .nil .nil)) (.node (o23_0 P) (.node (o39_0 P) .nil .nil) (.node (o55_0 P) .nil .nil))) (.node (o11_0 P) (.node (o19_0 P) (.node (o35_0 P) .nil .nil) (.node (o51_0 P) .nil .nil)) (.node (o27_0 P) (.node (o43_0 P) .nil .nil) (.node (o59_0 P) .nil .nil)))) (.node (o5_0 P) (.node (o9_0 P) (.node (o17_0 P) (.node (o33_0 P) (.node (o65_0 P) .nil .nil) .nil) (.node (o49_0 P) .nil .nil)) (.node (o25_0 P) (.node (o41_0 P) .nil .nil) (.node (o57_0 P) .nil .nil))) (.node (o13_0 P) (.node (o21_0 P) (.node (o37_0 P) .nil .nil) (.node (o53_0 P) .nil .nil)) (.node (o29_1 P) (.node (o45_0 P) .nil .nil) (.node (o61_0 P) .nil .nil))))) (.node (o2_0 P) (.node (o4_0 P) (.node (o8_0 P) (.node (o16_0 P) (.node (o32_0 P) (.node (o64_0 P) .nil .nil) .nil) (.node (o48_0 P) .nil .nil)) (.node (o24_0 P) (.node (o40_0 P) .nil .nil) (.node (o56_0 P) .nil .nil))) (.node (o12_0 P) (.node (o20_0 P) (.node (o36_0 P) .nil .nil) (.node (o52_0 P) .nil .nil)) (.node (o28_0 P) (.node (o44_0 P) .nil .nil) (.node (o60_0 P) .nil .nil)))) (.node (o6_0 P) (.node (o10_0 P) (.node (o18_0 P) (.node (o34_0 P) (.node (o66_0 P) .nil .nil) .nil) (.node (o50_0 P) .nil .nil)) (.node (o26_0 P) (.node (o42_0 P) .nil .nil) (.node (o58_0 P) .nil .nil))) (.node (o14_0 P) (.node (o22_0 P) (.node (o38_0 P) .nil .nil) (.node (o54_0 P) .nil .nil)) (.node (o30_0 P) (.node (o46_0 P) .nil .nil) (.node (o62_0 P) .nil .nil))))))
noncomputable def S_g4 (w : World) (os : OsState) : SharedT := ⟨T_g4 w.params, 67, {}, #[], {}, 558, os⟩
noncomputable def T_g5 (P : Params) : BT := (.node (o0_0 P) (.node (o1_0 P) (.node (o3_5 P) (.node (o7_0 P) (.node (o15_0 P) (.node (o31_0 P) (.node (o63_0 P) .nil .nil) .nil) (.node (o47_0 P) (.node (o79_0 P) .nil .nil) .nil)) (.node (o23_0 P) (.node (o39_0 P) (.node (o71_0 P) .nil .nil) .nil) (.node (o55_0 P) (.node (o87_0 P) .nil .nil) .nil))) (.node (o11_0 P) (.node (o19_0 P) (.node (o35_0 P) (.node (o67_0 P) .nil .nil) .nil) (.node (o51_0 P) (.node (o83_0 P) .nil .nil) .nil)) (.node (o27_0 P) (.node (o43_0 P) (.node (o75_0 P) .nil .nil) .nil) (.node (o59_0 P) (.node (o91_0 P) .nil .nil) .nil)))) (.node (o5_0 P) (.node (o9_0 P) (.node (o17_0 P) (.node (o33_0 P) (.node (o65_0 P) .nil .nil) .nil) (.node (o49_0 P) (.node (o81_0 P) .nil .nil) .nil)) (.node (o25_0 P) (.node (o41_0 P) (.node (o73_0 P) .nil .nil) .nil) (.node (o57_0 P) (.node (o89_0 P) .nil .nil) .nil))) (.node (o13_0 P) (.node (o21_0 P) (.node (o37_0 P) (.node (o69_0 P) .nil .nil) .nil) (.node (o53_0 P) (.node (o85_0 P) .nil .nil) .nil)) (.node (o29_2 P) (.node (o45_0 P) (.node (o77_0 P) .nil .nil) .nil) (.node (o61_0 P) .nil .nil))))) (.node (o2_0 P) (.node (o4_0 P) (.node (o8_0 P) (.node (o16_0 P) (.node (o32_0 P) (.node (o64_0 P) .nil .nil) .nil) (.node (o48_0 P) (.node (o80_0 P) .nil .nil) .nil)) (.node (o24_0 P) (.node (o40_0 P) (.node (o72_0 P) .nil .nil) .nil) (.node (o56_0 P) (.node (o88_0 P) .nil .nil) .nil))) (.node (o12_0 P) (.node (o20_0 P) (.node (o36_0 P) (.node (o68_0 P) .nil .nil) .nil) (.node (o52_0 P) (.node (o84_0 P) .nil .nil) .nil)) (.node (o28_0 P) (.node (o44_0 P) (.node (o76_0 P) .nil .nil) .nil) (.node (o60_0 P) (.node (o92_0 P) .nil .nil) .nil)))) (.node (o6_0 P) (.node (o10_0 P) (.node (o18_0 P) (.node (o34_0 P) (.node (o66_0 P) .nil .nil) .nil) (.node (o50_0 P) (.node (o82_0 P) .nil .nil) .nil)) (.node (o26_0 P) (.node (o42_0 P) (.node (o74_0 P) .nil .nil) .nil) (.node (o58_0 P) (.node (o90_0 P) .nil .nil) .nil))) (.node (o14_0 P) (.node (o22_0 P) (.node (o38_0 P) (.node (o70_0 P) .nil .nil) .nil) (.node (o54_0 P) (.node (o86_0 P) .nil .nil) .nil)) (.node (o30_0 P) (.node (o46_0 P) (.node (o78_0 P) .nil .nil) .nil) (.node (o62_0 P) .nil .nil))))))
noncomputable def S_g5 (w : World) (os : OsState) : SharedT := ⟨T_g5 w.params, 93, {}, #[], {}, 594, os⟩
noncomputable def T_g6 (P : Params) : BT := (.node (o0_0 P) (.node (o1_0 P) (.node (o3_6 P) (.node (o7_0 P) (.node (o15_0 P) (.node (o31_0 P) (.node (o63_0 P) .nil .nil) (.node (o95_0 P) .nil .nil)) (.node (o47_0 P) (.node (o79_0 P) .nil .nil) .nil)) (.node (o23_0 P) (.node (o39_0 P) (.node (o71_0 P) .nil .nil) (.node (o103_0 P) .nil .nil)) (.node (o55_0 P) (.node (o87_0 P) .nil .nil) .nil))) (.node (o11_0 P) (.node (o19_0 P) (.node (o35_0 P) (.node (o67_0 P) .nil .nil) (.node (o99_0 P) .nil .nil)) (.node (o51_0 P) (.node (o83_0 P) .nil .nil) .nil)) (.node (o27_0 P) (.node (o43_0 P) (.node (o75_0 P) .nil .nil) .nil) (.node (o59_0 P) (.node (o91_0 P) .nil .nil) .nil)))) (.node (o5_0 P) (.node (o9_0 P) (.node (o17_0 P) (.node (o33_0 P) (.node (o65_0 P) .nil .nil) (.node (o97_0 P) .nil .nil)) (.node (o49_0 P) (.node (o81_0 P) .nil .nil) .nil)) (.node (o25_0 P) (.node (o41_0 P) (.node (o73_0 P) .nil .nil) .nil) (.node (o57_0 P) (.node (o89_0 P) .nil .nil) .nil))) (.node (o13_0 P) (.node (o21_0 P) (.node (o37_0 P) (.node (o69_0 P) .nil .nil) (.node (o101_0 P) .nil .nil)) (.node (o53_0 P) (.node (o85_0 P) .nil .nil) .nil)) (.node (o29_3 P) (.node (o45_0 P) (.node (o77_0 P) .nil .nil) .nil) (.node (o61_0 P) (.node (o93_0 P) .nil .nil) .nil))))) (.node (o2_0 P) (.node (o4_0 P) (.node (o8_0 P) (.node (o16_0 P) (.node (o32_0 P) (.node (o64_0 P) .nil .nil) (.node (o96_0 P) .nil .nil)) (.node (o48_0 P) (.node (o80_0 P) .nil .nil) .nil)) (.node (o24_0 P) (.node (o40_0 P) (.node (o72_0 P) .nil .nil) (.node (o104_0 P) .nil .nil)) (.node (o56_0 P) (.node (o88_0 P) .nil .nil) .nil))) (.node (o12_0 P) (.node (o20_0 P) (.node (o36_0 P) (.node (o68_0 P) .nil .nil) (.node (o100_0 P) .nil .nil)) (.node (o52_0 P) (.node (o84_0 P) .nil .nil) .nil)) (.node (o28_0 P) (.node (o44_0 P) (.node (o76_0 P) .nil .nil) .nil) (.node (o60_0 P) (.node (o92_0 P) .nil .nil) .nil)))) (.node (o6_0 P) (.node (o10_0 P) (.node (o18_0 P) (.node (o34_0 P) (.node (o66_0 P) .nil .nil) (.node (o98_0 P) .nil .nil)) (.node (o50_0 P) (.node (o82_0 P) .nil .nil) .nil)) (.node (o26_0 P) (.node (o42_0 P) (.node (o74_0 P) .nil .nil) .nil) (.node (o58_0 P) (.node (o90_0 P) .nil .nil) .nil))) (.node (o14_0 P) (.node (o22_0 P) (.node (o38_0 P) (.node (o70_0 P) .nil .nil) (.node (o102_0 P) .nil .nil)) (.node (o54_0 P) (.node (o86_0 P) .nil .nil) .nil)) (.node (o30_0 P) (.node (o46_0 P) (.node (o78_0 P) .nil .nil) .nil) (.node (o62_0 P) (.node (o94_0 P) .nil .nil) .nil))))))
noncomputable def S_g6 (w : World) (os : OsState) : SharedT := ⟨T_g6 w.params, 105, {}, #[], {}, 629, os⟩
noncomputable def T_g7 (P : Params) : BT := (.node (o0_0 P) (.node (o1_0 P) (.node (o3_7 P) (.node (o7_0 P) (.node (o15_0 P) (.node (o31_0 P) (.node (o63_0 P) (.node (o127_0 P) .nil .nil) .nil) (.node (o95_0 P) .nil .nil)) (.node (o47_0 P) (.node (o79_0 P) .nil .nil) (.node (o111_0 P) .nil .nil))) (.node (o23_0 P) (.node (o39_0 P) (.node (o71_0 P) .nil .nil) (.node (o103_0 P) .nil .nil)) (.node (o55_0 P) (.node (o87_0 P) .nil .nil) (.node (o119_0 P) .nil .nil)))) (.node (o11_0 P) (.node (o19_0 P) (.node (o35_0 P) (.node (o67_0 P) .nil .nil) (.node (o99_0 P) .nil .nil)) (.node (o51_0 P) (.node (o83_0 P) .nil .nil) (.node (o115_0 P) .nil .nil))) (.node (o27_0 P) (.node (o43_0 P) (.node (o75_0 P) .nil .nil) (.node (o107_0 P) .nil .nil)) (.node (o59_0 P) (.node (o91_0 P) .nil .nil) (.node (o123_0 P) .nil .nil))))) (.node (o5_0 P) (.node (o9_0 P) (.node (o17_0 P) (.node (o33_0 P) (.node (o65_0 P) .nil .nil) (.node (o97_0 P) .nil .nil)) (.node (o49_0 P) (.node (o81_0 P) .nil .nil) (.node (o113_0 P) .nil .nil))) (.node (o25_0 P) (.node (o41_0 P) (.node (o73_0 P) .nil .nil) (.node (o105_0 P) .nil .nil)) (.node (o57_0 P) (.node (o89_0 P) .nil .nil) (.node (o121_0 P) .nil .nil)))) (.node (o13_0 P) (.node (o21_0 P) (.node (o37_0 P) (.node (o69_0 P) .nil .nil) (.node (o101_0 P) .nil .nil)) (.node (o53_0 P) (.node (o85_0 P) .nil .nil) (.node (o117_0 P) .nil .nil))) (.node (o29_4 P) (.node (o45_0 P) (.node (o77_0 P) .nil .nil) (.node (o109_0 P) .nil .nil)) (.node (o61_0 P) (.node (o93_0 P) .nil .nil) (.node (o125_0 P) .nil .nil)))))) (.node (o2_0 P) (.node (o4_0 P) (.node (o8_0 P) (.node (o16_0 P) (.node (o32_0 P) (.node (o64_0 P) (.node (o128_0 P) .nil .nil) .nil) (.node (o96_0 P) .nil .nil)) (.node (o48_0 P) (.node (o80_0 P) .nil .nil) (.node (o112_0 P) .nil .nil))) (.node (o24_0 P) (.node (o40_0 P) (.node (o72_0 P) .nil .nil) (.node (o104_0 P) .nil .nil)) (.node (o56_0 P) (.node (o88_0 P) .nil .nil) (.node (o120_0 P) .nil .nil)))) (.node (o12_0 P) (.node (o20_0 P) (.node (o36_0 P) (.node (o68_0 P) .nil .nil) (.node (o100_0 P) .nil .nil)) (.node (o52_0 P) (.node (o84_0 P) .nil .nil) (.node (o116_0 P) .nil .nil))) (.node (o28_0 P) (.node (o44_0 P) (.node (o76_0 P) .nil .nil) (.node (o108_0 P) .nil .nil)) (.node (o60_0 P) (.node (o92_0 P) .nil .nil) (.node (o124_0 P) .nil .nil))))) (.node (o6_0 P) (.node (o10_0 P) (.node (o18_0 P) (.node (o34_0 P) (.node (o66_0 P) .nil .nil) (.node (o98_0 P) .nil .nil)) (.node (o50_0 P) (.node (o82_0 P) .nil .nil) (.node (o114_0 P) .nil .nil))) (.node (o26_0 P) (.node (o42_0 P) (.node (o74_0 P) .nil .nil) (.node (o106_0 P) .nil .nil)) (.node (o58_0 P) (.node (o90_0 P) .nil .nil) (.node (o122_0 P) .nil .nil)))) (.node (o14_0 P) (.node (o22_0 P) (.node (o38_0 P) (.node (o70_0 P) .nil .nil) (.node (o102_0 P) .nil .nil)) (.node (o54_0 P) (.node (o86_0 P) .nil .nil) (.node (o118_0 P) .nil .nil))) (.node (o30_0 P) (.node (o46_0 P) (.node (o78_0 P) .nil .nil) (.node (o110_0 P) .nil .nil)) (.node (o62_0 P) (.node (o94_0 P) .nil .nil) (.node (o126_0 P) .nil .nil)))))))
noncomputable def S_g7 (w : World) (os : OsState) : SharedT := ⟨T_g7 w.params, 129, {}, #[], {}, 677, os⟩
noncomputable def T_g8 (P : Params) : BT := (.node (o0_0 P) (.node (o1_0 P) (.node (o3_8 P) (.node (o7_0 P) (.node (o15_0 P) (.node (o31_0 P) (.node (o63_0 P) (.node (o127_0 P) .nil .nil) .nil) (.node (o95_0 P) .nil .nil)) (.node (o47_0 P) (.node (o79_0 P) .nil .nil) (.node (o111_0 P) .nil .nil))) (.node (o23_0 P) (.node (o39_0 P) (.node (o71_0 P) (.node (o135_0 P) .nil .nil) .nil) (.node (o103_0 P) .nil .nil)) (.node (o55_0 P) (.node (o87_0 P) .nil .nil) (.node (o119_0 P) .nil .nil)))) (.node (o11_0 P) (.node (o19_0 P) (.node (o35_0 P) (.node (o67_0 P) (.node (o131_0 P) .nil .nil) .nil) (.node (o99_0 P) .nil .nil)) (.node (o51_0 P) (.node (o83_0 P) .nil .nil) (.node (o115_0 P) .nil .nil))) (.node (o27_0 P) (.node (o43_0 P) (.node (o75_0 P) .nil .nil) (.node (o107_0 P) .nil .nil)) (.node (o59_0 P) (.node (o91_0 P) .nil .nil) (.node (o123_0 P) .nil .nil))))) (.node (o5_0 P) (.node (o9_0 P) (.node (o17_0 P) (.node (o33_0 P) (.node (o65_0 P) (.node (o129_0 P) .nil .nil) .nil) (.node (o97_0 P) .nil .nil)) (.node (o49_0 P) (.node (o81_0 P) .nil .nil) (.node (o113_0 P) .nil .nil))) (.node (o25_0 P) (.node (o41_0 P) (.node (o73_0 P) .nil .nil) (.node (o105_0 P) .nil .nil)) (.node (o57_0 P) (.node (o89_0 P) .nil .nil) (.node (o121_0 P) .nil .nil)))) (.node (o13_0 P) (.node (o21_0 P) (.node (o37_0 P) (.node (o69_0 P) (.node (o133_0 P) .nil .nil) .nil) (.node (o101_0 P) .nil .nil)) (.node (o53_0 P) (.node (o85_0 P) .nil .nil) (.node (o117_0 P) .nil .nil))) (.node (o29_5 P) (.node (o45_0 P) (.node (o77_0 P) .nil .nil) (.node (o109_0 P) .nil .nil)) (.node (o61_0 P) (.node (o93_0 P) .nil .nil) (.node (o125_0 P) .nil .nil)))))) (.node (o2_0 P) (.node (o4_0 P) (.node (o8_0 P) (.node (o16_0 P) (.node (o32_0 P) (.node (o64_0 P) (.node (o128_0 P) .nil .nil) .nil) (.node (o96_0 P) .nil .nil)) (.node (o48_0 P) (.node (o80_0 P) .nil .nil) (.node (o112_0 P) .nil .nil))) (.node (o24_0 P) (.node (o40_0 P) (.node (o72_0 P) .nil .nil) (.node (o104_0 P) .nil .nil)) (.node (o56_0 P) (.node (o88_0 P) .nil .nil) (.node (o120_0 P) .nil .nil)))) (.node (o12_0 P) (.node (o20_0 P) (.node (o36_0 P) (.node (o68_0 P) (.node (o132_0 P) .nil .nil) .nil) (.node (o100_0 P) .nil .nil)) (.node (o52_0 P) (.node (o84_0 P) .nil .nil) (.node (o116_0 P) .nil .nil))) (.node (o28_0 P) (.node (o44_0 P) (.node (o76_0 P) .nil .nil) (.node (o108_0 P) .nil .nil)) (.node (o60_0 P) (.node (o92_0 P) .nil .nil) (.node (o124_0 P) .nil .nil))))) (.node (o6_0 P) (.node (o10_0 P) (.node (o18_0 P) (.node (o34_0 P) (.node (o66_0 P) (.node (o130_0 P) .nil .nil) .nil) (.node (o98_0 P) .nil .nil)) (.node (o50_0 P) (.node (o82_0 P) .nil .nil) (.node (o114_0 P) .nil .nil))) (.node (o26_0 P) (.node (o42_0 P) (.node (o74_0 P) .nil .nil) (.node (o106_0 P) .nil .nil)) (.node (o58_0 P) (.node (o90_0 P) .nil .nil) (.node (o122_0 P) .nil .nil)))) (.node (o14_0 P) (.node (o22_0 P) (.node (o38_0 P) (.node (o70_0 P) (.node (o134_0 P) .nil .nil) .nil) (.node (o102_0 P) .nil .nil)) (.node (o54_0 P) (.node (o86_0 P) .nil .nil) (.node (o118_0 P) .nil .nil))) (.node (o30_0 P) (.node (o46_0 P) (.node (o78_0 P) .nil .nil) (.node (o110_0 P) .nil .nil)) (.node (o62_0 P) (.node (o94_0 P) .nil .nil) (.node (o126_0 P) .nil .nil)))))))
noncomputable def S_g8 (w : World) (os : OsState) : SharedT := ⟨T_g8 w.params, 136, {}, #[], {}, 684, os⟩
noncomputable def T_g9 (P : Params) : BT := (.node (o0_0 P) (.node (o1_0 P) (.node (o3_9 P) (.node (o7_0 P) (.node (o15_0 P) (.node (o31_0 P) (.node (o63_0 P) (.node (o127_0 P) .nil .nil) .nil) (.node (o95_0 P) .nil .nil)) (.node (o47_0 P) (.node (o79_0 P) (.node (o143_0 P) .nil .nil) .nil) (.node (o111_0 P) .nil .nil))) (.node (o23_0 P) (.node (o39_0 P) (.node (o71_0 P) (.node (o135_0 P) .nil .nil) .nil) (.node (o103_0 P) .nil .nil)) (.node (o55_0 P) (.node (o87_0 P) .nil .nil) (.node (o119_0 P) .nil .nil)))) (.node (o11_0 P) (.node (o19_0 P) (.node (o35_0 P) (.node (o67_0 P) (.node (o131_0 P) .nil .nil) .nil) (.node (o99_0 P) .nil .nil)) (.node (o51_0 P) (.node (o83_0 P) .nil .nil) (.node (o115_0 P) .nil .nil))) (.node (o27_0 P) (.node (o43_0 P) (.node (o75_0 P) (.node (o139_0 P) .nil .nil) .nil) (.node (o107_0 P) .nil .nil)) (.node (o59_0 P) (.node (o91_0 P) .nil .nil) (.node (o123_0 P) .nil .nil))))) (.node (o5_0 P) (.node (o9_0 P) (.node (o17_0 P) (.node (o33_0 P) (.node (o65_0 P) (.node (o129_0 P) .nil .nil) .nil) (.node (o97_0 P) .nil .nil)) (.node (o49_0 P) (.node (o81_0 P) (.node (o145_0 P) .nil .nil) .nil) (.node (o113_0 P) .nil .nil))) (.node (o25_0 P) (.node (o41_0 P) (.node (o73_0 P) (.node (o137_0 P) .nil .nil) .nil) (.node (o105_0 P) .nil .nil)) (.node (o57_0 P) (.node (o89_0 P) .nil .nil) (.node (o121_0 P) .nil .nil)))) (.node (o13_0 P) (.node (o21_0 P) (.node (o37_0 P) (.node (o69_0 P) (.node (o133_0 P) .nil .nil) .nil) (.node (o101_0 P) .nil .nil)) (.node (o53_0 P) (.node (o85_0 P) .nil .nil) (.node (o117_0 P) .nil .nil))) (.node (o29_5 P) (.node (o45_0 P) (.node (o77_0 P) (.node (o141_0 P) .nil .nil) .nil) (.node (o109_0 P) .nil .nil)) (.node (o61_0 P) (.node (o93_0 P) .nil .nil) (.node (o125_0 P) .nil .nil)))))) (.node (o2_0 P) (.node (o4_0 P) (.node (o8_0 P) (.node (o16_0 P) (.node (o32_0 P) (.node (o64_0 P) (.node (o128_0 P) .nil .nil) .nil) (.node (o96_0 P) .nil .nil)) (.node (o48_0 P) (.node (o80_0 P) (.node (o144_0 P) .nil .nil) .nil) (.node (o112_0 P) .nil .nil))) (.node (o24_0 P) (.node (o40_0 P) (.node (o72_0 P) (.node (o136_0 P) .nil .nil) .nil) (.node (o104_0 P) .nil .nil)) (.node (o56_0 P) (.node (o88_0 P) .nil .nil) (.node (o120_0 P) .nil .nil)))) (.node (o12_0 P) (.node (o20_0 P) (.node (o36_0 P) (.node (o68_0 P) (.node (o132_0 P) .nil .nil) .nil) (.node (o100_0 P) .nil .nil)) (.node (o52_0 P) (.node (o84_0 P) .nil .nil) (.node (o116_0 P) .nil .nil))) (.node (o28_0 P) (.node (o44_0 P) (.node (o76_0 P) (.node (o140_0 P) .nil .nil) .nil) (.node (o108_0 P) .nil .nil)) (.node (o60_0 P) (.node (o92_0 P) .nil .nil) (.node (o124_0 P) .nil .nil))))) (.node (o6_0 P) (.node (o10_0 P) (.node (o18_0 P) (.node (o34_0 P) (.node (o66_0 P) (.node (o130_0 P) .nil .nil) .nil) (.node (o98_0 P) .nil .nil)) (.node (o50_0 P) (.node (o82_0 P) (.node (o146_0 P) .nil .nil) .nil) (.node (o114_0 P) .nil .nil))) (.node (o26_0 P) (.node (o42_0 P) (.node (o74_0 P) (.node (o138_0 P) .nil .nil) .nil) (.node (o106_0 P) .nil .nil)) (.node (o58_0 P) (.node (o90_0 P) .nil .nil) (.node (o122_0 P) .nil .nil)))) (.node (o14_0 P) (.node (o22_0 P) (.node (o38_0 P) (.node (o70_0 P) (.node (o134_0 P) .nil .nil) .nil) (.node (o102_0 P) .nil .nil)) (.node (o54_0 P) (.node (o86_0 P) .nil .nil) (.node (o118_0 P) .nil .nil))) (.node (o30_0 P) (.node (o46_0 P) (.node (o78_0 P) (.node (o142_0 P) .nil .nil) .nil) (.node (o110_0 P) .nil .nil)) (.node (o62_0 P) (.node (o94_0 P) .nil .nil) (.node (o126_0 P) .nil .nil)))))))
noncomputable def S_g9 (w : World) (os : OsState) : SharedT := ⟨T_g9 w.params, 147, {}, #[], {}, 884, os⟩
noncomputable def T_g10 (P : Params) : BT := (.node (o0_0 P) (.node (o1_0 P) (.node (o3_10 P) (.node (o7_0 P) (.node (o15_0 P) (.node (o31_0 P) (.node (o63_0 P) (.node (o127_0 P) .nil .nil) (.node (o191_0 P) .nil .nil)) (.node (o95_0 P) (.node (o159_0 P) .nil .nil) .nil)) (.node (o47_0 P) (.node (o79_0 P) (.node (o143_0 P) .nil .nil) (.node (o207_0 P) .nil .nil)) (.node (o111_0 P) (.node (o175_0 P) .nil .nil) .nil))) (.node (o23_0 P) (.node (o39_0 P) (.node (o71_0 P) (.node (o135_0 P) .nil .nil) (.node (o199_0 P) .nil .nil)) (.node (o103_0 P) (.node (o167_0 P) .nil .nil) .nil)) (.node (o55_0 P) (.node (o87_0 P) (.node (o151_0 P) .nil .nil) .nil) (.node (o119_0 P) (.node (o183_0 P) .nil .nil) .nil)))) (.node (o11_0 P) (.node (o19_0 P) (.node (o35_0 P) (.node (o67_0 P) (.node (o131_0 P) .nil .nil) (.node (o195_0 P) .nil .nil)) (.node (o99_0 P) (.node (o163_0 P) .nil .nil) .nil)) (.node (o51_0 P) (.node (o83_0 P) (.node (o147_0 P) .nil .nil) .nil) (.node (o115_0 P) (.node (o179_0 P) .nil .nil) .nil))) (.node (o27_0 P) (.node (o43_0 P) (.node (o75_0 P) (.node (o139_0 P) .nil .nil) (.node (o203_0 P) .nil .nil)) (.node (o107_0 P) (.node (o171_0 P) .nil .nil) .nil)) (.node (o59_0 P) (.node (o91_0 P) (.node (o155_0 P) .nil .nil) .nil) (.node (o123_0 P) (.node (o187_0 P) .nil .nil) .nil))))) (.node (o5_0 P) (.node (o9_0 P) (.node (o17_0 P) (.node (o33_0 P) (.node (o65_0 P) (.node (o129_0 P) .nil .nil) (.node (o193_0 P) .nil .nil)) (.node (o97_0 P) (.node (o161_0 P) .nil .nil) .nil)) (.node (o49_0 P) (.node (o81_0 P) (.node (o145_0 P) .nil .nil) (.node (o209_0 P) .nil .nil)) (.node (o113_0 P) (.node (o177_0 P) .nil .nil) .nil))) (.node (o25_0 P) (.node (o41_0 P) (.node (o73_0 P) (.node (o137_0 P) .nil .nil) (.node (o201_0 P) .nil .nil)) (.node (o105_0 P) (.node (o169_0 P) .nil .nil) .nil)) (.node (o57_0 P) (.node (o89_0 P) (.node (o153_0 P) .nil .nil) .nil) (.node (o121_0 P) (.node (o185_0 P) .nil .nil) .nil)))) (.node (o13_0 P) (.node (o21_0 P) (.node (o37_0 P) (.node (o69_0 P) (.node (o133_0 P) .nil .nil) (.node (o197_0 P) .nil .nil)) (.node (o101_0 P) (.node (o165_0 P) .nil .nil) .nil)) (.node (o53_0 P) (.node (o85_0 P) (.node (o149_0 P) .nil .nil) .nil) (.node (o117_0 P) (.node (o181_0 P) .nil .nil) .nil))) (.node (o29_6 P) (.node (o45_0 P) (.node (o77_0 P) (.node (o141_0 P) .nil .nil) (.node (o205_0 P) .nil .nil)) (.node (o109_0 P) (.node (o173_0 P) .nil .nil) .nil)) (.node (o61_0 P) (.node (o93_0 P) (.node (o157_0 P) .nil .nil) .nil) (.node (o125_0 P) (.node (o189_0 P) .nil .nil) .nil)))))) (.node (o2_0 P) (.node (o4_0 P) (.node (o8_0 P) (.node (o16_0 P) (.node (o32_0 P) (.node (o64_0 P) (.node (o128_0 P) .nil .nil) (.node (o192_0 P) .nil .nil)) (.node (o96_0 P) (.node (o160_0 P) .nil .nil) .nil)) (.node (o48_0 P) (.node (o80_0 P) (.node (o144_0 P) .nil .nil) (.node (o208_0 P) .nil .nil)) (.node (o112_0 P) (.node (o176_0 P) .nil .nil) .nil))) (.node (o24_0 P) (.node (o40_0 P) (.node (o72_0 P) (.node (o136_0 P) .nil .nil) (.node (o200_0 P) .nil .nil)) (.node (o104_0 P) (.node (o168_0 P) .nil .nil) .nil)) (.node (o56_0 P) (.node (o88_0 P) (.node (o152_0 P) .nil .nil) .nil) (.node (o120_0 P) (.node (o184_0 P) .nil .nil) .nil)))) (.node (o12_0 P) (.node (o20_0 P) (.node (o36_0 P) (.node (o68_0 P) (.node (o132_0 P) .nil .nil) (.node (o196_0 P) .nil .nil)) (.node (o100_0 P) (.node (o164_0 P) .nil .nil) .nil)) (.node (o52_0 P) (.node (o84_0 P) (.node (o148_0 P) .nil .nil) .nil) (.node (o116_0 P) (.node (o180_0 P) .nil .nil) .nil))) (.node (o28_0 P) (.node (o44_0 P) (.node (o76_0 P) (.node (o140_0 P) .nil .nil) (.node (o204_0 P) .nil .nil)) (.node (o108_0 P) (.node (o172_0 P) .nil .nil) .nil)) (.node (o60_0 P) (.node (o92_0 P) (.node (o156_0 P) .nil .nil) .nil) (.node (o124_0 P) (.node (o188_0 P) .nil .nil) .nil))))) (.node (o6_0 P) (.node (o10_0 P) (.node (o18_0 P) (.node (o34_0 P) (.node (o66_0 P) (.node (o130_0 P) .nil .nil) (.node (o194_0 P) .nil .nil)) (.node (o98_0 P) (.node (o162_0 P) .nil .nil) .nil)) (.node (o50_0 P) (.node (o82_0 P) (.node (o146_0 P) .nil .nil) (.node (o210_0 P) .nil .nil)) (.node (o114_0 P) (.node (o178_0 P) .nil .nil) .nil))) (.node (o26_0 P) (.node (o42_0 P) (.node (o74_0 P) (.node (o138_0 P) .nil .nil) (.node (o202_0 P) .nil .nil)) (.node (o106_0 P) (.node (o170_0 P) .nil .nil) .nil)) (.node (o58_0 P) (.node (o90_0 P) (.node (o154_0 P) .nil .nil) .nil) (.node (o122_0 P) (.node (o186_0 P) .nil .nil) .nil)))) (.node (o14_0 P) (.node (o22_0 P) (.node (o38_0 P) (.node (o70_0 P) (.node (o134_0 P) .nil .nil) (.node (o198_0 P) .nil .nil)) (.node (o102_0 P) (.node (o166_0 P) .nil .nil) .nil)) (.node (o54_0 P) (.node (o86_0 P) (.node (o150_0 P) .nil .nil) .nil) (.node (o118_0 P) (.node (o182_0 P) .nil .nil) .nil))) (.node (o30_0 P) (.node (o46_0 P) (.node (o78_0 P) (.node (o142_0 P) .nil .nil) (.node (o206_0 P) .nil .nil)) (.node (o110_0 P) (.node (o174_0 P) .nil .nil) .nil)) (.node (o62_0 P) (.node (o94_0 P) (.node (o158_0 P) .nil .nil) .nil) (.node (o126_0 P) (.node (o190_0 P) .nil .nil) .nil)))))))
noncomputable def S_g10 (w : World) (os : OsState) : SharedT := ⟨T_g10 w.params, 211, {}, #[], {}, 988, os⟩
noncomputable def T_u18 (P : Params) : BT := (.node (o0_0 P) (.node (o1_0 P) (.node (o3_8 P) (.node (o7_0 P) (.node (o15_0 P) (.node (o31_0 P) (.node (o63_0 P) (.node (o127_0 P) .nil .nil) .nil) (.node (o95_0 P) .nil .nil)) (.node (o47_0 P) (.node (o79_0 P) (.node (o143_1 P) .nil .nil) .nil) (.node (o111_0 P) .nil .nil))) (.node (o23_0 P) (.node (o39_0 P) (.node (o71_0 P) (.node (o135_0 P) .nil .nil) .nil) (.node (o103_0 P) .nil .nil)) (.node (o55_0 P) (.node (o87_0 P) .nil .nil) (.node (o119_0 P) .nil .nil)))) (.node (o11_0 P) (.node (o19_0 P) (.node (o35_0 P) (.node (o67_0 P) (.node (o131_0 P) .nil .nil) .nil) (.node (o99_0 P) .nil .nil)) (.node (o51_0 P) (.node (o83_0 P) .nil .nil) (.node (o115_0 P) .nil .nil))) (.node (o27_0 P) (.node (o43_0 P) (.node (o75_0 P) (.node (o139_0 P) .nil .nil) .nil) (.node (o107_0 P) .nil .nil)) (.node (o59_0 P) (.node (o91_0 P) .nil .nil) (.node (o123_0 P) .nil .nil))))) (.node (o5_0 P) (.node (o9_0 P) (.node (o17_0 P) (.node (o33_0 P) (.node (o65_0 P) (.node (o129_0 P) .nil .nil) .nil) (.node (o97_0 P) .nil .nil)) (.node (o49_0 P) (.node (o81_0 P) .nil .nil) (.node (o113_0 P) .nil .nil))) (.node (o25_0 P) (.node (o41_0 P) (.node (o73_0 P) (.node (o137_0 P) .nil .nil) .nil) (.node (o105_0 P) .nil .nil)) (.node (o57_0 P) (.node (o89_0 P) .nil .nil) (.node (o121_0 P) .nil .nil)))) (.node (o13_0 P) (.node (o21_0 P) (.node (o37_0 P) (.node (o69_0 P) (.node (o133_0 P) .nil .nil) .nil) (.node (o101_0 P) .nil .nil)) (.node (o53_0 P) (.node (o85_0 P) .nil .nil) (.node (o117_0 P) .nil .nil))) (.node (o29_5 P) (.node (o45_0 P) (.node (o77_0 P) (.node (o141_0 P) .nil .nil) .nil) (.node (o109_0 P) .nil .nil)) (.node (o61_0 P) (.node (o93_0 P) .nil .nil) (.node (o125_0 P) .nil .nil)))))) (.node (o2_0 P) (.node (o4_0 P) (.node (o8_0 P) (.node (o16_0 P) (.node (o32_0 P) (.node (o64_0 P) (.node (o128_0 P) .nil .nil) .nil) (.node (o96_0 P) .nil .nil)) (.node (o48_0 P) (.node (o80_0 P) (.node (o144_1 P) .nil .nil) .nil) (.node (o112_0 P) .nil .nil))) (.node (o24_0 P) (.node (o40_0 P) (.node (o72_0 P) (.node (o136_0 P) .nil .nil) .nil) (.node (o104_0 P) .nil .nil)) (.node (o56_0 P) (.node (o88_0 P) .nil .nil) (.node (o120_0 P) .nil .nil)))) (.node (o12_0 P) (.node (o20_0 P) (.node (o36_0 P) (.node (o68_0 P) (.node (o132_0 P) .nil .nil) .nil) (.node (o100_0 P) .nil .nil)) (.node (o52_0 P) (.node (o84_0 P) .nil .nil) (.node (o116_0 P) .nil .nil))) (.node (o28_0 P) (.node (o44_0 P) (.node (o76_0 P) (.node (o140_0 P) .nil .nil) .nil) (.node (o108_0 P) .nil .nil)) (.node (o60_0 P) (.node (o92_0 P) .nil .nil) (.node (o124_0 P) .nil .nil))))) (.node (o6_0 P) (.node (o10_0 P) (.node (o18_0 P) (.node (o34_0 P) (.node (o66_0 P) (.node (o130_0 P) .nil .nil) .nil) (.node (o98_0 P) .nil .nil)) (.node (o50_0 P) (.node (o82_0 P) .nil .nil) (.node (o114_0 P) .nil .nil))) (.node (o26_0 P) (.node (o42_0 P) (.node (o74_0 P) (.node (o138_0 P) .nil .nil) .nil) (.node (o106_0 P) .nil .nil)) (.node (o58_0 P) (.node (o90_0 P) .nil .nil) (.node (o122_0 P) .nil .nil)))) (.node (o14_0 P) (.node (o22_0 P) (.node (o38_0 P) (.node (o70_0 P) (.node (o134_0 P) .nil .nil) .nil) (.node (o102_0 P) .nil .nil)) (.node (o54_0 P) (.node (o86_0 P) .nil .nil) (.node (o118_0 P) .nil .nil))) (.node (o30_0 P) (.node (o46_0 P) (.node (o78_0 P) (.node (o142_0 P) .nil .nil) .nil) (.node (o110_0 P) .nil .nil)) (.node (o62_0 P) (.node (o94_0 P) .nil .nil) (.node (o126_0 P) .nil .nil)))))))
noncomputable def S_u18 (w : World) (os : OsState) : SharedT := ⟨T_u18 w.params, 145, {}, #[], {}, 805, os⟩
noncomputable def T_v18 (P : Params) : BT := (.node (o0_0 P) (.node (o1_0 P) (.node (o3_8 P) (.node (o7_0 P) (.node (o15_0 P) (.node (o31_0 P) (.node (o63_0 P) (.node (o127_0 P) .nil .nil) .nil) (.node (o95_0 P) .nil .nil)) (.node (o47_0 P) (.node (o79_0 P) (.node (o143_2 P) .nil .nil) .nil) (.node (o111_0 P) .nil .nil))) (.node (o23_0 P) (.node (o39_0 P) (.node (o71_0 P) (.node (o135_0 P) .nil .nil) .nil) (.node (o103_0 P) .nil .nil)) (.node (o55_0 P) (.node (o87_0 P) .nil .nil) (.node (o119_0 P) .nil .nil)))) (.node (o11_0 P) (.node (o19_0 P) (.node (o35_0 P) (.node (o67_0 P) (.node (o131_0 P) .nil .nil) .nil) (.node (o99_0 P) .nil .nil)) (.node (o51_0 P) (.node (o83_0 P) .nil .nil) (.node (o115_0 P) .nil .nil))) (.node (o27_0 P) (.node (o43_0 P) (.node (o75_0 P) (.node (o139_0 P) .nil .nil) .nil) (.node (o107_0 P) .nil .nil)) (.node (o59_0 P) (.node (o91_0 P) .nil .nil) (.node (o123_0 P) .nil .nil))))) (.node (o5_0 P) (.node (o9_0 P) (.node (o17_0 P) (.node (o33_0 P) (.node (o65_0 P) (.node (o129_0 P) .nil .nil) .nil) (.node (o97_0 P) .nil .nil)) (.node (o49_0 P) (.node (o81_0 P) .nil .nil) (.node (o113_0 P) .nil .nil))) (.node (o25_0 P) (.node (o41_0 P) (.node (o73_0 P) (.node (o137_0 P) .nil .nil) .nil) (.node (o105_0 P) .nil .nil)) (.node (o57_0 P) (.node (o89_0 P) .nil .nil) (.node (o121_0 P) .nil .nil)))) (.node (o13_0 P) (.node (o21_0 P) (.node (o37_0 P) (.node (o69_0 P) (.node (o133_0 P) .nil .nil) .nil) (.node (o101_0 P) .nil .nil)) (.node (o53_0 P) (.node (o85_0 P) .nil .nil) (.node (o117_0 P) .nil .nil))) (.node (o29_5 P) (.node (o45_0 P) (.node (o77_0 P) (.node (o141_0 P) .nil .nil) .nil) (.node (o109_0 P) .nil .nil)) (.node (o61_0 P) (.node (o93_0 P) .nil .nil) (.node (o125_0 P) .nil .nil)))))) (.node (o2_0 P) (.node (o4_0 P) (.node (o8_0 P) (.node (o16_0 P) (.node (o32_0 P) (.node (o64_0 P) (.node (o128_0 P) .nil .nil) .nil) (.node (o96_0 P) .nil .nil)) (.node (o48_0 P) (.node (o80_0 P) (.node (o144_1 P) .nil .nil) .nil) (.node (o112_0 P) .nil .nil))) (.node (o24_0 P) (.node (o40_0 P) (.node (o72_0 P) (.node (o136_0 P) .nil .nil) .nil) (.node (o104_0 P) .nil .nil)) (.node (o56_0 P) (.node (o88_0 P) .nil .nil) (.node (o120_0 P) .nil .nil)))) (.node (o12_0 P) (.node (o20_0 P) (.node (o36_0 P) (.node (o68_0 P) (.node (o132_0 P) .nil .nil) .nil) (.node (o100_0 P) .nil .nil)) (.node (o52_0 P) (.node (o84_0 P) .nil .nil) (.node (o116_0 P) .nil .nil))) (.node (o28_0 P) (.node (o44_0 P) (.node (o76_0 P) (.node (o140_0 P) .nil .nil) .nil) (.node (o108_0 P) .nil .nil)) (.node (o60_0 P) (.node (o92_0 P) .nil .nil) (.node (o124_0 P) .nil .nil))))) (.node (o6_0 P) (.node (o10_0 P) (.node (o18_0 P) (.node (o34_0 P) (.node (o66_0 P) (.node (o130_0 P) .nil .nil) .nil) (.node (o98_0 P) .nil .nil)) (.node (o50_0 P) (.node (o82_0 P) .nil .nil) (.node (o114_0 P) .nil .nil))) (.node (o26_0 P) (.node (o42_0 P) (.node (o74_0 P) (.node (o138_0 P) .nil .nil) .nil) (.node (o106_0 P) .nil .nil)) (.node (o58_0 P) (.node (o90_0 P) .nil .nil) (.node (o122_0 P) .nil .nil)))) (.node (o14_0 P) (.node (o22_0 P) (.node (o38_0 P) (.node (o70_0 P) (.node (o134_0 P) .nil .nil) .nil) (.node (o102_0 P) .nil .nil)) (.node (o54_0 P) (.node (o86_0 P) .nil .nil) (.node (o118_0 P) .nil .nil))) (.node (o30_0 P) (.node (o46_0 P) (.node (o78_0 P) (.node (o142_0 P) .nil .nil) .nil) (.node (o110_0 P) .nil .nil)) (.node (o62_0 P) (.node (o94_0 P) .nil .nil) (.node (o126_0 P) .nil .nil)))))))
noncomputable def S_v18 (w : World) (os : OsState) : SharedT := ⟨T_v18 w.params, 145, {}, #[], {}, 805, os⟩
noncomputable def pl_18 : List Nat := [1, 32, 33, 34, 35, 36, 37, 38, 39, 40, 41, 42, 43, 44, 45, 46, 47, 48, 49]
noncomputable def T_u30 (P : Params) : BT := (.node (o0_0 P) (.node (o1_0 P) (.node (o3_8 P) (.node (o7_0 P) (.node (o15_0 P) (.node (o31_0 P) (.node (o63_0 P) (.node (o127_0 P) .nil .nil) .nil) (.node (o95_0 P) .nil .nil)) (.node (o47_0 P) (.node (o79_0 P) (.node (o143_3 P) .nil .nil) .nil) (.node (o111_0 P) .nil .nil))) (.node (o23_0 P) (.node (o39_0 P) (.node (o71_0 P) (.node (o135_0 P) .nil .nil) .nil) (.node (o103_0 P) .nil .nil)) (.node (o55_0 P) (.node (o87_0 P) .nil .nil) (.node (o119_0 P) .nil .nil)))) (.node (o11_0 P) (.node (o19_0 P) (.node (o35_0 P) (.node (o67_0 P) (.node (o131_0 P) .nil .nil) .nil) (.node (o99_0 P) .nil .nil)) (.node (o51_0 P) (.node (o83_0 P) .nil .nil) (.node (o115_0 P) .nil .nil))) (.node (o27_0 P) (.node (o43_0 P) (.node (o75_0 P) (.node (o139_0 P) .nil .nil) .nil) (.node (o107_0 P) .nil .nil)) (.node (o59_0 P) (.node (o91_0 P) .nil .nil) (.node (o123_0 P) .nil .nil))))) (.node (o5_0 P) (.node (o9_0 P) (.node (o17_0 P) (.node (o33_0 P) (.node (o65_0 P) (.node (o129_0 P) .nil .nil) .nil) (.node (o97_0 P) .nil .nil)) (.node (o49_0 P) (.node (o81_0 P) .nil .nil) (.node (o113_0 P) .nil .nil))) (.node (o25_0 P) (.node (o41_0 P) (.node (o73_0 P) (.node (o137_0 P) .nil .nil) .nil) (.node (o105_0 P) .nil .nil)) (.node (o57_0 P) (.node (o89_0 P) .nil .nil) (.node (o121_0 P) .nil .nil)))) (.node (o13_0 P) (.node (o21_0 P) (.node (o37_0 P) (.node (o69_0 P) (.node (o133_0 P) .nil .nil) .nil) (.node (o101_0 P) .nil .nil)) (.node (o53_0 P) (.node (o85_0 P) .nil .nil) (.node (o117_0 P) .nil .nil))) (.node (o29_5 P) (.node (o45_0 P) (.node (o77_0 P) (.node (o141_0 P) .nil .nil) .nil) (.node (o109_0 P) .nil .nil)) (.node (o61_0 P) (.node (o93_0 P) .nil .nil) (.node (o125_0 P) .nil .nil)))))) (.node (o2_0 P) (.node (o4_0 P) (.node (o8_0 P) (.node (o16_0 P) (.node (o32_0 P) (.node (o64_0 P) (.node (o128_0 P) .nil .nil) .nil) (.node (o96_0 P) .nil .nil)) (.node (o48_0 P) (.node (o80_0 P) (.node (o144_2 P) .nil .nil) .nil) (.node (o112_0 P) .nil .nil))) (.node (o24_0 P) (.node (o40_0 P) (.node (o72_0 P) (.node (o136_0 P) .nil .nil) .nil) (.node (o104_0 P) .nil .nil)) (.node (o56_0 P) (.node (o88_0 P) .nil .nil) (.node (o120_0 P) .nil .nil)))) (.node (o12_0 P) (.node (o20_0 P) (.node (o36_0 P) (.node (o68_0 P) (.node (o132_0 P) .nil .nil) .nil) (.node (o100_0 P) .nil .nil)) (.node (o52_0 P) (.node (o84_0 P) .nil .nil) (.node (o116_0 P) .nil .nil))) (.node (o28_0 P) (.node (o44_0 P) (.node (o76_0 P) (.node (o140_0 P) .nil .nil) .nil) (.node (o108_0 P) .nil .nil)) (.node (o60_0 P) (.node (o92_0 P) .nil .nil) (.node (o124_0 P) .nil .nil))))) (.node (o6_0 P) (.node (o10_0 P) (.node (o18_0 P) (.node (o34_0 P) (.node (o66_0 P) (.node (o130_0 P) .nil .nil) .nil) (.node (o98_0 P) .nil .nil)) (.node (o50_0 P) (.node (o82_0 P) .nil .nil) (.node (o114_0 P) .nil .nil))) (.node (o26_0 P) (.node (o42_0 P) (.node (o74_0 P) (.node (o138_0 P) .nil .nil) .nil) (.node (o106_0 P) .nil .nil)) (.node (o58_0 P) (.node (o90_0 P) .nil .nil) (.node (o122_0 P) .nil .nil)))) (.node (o14_0 P) (.node (o22_0 P) (.node (o38_0 P) (.node (o70_0 P) (.node (o134_0 P) .nil .nil) .nil) (.node (o102_0 P) .nil .nil)) (.node (o54_0 P) (.node (o86_0 P) .nil .nil) (.node (o118_0 P) .nil .nil))) (.node (o30_0 P) (.node (o46_0 P) (.node (o78_0 P) (.node (o142_0 P) .nil .nil) .nil) (.node (o110_0 P) .nil .nil)) (.node (o62_0 P) (.node (o94_0 P) .nil .nil) (.node (o126_0 P) .nil .nil)))))))
noncomputable def S_u30 (w : World) (os : OsState) : SharedT := ⟨T_u30 w.params, 145, {}, #[], {}, 817, os⟩
noncomputable def T_v30 (P : Params) : BT := (.node (o0_0 P) (.node (o1_0 P) (.node (o3_8 P) (.node (o7_0 P) (.node (o15_0 P) (.node (o31_0 P) (.node (o63_0 P) (.node (o127_0 P) .nil .nil) .nil) (.node (o95_0 P) .nil .nil)) (.node (o47_0 P) (.node (o79_0 P) (.node (o143_4 P) .nil .nil) .nil) (.node (o111_0 P) .nil .nil))) (.node (o23_0 P) (.node (o39_0 P) (.node (o71_0 P) (.node (o135_0 P) .nil .nil) .nil) (.node (o103_0 P) .nil .nil)) (.node (o55_0 P) (.node (o87_0 P) .nil .nil) (.node (o119_0 P) .nil .nil)))) (.node (o11_0 P) (.node (o19_0 P) (.node (o35_0 P) (.node (o67_0 P) (.node (o131_0 P) .nil .nil) .nil) (.node (o99_0 P) .nil .nil)) (.node (o51_0 P) (.node (o83_0 P) .nil .nil) (.node (o115_0 P) .nil .nil))) (.node (o27_0 P) (.node (o43_0 P) (.node (o75_0 P) (.node (o139_0 P) .nil .nil) .nil) (.node (o107_0 P) .nil .nil)) (.node (o59_0 P) (.node (o91_0 P) .nil .nil) (.node (o123_0 P) .nil .nil))))) (.node (o5_0 P) (.node (o9_0 P) (.node (o17_0 P) (.node (o33_0 P) (.node (o65_0 P) (.node (o129_0 P) .nil .nil) .nil) (.node (o97_0 P) .nil .nil)) (.node (o49_0 P) (.node (o81_0 P) .nil .nil) (.node (o113_0 P) .nil .nil))) (.node (o25_0 P) (.node (o41_0 P) (.node (o73_0 P) (.node (o137_0 P) .nil .nil) .nil) (.node (o105_0 P) .nil .nil)) (.node (o57_0 P) (.node (o89_0 P) .nil .nil) (.node (o121_0 P) .nil .nil)))) (.node (o13_0 P) (.node (o21_0 P) (.node (o37_0 P) (.node (o69_0 P) (.node (o133_0 P) .nil .nil) .nil) (.node (o101_0 P) .nil .nil)) (.node (o53_0 P) (.node (o85_0 P) .nil .nil) (.node (o117_0 P) .nil .nil))) (.node (o29_5 P) (.node (o45_0 P) (.node (o77_0 P) (.node (o141_0 P) .nil .nil) .nil) (.node (o109_0 P) .nil .nil)) (.node (o61_0 P) (.node (o93_0 P) .nil .nil) (.node (o125_0 P) .nil .nil)))))) (.node (o2_0 P) (.node (o4_0 P) (.node (o8_0 P) (.node (o16_0 P) (.node (o32_0 P) (.node (o64_0 P) (.node (o128_0 P) .nil .nil) .nil) (.node (o96_0 P) .nil .nil)) (.node (o48_0 P) (.node (o80_0 P) (.node (o144_2 P) .nil .nil) .nil) (.node (o112_0 P) .nil .nil))) (.node (o24_0 P) (.node (o40_0 P) (.node (o72_0 P) (.node (o136_0 P) .nil .nil) .nil) (.node (o104_0 P) .nil .nil)) (.node (o56_0 P) (.node (o88_0 P) .nil .nil) (.node (o120_0 P) .nil .nil)))) (.node (o12_0 P) (.node (o20_0 P) (.node (o36_0 P) (.node (o68_0 P) (.node (o132_0 P) .nil .nil) .nil) (.node (o100_0 P) .nil .nil)) (.node (o52_0 P) (.node (o84_0 P) .nil .nil) (.node (o116_0 P) .nil .nil))) (.node (o28_0 P) (.node (o44_0 P) (.node (o76_0 P) (.node (o140_0 P) .nil .nil) .nil) (.node (o108_0 P) .nil .nil)) (.node (o60_0 P) (.node (o92_0 P) .nil .nil) (.node (o124_0 P) .nil .nil))))) (.node (o6_0 P) (.node (o10_0 P) (.node (o18_0 P) (.node (o34_0 P) (.node (o66_0 P) (.node (o130_0 P) .nil .nil) .nil) (.node (o98_0 P) .nil .nil)) (.node (o50_0 P) (.node (o82_0 P) .nil .nil) (.node (o114_0 P) .nil .nil))) (.node (o26_0 P) (.node (o42_0 P) (.node (o74_0 P) (.node (o138_0 P) .nil .nil) .nil) (.node (o106_0 P) .nil .nil)) (.node (o58_0 P) (.node (o90_0 P) .nil .nil) (.node (o122_0 P) .nil .nil)))) (.node (o14_0 P) (.node (o22_0 P) (.node (o38_0 P) (.node (o70_0 P) (.node (o134_0 P) .nil .nil) .nil) (.node (o102_0 P) .nil .nil)) (.node (o54_0 P) (.node (o86_0 P) .nil .nil) (.node (o118_0 P) .nil .nil))) (.node (o30_0 P) (.node (o46_0 P) (.node (o78_0 P) (.node (o142_0 P) .nil .nil) .nil) (.node (o110_0 P) .nil .nil)) (.node (o62_0 P) (.node (o94_0 P) .nil .nil) (.node (o126_0 P) .nil .nil)))))))
noncomputable def S_v30 (w : World) (os : OsState) : SharedT := ⟨T_v30 w.params, 145, {}, #[], {}, 817, os⟩
noncomputable def pl_30 : List Nat := [1, 32, 33, 34, 35, 36, 37, 38, 39, 40, 41, 42, 43, 44, 45, 46, 47, 48, 49, 50, 51, 52, 53, 54, 55, 56, 57, 58, 59, 60, 61]
noncomputable def T_u40 (P : Params) : BT := (.node (o0_0 P) (.node (o1_0 P) (.node (o3_8 P) (.node (o7_0 P) (.node (o15_0 P) (.node (o31_0 P) (.node (o63_0 P) (.node (o127_0 P) .nil .nil) .nil) (.node (o95_0 P) .nil .nil)) (.node (o47_0 P) (.node (o79_0 P) (.node (o143_5 P) .nil .nil) .nil) (.node (o111_0 P) .nil .nil))) (.node (o23_0 P) (.node (o39_0 P) (.node (o71_0 P) (.node (o135_0 P) .nil .nil) .nil) (.node (o103_0 P) .nil .nil)) (.node (o55_0 P) (.node (o87_0 P) .nil .nil) (.node (o119_0 P) .nil .nil)))) (.node (o11_0 P) (.node (o19_0 P) (.node (o35_0 P) (.node (o67_0 P) (.node (o131_0 P) .nil .nil) .nil) (.node (o99_0 P) .nil .nil)) (.node (o51_0 P) (.node (o83_0 P) .nil .nil) (.node (o115_0 P) .nil .nil))) (.node (o27_0 P) (.node (o43_0 P) (.node (o75_0 P) (.node (o139_0 P) .nil .nil) .nil) (.node (o107_0 P) .nil .nil)) (.node (o59_0 P) (.node (o91_0 P) .nil .nil) (.node (o123_0 P) .nil .nil))))) (.node (o5_0 P) (.node (o9_0 P) (.node (o17_0 P) (.node (o33_0 P) (.node (o65_0 P) (.node (o129_0 P) .nil .nil) .nil) (.node (o97_0 P) .nil .nil)) (.node (o49_0 P) (.node (o81_0 P) .nil .nil) (.node (o113_0 P) .nil .nil))) (.node (o25_0 P) (.node (o41_0 P) (.node (o73_0 P) (.node (o137_0 P) .nil .nil) .nil) (.node (o105_0 P) .nil .nil)) (.node (o57_0 P) (.node (o89_0 P) .nil .nil) (.node (o121_0 P) .nil .nil)))) (.node (o13_0 P) (.node (o21_0 P) (.node (o37_0 P) (.node (o69_0 P) (.node (o133_0 P) .nil .nil) .nil) (.node (o101_0 P) .nil .nil)) (.node (o53_0 P) (.node (o85_0 P) .nil .nil) (.node (o117_0 P) .nil .nil))) (.node (o29_5 P) (.node (o45_0 P) (.node (o77_0 P) (.node (o141_0 P) .nil .nil) .nil) (.node (o109_0 P) .nil .nil)) (.node (o61_0 P) (.node (o93_0 P) .nil .nil) (.node (o125_0 P) .nil .nil)))))) (.node (o2_0 P) (.node (o4_0 P) (.node (o8_0 P) (.node (o16_0 P) (.node (o32_0 P) (.node (o64_0 P) (.node (o128_0 P) .nil .nil) .nil) (.node (o96_0 P) .nil .nil)) (.node (o48_0 P) (.node (o80_0 P) (.node (o144_3 P) .nil .nil) .nil) (.node (o112_0 P) .nil .nil))) (.node (o24_0 P) (.node (o40_0 P) (.node (o72_0 P) (.node (o136_0 P) .nil .nil) .nil) (.node (o104_0 P) .nil .nil)) (.node (o56_0 P) (.node (o88_0 P) .nil .nil) (.node (o120_0 P) .nil .nil)))) (.node (o12_0 P) (.node (o20_0 P) (.node (o36_0 P) (.node (o68_0 P) (.node (o132_0 P) .nil .nil) .nil) (.node (o100_0 P) .nil .nil)) (.node (o52_0 P) (.node (o84_0 P) .nil .nil) (.node (o116_0 P) .nil .nil))) (.node (o28_0 P) (.node (o44_0 P) (.node (o76_0 P) (.node (o140_0 P) .nil .nil) .nil) (.node (o108_0 P) .nil .nil)) (.node (o60_0 P) (.node (o92_0 P) .nil .nil) (.node (o124_0 P) .nil .nil))))) (.node (o6_0 P) (.node (o10_0 P) (.node (o18_0 P) (.node (o34_0 P) (.node (o66_0 P) (.node (o130_0 P) .nil .nil) .nil) (.node (o98_0 P) .nil .nil)) (.node (o50_0 P) (.node (o82_0 P) .nil .nil) (.node (o114_0 P) .nil .nil))) (.node (o26_0 P) (.node (o42_0 P) (.node (o74_0 P) (.node (o138_0 P) .nil .nil) .nil) (.node (o106_0 P) .nil .nil)) (.node (o58_0 P) (.node (o90_0 P) .nil .nil) (.node (o122_0 P) .nil .nil)))) (.node (o14_0 P) (.node (o22_0 P) (.node (o38_0 P) (.node (o70_0 P) (.node (o134_0 P) .nil .nil) .nil) (.node (o102_0 P) .nil .nil)) (.node (o54_0 P) (.node (o86_0 P) .nil .nil) (.node (o118_0 P) .nil .nil))) (.node (o30_0 P) (.node (o46_0 P) (.node (o78_0 P) (.node (o142_0 P) .nil .nil) .nil) (.node (o110_0 P) .nil .nil)) (.node (o62_0 P) (.node (o94_0 P) .nil .nil) (.node (o126_0 P) .nil .nil)))))))
noncomputable def S_u40 (w : World) (os : OsState) : SharedT := ⟨T_u40 w.params, 145, {}, #[], {}, 827, os⟩
noncomputable def T_v40 (P : Params) : BT := (.node (o0_0 P) (.node (o1_0 P) (.node (o3_8 P) (.node (o7_0 P) (.node (o15_0 P) (.node (o31_0 P) (.node (o63_0 P) (.node (o127_0 P) .nil .nil) .nil) (.node (o95_0 P) .nil .nil)) (.node (o47_0 P) (.node (o79_0 P) (.node (o143_6 P) .nil .nil) .nil) (.node (o111_0 P) .nil .nil))) (.node (o23_0 P) (.node (o39_0 P) (.node (o71_0 P) (.node (o135_0 P) .nil .nil) .nil) (.node (o103_0 P) .nil .nil)) (.node (o55_0 P) (.node (o87_0 P) .nil .nil) (.node (o119_0 P) .nil .nil)))) (.node (o11_0 P) (.node (o19_0 P) (.node (o35_0 P) (.node (o67_0 P) (.node (o131_0 P) .nil .nil) .nil) (.node (o99_0 P) .nil .nil)) (.node (o51_0 P) (.node (o83_0 P) .nil .nil) (.node (o115_0 P) .nil .nil))) (.node (o27_0 P) (.node (o43_0 P) (.node (o75_0 P) (.node (o139_0 P) .nil .nil) .nil) (.node (o107_0 P) .nil .nil)) (.node (o59_0 P) (.node (o91_0 P) .nil .nil) (.node (o123_0 P) .nil .nil))))) (.node (o5_0 P) (.node (o9_0 P) (.node (o17_0 P) (.node (o33_0 P) (.node (o65_0 P) (.node (o129_0 P) .nil .nil) .nil) (.node (o97_0 P) .nil .nil)) (.node (o49_0 P) (.node (o81_0 P) .nil .nil) (.node (o113_0 P) .nil .nil))) (.node (o25_0 P) (.node (o41_0 P) (.node (o73_0 P) (.node (o137_0 P) .nil .nil) .nil) (.node (o105_0 P) .nil .nil)) (.node (o57_0 P) (.node (o89_0 P) .nil .nil) (.node (o121_0 P) .nil .nil)))) (.node (o13_0 P) (.node (o21_0 P) (.node (o37_0 P) (.node (o69_0 P) (.node (o133_0 P) .nil .nil) .nil) (.node (o101_0 P) .nil .nil)) (.node (o53_0 P) (.node (o85_0 P) .nil .nil) (.node (o117_0 P) .nil .nil))) (.node (o29_5 P) (.node (o45_0 P) (.node (o77_0 P) (.node (o141_0 P) .nil .nil) .nil) (.node (o109_0 P) .nil .nil)) (.node (o61_0 P) (.node (o93_0 P) .nil .nil) (.node (o125_0 P) .nil .nil)))))) (.node (o2_0 P) (.node (o4_0 P) (.node (o8_0 P) (.node (o16_0 P) (.node (o32_0 P) (.node (o64_0 P) (.node (o128_0 P) .nil .nil) .nil) (.node (o96_0 P) .nil .nil)) (.node (o48_0 P) (.node (o80_0 P) (.node (o144_3 P) .nil .nil) .nil) (.node (o112_0 P) .nil .nil))) (.node (o24_0 P) (.node (o40_0 P) (.node (o72_0 P) (.node (o136_0 P) .nil .nil) .nil) (.node (o104_0 P) .nil .nil)) (.node (o56_0 P) (.node (o88_0 P) .nil .nil) (.node (o120_0 P) .nil .nil)))) (.node (o12_0 P) (.node (o20_0 P) (.node (o36_0 P) (.node (o68_0 P) (.node (o132_0 P) .nil .nil) .nil) (.node (o100_0 P) .nil .nil)) (.node (o52_0 P) (.node (o84_0 P) .nil .nil) (.node (o116_0 P) .nil .nil))) (.node (o28_0 P) (.node (o44_0 P) (.node (o76_0 P) (.node (o140_0 P) .nil .nil) .nil) (.node (o108_0 P) .nil .nil)) (.node (o60_0 P) (.node (o92_0 P) .nil .nil) (.node (o124_0 P) .nil .nil))))) (.node (o6_0 P) (.node (o10_0 P) (.node (o18_0 P) (.node (o34_0 P) (.node (o66_0 P) (.node (o130_0 P) .nil .nil) .nil) (.node (o98_0 P) .nil .nil)) (.node (o50_0 P) (.node (o82_0 P) .nil .nil) (.node (o114_0 P) .nil .nil))) (.node (o26_0 P) (.node (o42_0 P) (.node (o74_0 P) (.node (o138_0 P) .nil .nil) .nil) (.node (o106_0 P) .nil .nil)) (.node (o58_0 P) (.node (o90_0 P) .nil .nil) (.node (o122_0 P) .nil .nil)))) (.node (o14_0 P) (.node (o22_0 P) (.node (o38_0 P) (.node (o70_0 P) (.node (o134_0 P) .nil .nil) .nil) (.node (o102_0 P) .nil .nil)) (.node (o54_0 P) (.node (o86_0 P) .nil .nil) (.node (o118_0 P) .nil .nil))) (.node (o30_0 P) (.node (o46_0 P) (.node (o78_0 P) (.node (o142_0 P) .nil .nil) .nil) (.node (o110_0 P) .nil .nil)) (.node (o62_0 P) (.node (o94_0 P) .nil .nil) (.node (o126_0 P) .nil .nil)))))))
noncomputable def S_v40 (w : World) (os : OsState) : SharedT := ⟨T_v40 w.params, 145, {}, #[], {}, 827, os⟩
noncomputable def pl_40 : List Nat := [1, 32, 33, 34, 35, 36, 37, 38, 39, 40, 41, 42, 43, 44, 45, 46, 47, 48, 49, 50, 51, 52, 53, 54, 55, 56, 57, 58, 59, 60, 61, 62, 63, 64, 65, 66, 67, 68, 69, 70, 71]
noncomputable def T_u50 (P : Params) : BT := (.node (o0_0 P) (.node (o1_0 P) (.node (o3_8 P) (.node (o7_0 P) (.node (o15_0 P) (.node (o31_0 P) (.node (o63_0 P) (.node (o127_0 P) .nil .nil) .nil) (.node (o95_0 P) .nil .nil)) (.node (o47_0 P) (.node (o79_0 P) (.node (o143_7 P) .nil .nil) .nil) (.node (o111_0 P) .nil .nil))) (.node (o23_0 P) (.node (o39_0 P) (.node (o71_0 P) (.node (o135_0 P) .nil .nil) .nil) (.node (o103_0 P) .nil .nil)) (.node (o55_0 P) (.node (o87_0 P) .nil .nil) (.node (o119_0 P) .nil .nil)))) (.node (o11_0 P) (.node (o19_0 P) (.node (o35_0 P) (.node (o67_0 P) (.node (o131_0 P) .nil .nil) .nil) (.node (o99_0 P) .nil .nil)) (.node (o51_0 P) (.node (o83_0 P) .nil .nil) (.node (o115_0 P) .nil .nil))) (.node (o27_0 P) (.node (o43_0 P) (.node (o75_0 P) (.node (o139_0 P) .nil .nil) .nil) (.node (o107_0 P) .nil .nil)) (.node (o59_0 P) (.node (o91_0 P) .nil .nil) (.node (o123_0 P) .nil .nil))))) (.node (o5_0 P) (.node (o9_0 P) (.node (o17_0 P) (.node (o33_0 P) (.node (o65_0 P) (.node (o129_0 P) .nil .nil) .nil) (.node (o97_0 P) .nil .nil)) (.node (o49_0 P) (.node (o81_0 P) .nil .nil) (.node (o113_0 P) .nil .nil))) (.node (o25_0 P) (.node (o41_0 P) (.node (o73_0 P) (.node (o137_0 P) .nil .nil) .nil) (.node (o105_0 P) .nil .nil)) (.node (o57_0 P) (.node (o89_0 P) .nil .nil) (.node (o121_0 P) .nil .nil)))) (.node (o13_0 P) (.node (o21_0 P) (.node (o37_0 P) (.node (o69_0 P) (.node (o133_0 P) .nil .nil) .nil) (.node (o101_0 P) .nil .nil)) (.node (o53_0 P) (.node (o85_0 P) .nil .nil) (.node (o117_0 P) .nil .nil))) (.node (o29_5 P) (.node (o45_0 P) (.node (o77_0 P) (.node (o141_0 P) .nil .nil) .nil) (.node (o109_0 P) .nil .nil)) (.node (o61_0 P) (.node (o93_0 P) .nil .nil) (.node (o125_0 P) .nil .nil)))))) (.node (o2_0 P) (.node (o4_0 P) (.node (o8_0 P) (.node (o16_0 P) (.node (o32_0 P) (.node (o64_0 P) (.node (o128_0 P) .nil .nil) .nil) (.node (o96_0 P) .nil .nil)) (.node (o48_0 P) (.node (o80_0 P) (.node (o144_4 P) .nil .nil) .nil) (.node (o112_0 P) .nil .nil))) (.node (o24_0 P) (.node (o40_0 P) (.node (o72_0 P) (.node (o136_0 P) .nil .nil) .nil) (.node (o104_0 P) .nil .nil)) (.node (o56_0 P) (.node (o88_0 P) .nil .nil) (.node (o120_0 P) .nil .nil)))) (.node (o12_0 P) (.node (o20_0 P) (.node (o36_0 P) (.node (o68_0 P) (.node (o132_0 P) .nil .nil) .nil) (.node (o100_0 P) .nil .nil)) (.node (o52_0 P) (.node (o84_0 P) .nil .nil) (.node (o116_0 P) .nil .nil))) (.node (o28_0 P) (.node (o44_0 P) (.node (o76_0 P) (.node (o140_0 P) .nil .nil) .nil) (.node (o108_0 P) .nil .nil)) (.node (o60_0 P) (.node (o92_0 P) .nil .nil) (.node (o124_0 P) .nil .nil))))) (.node (o6_0 P) (.node (o10_0 P) (.node (o18_0 P) (.node (o34_0 P) (.node (o66_0 P) (.node (o130_0 P) .nil .nil) .nil) (.node (o98_0 P) .nil .nil)) (.node (o50_0 P) (.node (o82_0 P) .nil .nil) (.node (o114_0 P) .nil .nil))) (.node (o26_0 P) (.node (o42_0 P) (.node (o74_0 P) (.node (o138_0 P) .nil .nil) .nil) (.node (o106_0 P) .nil .nil)) (.node (o58_0 P) (.node (o90_0 P) .nil .nil) (.node (o122_0 P) .nil .nil)))) (.node (o14_0 P) (.node (o22_0 P) (.node (o38_0 P) (.node (o70_0 P) (.node (o134_0 P) .nil .nil) .nil) (.node (o102_0 P) .nil .nil)) (.node (o54_0 P) (.node (o86_0 P) .nil .nil) (.node (o118_0 P) .nil .nil))) (.node (o30_0 P) (.node (o46_0 P) (.node (o78_0 P) (.node (o142_0 P) .nil .nil) .nil) (.node (o110_0 P) .nil .nil)) (.node (o62_0 P) (.node (o94_0 P) .nil .nil) (.node (o126_0 P) .nil .nil)))))))
noncomputable def S_u50 (w : World) (os : OsState) : SharedT := ⟨T_u50 w.params, 145, {}, #[], {}, 837, os⟩
noncomputable def T_v50 (P : Params) : BT := (.node (o0_0 P) (.node (o1_0 P) (.node (o3_8 P) (.node (o7_0 P) (.node (o15_0 P) (.node (o31_0 P) (.node (o63_0 P) (.node (o127_0 P) .nil .nil) .nil) (.node (o95_0 P) .nil .nil)) (.node (o47_0 P) (.node (o79_0 P) (.node (o143_8 P) .nil .nil) .nil) (.node (o111_0 P) .nil .nil))) (.node (o23_0 P) (.node (o39_0 P) (.node (o71_0 P) (.node (o135_0 P) .nil .nil) .nil) (.node (o103_0 P) .nil .nil)) (.node (o55_0 P) (.node (o87_0 P) .nil .nil) (.node (o119_0 P) .nil .nil)))) (.node (o11_0 P) (.node (o19_0 P) (.node (o35_0 P) (.node (o67_0 P) (.node (o131_0 P) .nil .nil) .nil) (.node (o99_0 P) .nil .nil)) (.node (o51_0 P) (.node (o83_0 P) .nil .nil) (.node (o115_0 P) .nil .nil))) (.node (o27_0 P) (.node (o43_0 P) (.node (o75_0 P) (.node (o139_0 P) .nil .nil) .nil) (.node (o107_0 P) .nil .nil)) (.node (o59_0 P) (.node (o91_0 P) .nil .nil) (.node (o123_0 P) .nil .nil))))) (.node (o5_0 P) (.node (o9_0 P) (.node (o17_0 P) (.node (o33_0 P) (.node (o65_0 P) (.node (o129_0 P) .nil .nil) .nil) (.node (o97_0 P) .nil .nil)) (.node (o49_0 P) (.node (o81_0 P) .nil .nil) (.node (o113_0 P) .nil .nil))) (.node (o25_0 P) (.node (o41_0 P) (.node (o73_0 P) (.node (o137_0 P) .nil .nil) .nil) (.node (o105_0 P) .nil .nil)) (.node (o57_0 P) (.node (o89_0 P) .nil .nil) (.node (o121_0 P) .nil .nil)))) (.node (o13_0 P) (.node (o21_0 P) (.node (o37_0 P) (.node (o69_0 P) (.node (o133_0 P) .nil .nil) .nil) (.node (o101_0 P) .nil .nil)) (.node (o53_0 P) (.node (o85_0 P) .nil .nil) (.node (o117_0 P) .nil .nil))) (.node (o29_5 P) (.node (o45_0 P) (.node (o77_0 P) (.node (o141_0 P) .nil .nil) .nil) (.node (o109_0 P) .nil .nil)) (.node (o61_0 P) (.node (o93_0 P) .nil .nil) (.node (o125_0 P) .nil .nil)))))) (.node (o2_0 P) (.node (o4_0 P) (.node (o8_0 P) (.node (o16_0 P) (.node (o32_0 P) (.node (o64_0 P) (.node (o128_0 P) .nil .nil) .nil) (.node (o96_0 P) .nil .nil)) (.node (o48_0 P) (.node (o80_0 P) (.node (o144_4 P) .nil .nil) .nil) (.node (o112_0 P) .nil .nil))) (.node (o24_0 P) (.node (o40_0 P) (.node (o72_0 P) (.node (o136_0 P) .nil .nil) .nil) (.node (o104_0 P) .nil .nil)) (.node (o56_0 P) (.node (o88_0 P) .nil .nil) (.node (o120_0 P) .nil .nil)))) (.node (o12_0 P) (.node (o20_0 P) (.node (o36_0 P) (.node (o68_0 P) (.node (o132_0 P) .nil .nil) .nil) (.node (o100_0 P) .nil .nil)) (.node (o52_0 P) (.node (o84_0 P) .nil .nil) (.node (o116_0 P) .nil .nil))) (.node (o28_0 P) (.node (o44_0 P) (.node (o76_0 P) (.node (o140_0 P) .nil .nil) .nil) (.node (o108_0 P) .nil .nil)) (.node (o60_0 P) (.node (o92_0 P) .nil .nil) (.node (o124_0 P) .nil .nil))))) (.node (o6_0 P) (.node (o10_0 P) (.node (o18_0 P) (.node (o34_0 P) (.node (o66_0 P) (.node (o130_0 P) .nil .nil) .nil) (.node (o98_0 P) .nil .nil)) (.node (o50_0 P) (.node (o82_0 P) .nil .nil) (.node (o114_0 P) .nil .nil))) (.node (o26_0 P) (.node (o42_0 P) (.node (o74_0 P) (.node (o138_0 P) .nil .nil) .nil) (.node (o106_0 P) .nil .nil)) (.node (o58_0 P) (.node (o90_0 P) .nil .nil) (.node (o122_0 P) .nil .nil)))) (.node (o14_0 P) (.node (o22_0 P) (.node (o38_0 P) (.node (o70_0 P) (.node (o134_0 P) .nil .nil) .nil) (.node (o102_0 P) .nil .nil)) (.node (o54_0 P) (.node (o86_0 P) .nil .nil) (.node (o118_0 P) .nil .nil))) (.node (o30_0 P) (.node (o46_0 P) (.node (o78_0 P) (.node (o142_0 P) .nil .nil) .nil) (.node (o110_0 P) .nil .nil)) (.node (o62_0 P) (.node (o94_0 P) .nil .nil) (.node (o126_0 P) .nil .nil)))))))
noncomputable def S_v50 (w : World) (os : OsState) : SharedT := ⟨T_v50 w.params, 145, {}, #[], {}, 837, os⟩
noncomputable def pl_50 : List Nat := [1, 32, 33, 34, 35, 36, 37, 38, 39, 40, 41, 42, 43, 44, 45, 46, 47, 48, 49, 50, 51, 52, 53, 54, 55, 56, 57, 58, 59, 60, 61, 62, 63, 64, 65, 66, 67, 68, 69, 70, 71, 72, 73, 74, 75, 76, 77, 78, 79, 80, 81]
noncomputable def T_u60 (P : Params) : BT := (.node (o0_0 P) (.node (o1_0 P) (.node (o3_8 P) (.node (o7_0 P) (.node (o15_0 P) (.node (o31_0 P) (.node (o63_0 P) (.node (o127_0 P) .nil .nil) .nil) (.node (o95_0 P) .nil .nil)) (.node (o47_0 P) (.node (o79_0 P) (.node (o143_9 P) .nil .nil) .nil) (.node (o111_0 P) .nil .nil))) (.node (o23_0 P) (.node (o39_0 P) (.node (o71_0 P) (.node (o135_0 P) .nil .nil) .nil) (.node (o103_0 P) .nil .nil)) (.node (o55_0 P) (.node (o87_0 P) .nil .nil) (.node (o119_0 P) .nil .nil)))) (.node (o11_0 P) (.node (o19_0 P) (.node (o35_0 P) (.node (o67_0 P) (.node (o131_0 P) .nil .nil) .nil) (.node (o99_0 P) .nil .nil)) (.node (o51_0 P) (.node (o83_0 P) .nil .nil) (.node (o115_0 P) .nil .nil))) (.node (o27_0 P) (.node (o43_0 P) (.node (o75_0 P) (.node (o139_0 P) .nil .nil) .nil) (.node (o107_0 P) .nil .nil)) (.node (o59_0 P) (.node (o91_0 P) .nil .nil) (.node (o123_0 P) .nil .nil))))) (.node (o5_0 P) (.node (o9_0 P) (.node (o17_0 P) (.node (o33_0 P) (.node (o65_0 P) (.node (o129_0 P) .nil .nil) .nil) (.node (o97_0 P) .nil .nil)) (.node (o49_0 P) (.node (o81_0 P) .nil .nil) (.node (o113_0 P) .nil .nil))) (.node (o25_0 P) (.node (o41_0 P) (.node (o73_0 P) (.node (o137_0 P) .nil .nil) .nil) (.node (o105_0 P) .nil .nil)) (.node (o57_0 P) (.node (o89_0 P) .nil .nil) (.node (o121_0 P) .nil .nil)))) (.node (o13_0 P) (.node (o21_0 P) (.node (o37_0 P) (.node (o69_0 P) (.node (o133_0 P) .nil .nil) .nil) (.node (o101_0 P) .nil .nil)) (.node (o53_0 P) (.node (o85_0 P) .nil .nil) (.node (o117_0 P) .nil .nil))) (.node (o29_5 P) (.node (o45_0 P) (.node (o77_0 P) (.node (o141_0 P) .nil .nil) .nil) (.node (o109_0 P) .nil .nil)) (.node (o61_0 P) (.node (o93_0 P) .nil .nil) (.node (o125_0 P) .nil .nil)))))) (.node (o2_0 P) (.node (o4_0 P) (.node (o8_0 P) (.node (o16_0 P) (.node (o32_0 P) (.node (o64_0 P) (.node (o128_0 P) .nil .nil) .nil) (.node (o96_0 P) .nil .nil)) (.node (o48_0 P) (.node (o80_0 P) (.node (o144_5 P) .nil .nil) .nil) (.node (o112_0 P) .nil .nil))) (.node (o24_0 P) (.node (o40_0 P) (.node (o72_0 P) (.node (o136_0 P) .nil .nil) .nil) (.node (o104_0 P) .nil .nil)) (.node (o56_0 P) (.node (o88_0 P) .nil .nil) (.node (o120_0 P) .nil .nil)))) (.node (o12_0 P) (.node (o20_0 P) (.node (o36_0 P) (.node (o68_0 P) (.node (o132_0 P) .nil .nil) .nil) (.node (o100_0 P) .nil .nil)) (.node (o52_0 P) (.node (o84_0 P) .nil .nil) (.node (o116_0 P) .nil .nil))) (.node (o28_0 P) (.node (o44_0 P) (.node (o76_0 P) (.node (o140_0 P) .nil .nil) .nil) (.node (o108_0 P) .nil .nil)) (.node (o60_0 P) (.node (o92_0 P) .nil .nil) (.node (o124_0 P) .nil .nil))))) (.node (o6_0 P) (.node (o10_0 P) (.node (o18_0 P) (.node (o34_0 P) (.node (o66_0 P) (.node (o130_0 P) .nil .nil) .nil) (.node (o98_0 P) .nil .nil)) (.node (o50_0 P) (.node (o82_0 P) .nil .nil) (.node (o114_0 P) .nil .nil))) (.node (o26_0 P) (.node (o42_0 P) (.node (o74_0 P) (.node (o138_0 P) .nil .nil) .nil) (.node (o106_0 P) .nil .nil)) (.node (o58_0 P) (.node (o90_0 P) .nil .nil) (.node (o122_0 P) .nil .nil)))) (.node (o14_0 P) (.node (o22_0 P) (.node (o38_0 P) (.node (o70_0 P) (.node (o134_0 P) .nil .nil) .nil) (.node (o102_0 P) .nil .nil)) (.node (o54_0 P) (.node (o86_0 P) .nil .nil) (.node (o118_0 P) .nil .nil))) (.node (o30_0 P) (.node (o46_0 P) (.node (o78_0 P) (.node (o142_0 P) .nil .nil) .nil) (.node (o110_0 P) .nil .nil)) (.node (o62_0 P) (.node (o94_0 P) .nil .nil) (.node (o126_0 P) .nil .nil)))))))
noncomputable def S_u60 (w : World) (os : OsState) : SharedT := ⟨T_u60 w.params, 145, {}, #[], {}, 847, os⟩
noncomputable def T_v60 (P : Params) : BT := (.node (o0_0 P) (.node (o1_0 P) (.node (o3_8 P) (.node (o7_0 P) (.node (o15_0 P) (.node (o31_0 P) (.node (o63_0 P) (.node (o127_0 P) .nil .nil) .nil) (.node (o95_0 P) .nil .nil)) (.node (o47_0 P) (.node (o79_0 P) (.node (o143_10 P) .nil .nil) .nil) (.node (o111_0 P) .nil .nil))) (.node (o23_0 P) (.node (o39_0 P) (.node (o71_0 P) (.node (o135_0 P) .nil .nil) .nil) (.node (o103_0 P) .nil .nil)) (.node (o55_0 P) (.node (o87_0 P) .nil .nil) (.node (o119_0 P) .nil .nil)))) (.node (o11_0 P) (.node (o19_0 P) (.node (o35_0 P) (.node (o67_0 P) (.node (o131_0 P) .nil .nil) .nil) (.node (o99_0 P) .nil .nil)) (.node (o51_0 P) (.node (o83_0 P) .nil .nil) (.node (o115_0 P) .nil .nil))) (.node (o27_0 P) (.node (o43_0 P) (.node (o75_0 P) (.node (o139_0 P) .nil .nil) .nil) (.node (o107_0 P) .nil .nil)) (.node (o59_0 P) (.node (o91_0 P) .nil .nil) (.node (o123_0 P) .nil .nil))))) (.node (o5_0 P) (.node (o9_0 P) (.node (o17_0 P) (.node (o33_0 P) (.node (o65_0 P) (.node (o129_0 P) .nil .nil) .nil) (.node (o97_0 P) .nil .nil)) (.node (o49_0 P) (.node (o81_0 P) .nil .nil) (.node (o113_0 P) .nil .nil))) (.node (o25_0 P) (.node (o41_0 P) (.node (o73_0 P) (.node (o137_0 P) .nil .nil) .nil) (.node (o105_0 P) .nil .nil)) (.node (o57_0 P) (.node (o89_0 P) .nil .nil) (.node (o121_0 P) .nil .nil)))) (.node (o13_0 P) (.node (o21_0 P) (.node (o37_0 P) (.node (o69_0 P) (.node (o133_0 P) .nil .nil) .nil) (.node (o101_0 P) .nil .nil)) (.node (o53_0 P) (.node (o85_0 P) .nil .nil) (.node (o117_0 P) .nil .nil))) (.node (o29_5 P) (.node (o45_0 P) (.node (o77_0 P) (.node (o141_0 P) .nil .nil) .nil) (.node (o109_0 P) .nil .nil)) (.node (o61_0 P) (.node (o93_0 P) .nil .nil) (.node (o125_0 P) .nil .nil)))))) (.node (o2_0 P) (.node (o4_0 P) (.node (o8_0 P) (.node (o16_0 P) (.node (o32_0 P) (.node (o64_0 P) (.node (o128_0 P) .nil .nil) .nil) (.node (o96_0 P) .nil .nil)) (.node (o48_0 P) (.node (o80_0 P) (.node (o144_5 P) .nil .nil) .nil) (.node (o112_0 P) .nil .nil))) (.node (o24_0 P) (.node (o40_0 P) (.node (o72_0 P) (.node (o136_0 P) .nil .nil) .nil) (.node (o104_0 P) .nil .nil)) (.node (o56_0 P) (.node (o88_0 P) .nil .nil) (.node (o120_0 P) .nil .nil)))) (.node (o12_0 P) (.node (o20_0 P) (.node (o36_0 P) (.node (o68_0 P) (.node (o132_0 P) .nil .nil) .nil) (.node (o100_0 P) .nil .nil)) (.node (o52_0 P) (.node (o84_0 P) .nil .nil) (.node (o116_0 P) .nil .nil))) (.node (o28_0 P) (.node (o44_0 P) (.node (o76_0 P) (.node (o140_0 P) .nil .nil) .nil) (.node (o108_0 P) .nil .nil)) (.node (o60_0 P) (.node (o92_0 P) .nil .nil) (.node (o124_0 P) .nil .nil))))) (.node (o6_0 P) (.node (o10_0 P) (.node (o18_0 P) (.node (o34_0 P) (.node (o66_0 P) (.node (o130_0 P) .nil .nil) .nil) (.node (o98_0 P) .nil .nil)) (.node (o50_0 P) (.node (o82_0 P) .nil .nil) (.node (o114_0 P) .nil .nil))) (.node (o26_0 P) (.node (o42_0 P) (.node (o74_0 P) (.node (o138_0 P) .nil .nil) .nil) (.node (o106_0 P) .nil .nil)) (.node (o58_0 P) (.node (o90_0 P) .nil .nil) (.node (o122_0 P) .nil .nil)))) (.node (o14_0 P) (.node (o22_0 P) (.node (o38_0 P) (.node (o70_0 P) (.node (o134_0 P) .nil .nil) .nil) (.node (o102_0 P) .nil .nil)) (.node (o54_0 P) (.node (o86_0 P) .nil .nil) (.node (o118_0 P) .nil .nil))) (.node (o30_0 P) (.node (o46_0 P) (.node (o78_0 P) (.node (o142_0 P) .nil .nil) .nil) (.node (o110_0 P) .nil .nil)) (.node (o62_0 P) (.node (o94_0 P) .nil .nil) (.node (o126_0 P) .nil .nil)))))))
noncomputable def S_v60 (w : World) (os : OsState) : SharedT := ⟨T_v60 w.params, 145, {}, #[], {}, 847, os⟩
noncomputable def pl_60 : List Nat := [1, 32, 33, 34, 35, 36, 37, 38, 39, 40, 41, 42, 43, 44, 45, 46, 47, 48, 49, 50, 51, 52, 53, 54, 55, 56, 57, 58, 59, 60, 61, 62, 63, 64, 65, 66, 67, 68, 69, 70, 71, 72, 73, 74, 75, 76, 77, 78, 79, 80, 81, 82, 83, 84, 85, 86, 87, 88, 89, 90, 91]
noncomputable def T_u68 (P : Params) : BT := (.node (o0_0 P) (.node (o1_0 P) (.node (o3_8 P) (.node (o7_0 P) (.node (o15_0 P) (.node (o31_0 P) (.node (o63_0 P) (.node (o127_0 P) .nil .nil) .nil) (.node (o95_0 P) .nil .nil)) (.node (o47_0 P) (.node (o79_0 P) (.node (o143_11 P) .nil .nil) .nil) (.node (o111_0 P) .nil .nil))) (.node (o23_0 P) (.node (o39_0 P) (.node (o71_0 P) (.node (o135_0 P) .nil .nil) .nil) (.node (o103_0 P) .nil .nil)) (.node (o55_0 P) (.node (o87_0 P) .nil .nil) (.node (o119_0 P) .nil .nil)))) (.node (o11_0 P) (.node (o19_0 P) (.node (o35_0 P) (.node (o67_0 P) (.node (o131_0 P) .nil .nil) .nil) (.node (o99_0 P) .nil .nil)) (.node (o51_0 P) (.node (o83_0 P) .nil .nil) (.node (o115_0 P) .nil .nil))) (.node (o27_0 P) (.node (o43_0 P) (.node (o75_0 P) (.node (o139_0 P) .nil .nil) .nil) (.node (o107_0 P) .nil .nil)) (.node (o59_0 P) (.node (o91_0 P) .nil .nil) (.node (o123_0 P) .nil .nil))))) (.node (o5_0 P) (.node (o9_0 P) (.node (o17_0 P) (.node (o33_0 P) (.node (o65_0 P) (.node (o129_0 P) .nil .nil) .nil) (.node (o97_0 P) .nil .nil)) (.node (o49_0 P) (.node (o81_0 P) .nil .nil) (.node (o113_0 P) .nil .nil))) (.node (o25_0 P) (.node (o41_0 P) (.node (o73_0 P) (.node (o137_0 P) .nil .nil) .nil) (.node (o105_0 P) .nil .nil)) (.node (o57_0 P) (.node (o89_0 P) .nil .nil) (.node (o121_0 P) .nil .nil)))) (.node (o13_0 P) (.node (o21_0 P) (.node (o37_0 P) (.node (o69_0 P) (.node (o133_0 P) .nil .nil) .nil) (.node (o101_0 P) .nil .nil)) (.node (o53_0 P) (.node (o85_0 P) .nil .nil) (.node (o117_0 P) .nil .nil))) (.node (o29_5 P) (.node (o45_0 P) (.node (o77_0 P) (.node (o141_0 P) .nil .nil) .nil) (.node (o109_0 P) .nil .nil)) (.node (o61_0 P) (.node (o93_0 P) .nil .nil) (.node (o125_0 P) .nil .nil)))))) (.node (o2_0 P) (.node (o4_0 P) (.node (o8_0 P) (.node (o16_0 P) (.node (o32_0 P) (.node (o64_0 P) (.node (o128_0 P) .nil .nil) .nil) (.node (o96_0 P) .nil .nil)) (.node (o48_0 P) (.node (o80_0 P) (.node (o144_6 P) .nil .nil) .nil) (.node (o112_0 P) .nil .nil))) (.node (o24_0 P) (.node (o40_0 P) (.node (o72_0 P) (.node (o136_0 P) .nil .nil) .nil) (.node (o104_0 P) .nil .nil)) (.node (o56_0 P) (.node (o88_0 P) .nil .nil) (.node (o120_0 P) .nil .nil)))) (.node (o12_0 P) (.node (o20_0 P) (.node (o36_0 P) (.node (o68_0 P) (.node (o132_0 P) .nil .nil) .nil) (.node (o100_0 P) .nil .nil)) (.node (o52_0 P) (.node (o84_0 P) .nil .nil) (.node (o116_0 P) .nil .nil))) (.node (o28_0 P) (.node (o44_0 P) (.node (o76_0 P) (.node (o140_0 P) .nil .nil) .nil) (.node (o108_0 P) .nil .nil)) (.node (o60_0 P) (.node (o92_0 P) .nil .nil) (.node (o124_0 P) .nil .nil))))) (.node (o6_0 P) (.node (o10_0 P) (.node (o18_0 P) (.node (o34_0 P) (.node (o66_0 P) (.node (o130_0 P) .nil .nil) .nil) (.node (o98_0 P) .nil .nil)) (.node (o50_0 P) (.node (o82_0 P) .nil .nil) (.node (o114_0 P) .nil .nil))) (.node (o26_0 P) (.node (o42_0 P) (.node (o74_0 P) (.node (o138_0 P) .nil .nil) .nil) (.node (o106_0 P) .nil .nil)) (.node (o58_0 P) (.node (o90_0 P) .nil .nil) (.node (o122_0 P) .nil .nil)))) (.node (o14_0 P) (.node (o22_0 P) (.node (o38_0 P) (.node (o70_0 P) (.node (o134_0 P) .nil .nil) .nil) (.node (o102_0 P) .nil .nil)) (.node (o54_0 P) (.node (o86_0 P) .nil .nil) (.node (o118_0 P) .nil .nil))) (.node (o30_0 P) (.node (o46_0 P) (.node (o78_0 P) (.node (o142_0 P) .nil .nil) .nil) (.node (o110_0 P) .nil .nil)) (.node (o62_0 P) (.node (o94_0 P) .nil .nil) (.node (o126_0 P) .nil .nil)))))))
noncomputable def S_u68 (w : World) (os : OsState) : SharedT := ⟨T_u68 w.params, 145, {}, #[], {}, 855, os⟩
noncomputable def T_v68 (P : Params) : BT := (.node (o0_0 P) (.node (o1_0 P) (.node (o3_8 P) (.node (o7_0 P) (.node (o15_0 P) (.node (o31_0 P) (.node (o63_0 P) (.node (o127_0 P) .nil .nil) .nil) (.node (o95_0 P) .nil .nil)) (.node (o47_0 P) (.node (o79_0 P) (.node (o143_12 P) .nil .nil) .nil) (.node (o111_0 P) .nil .nil))) (.node (o23_0 P) (.node (o39_0 P) (.node (o71_0 P) (.node (o135_0 P) .nil .nil) .nil) (.node (o103_0 P) .nil .nil)) (.node (o55_0 P) (.node (o87_0 P) .nil .nil) (.node (o119_0 P) .nil .nil)))) (.node (o11_0 P) (.node (o19_0 P) (.node (o35_0 P) (.node (o67_0 P) (.node (o131_0 P) .nil .nil) .nil) (.node (o99_0 P) .nil .nil)) (.node (o51_0 P) (.node (o83_0 P) .nil .nil) (.node (o115_0 P) .nil .nil))) (.node (o27_0 P) (.node (o43_0 P) (.node (o75_0 P) (.node (o139_0 P) .nil .nil) .nil) (.node (o107_0 P) .nil .nil)) (.node (o59_0 P) (.node (o91_0 P) .nil .nil) (.node (o123_0 P) .nil .nil))))) (.node (o5_0 P) (.node (o9_0 P) (.node (o17_0 P) (.node (o33_0 P) (.node (o65_0 P) (.node (o129_0 P) .nil .nil) .nil) (.node (o97_0 P) .nil .nil)) (.node (o49_0 P) (.node (o81_0 P) .nil .nil) (.node (o113_0 P) .nil .nil))) (.node (o25_0 P) (.node (o41_0 P) (.node (o73_0 P) (.node (o137_0 P) .nil .nil) .nil) (.node (o105_0 P) .nil .nil)) (.node (o57_0 P) (.node (o89_0 P) .nil .nil) (.node (o121_0 P) .nil .nil)))) (.node (o13_0 P) (.node (o21_0 P) (.node (o37_0 P) (.node (o69_0 P) (.node (o133_0 P) .nil .nil) .nil) (.node (o101_0 P) .nil .nil)) (.node (o53_0 P) (.node (o85_0 P) .nil .nil) (.node (o117_0 P) .nil .nil))) (.node (o29_5 P) (.node (o45_0 P) (.node (o77_0 P) (.node (o141_0 P) .nil .nil) .nil) (.node (o109_0 P) .nil .nil)) (.node (o61_0 P) (.node (o93_0 P) .nil .nil) (.node (o125_0 P) .nil .nil)))))) (.node (o2_0 P) (.node (o4_0 P) (.node (o8_0 P) (.node (o16_0 P) (.node (o32_0 P) (.node (o64_0 P) (.node (o128_0 P) .nil .nil) .nil) (.node (o96_0 P) .nil .nil)) (.node (o48_0 P) (.node (o80_0 P) (.node (o144_6 P) .nil .nil) .nil) (.node (o112_0 P) .nil .nil))) (.node (o24_0 P) (.node (o40_0 P) (.node (o72_0 P) (.node (o136_0 P) .nil .nil) .nil) (.node (o104_0 P) .nil .nil)) (.node (o56_0 P) (.node (o88_0 P) .nil .nil) (.node (o120_0 P) .nil .nil)))) (.node (o12_0 P) (.node (o20_0 P) (.node (o36_0 P) (.node (o68_0 P) (.node (o132_0 P) .nil .nil) .nil) (.node (o100_0 P) .nil .nil)) (.node (o52_0 P) (.node (o84_0 P) .nil .nil) (.node (o116_0 P) .nil .nil))) (.node (o28_0 P) (.node (o44_0 P) (.node (o76_0 P) (.node (o140_0 P) .nil .nil) .nil) (.node (o108_0 P) .nil .nil)) (.node (o60_0 P) (.node (o92_0 P) .nil .nil) (.node (o124_0 P) .nil .nil))))) (.node (o6_0 P) (.node (o10_0 P) (.node (o18_0 P) (.node (o34_0 P) (.node (o66_0 P) (.node (o130_0 P) .nil .nil) .nil) (.node (o98_0 P) .nil .nil)) (.node (o50_0 P) (.node (o82_0 P) .nil .nil) (.node (o114_0 P) .nil .nil))) (.node (o26_0 P) (.node (o42_0 P) (.node (o74_0 P) (.node (o138_0 P) .nil .nil) .nil) (.node (o106_0 P) .nil .nil)) (.node (o58_0 P) (.node (o90_0 P) .nil .nil) (.node (o122_0 P) .nil .nil)))) (.node (o14_0 P) (.node (o22_0 P) (.node (o38_0 P) (.node (o70_0 P) (.node (o134_0 P) .nil .nil) .nil) (.node (o102_0 P) .nil .nil)) (.node (o54_0 P) (.node (o86_0 P) .nil .nil) (.node (o118_0 P) .nil .nil))) (.node (o30_0 P) (.node (o46_0 P) (.node (o78_0 P) (.node (o142_0 P) .nil .nil) .nil) (.node (o110_0 P) .nil .nil)) (.node (o62_0 P) (.node (o94_0 P) .nil .nil) (.node (o126_0 P) .nil .nil)))))))
noncomputable def S_v68 (w : World) (os : OsState) : SharedT := ⟨T_v68 w.params, 145, {}, #[], {}, 855, os⟩
noncomputable def pl_68 : List Nat := [1, 32, 33, 34, 35, 36, 37, 38, 39, 40, 41, 42, 43, 44, 45, 46, 47, 48, 49, 50, 51, 52, 53, 54, 55, 56, 57, 58, 59, 60, 61, 62, 63, 64, 65, 66, 67, 68, 69, 70, 71, 72, 73, 74, 75, 76, 77, 78, 79, 80, 81, 82, 83, 84, 85, 86, 87, 88, 89, 90, 91, 92, 93, 94, 95, 96, 97, 98, 99]
noncomputable def T_u76 (P : Params) : BT := (.node (o0_0 P) (.node (o1_0 P) (.node (o3_8 P) (.node (o7_0 P) (.node (o15_0 P) (.node (o31_0 P) (.node (o63_0 P) (.node (o127_0 P) .nil .nil) .nil) (.node (o95_0 P) .nil .nil)) (.node (o47_0 P) (.node (o79_0 P) (.node (o143_13 P) .nil .nil) .nil) (.node (o111_0 P) .nil .nil))) (.node (o23_0 P) (.node (o39_0 P) (.node (o71_0 P) (.node (o135_0 P) .nil .nil) .nil) (.node (o103_0 P) .nil .nil)) (.node (o55_0 P) (.node (o87_0 P) .nil .nil) (.node (o119_0 P) .nil .nil)))) (.node (o11_0 P) (.node (o19_0 P) (.node (o35_0 P) (.node (o67_0 P) (.node (o131_0 P) .nil .nil) .nil) (.node (o99_0 P) .nil .nil)) (.node (o51_0 P) (.node (o83_0 P) .nil .nil) (.node (o115_0 P) .nil .nil))) (.node (o27_0 P) (.node (o43_0 P) (.node (o75_0 P) (.node (o139_0 P) .nil .nil) .nil) (.node (o107_0 P) .nil .nil)) (.node (o59_0 P) (.node (o91_0 P) .nil .nil) (.node (o123_0 P) .nil .nil))))) (.node (o5_0 P) (.node (o9_0 P) (.node (o17_0 P) (.node (o33_0 P) (.node (o65_0 P) (.node (o129_0 P) .nil .nil) .nil) (.node (o97_0 P) .nil .nil)) (.node (o49_0 P) (.node (o81_0 P) .nil .nil) (.node (o113_0 P) .nil .nil))) (.node (o25_0 P) (.node (o41_0 P) (.node (o73_0 P) (.node (o137_0 P) .nil .nil) .nil) (.node (o105_0 P) .nil .nil)) (.node (o57_0 P) (.node (o89_0 P) .nil .nil) (.node (o121_0 P) .nil .nil)))) (.node (o13_0 P) (.node (o21_0 P) (.node (o37_0 P) (.node (o69_0 P) (.node (o133_0 P) .nil .nil) .nil) (.node (o101_0 P) .nil .nil)) (.node (o53_0 P) (.node (o85_0 P) .nil .nil) (.node (o117_0 P) .nil .nil))) (.node (o29_5 P) (.node (o45_0 P) (.node (o77_0 P) (.node (o141_0 P) .nil .nil) .nil) (.node (o109_0 P) .nil .nil)) (.node (o61_0 P) (.node (o93_0 P) .nil .nil) (.node (o125_0 P) .nil .nil)))))) (.node (o2_0 P) (.node (o4_0 P) (.node (o8_0 P) (.node (o16_0 P) (.node (o32_0 P) (.node (o64_0 P) (.node (o128_0 P) .nil .nil) .nil) (.node (o96_0 P) .nil .nil)) (.node (o48_0 P) (.node (o80_0 P) (.node (o144_7 P) .nil .nil) .nil) (.node (o112_0 P) .nil .nil))) (.node (o24_0 P) (.node (o40_0 P) (.node (o72_0 P) (.node (o136_0 P) .nil .nil) .nil) (.node (o104_0 P) .nil .nil)) (.node (o56_0 P) (.node (o88_0 P) .nil .nil) (.node (o120_0 P) .nil .nil)))) (.node (o12_0 P) (.node (o20_0 P) (.node (o36_0 P) (.node (o68_0 P) (.node (o132_0 P) .nil .nil) .nil) (.node (o100_0 P) .nil .nil)) (.node (o52_0 P) (.node (o84_0 P) .nil .nil) (.node (o116_0 P) .nil .nil))) (.node (o28_0 P) (.node (o44_0 P) (.node (o76_0 P) (.node (o140_0 P) .nil .nil) .nil) (.node (o108_0 P) .nil .nil)) (.node (o60_0 P) (.node (o92_0 P) .nil .nil) (.node (o124_0 P) .nil .nil))))) (.node (o6_0 P) (.node (o10_0 P) (.node (o18_0 P) (.node (o34_0 P) (.node (o66_0 P) (.node (o130_0 P) .nil .nil) .nil) (.node (o98_0 P) .nil .nil)) (.node (o50_0 P) (.node (o82_0 P) .nil .nil) (.node (o114_0 P) .nil .nil))) (.node (o26_0 P) (.node (o42_0 P) (.node (o74_0 P) (.node (o138_0 P) .nil .nil) .nil) (.node (o106_0 P) .nil .nil)) (.node (o58_0 P) (.node (o90_0 P) .nil .nil) (.node (o122_0 P) .nil .nil)))) (.node (o14_0 P) (.node (o22_0 P) (.node (o38_0 P) (.node (o70_0 P) (.node (o134_0 P) .nil .nil) .nil) (.node (o102_0 P) .nil .nil)) (.node (o54_0 P) (.node (o86_0 P) .nil .nil) (.node (o118_0 P) .nil .nil))) (.node (o30_0 P) (.node (o46_0 P) (.node (o78_0 P) (.node (o142_0 P) .nil .nil) .nil) (.node (o110_0 P) .nil .nil)) (.node (o62_0 P) (.node (o94_0 P) .nil .nil) (.node (o126_0 P) .nil .nil)))))))
noncomputable def S_u76 (w : World) (os : OsState) : SharedT := ⟨T_u76 w.params, 145, {}, #[], {}, 863, os⟩
noncomputable def T_v76 (P : Params) : BT := (.node (o0_0 P) (.node (o1_0 P) (.node (o3_8 P) (.node (o7_0 P) (.node (o15_0 P) (.node (o31_0 P) (.node (o63_0 P) (.node (o127_0 P) .nil .nil) .nil) (.node (o95_0 P) .nil .nil)) (.node (o47_0 P) (.node (o79_0 P) (.node (o143_14 P) .nil .nil) .nil) (.node (o111_0 P) .nil .nil))) (.node (o23_0 P) (.node (o39_0 P) (.node (o71_0 P) (.node (o135_0 P) .nil .nil) .nil) (.node (o103_0 P) .nil .nil)) (.node (o55_0 P) (.node (o87_0 P) .nil .nil) (.node (o119_0 P) .nil .nil)))) (.node (o11_0 P) (.node (o19_0 P) (.node (o35_0 P) (.node (o67_0 P) (.node (o131_0 P) .nil .nil) .nil) (.node (o99_0 P) .nil .nil)) (.node (o51_0 P) (.node (o83_0 P) .nil .nil) (.node (o115_0 P) .nil .nil))) (.node (o27_0 P) (.node (o43_0 P) (.node (o75_0 P) (.node (o139_0 P) .nil .nil) .nil) (.node (o107_0 P) .nil .nil)) (.node (o59_0 P) (.node (o91_0 P) .nil .nil) (.node (o123_0 P) .nil .nil))))) (.node (o5_0 P) (.node (o9_0 P) (.node (o17_0 P) (.node (o33_0 P) (.node (o65_0 P) (.node (o129_0 P) .nil .nil) .nil) (.node (o97_0 P) .nil .nil)) (.node (o49_0 P) (.node (o81_0 P) .nil .nil) (.node (o113_0 P) .nil .nil))) (.node (o25_0 P) (.node (o41_0 P) (.node (o73_0 P) (.node (o137_0 P) .nil .nil) .nil) (.node (o105_0 P) .nil .nil)) (.node (o57_0 P) (.node (o89_0 P) .nil .nil) (.node (o121_0 P) .nil .nil)))) (.node (o13_0 P) (.node (o21_0 P) (.node (o37_0 P) (.node (o69_0 P) (.node (o133_0 P) .nil .nil) .nil) (.node (o101_0 P) .nil .nil)) (.node (o53_0 P) (.node (o85_0 P) .nil .nil) (.node (o117_0 P) .nil .nil))) (.node (o29_5 P) (.node (o45_0 P) (.node (o77_0 P) (.node (o141_0 P) .nil .nil) .nil) (.node (o109_0 P) .nil .nil)) (.node (o61_0 P) (.node (o93_0 P) .nil .nil) (.node (o125_0 P) .nil .nil)))))) (.node (o2_0 P) (.node (o4_0 P) (.node (o8_0 P) (.node (o16_0 P) (.node (o32_0 P) (.node (o64_0 P) (.node (o128_0 P) .nil .nil) .nil) (.node (o96_0 P) .nil .nil)) (.node (o48_0 P) (.node (o80_0 P) (.node (o144_7 P) .nil .nil) .nil) (.node (o112_0 P) .nil .nil))) (.node (o24_0 P) (.node (o40_0 P) (.node (o72_0 P) (.node (o136_0 P) .nil .nil) .nil) (.node (o104_0 P) .nil .nil)) (.node (o56_0 P) (.node (o88_0 P) .nil .nil) (.node (o120_0 P) .nil .nil)))) (.node (o12_0 P) (.node (o20_0 P) (.node (o36_0 P) (.node (o68_0 P) (.node (o132_0 P) .nil .nil) .nil) (.node (o100_0 P) .nil .nil)) (.node (o52_0 P) (.node (o84_0 P) .nil .nil) (.node (o116_0 P) .nil .nil))) (.node (o28_0 P) (.node (o44_0 P) (.node (o76_0 P) (.node (o140_0 P) .nil .nil) .nil) (.node (o108_0 P) .nil .nil)) (.node (o60_0 P) (.node (o92_0 P) .nil .nil) (.node (o124_0 P) .nil .nil))))) (.node (o6_0 P) (.node (o10_0 P) (.node (o18_0 P) (.node (o34_0 P) (.node (o66_0 P) (.node (o130_0 P) .nil .nil) .nil) (.node (o98_0 P) .nil .nil)) (.node (o50_0 P) (.node (o82_0 P) .nil .nil) (.node (o114_0 P) .nil .nil))) (.node (o26_0 P) (.node (o42_0 P) (.node (o74_0 P) (.node (o138_0 P) .nil .nil) .nil) (.node (o106_0 P) .nil .nil)) (.node (o58_0 P) (.node (o90_0 P) .nil .nil) (.node (o122_0 P) .nil .nil)))) (.node (o14_0 P) (.node (o22_0 P) (.node (o38_0 P) (.node (o70_0 P) (.node (o134_0 P) .nil .nil) .nil) (.node (o102_0 P) .nil .nil)) (.node (o54_0 P) (.node (o86_0 P) .nil .nil) (.node (o118_0 P) .nil .nil))) (.node (o30_0 P) (.node (o46_0 P) (.node (o78_0 P) (.node (o142_0 P) .nil .nil) .nil) (.node (o110_0 P) .nil .nil)) (.node (o62_0 P) (.node (o94_0 P) .nil .nil) (.node (o126_0 P) .nil .nil)))))))
noncomputable def S_v76 (w : World) (os : OsState) : SharedT := ⟨T_v76 w.params, 145, {}, #[], {}, 863, os⟩
noncomputable def pl_76 : List Nat := [1, 32, 33, 34, 35, 36, 37, 38, 39, 40, 41, 42, 43, 44, 45, 46, 47, 48, 49, 50, 51, 52, 53, 54, 55, 56, 57, 58, 59, 60, 61, 62, 63, 64, 65, 66, 67, 68, 69, 70, 71, 72, 73, 74, 75, 76, 77, 78, 79, 80, 81, 82, 83, 84, 85, 86, 87, 88, 89, 90, 91, 92, 93, 94, 95, 96, 97, 98, 99, 100, 101, 102, 103, 104, 105, 106, 107]
noncomputable def T_u81 (P : Params) : BT := (.node (o0_0 P) (.node (o1_0 P) (.node (o3_8 P) (.node (o7_0 P) (.node (o15_0 P) (.node (o31_0 P) (.node (o63_0 P) (.node (o127_0 P) .nil .nil) .nil) (.node (o95_0 P) .nil .nil)) (.node (o47_0 P) (.node (o79_0 P) (.node (o143_15 P) .nil .nil) .nil) (.node (o111_0 P) .nil .nil))) (.node (o23_0 P) (.node (o39_0 P) (.node (o71_0 P) (.node (o135_0 P) .nil .nil) .nil) (.node (o103_0 P) .nil .nil)) (.node (o55_0 P) (.node (o87_0 P) .nil .nil) (.node (o119_0 P) .nil .nil)))) (.node (o11_0 P) (.node (o19_0 P) (.node (o35_0 P) (.node (o67_0 P) (.node (o131_0 P) .nil .nil) .nil) (.node (o99_0 P) .nil .nil)) (.node (o51_0 P) (.node (o83_0 P) .nil .nil) (.node (o115_0 P) .nil .nil))) (.node (o27_0 P) (.node (o43_0 P) (.node (o75_0 P) (.node (o139_0 P) .nil .nil) .nil) (.node (o107_0 P) .nil .nil)) (.node (o59_0 P) (.node (o91_0 P) .nil .nil) (.node (o123_0 P) .nil .nil))))) (.node (o5_0 P) (.node (o9_0 P) (.node (o17_0 P) (.node (o33_0 P) (.node (o65_0 P) (.node (o129_0 P) .nil .nil) .nil) (.node (o97_0 P) .nil .nil)) (.node (o49_0 P) (.node (o81_0 P) .nil .nil) (.node (o113_0 P) .nil .nil))) (.node (o25_0 P) (.node (o41_0 P) (.node (o73_0 P) (.node (o137_0 P) .nil .nil) .nil) (.node (o105_0 P) .nil .nil)) (.node (o57_0 P) (.node (o89_0 P) .nil .nil) (.node (o121_0 P) .nil .nil)))) (.node (o13_0 P) (.node (o21_0 P) (.node (o37_0 P) (.node (o69_0 P) (.node (o133_0 P) .nil .nil) .nil) (.node (o101_0 P) .nil .nil)) (.node (o53_0 P) (.node (o85_0 P) .nil .nil) (.node (o117_0 P) .nil .nil))) (.node (o29_5 P) (.node (o45_0 P) (.node (o77_0 P) (.node (o141_0 P) .nil .nil) .nil) (.node (o109_0 P) .nil .nil)) (.node (o61_0 P) (.node (o93_0 P) .nil .nil) (.node (o125_0 P) .nil .nil)))))) (.node (o2_0 P) (.node (o4_0 P) (.node (o8_0 P) (.node (o16_0 P) (.node (o32_0 P) (.node (o64_0 P) (.node (o128_0 P) .nil .nil) .nil) (.node (o96_0 P) .nil .nil)) (.node (o48_0 P) (.node (o80_0 P) (.node (o144_8 P) .nil .nil) .nil) (.node (o112_0 P) .nil .nil))) (.node (o24_0 P) (.node (o40_0 P) (.node (o72_0 P) (.node (o136_0 P) .nil .nil) .nil) (.node (o104_0 P) .nil .nil)) (.node (o56_0 P) (.node (o88_0 P) .nil .nil) (.node (o120_0 P) .nil .nil)))) (.node (o12_0 P) (.node (o20_0 P) (.node (o36_0 P) (.node (o68_0 P) (.node (o132_0 P) .nil .nil) .nil) (.node (o100_0 P) .nil .nil)) (.node (o52_0 P) (.node (o84_0 P) .nil .nil) (.node (o116_0 P) .nil .nil))) (.node (o28_0 P) (.node (o44_0 P) (.node (o76_0 P) (.node (o140_0 P) .nil .nil) .nil) (.node (o108_0 P) .nil .nil)) (.node (o60_0 P) (.node (o92_0 P) .nil .nil) (.node (o124_0 P) .nil .nil))))) (.node (o6_0 P) (.node (o10_0 P) (.node (o18_0 P) (.node (o34_0 P) (.node (o66_0 P) (.node (o130_0 P) .nil .nil) .nil) (.node (o98_0 P) .nil .nil)) (.node (o50_0 P) (.node (o82_0 P) .nil .nil) (.node (o114_0 P) .nil .nil))) (.node (o26_0 P) (.node (o42_0 P) (.node (o74_0 P) (.node (o138_0 P) .nil .nil) .nil) (.node (o106_0 P) .nil .nil)) (.node (o58_0 P) (.node (o90_0 P) .nil .nil) (.node (o122_0 P) .nil .nil)))) (.node (o14_0 P) (.node (o22_0 P) (.node (o38_0 P) (.node (o70_0 P) (.node (o134_0 P) .nil .nil) .nil) (.node (o102_0 P) .nil .nil)) (.node (o54_0 P) (.node (o86_0 P) .nil .nil) (.node (o118_0 P) .nil .nil))) (.node (o30_0 P) (.node (o46_0 P) (.node (o78_0 P) (.node (o142_0 P) .nil .nil) .nil) (.node (o110_0 P) .nil .nil)) (.node (o62_0 P) (.node (o94_0 P) .nil .nil) (.node (o126_0 P) .nil .nil)))))))
noncomputable def S_u81 (w : World) (os : OsState) : SharedT := ⟨T_u81 w.params, 145, {}, #[], {}, 868, os⟩
noncomputable def T_v81 (P : Params) : BT := (.node (o0_0 P) (.node (o1_0 P) (.node (o3_8 P) (.node (o7_0 P) (.node (o15_0 P) (.node (o31_0 P) (.node (o63_0 P) (.node (o127_0 P) .nil .nil) .nil) (.node (o95_0 P) .nil .nil)) (.node (o47_0 P) (.node (o79_0 P) (.node (o143_16 P) .nil .nil) .nil) (.node (o111_0 P) .nil .nil))) (.node (o23_0 P) (.node (o39_0 P) (.node (o71_0 P) (.node (o135_0 P) .nil .nil) .nil) (.node (o103_0 P) .nil .nil)) (.node (o55_0 P) (.node (o87_0 P) .nil .nil) (.node (o119_0 P) .nil .nil)))) (.node (o11_0 P) (.node (o19_0 P) (.node (o35_0 P) (.node (o67_0 P) (.node (o131_0 P) .nil .nil) .nil) (.node (o99_0 P) .nil .nil)) (.node (o51_0 P) (.node (o83_0 P) .nil .nil) (.node (o115_0 P) .nil .nil))) (.node (o27_0 P) (.node (o43_0 P) (.node (o75_0 P) (.node (o139_0 P) .nil .nil) .nil) (.node (o107_0 P) .nil .nil)) (.node (o59_0 P) (.node (o91_0 P) .nil .nil) (.node (o123_0 P) .nil .nil))))) (.node (o5_0 P) (.node (o9_0 P) (.node (o17_0 P) (.node (o33_0 P) (.node (o65_0 P) (.node (o129_0 P) .nil .nil) .nil) (.node (o97_0 P) .nil .nil)) (.node (o49_0 P) (.node (o81_0 P) .nil .nil) (.node (o113_0 P) .nil .nil))) (.node (o25_0 P) (.node (o41_0 P) (.node (o73_0 P) (.node (o137_0 P) .nil .nil) .nil) (.node (o105_0 P) .nil .nil)) (.node (o57_0 P) (.node (o89_0 P) .nil .nil) (.node (o121_0 P) .nil .nil)))) (.node (o13_0 P) (.node (o21_0 P) (.node (o37_0 P) (.node (o69_0 P) (.node (o133_0 P) .nil .nil) .nil) (.node (o101_0 P) .nil .nil)) (.node (o53_0 P) (.node (o85_0 P) .nil .nil) (.node (o117_0 P) .nil .nil))) (.node (o29_5 P) (.node (o45_0 P) (.node (o77_0 P) (.node (o141_0 P) .nil .nil) .nil) (.node (o109_0 P) .nil .nil)) (.node (o61_0 P) (.node (o93_0 P) .nil .nil) (.node (o125_0 P) .nil .nil)))))) (.node (o2_0 P) (.node (o4_0 P) (.node (o8_0 P) (.node (o16_0 P) (.node (o32_0 P) (.node (o64_0 P) (.node (o128_0 P) .nil .nil) .nil) (.node (o96_0 P) .nil .nil)) (.node (o48_0 P) (.node (o80_0 P) (.node (o144_8 P) .nil .nil) .nil) (.node (o112_0 P) .nil .nil))) (.node (o24_0 P) (.node (o40_0 P) (.node (o72_0 P) (.node (o136_0 P) .nil .nil) .nil) (.node (o104_0 P) .nil .nil)) (.node (o56_0 P) (.node (o88_0 P) .nil .nil) (.node (o120_0 P) .nil .nil)))) (.node (o12_0 P) (.node (o20_0 P) (.node (o36_0 P) (.node (o68_0 P) (.node (o132_0 P) .nil .nil) .nil) (.node (o100_0 P) .nil .nil)) (.node (o52_0 P) (.node (o84_0 P) .nil .nil) (.node (o116_0 P) .nil .nil))) (.node (o28_0 P) (.node (o44_0 P) (.node (o76_0 P) (.node (o140_0 P) .nil .nil) .nil) (.node (o108_0 P) .nil .nil)) (.node (o60_0 P) (.node (o92_0 P) .nil .nil) (.node (o124_0 P) .nil .nil))))) (.node (o6_0 P) (.node (o10_0 P) (.node (o18_0 P) (.node (o34_0 P) (.node (o66_0 P) (.node (o130_0 P) .nil .nil) .nil) (.node (o98_0 P) .nil .nil)) (.node (o50_0 P) (.node (o82_0 P) .nil .nil) (.node (o114_0 P) .nil .nil))) (.node (o26_0 P) (.node (o42_0 P) (.node (o74_0 P) (.node (o138_0 P) .nil .nil) .nil) (.node (o106_0 P) .nil .nil)) (.node (o58_0 P) (.node (o90_0 P) .nil .nil) (.node (o122_0 P) .nil .nil)))) (.node (o14_0 P) (.node (o22_0 P) (.node (o38_0 P) (.node (o70_0 P) (.node (o134_0 P) .nil .nil) .nil) (.node (o102_0 P) .nil .nil)) (.node (o54_0 P) (.node (o86_0 P) .nil .nil) (.node (o118_0 P) .nil .nil))) (.node (o30_0 P) (.node (o46_0 P) (.node (o78_0 P) (.node (o142_0 P) .nil .nil) .nil) (.node (o110_0 P) .nil .nil)) (.node (o62_0 P) (.node (o94_0 P) .nil .nil) (.node (o126_0 P) .nil .nil)))))))
noncomputable def S_v81 (w : World) (os : OsState) : SharedT := ⟨T_v81 w.params, 145, {}, #[], {}, 868, os⟩
noncomputable def pl_81 : List Nat := [1, 32, 33, 34, 35, 36, 37, 38, 39, 40, 41, 42, 43, 44, 45, 46, 47, 48, 49, 50, 51, 52, 53, 54, 55, 56, 57, 58, 59, 60, 61, 62, 63, 64, 65, 66, 67, 68, 69, 70, 71, 72, 73, 74, 75, 76, 77, 78, 79, 80, 81, 82, 83, 84, 85, 86, 87, 88, 89, 90, 91, 92, 93, 94, 95, 96, 97, 98, 99, 100, 101, 102, 103, 104, 105, 106, 107, 108, 109, 110, 111, 112]
noncomputable def T_u86 (P : Params) : BT := (.node (o0_0 P) (.node (o1_0 P) (.node (o3_8 P) (.node (o7_0 P) (.node (o15_0 P) (.node (o31_0 P) (.node (o63_0 P) (.node (o127_0 P) .nil .nil) .nil) (.node (o95_0 P) .nil .nil)) (.node (o47_0 P) (.node (o79_0 P) (.node (o143_17 P) .nil .nil) .nil) (.node (o111_0 P) .nil .nil))) (.node (o23_0 P) (.node (o39_0 P) (.node (o71_0 P) (.node (o135_0 P) .nil .nil) .nil) (.node (o103_0 P) .nil .nil)) (.node (o55_0 P) (.node (o87_0 P) .nil .nil) (.node (o119_0 P) .nil .nil)))) (.node (o11_0 P) (.node (o19_0 P) (.node (o35_0 P) (.node (o67_0 P) (.node (o131_0 P) .nil .nil) .nil) (.node (o99_0 P) .nil .nil)) (.node (o51_0 P) (.node (o83_0 P) .nil .nil) (.node (o115_0 P) .nil .nil))) (.node (o27_0 P) (.node (o43_0 P) (.node (o75_0 P) (.node (o139_0 P) .nil .nil) .nil) (.node (o107_0 P) .nil .nil)) (.node (o59_0 P) (.node (o91_0 P) .nil .nil) (.node (o123_0 P) .nil .nil))))) (.node (o5_0 P) (.node (o9_0 P) (.node (o17_0 P) (.node (o33_0 P) (.node (o65_0 P) (.node (o129_0 P) .nil .nil) .nil) (.node (o97_0 P) .nil .nil)) (.node (o49_0 P) (.node (o81_0 P) .nil .nil) (.node (o113_0 P) .nil .nil))) (.node (o25_0 P) (.node (o41_0 P) (.node (o73_0 P) (.node (o137_0 P) .nil .nil) .nil) (.node (o105_0 P) .nil .nil)) (.node (o57_0 P) (.node (o89_0 P) .nil .nil) (.node (o121_0 P) .nil .nil)))) (.node (o13_0 P) (.node (o21_0 P) (.node (o37_0 P) (.node (o69_0 P) (.node (o133_0 P) .nil .nil) .nil) (.node (o101_0 P) .nil .nil)) (.node (o53_0 P) (.node (o85_0 P) .nil .nil) (.node (o117_0 P) .nil .nil))) (.node (o29_5 P) (.node (o45_0 P) (.node (o77_0 P) (.node (o141_0 P) .nil .nil) .nil) (.node (o109_0 P) .nil .nil)) (.node (o61_0 P) (.node (o93_0 P) .nil .nil) (.node (o125_0 P) .nil .nil)))))) (.node (o2_0 P) (.node (o4_0 P) (.node (o8_0 P) (.node (o16_0 P) (.node (o32_0 P) (.node (o64_0 P) (.node (o128_0 P) .nil .nil) .nil) (.node (o96_0 P) .nil .nil)) (.node (o48_0 P) (.node (o80_0 P) (.node (o144_9 P) .nil .nil) .nil) (.node (o112_0 P) .nil .nil))) (.node (o24_0 P) (.node (o40_0 P) (.node (o72_0 P) (.node (o136_0 P) .nil .nil) .nil) (.node (o104_0 P) .nil .nil)) (.node (o56_0 P) (.node (o88_0 P) .nil .nil) (.node (o120_0 P) .nil .nil)))) (.node (o12_0 P) (.node (o20_0 P) (.node (o36_0 P) (.node (o68_0 P) (.node (o132_0 P) .nil .nil) .nil) (.node (o100_0 P) .nil .nil)) (.node (o52_0 P) (.node (o84_0 P) .nil .nil) (.node (o116_0 P) .nil .nil))) (.node (o28_0 P) (.node (o44_0 P) (.node (o76_0 P) (.node (o140_0 P) .nil .nil) .nil) (.node (o108_0 P) .nil .nil)) (.node (o60_0 P) (.node (o92_0 P) .nil .nil) (.node (o124_0 P) .nil .nil))))) (.node (o6_0 P) (.node (o10_0 P) (.node (o18_0 P) (.node (o34_0 P) (.node (o66_0 P) (.node (o130_0 P) .nil .nil) .nil) (.node (o98_0 P) .nil .nil)) (.node (o50_0 P) (.node (o82_0 P) .nil .nil) (.node (o114_0 P) .nil .nil))) (.node (o26_0 P) (.node (o42_0 P) (.node (o74_0 P) (.node (o138_0 P) .nil .nil) .nil) (.node (o106_0 P) .nil .nil)) (.node (o58_0 P) (.node (o90_0 P) .nil .nil) (.node (o122_0 P) .nil .nil)))) (.node (o14_0 P) (.node (o22_0 P) (.node (o38_0 P) (.node (o70_0 P) (.node (o134_0 P) .nil .nil) .nil) (.node (o102_0 P) .nil .nil)) (.node (o54_0 P) (.node (o86_0 P) .nil .nil) (.node (o118_0 P) .nil .nil))) (.node (o30_0 P) (.node (o46_0 P) (.node (o78_0 P) (.node (o142_0 P) .nil .nil) .nil) (.node (o110_0 P) .nil .nil)) (.node (o62_0 P) (.node (o94_0 P) .nil .nil) (.node (o126_0 P) .nil .nil)))))))
noncomputable def S_u86 (w : World) (os : OsState) : SharedT := ⟨T_u86 w.params, 145, {}, #[], {}, 873, os⟩
noncomputable def T_v86 (P : Params) : BT := (.node (o0_0 P) (.node (o1_0 P) (.node (o3_8 P) (.node (o7_0 P) (.node (o15_0 P) (.node (o31_0 P) (.node (o63_0 P) (.node (o127_0 P) .nil .nil) .nil) (.node (o95_0 P) .nil .nil)) (.node (o47_0 P) (.node (o79_0 P) (.node (o143_18 P) .nil .nil) .nil) (.node (o111_0 P) .nil .nil))) (.node (o23_0 P) (.node (o39_0 P) (.node (o71_0 P) (.node (o135_0 P) .nil .nil) .nil) (.node (o103_0 P) .nil .nil)) (.node (o55_0 P) (.node (o87_0 P) .nil .nil) (.node (o119_0 P) .nil .nil)))) (.node (o11_0 P) (.node (o19_0 P) (.node (o35_0 P) (.node (o67_0 P) (.node (o131_0 P) .nil .nil) .nil) (.node (o99_0 P) .nil .nil)) (.node (o51_0 P) (.node (o83_0 P) .nil .nil) (.node (o115_0 P) .nil .nil))) (.node (o27_0 P) (.node (o43_0 P) (.node (o75_0 P) (.node (o139_0 P) .nil .nil) .nil) (.node (o107_0 P) .nil .nil)) (.node (o59_0 P) (.node (o91_0 P) .nil .nil) (.node (o123_0 P) .nil .nil))))) (.node (o5_0 P) (.node (o9_0 P) (.node (o17_0 P) (.node (o33_0 P) (.node (o65_0 P) (.node (o129_0 P) .nil .nil) .nil) (.node (o97_0 P) .nil .nil)) (.node (o49_0 P) (.node (o81_0 P) .nil .nil) (.node (o113_0 P) .nil .nil))) (.node (o25_0 P) (.node (o41_0 P) (.node (o73_0 P) (.node (o137_0 P) .nil .nil) .nil) (.node (o105_0 P) .nil .nil)) (.node (o57_0 P) (.node (o89_0 P) .nil .nil) (.node (o121_0 P) .nil .nil)))) (.node (o13_0 P) (.node (o21_0 P) (.node (o37_0 P) (.node (o69_0 P) (.node (o133_0 P) .nil .nil) .nil) (.node (o101_0 P) .nil .nil)) (.node (o53_0 P) (.node (o85_0 P) .nil .nil) (.node (o117_0 P) .nil .nil))) (.node (o29_5 P) (.node (o45_0 P) (.node (o77_0 P) (.node (o141_0 P) .nil .nil) .nil) (.node (o109_0 P) .nil .nil)) (.node (o61_0 P) (.node (o93_0 P) .nil .nil) (.node (o125_0 P) .nil .nil)))))) (.node (o2_0 P) (.node (o4_0 P) (.node (o8_0 P) (.node (o16_0 P) (.node (o32_0 P) (.node (o64_0 P) (.node (o128_0 P) .nil .nil) .nil) (.node (o96_0 P) .nil .nil)) (.node (o48_0 P) (.node (o80_0 P) (.node (o144_9 P) .nil .nil) .nil) (.node (o112_0 P) .nil .nil))) (.node (o24_0 P) (.node (o40_0 P) (.node (o72_0 P) (.node (o136_0 P) .nil .nil) .nil) (.node (o104_0 P) .nil .nil)) (.node (o56_0 P) (.node (o88_0 P) .nil .nil) (.node (o120_0 P) .nil .nil)))) (.node (o12_0 P) (.node (o20_0 P) (.node (o36_0 P) (.node (o68_0 P) (.node (o132_0 P) .nil .nil) .nil) (.node (o100_0 P) .nil .nil)) (.node (o52_0 P) (.node (o84_0 P) .nil .nil) (.node (o116_0 P) .nil .nil))) (.node (o28_0 P) (.node (o44_0 P) (.node (o76_0 P) (.node (o140_0 P) .nil .nil) .nil) (.node (o108_0 P) .nil .nil)) (.node (o60_0 P) (.node (o92_0 P) .nil .nil) (.node (o124_0 P) .nil .nil))))) (.node (o6_0 P) (.node (o10_0 P) (.node (o18_0 P) (.node (o34_0 P) (.node (o66_0 P) (.node (o130_0 P) .nil .nil) .nil) (.node (o98_0 P) .nil .nil)) (.node (o50_0 P) (.node (o82_0 P) .nil .nil) (.node (o114_0 P) .nil .nil))) (.node (o26_0 P) (.node (o42_0 P) (.node (o74_0 P) (.node (o138_0 P) .nil .nil) .nil) (.node (o106_0 P) .nil .nil)) (.node (o58_0 P) (.node (o90_0 P) .nil .nil) (.node (o122_0 P) .nil .nil)))) (.node (o14_0 P) (.node (o22_0 P) (.node (o38_0 P) (.node (o70_0 P) (.node (o134_0 P) .nil .nil) .nil) (.node (o102_0 P) .nil .nil)) (.node (o54_0 P) (.node (o86_0 P) .nil .nil) (.node (o118_0 P) .nil .nil))) (.node (o30_0 P) (.node (o46_0 P) (.node (o78_0 P) (.node (o142_0 P) .nil .nil) .nil) (.node (o110_0 P) .nil .nil)) (.node (o62_0 P) (.node (o94_0 P) .nil .nil) (.node (o126_0 P) .nil .nil)))))))
noncomputable def S_v86 (w : World) (os : OsState) : SharedT := ⟨T_v86 w.params, 145, {}, #[], {}, 873, os⟩
noncomputable def pl_86 : List Nat := [1, 32, 33, 34, 35, 36, 37, 38, 39, 40, 41, 42, 43, 44, 45, 46, 47, 48, 49, 50, 51, 52, 53, 54, 55, 56, 57, 58, 59, 60, 61, 62, 63, 64, 65, 66, 67, 68, 69, 70, 71, 72, 73, 74, 75, 76, 77, 78, 79, 80, 81, 82, 83, 84, 85, 86, 87, 88, 89, 90, 91, 92, 93, 94, 95, 96, 97, 98, 99, 100, 101, 102, 103, 104, 105, 106, 107, 108, 109, 110, 111, 112, 113, 114, 115, 116, 117]
noncomputable def T_u91 (P : Params) : BT := (.node (o0_0 P) (.node (o1_0 P) (.node (o3_8 P) (.node (o7_0 P) (.node (o15_0 P) (.node (o31_0 P) (.node (o63_0 P) (.node (o127_0 P) .nil .nil) .nil) (.node (o95_0 P) .nil .nil)) (.node (o47_0 P) (.node (o79_0 P) (.node (o143_19 P) .nil .nil) .nil) (.node (o111_0 P) .nil .nil))) (.node (o23_0 P) (.node (o39_0 P) (.node (o71_0 P) (.node (o135_0 P) .nil .nil) .nil) (.node (o103_0 P) .nil .nil)) (.node (o55_0 P) (.node (o87_0 P) .nil .nil) (.node (o119_0 P) .nil .nil)))) (.node (o11_0 P) (.node (o19_0 P) (.node (o35_0 P) (.node (o67_0 P) (.node (o131_0 P) .nil .nil) .nil) (.node (o99_0 P) .nil .nil)) (.node (o51_0 P) (.node (o83_0 P) .nil .nil) (.node (o115_0 P) .nil .nil))) (.node (o27_0 P) (.node (o43_0 P) (.node (o75_0 P) (.node (o139_0 P) .nil .nil) .nil) (.node (o107_0 P) .nil .nil)) (.node (o59_0 P) (.node (o91_0 P) .nil .nil) (.node (o123_0 P) .nil .nil))))) (.node (o5_0 P) (.node (o9_0 P) (.node (o17_0 P) (.node (o33_0 P) (.node (o65_0 P) (.node (o129_0 P) .nil .nil) .nil) (.node (o97_0 P) .nil .nil)) (.node (o49_0 P) (.node (o81_0 P) .nil .nil) (.node (o113_0 P) .nil .nil))) (.node (o25_0 P) (.node (o41_0 P) (.node (o73_0 P) (.node (o137_0 P) .nil .nil) .nil) (.node (o105_0 P) .nil .nil)) (.node (o57_0 P) (.node (o89_0 P) .nil .nil) (.node (o121_0 P) .nil .nil)))) (.node (o13_0 P) (.node (o21_0 P) (.node (o37_0 P) (.node (o69_0 P) (.node (o133_0 P) .nil .nil) .nil) (.node (o101_0 P) .nil .nil)) (.node (o53_0 P) (.node (o85_0 P) .nil .nil) (.node (o117_0 P) .nil .nil))) (.node (o29_5 P) (.node (o45_0 P) (.node (o77_0 P) (.node (o141_0 P) .nil .nil) .nil) (.node (o109_0 P) .nil .nil)) (.node (o61_0 P) (.node (o93_0 P) .nil .nil) (.node (o125_0 P) .nil .nil)))))) (.node (o2_0 P) (.node (o4_0 P) (.node (o8_0 P) (.node (o16_0 P) (.node (o32_0 P) (.node (o64_0 P) (.node (o128_0 P) .nil .nil) .nil) (.node (o96_0 P) .nil .nil)) (.node (o48_0 P) (.node (o80_0 P) (.node (o144_10 P) .nil .nil) .nil) (.node (o112_0 P) .nil .nil))) (.node (o24_0 P) (.node (o40_0 P) (.node (o72_0 P) (.node (o136_0 P) .nil .nil) .nil) (.node (o104_0 P) .nil .nil)) (.node (o56_0 P) (.node (o88_0 P) .nil .nil) (.node (o120_0 P) .nil .nil)))) (.node (o12_0 P) (.node (o20_0 P) (.node (o36_0 P) (.node (o68_0 P) (.node (o132_0 P) .nil .nil) .nil) (.node (o100_0 P) .nil .nil)) (.node (o52_0 P) (.node (o84_0 P) .nil .nil) (.node (o116_0 P) .nil .nil))) (.node (o28_0 P) (.node (o44_0 P) (.node (o76_0 P) (.node (o140_0 P) .nil .nil) .nil) (.node (o108_0 P) .nil .nil)) (.node (o60_0 P) (.node (o92_0 P) .nil .nil) (.node (o124_0 P) .nil .nil))))) (.node (o6_0 P) (.node (o10_0 P) (.node (o18_0 P) (.node (o34_0 P) (.node (o66_0 P) (.node (o130_0 P) .nil .nil) .nil) (.node (o98_0 P) .nil .nil)) (.node (o50_0 P) (.node (o82_0 P) .nil .nil) (.node (o114_0 P) .nil .nil))) (.node (o26_0 P) (.node (o42_0 P) (.node (o74_0 P) (.node (o138_0 P) .nil .nil) .nil) (.node (o106_0 P) .nil .nil)) (.node (o58_0 P) (.node (o90_0 P) .nil .nil) (.node (o122_0 P) .nil .nil)))) (.node (o14_0 P) (.node (o22_0 P) (.node (o38_0 P) (.node (o70_0 P) (.node (o134_0 P) .nil .nil) .nil) (.node (o102_0 P) .nil .nil)) (.node (o54_0 P) (.node (o86_0 P) .nil .nil) (.node (o118_0 P) .nil .nil))) (.node (o30_0 P) (.node (o46_0 P) (.node (o78_0 P) (.node (o142_0 P) .nil .nil) .nil) (.node (o110_0 P) .nil .nil)) (.node (o62_0 P) (.node (o94_0 P) .nil .nil) (.node (o126_0 P) .nil .nil)))))))
noncomputable def S_u91 (w : World) (os : OsState) : SharedT := ⟨T_u91 w.params, 145, {}, #[], {}, 878, os⟩
noncomputable def T_v91 (P : Params) : BT := (.node (o0_0 P) (.node (o1_0 P) (.node (o3_8 P) (.node (o7_0 P) (.node (o15_0 P) (.node (o31_0 P) (.node (o63_0 P) (.node (o127_0 P) .nil .nil) .nil) (.node (o95_0 P) .nil .nil)) (.node (o47_0 P) (.node (o79_0 P) (.node (o143_20 P) .nil .nil) .nil) (.node (o111_0 P) .nil .nil))) (.node (o23_0 P) (.node (o39_0 P) (.node (o71_0 P) (.node (o135_0 P) .nil .nil) .nil) (.node (o103_0 P) .nil .nil)) (.node (o55_0 P) (.node (o87_0 P) .nil .nil) (.node (o119_0 P) .nil .nil)))) (.node (o11_0 P) (.node (o19_0 P) (.node (o35_0 P) (.node (o67_0 P) (.node (o131_0 P) .nil .nil) .nil) (.node (o99_0 P) .nil .nil)) (.node (o51_0 P) (.node (o83_0 P) .nil .nil) (.node (o115_0 P) .nil .nil))) (.node (o27_0 P) (.node (o43_0 P) (.node (o75_0 P) (.node (o139_0 P) .nil .nil) .nil) (.node (o107_0 P) .nil .nil)) (.node (o59_0 P) (.node (o91_0 P) .nil .nil) (.node (o123_0 P) .nil .nil))))) (.node (o5_0 P) (.node (o9_0 P) (.node (o17_0 P) (.node (o33_0 P) (.node (o65_0 P) (.node (o129_0 P) .nil .nil) .nil) (.node (o97_0 P) .nil .nil)) (.node (o49_0 P) (.node (o81_0 P) .nil .nil) (.node (o113_0 P) .nil .nil))) (.node (o25_0 P) (.node (o41_0 P) (.node (o73_0 P) (.node (o137_0 P) .nil .nil) .nil) (.node (o105_0 P) .nil .nil)) (.node (o57_0 P) (.node (o89_0 P) .nil .nil) (.node (o121_0 P) .nil .nil)))) (.node (o13_0 P) (.node (o21_0 P) (.node (o37_0 P) (.node (o69_0 P) (.node (o133_0 P) .nil .nil) .nil) (.node (o101_0 P) .nil .nil)) (.node (o53_0 P) (.node (o85_0 P) .nil .nil) (.node (o117_0 P) .nil .nil))) (.node (o29_5 P) (.node (o45_0 P) (.node (o77_0 P) (.node (o141_0 P) .nil .nil) .nil) (.node (o109_0 P) .nil .nil)) (.node (o61_0 P) (.node (o93_0 P) .nil .nil) (.node (o125_0 P) .nil .nil)))))) (.node (o2_0 P) (.node (o4_0 P) (.node (o8_0 P) (.node (o16_0 P) (.node (o32_0 P) (.node (o64_0 P) (.node (o128_0 P) .nil .nil) .nil) (.node (o96_0 P) .nil .nil)) (.node (o48_0 P) (.node (o80_0 P) (.node (o144_10 P) .nil .nil) .nil) (.node (o112_0 P) .nil .nil))) (.node (o24_0 P) (.node (o40_0 P) (.node (o72_0 P) (.node (o136_0 P) .nil .nil) .nil) (.node (o104_0 P) .nil .nil)) (.node (o56_0 P) (.node (o88_0 P) .nil .nil) (.node (o120_0 P) .nil .nil)))) (.node (o12_0 P) (.node (o20_0 P) (.node (o36_0 P) (.node (o68_0 P) (.node (o132_0 P) .nil .nil) .nil) (.node (o100_0 P) .nil .nil)) (.node (o52_0 P) (.node (o84_0 P) .nil .nil) (.node (o116_0 P) .nil .nil))) (.node (o28_0 P) (.node (o44_0 P) (.node (o76_0 P) (.node (o140_0 P) .nil .nil) .nil) (.node (o108_0 P) .nil .nil)) (.node (o60_0 P) (.node (o92_0 P) .nil .nil) (.node (o124_0 P) .nil .nil))))) (.node (o6_0 P) (.node (o10_0 P) (.node (o18_0 P) (.node (o34_0 P) (.node (o66_0 P) (.node (o130_0 P) .nil .nil) .nil) (.node (o98_0 P) .nil .nil)) (.node (o50_0 P) (.node (o82_0 P) .nil .nil) (.node (o114_0 P) .nil .nil))) (.node (o26_0 P) (.node (o42_0 P) (.node (o74_0 P) (.node (o138_0 P) .nil .nil) .nil) (.node (o106_0 P) .nil .nil)) (.node (o58_0 P) (.node (o90_0 P) .nil .nil) (.node (o122_0 P) .nil .nil)))) (.node (o14_0 P) (.node (o22_0 P) (.node (o38_0 P) (.node (o70_0 P) (.node (o134_0 P) .nil .nil) .nil) (.node (o102_0 P) .nil .nil)) (.node (o54_0 P) (.node (o86_0 P) .nil .nil) (.node (o118_0 P) .nil .nil))) (.node (o30_0 P) (.node (o46_0 P) (.node (o78_0 P) (.node (o142_0 P) .nil .nil) .nil) (.node (o110_0 P) .nil .nil)) (.node (o62_0 P) (.node (o94_0 P) .nil .nil) (.node (o126_0 P) .nil .nil)))))))
noncomputable def S_v91 (w : World) (os : OsState) : SharedT := ⟨T_v91 w.params, 145, {}, #[], {}, 878, os⟩
noncomputable def pl_91 : List Nat := [1, 32, 33, 34, 35, 36, 37, 38, 39, 40, 41, 42, 43, 44, 45, 46, 47, 48, 49, 50, 51, 52, 53, 54, 55, 56, 57, 58, 59, 60, 61, 62, 63, 64, 65, 66, 67, 68, 69, 70, 71, 72, 73, 74, 75, 76, 77, 78, 79, 80, 81, 82, 83, 84, 85, 86, 87, 88, 89, 90, 91, 92, 93, 94, 95, 96, 97, 98, 99, 100, 101, 102, 103, 104, 105, 106, 107, 108, 109, 110, 111, 112, 113, 114, 115, 116, 117, 118, 119, 120, 121, 122]
noncomputable def T_u96 (P : Params) : BT := (.node (o0_0 P) (.node (o1_0 P) (.node (o3_8 P) (.node (o7_0 P) (.node (o15_0 P) (.node (o31_0 P) (.node (o63_0 P) (.node (o127_0 P) .nil .nil) .nil) (.node (o95_0 P) .nil .nil)) (.node (o47_0 P) (.node (o79_0 P) (.node (o143_0 P) .nil .nil) .nil) (.node (o111_0 P) .nil .nil))) (.node (o23_0 P) (.node (o39_0 P) (.node (o71_0 P) (.node (o135_0 P) .nil .nil) .nil) (.node (o103_0 P) .nil .nil)) (.node (o55_0 P) (.node (o87_0 P) .nil .nil) (.node (o119_0 P) .nil .nil)))) (.node (o11_0 P) (.node (o19_0 P) (.node (o35_0 P) (.node (o67_0 P) (.node (o131_0 P) .nil .nil) .nil) (.node (o99_0 P) .nil .nil)) (.node (o51_0 P) (.node (o83_0 P) .nil .nil) (.node (o115_0 P) .nil .nil))) (.node (o27_0 P) (.node (o43_0 P) (.node (o75_0 P) (.node (o139_0 P) .nil .nil) .nil) (.node (o107_0 P) .nil .nil)) (.node (o59_0 P) (.node (o91_0 P) .nil .nil) (.node (o123_0 P) .nil .nil))))) (.node (o5_0 P) (.node (o9_0 P) (.node (o17_0 P) (.node (o33_0 P) (.node (o65_0 P) (.node (o129_0 P) .nil .nil) .nil) (.node (o97_0 P) .nil .nil)) (.node (o49_0 P) (.node (o81_0 P) .nil .nil) (.node (o113_0 P) .nil .nil))) (.node (o25_0 P) (.node (o41_0 P) (.node (o73_0 P) (.node (o137_0 P) .nil .nil) .nil) (.node (o105_0 P) .nil .nil)) (.node (o57_0 P) (.node (o89_0 P) .nil .nil) (.node (o121_0 P) .nil .nil)))) (.node (o13_0 P) (.node (o21_0 P) (.node (o37_0 P) (.node (o69_0 P) (.node (o133_0 P) .nil .nil) .nil) (.node (o101_0 P) .nil .nil)) (.node (o53_0 P) (.node (o85_0 P) .nil .nil) (.node (o117_0 P) .nil .nil))) (.node (o29_5 P) (.node (o45_0 P) (.node (o77_0 P) (.node (o141_0 P) .nil .nil) .nil) (.node (o109_0 P) .nil .nil)) (.node (o61_0 P) (.node (o93_0 P) .nil .nil) (.node (o125_0 P) .nil .nil)))))) (.node (o2_0 P) (.node (o4_0 P) (.node (o8_0 P) (.node (o16_0 P) (.node (o32_0 P) (.node (o64_0 P) (.node (o128_0 P) .nil .nil) .nil) (.node (o96_0 P) .nil .nil)) (.node (o48_0 P) (.node (o80_0 P) (.node (o144_11 P) .nil .nil) .nil) (.node (o112_0 P) .nil .nil))) (.node (o24_0 P) (.node (o40_0 P) (.node (o72_0 P) (.node (o136_0 P) .nil .nil) .nil) (.node (o104_0 P) .nil .nil)) (.node (o56_0 P) (.node (o88_0 P) .nil .nil) (.node (o120_0 P) .nil .nil)))) (.node (o12_0 P) (.node (o20_0 P) (.node (o36_0 P) (.node (o68_0 P) (.node (o132_0 P) .nil .nil) .nil) (.node (o100_0 P) .nil .nil)) (.node (o52_0 P) (.node (o84_0 P) .nil .nil) (.node (o116_0 P) .nil .nil))) (.node (o28_0 P) (.node (o44_0 P) (.node (o76_0 P) (.node (o140_0 P) .nil .nil) .nil) (.node (o108_0 P) .nil .nil)) (.node (o60_0 P) (.node (o92_0 P) .nil .nil) (.node (o124_0 P) .nil .nil))))) (.node (o6_0 P) (.node (o10_0 P) (.node (o18_0 P) (.node (o34_0 P) (.node (o66_0 P) (.node (o130_0 P) .nil .nil) .nil) (.node (o98_0 P) .nil .nil)) (.node (o50_0 P) (.node (o82_0 P) .nil .nil) (.node (o114_0 P) .nil .nil))) (.node (o26_0 P) (.node (o42_0 P) (.node (o74_0 P) (.node (o138_0 P) .nil .nil) .nil) (.node (o106_0 P) .nil .nil)) (.node (o58_0 P) (.node (o90_0 P) .nil .nil) (.node (o122_0 P) .nil .nil)))) (.node (o14_0 P) (.node (o22_0 P) (.node (o38_0 P) (.node (o70_0 P) (.node (o134_0 P) .nil .nil) .nil) (.node (o102_0 P) .nil .nil)) (.node (o54_0 P) (.node (o86_0 P) .nil .nil) (.node (o118_0 P) .nil .nil))) (.node (o30_0 P) (.node (o46_0 P) (.node (o78_0 P) (.node (o142_0 P) .nil .nil) .nil) (.node (o110_0 P) .nil .nil)) (.node (o62_0 P) (.node (o94_0 P) .nil .nil) (.node (o126_0 P) .nil .nil)))))))
noncomputable def S_u96 (w : World) (os : OsState) : SharedT := ⟨T_u96 w.params, 145, {}, #[], {}, 883, os⟩
noncomputable def T_v96 (P : Params) : BT := (.node (o0_0 P) (.node (o1_0 P) (.node (o3_8 P) (.node (o7_0 P) (.node (o15_0 P) (.node (o31_0 P) (.node (o63_0 P) (.node (o127_0 P) .nil .nil) .nil) (.node (o95_0 P) .nil .nil)) (.node (o47_0 P) (.node (o79_0 P) (.node (o143_21 P) .nil .nil) .nil) (.node (o111_0 P) .nil .nil))) (.node (o23_0 P) (.node (o39_0 P) (.node (o71_0 P) (.node (o135_0 P) .nil .nil) .nil) (.node (o103_0 P) .nil .nil)) (.node (o55_0 P) (.node (o87_0 P) .nil .nil) (.node (o119_0 P) .nil .nil)))) (.node (o11_0 P) (.node (o19_0 P) (.node (o35_0 P) (.node (o67_0 P) (.node (o131_0 P) .nil .nil) .nil) (.node (o99_0 P) .nil .nil)) (.node (o51_0 P) (.node (o83_0 P) .nil .nil) (.node (o115_0 P) .nil .nil))) (.node (o27_0 P) (.node (o43_0 P) (.node (o75_0 P) (.node (o139_0 P) .nil .nil) .nil) (.node (o107_0 P) .nil .nil)) (.node (o59_0 P) (.node (o91_0 P) .nil .nil) (.node (o123_0 P) .nil .nil))))) (.node (o5_0 P) (.node (o9_0 P) (.node (o17_0 P) (.node (o33_0 P) (.node (o65_0 P) (.node (o129_0 P) .nil .nil) .nil) (.node (o97_0 P) .nil .nil)) (.node (o49_0 P) (.node (o81_0 P) .nil .nil) (.node (o113_0 P) .nil .nil))) (.node (o25_0 P) (.node (o41_0 P) (.node (o73_0 P) (.node (o137_0 P) .nil .nil) .nil) (.node (o105_0 P) .nil .nil)) (.node (o57_0 P) (.node (o89_0 P) .nil .nil) (.node (o121_0 P) .nil .nil)))) (.node (o13_0 P) (.node (o21_0 P) (.node (o37_0 P) (.node (o69_0 P) (.node (o133_0 P) .nil .nil) .nil) (.node (o101_0 P) .nil .nil)) (.node (o53_0 P) (.node (o85_0 P) .nil .nil) (.node (o117_0 P) .nil .nil))) (.node (o29_5 P) (.node (o45_0 P) (.node (o77_0 P) (.node (o141_0 P) .nil .nil) .nil) (.node (o109_0 P) .nil .nil)) (.node (o61_0 P) (.node (o93_0 P) .nil .nil) (.node (o125_0 P) .nil .nil)))))) (.node (o2_0 P) (.node (o4_0 P) (.node (o8_0 P) (.node (o16_0 P) (.node (o32_0 P) (.node (o64_0 P) (.node (o128_0 P) .nil .nil) .nil) (.node (o96_0 P) .nil .nil)) (.node (o48_0 P) (.node (o80_0 P) (.node (o144_11 P) .nil .nil) .nil) (.node (o112_0 P) .nil .nil))) (.node (o24_0 P) (.node (o40_0 P) (.node (o72_0 P) (.node (o136_0 P) .nil .nil) .nil) (.node (o104_0 P) .nil .nil)) (.node (o56_0 P) (.node (o88_0 P) .nil .nil) (.node (o120_0 P) .nil .nil)))) (.node (o12_0 P) (.node (o20_0 P) (.node (o36_0 P) (.node (o68_0 P) (.node (o132_0 P) .nil .nil) .nil) (.node (o100_0 P) .nil .nil)) (.node (o52_0 P) (.node (o84_0 P) .nil .nil) (.node (o116_0 P) .nil .nil))) (.node (o28_0 P) (.node (o44_0 P) (.node (o76_0 P) (.node (o140_0 P) .nil .nil) .nil) (.node (o108_0 P) .nil .nil)) (.node (o60_0 P) (.node (o92_0 P) .nil .nil) (.node (o124_0 P) .nil .nil))))) (.node (o6_0 P) (.node (o10_0 P) (.node (o18_0 P) (.node (o34_0 P) (.node (o66_0 P) (.node (o130_0 P) .nil .nil) .nil) (.node (o98_0 P) .nil .nil)) (.node (o50_0 P) (.node (o82_0 P) .nil .nil) (.node (o114_0 P) .nil .nil))) (.node (o26_0 P) (.node (o42_0 P) (.node (o74_0 P) (.node (o138_0 P) .nil .nil) .nil) (.node (o106_0 P) .nil .nil)) (.node (o58_0 P) (.node (o90_0 P) .nil .nil) (.node (o122_0 P) .nil .nil)))) (.node (o14_0 P) (.node (o22_0 P) (.node (o38_0 P) (.node (o70_0 P) (.node (o134_0 P) .nil .nil) .nil) (.node (o102_0 P) .nil .nil)) (.node (o54_0 P) (.node (o86_0 P) .nil .nil) (.node (o118_0 P) .nil .nil))) (.node (o30_0 P) (.node (o46_0 P) (.node (o78_0 P) (.node (o142_0 P) .nil .nil) .nil) (.node (o110_0 P) .nil .nil)) (.node (o62_0 P) (.node (o94_0 P) .nil .nil) (.node (o126_0 P) .nil .nil)))))))
noncomputable def S_v96 (w : World) (os : OsState) : SharedT := ⟨T_v96 w.params, 145, {}, #[], {}, 883, os⟩
noncomputable def pl_96 : List Nat := [1, 32, 33, 34, 35, 36, 37, 38, 39, 40, 41, 42, 43, 44, 45, 46, 47, 48, 49, 50, 51, 52, 53, 54, 55, 56, 57, 58, 59, 60, 61, 62, 63, 64, 65, 66, 67, 68, 69, 70, 71, 72, 73, 74, 75, 76, 77, 78, 79, 80, 81, 82, 83, 84, 85, 86, 87, 88, 89, 90, 91, 92, 93, 94, 95, 96, 97, 98, 99, 100, 101, 102, 103, 104, 105, 106, 107, 108, 109, 110, 111, 112, 113, 114, 115, 116, 117, 118, 119, 120, 121, 122, 123, 124, 125, 126, 127]
noncomputable def bE : List Stmt := behindTheImports pwN
noncomputable def envM : Env := { scope := pwN.main.scope, locals := mainNs, globals := mainNs, cells := [], code := .ref 30, frame := some 31 }
noncomputable abbrev cE : Code := .body bE envM
noncomputable abbrev q0 : Pos := ⟨0, 0, 0, 0⟩
noncomputable abbrev tb := treeTable
noncomputable abbrev tbN := PySem.W.Fast.tw14364793385576792824
theorem tb_eq : @treeTable = @tbN := PySem.W.Fast.te14364793385576792824
theorem pw_eq : PySem.Challenge.pw_ij0078_01 = pwN := PySem.W.Fast.te4098556716814465582
noncomputable abbrev segRunN := @PySem.W.Fast.tw10110043849684766642
theorem segRun_eq : @segRunT = segRunN := PySem.W.Fast.te10110043849684766642
noncomputable abbrev segGoN := @PySem.W.Fast.tw10295753902157049106
theorem segGo_eq : @segGoT = segGoN := PySem.W.Fast.te10295753902157049106

noncomputable def sts0 : List Stmt := [stmtOf 1, stmtOf 2]
noncomputable abbrev L0 (w : World) := (fun os => segRunN tbN pwN w 28 (some (.ref 6)) 1 91 (S_pre w os) (piecesOf sts0 envM cE ⟨0, 0, 0, 0⟩ [topFrame q0]))
noncomputable abbrev R0 (w : World) : OsState → Option (Flow × SharedT × Code × Pos) := fun os => some (Flow.next, S_g1 w os, cE, ⟨3, 0, 3, 8⟩)
theorem pc0 : ∀ w : World, L0 w = R0 w := (fun w => by kernel_rfl)
noncomputable def sts1 : List Stmt := [stmtOf 3]
noncomputable abbrev L1 (w : World) := (fun os => segRunN tbN pwN w 28 (some (.ref 6)) 1 1253 (S_g1 w os) (piecesOf sts1 envM cE ⟨3, 0, 3, 8⟩ [topFrame q0]))
noncomputable abbrev R1 (w : World) : OsState → Option (Flow × SharedT × Code × Pos) := fun os => some (Flow.next, S_g2 w os, cE, ⟨4, 0, 4, 18⟩)
theorem pc1 : ∀ w : World, L1 w = R1 w := (byRow2 "comprehension-iter-twice" (P := fun w => L1 w = R1 w) (byRow2 "special-get-raises" (P := fun w => L1 (w.withFollow "comprehension-iter-twice" false) = R1 (w.withFollow "comprehension-iter-twice" false)) (fun w => by kernel_rfl) (fun w => by kernel_rfl)) (byRow2 "special-get-raises" (P := fun w => L1 (w.withFollow "comprehension-iter-twice" true) = R1 (w.withFollow "comprehension-iter-twice" true)) (fun w => by kernel_rfl) (fun w => by kernel_rfl)))
noncomputable def sts2 : List Stmt := [stmtOf 4, stmtOf 5, stmtOf 6, stmtOf 7]
noncomputable abbrev L2 (w : World) := (fun os => segRunN tbN pwN w 28 (some (.ref 6)) 1 89 (S_g2 w os) (piecesOf sts2 envM cE ⟨4, 0, 4, 18⟩ [topFrame q0]))
noncomputable abbrev R2 (w : World) : OsState → Option (Flow × SharedT × Code × Pos) := fun os => some (Flow.next, S_g3 w os, cE, ⟨74, 0, 74, 8⟩)
theorem pc2 : ∀ w : World, L2 w = R2 w := (fun w => by kernel_rfl)
noncomputable def sts3 : List Stmt := [stmtOf 8]
noncomputable abbrev L3 (w : World) := (fun os => segRunN tbN pwN w 28 (some (.ref 6)) 1 999 (S_g3 w os) (piecesOf sts3 envM cE ⟨74, 0, 74, 8⟩ [topFrame q0]))
noncomputable abbrev R3 (w : World) : OsState → Option (Flow × SharedT × Code × Pos) := fun os => some (Flow.next, S_g4 w os, cE, ⟨75, 0, 75, 6⟩)
theorem pc3 : ∀ w : World, L3 w = R3 w := (byRow2 "special-get-raises" (P := fun w => L3 w = R3 w) (fun w => by kernel_rfl) (fun w => by kernel_rfl))
noncomputable def sts4 : List Stmt := [stmtOf 9, stmtOf 10, stmtOf 11, stmtOf 12]
noncomputable abbrev L4 (w : World) := (fun os => segRunN tbN pwN w 28 (some (.ref 6)) 1 288 (S_g4 w os) (piecesOf sts4 envM cE ⟨75, 0, 75, 6⟩ [topFrame q0]))
noncomputable abbrev R4 (w : World) : OsState → Option (Flow × SharedT × Code × Pos) := fun os => some (Flow.next, S_g5 w os, cE, ⟨87, 0, 87, 6⟩)
theorem pc4 : ∀ w : World, L4 w = R4 w := (byRow2 "special-get-raises" (P := fun w => L4 w = R4 w) (fun w => by kernel_rfl) (fun w => by kernel_rfl))
noncomputable def sts5 : List Stmt := [stmtOf 13, stmtOf 14]
noncomputable abbrev L5 (w : World) := (fun os => segRunN tbN pwN w 28 (some (.ref 6)) 1 390 (S_g5 w os) (piecesOf sts5 envM cE ⟨87, 0, 87, 6⟩ [topFrame q0]))
noncomputable abbrev R5 (w : World) : OsState → Option (Flow × SharedT × Code × Pos) := fun os => some (Flow.next, S_g6 w os, cE, ⟨90, 0, 90, 6⟩)
theorem pc5 : ∀ w : World, L5 w = R5 w := (byRow2 "special-get-raises" (P := fun w => L5 w = R5 w) (fun w => by kernel_rfl) (fun w => by kernel_rfl))
noncomputable def sts6 : List Stmt := [stmtOf 15, stmtOf 16]
noncomputable abbrev L6 (w : World) := (fun os => segRunN tbN pwN w 28 (some (.ref 6)) 1 804 (S_g6 w os) (piecesOf sts6 envM cE ⟨90, 0, 90, 6⟩ [topFrame q0]))
noncomputable abbrev R6 (w : World) : OsState → Option (Flow × SharedT × Code × Pos) := fun os => some (Flow.next, S_g7 w os, cE, ⟨93, 0, 93, 6⟩)
theorem pc6 : ∀ w : World, L6 w = R6 w := (byRow2 "special-get-raises" (P := fun w => L6 w = R6 w) (fun w => by kernel_rfl) (fun w => by kernel_rfl))
noncomputable def sts7 : List Stmt := [stmtOf 17]
noncomputable abbrev L7 (w : World) := (fun os => segRunN tbN pwN w 28 (some (.ref 6)) 1 30 (S_g7 w os) (piecesOf sts7 envM cE ⟨93, 0, 93, 6⟩ [topFrame q0]))
noncomputable abbrev R7 (w : World) : OsState → Option (Flow × SharedT × Code × Pos) := fun os => some (Flow.next, S_g8 w os, cE, ⟨94, 0, 95, 30⟩)
theorem pc7 : ∀ w : World, L7 w = R7 w := (fun w => by kernel_rfl)
noncomputable def sts8 : List Stmt := [stmtOf 18]
noncomputable def sts9 : List Stmt := [stmtOf 19, stmtOf 20, stmtOf 21, stmtOf 22, stmtOf 23, stmtOf 24, stmtOf 25, stmtOf 26, stmtOf 27, stmtOf 28, stmtOf 29]
noncomputable abbrev L9 (w : World) := (fun os => segRunN tbN pwN w 28 (some (.ref 6)) 1 326 (S_g9 w os) (piecesOf sts9 envM cE ⟨96, 0, 96, 6⟩ [topFrame q0]))
noncomputable abbrev R9 (w : World) : OsState → Option (Flow × SharedT × Code × Pos) := fun os => some (Flow.next, S_g10 w os, cE, ⟨203, 0, 211, 110⟩)
theorem pc9 : ∀ w : World, L9 w = R9 w := (fun w => by kernel_rfl)
end
end
noncomputable section
noncomputable section
set_option maxRecDepth 1000000
set_option maxHeartbeats 0
noncomputable def H₀ (P : Params) : Heap := absHeap (T_s0 P) 28 {}
noncomputable def H₁ (P : Params) : Heap := absHeap (T_g10 P) 211 {}
noncomputable abbrev impN := @PySem.W.Fast.tw10274390034422433532
noncomputable abbrev startN := @PySem.W.Fast.tw1435165496053646825
noncomputable abbrev fenceN := @PySem.W.Fast.tw14289696077712309145
noncomputable abbrev topGoN := @PySem.W.Fast.tw15667345088766844465
noncomputable abbrev topRunN := @PySem.W.Fast.tw14082659384304107361
noncomputable abbrev annS : Option Value := some (.ref 6)
noncomputable abbrev denN' := @PySem.W.Fast.tw11892475500146522536
noncomputable abbrev segRunH := @PySem.W.Fast.tw14374325043358763698
theorem pO : ∀ w : World, ((impN tbN (opening pwN) w 20000 (startN (opening pwN)).1 (startN (opening pwN)).2).bind (fenceN pwN)).map (fun s => (s.heap, s.gens, s.drawn, s.toks)) = some (H₀ w.params, #[], {}, 276) := fun w => by kernel_rfl
theorem pPre : ∀ w : World, (fun os => topGoN tbN pwN w 28 annS 12 ⟨H₀ w.params, #[], {}, 276, os⟩ (topStub pwN)) = fun os => some ((S_pre w os).abs, ⟨denN' tbN cE, cE, q0, [topFrame q0]⟩) := fun w => by kernel_rfl
theorem pBl : ∀ w : World, (fun os => segRunH tbN pwN w 28 annS 1 1 (S_pre w os).abs (blockOf bE envM cE q0 [topFrame q0])) = fun os => some (Flow.next, (S_pre w os).abs, cE, q0) := fun w => by kernel_rfl
theorem pFin : ∀ w : World, (fun os => topRunN tbN pwN w 28 annS 2 (S_g10 w os).abs ⟨doneF Flow.next, cE, ⟨203, 0, 211, 110⟩, [topFrame q0]⟩) = fun os => some ((S_g10 w os).abs) := fun w => by kernel_rfl
theorem pSize : ∀ w : World, ((H₀ w.params).isNs mainGlobals && (#[] : Array GenState).size == 0, (H₀ w.params).objs.size, (H₀ w.params).nsMap mainGlobals "__annotations__") = (true, 28, annS) := fun w => by kernel_rfl
end
end
noncomputable section
noncomputable section
set_option maxRecDepth 1000000
set_option maxHeartbeats 0
noncomputable def Kf (P : Params) : Frag := [(2, o2_0 P),
  (3, o3_10 P),
  (30, o30_0 P),
  (35, o35_0 P),
  (36, o36_0 P),
  (50, o50_0 P),
  (54, o54_0 P),
  (55, o55_0 P),
  (63, o63_0 P),
  (72, o72_0 P),
  (73, o73_0 P),
  (79, o79_0 P),
  (80, o80_0 P),
  (86, o86_0 P),
  (87, o87_0 P),
  (89, o89_0 P),
  (98, o98_0 P),
  (99, o99_0 P),
  (101, o101_0 P),
  (110, o110_0 P),
  (111, o111_0 P),
  (125, o125_0 P),
  (134, o134_0 P),
  (135, o135_0 P),
  (143, o143_0 P),
  (152, o152_0 P),
  (153, o153_0 P),
  (157, o157_0 P),
  (158, o158_0 P),
  (164, o164_0 P),
  (165, o165_0 P),
  (171, o171_0 P),
  (172, o172_0 P),
  (178, o178_0 P),
  (179, o179_0 P),
  (185, o185_0 P),
  (186, o186_0 P),
  (190, o190_0 P),
  (191, o191_0 P),
  (197, o197_0 P),
  (198, o198_0 P),
  (204, o204_0 P),
  (205, o205_0 P),
  (209, o209_0 P),
  (210, o210_0 P)]
noncomputable def asK : List Addr := [2, 3, 30, 35, 36, 50, 54, 55, 63, 72, 73, 79, 80, 86, 87, 89, 98, 99, 101, 110, 111, 125, 134, 135, 143, 152, 153, 157, 158, 164, 165, 171, 172, 178, 179, 185, 186, 190, 191, 197, 198, 204, 205, 209, 210]
noncomputable def hkE : ∀ P, asK = (Kf P).map (·.1) := fun P => rfl
noncomputable def hookF : Hook where
  α := List (Option Obj)
  obs := fun s => asK.map s.heap.get?
  val := fun w => (Kf w.params).map fun p => some p.2
  says := fun w h => InK Kf w h
  of := fun w s x => InK.of hkE w s x
  keeps := InK.keeps
noncomputable def qv : Program := { pwN with main := { pwN.main with body := [stmtOf 0, stmtOf 29] } }
noncomputable def looseV : List Str := ["_twin_re_1", "_special_chars_map", "escape", "_translate", "b1_set", "in_table_b1", "in_table_c11", "in_table_c4", "c6_set", "in_table_c6", "c7_set", "in_table_c7", "c8_set", "in_table_c8", "c9_set", "in_table_c9", "_law_runs", "_law_asked", "_law_written", "_law_pattern", "_law_sign", "_law_told", "_law_takes", "_law_taken"]
noncomputable abbrev XtV (s : Shared) : Bool := xlAt qv [] s && recOk [] s
noncomputable abbrev shF (w : World) (os : OsState) : Shared := ⟨H₁ w.params, #[], {}, 988, os⟩
noncomputable abbrev openSeenN := @PySem.W.Fast.tw4187177175401517315
theorem lk1 : ∀ w : World, (fun os => (staticsOk (importedModules pwN.main.body) (H₀ w.params) (H₁ w.params) && namesBound pwN (H₁ w.params) && gensDone (shF w os) && laidKept (H₀ w.params) (H₁ w.params))) = fun _ => true := fun w => by kernel_rfl
theorem lk2 : ∀ w : World, (fun os => openSeenN qv looseV (importedModules pwN.main.body) XtV true (shF w os)) = fun _ => openGood qv looseV := fun w => by kernel_rfl
theorem lk3 : ∀ w : World, (fun os => hookF.obs (shF w os)) = fun _ => hookF.val w := fun w => by kernel_rfl
end
end
noncomputable section
noncomputable section
set_option maxRecDepth 1000000
set_option maxHeartbeats 0
noncomputable abbrev ann6 : Option Value := some (.ref 6)
noncomputable abbrev cU : Code := .builtin "set.update.loop" ⟨[.ref 143, .ref 144], []⟩
noncomputable abbrev posU : Pos := ⟨96, 9, 96, 52⟩
noncomputable abbrev denN := @PySem.W.Fast.tw11892475500146522536
noncomputable abbrev thA : Thread := piecesOf sts8 envM cE ⟨94, 0, 95, 30⟩ [topFrame q0]
noncomputable def stripPl (o : Obj) : Obj := match o with
  | ⟨c, d, .set es n t, s⟩ => ⟨c, d, .set es n { t with place := ⟨[]⟩ }, s⟩
  | o => o
noncomputable def plO (o : Option Obj) : List Nat := match o with
  | some ⟨_, _, .set _ _ t, _⟩ => t.place.toList
  | _ => []
noncomputable def plX (x : Option (SharedT × Thread)) : List Nat := match x with
  | some (s, _) => plO (s.tree.get 143)
  | none => []
noncomputable def stripX (x : Option (SharedT × Thread)) : Option (SharedT × Thread) := match x with
  | some (s, t) => some (⟨s.tree.set 143 stripPl, s.n, s.life, s.gens, s.drawn, s.toks, s.os⟩, t)
  | none => none
noncomputable def bothX (l : List Nat) (x : Option (SharedT × Thread)) : Option (SharedT × Thread) × Bool := (stripX x, PySem.W.Fast.lEq (plX x) l)

theorem BT_set_inj (f : Obj → Obj) : ∀ (t₁ t₂ : BT) (a : Nat), t₁.set a f = t₂.set a f → t₁.get a = t₂.get a → t₁ = t₂
  | .nil, .nil, _, _, _ => rfl
  | .nil, .node v l r, a, h, _ => by
    rw [BT.set_node] at h
    have : (BT.nil).set a f = .nil := rfl
    rw [this] at h
    split at h
    · cases h
    · split at h <;> cases h
  | .node v l r, .nil, a, h, _ => by
    rw [BT.set_node] at h
    have : (BT.nil).set a f = .nil := rfl
    rw [this] at h
    split at h
    · cases h
    · split at h <;> cases h
  | .node v l r, .node v' l' r', a, h, g => by
    rw [BT.set_node, BT.set_node] at h
    rw [BT.get_node, BT.get_node] at g
    by_cases h0 : a = 0
    · rw [if_pos h0, if_pos h0] at h g
      injection h with e1 e2 e3
      injection g with g1
      rw [g1, e2, e3]
    · rw [if_neg h0, if_neg h0] at h g
      by_cases h1 : a % 2 = 1
      · rw [if_pos h1, if_pos h1] at h g
        injection h with e1 e2 e3
        rw [e1, e3, BT_set_inj f l l' _ e2 g]
      · rw [if_neg h1, if_neg h1] at h g
        injection h with e1 e2 e3
        rw [e1, e2, BT_set_inj f r r' _ e3 g]
theorem stripPl_inj {o o' : Obj} {c : Value} {d : Option Addr} {es : Array (Int × Value)} {n : Nat} {t : SetTable} {sl : Array (Option Value)} (e : o' = ⟨c, d, .set es n t, sl⟩) (h : stripPl o = stripPl o') (hp : plO (some o) = t.place.toList) : o = o' := by
  subst e
  obtain ⟨c₁, d₁, dt₁, sl₁⟩ := o
  cases dt₁ with
  | set es₁ n₁ t₁ =>
    obtain ⟨m₁, p₁, dm₁, f₁, l₁, mv₁, q₁⟩ := t₁
    obtain ⟨m, p, dm, f, l, mv, q⟩ := t
    simp only [stripPl] at h
    simp only [plO] at hp
    have : p₁ = p := Array.ext' hp
    subst this
    simp only [Obj.mk.injEq, Data.set.injEq, SetTable.mk.injEq] at h
    obtain ⟨rfl, rfl, ⟨rfl, rfl, rfl, _, rfl, rfl, rfl, rfl, rfl⟩, rfl⟩ := h
    rfl
  | _ => simp [stripPl] at h
theorem of_bothX {x : Option (SharedT × Thread)} {S V : SharedT} {th : Thread} {l : List Nat} {c : Value} {d : Option Addr} {es : Array (Int × Value)} {n : Nat} {t : SetTable} {sl : Array (Option Value)}
    (h : bothX l x = (some (V, th), true)) (hV : V = ⟨S.tree.set 143 stripPl, S.n, S.life, S.gens, S.drawn, S.toks, S.os⟩)
    (ho : S.tree.get 143 = some ⟨c, d, .set es n t, sl⟩) (hl : l = t.place.toList) : x = some (S, th) := by
  obtain ⟨h1, h2⟩ := Prod.mk.inj h
  have h2 := PySem.W.Fast.lEq_iff.mp h2
  cases x with
  | none => cases h1
  | some x =>
    obtain ⟨s, t'⟩ := x
    subst hV
    simp only [stripX, Option.some.injEq, Prod.mk.injEq, SharedT.mk.injEq] at h1
    obtain ⟨⟨e1, e2, e3, e4, e5, e6, e7⟩, rfl⟩ := h1
    have hg : s.tree.get 143 = S.tree.get 143 := by
      have := congrArg (fun T => BT.get T 143) e1
      simp only [BT.get_set, if_true] at this
      rw [ho] at this ⊢
      cases q : s.tree.get 143 with
      | none => rw [q] at this; cases this
      | some o =>
        rw [q] at this
        simp only [Option.map_some, Option.some.injEq] at this
        simp only [plX, q] at h2
        rw [stripPl_inj rfl this (h2.trans hl)]
    have ht := BT_set_inj stripPl _ _ _ e1 hg
    obtain ⟨a1, a2, a3, a4, a5, a6, a7⟩ := s
    obtain ⟨b1, b2, b3, b4, b5, b6, b7⟩ := S
    simp only at e2 e3 e4 e5 e6 e7 ht
    subst e2 e3 e4 e5 e6 e7 ht
    rfl

noncomputable abbrev runA (w : World) (os : OsState) := segGoN tbN pwN w 28 ann6 1 2162 (S_g8 w os) thA
noncomputable def stkU (w : World) (os : OsState) : List Frame := match runA w os with
  | some (_, t) => t.stack
  | none => []
noncomputable def fU (i : Nat) (w : World) (os : OsState) : Frame := (stkU w os).getD i (topFrame q0)
noncomputable abbrev thU (F0 F1 F2 F3 : Frame) : Thread := ⟨denN tbN cU, cU, posU, [F0, F1, F2, F3]⟩
noncomputable abbrev thW (w : World) (os : OsState) : Thread := thU (fU 0 w os) (fU 1 w os) (fU 2 w os) (fU 3 w os)
noncomputable abbrev LA (w : World) := fun os => bothX pl_18 (runA w os)
noncomputable abbrev RA (w : World) := fun os => (some (S_v18 w os, thW w os), true)
theorem v_18 : ∀ (w : World) (os : OsState), S_v18 w os = ⟨(S_u18 w os).tree.set 143 stripPl, (S_u18 w os).n, (S_u18 w os).life, (S_u18 w os).gens, (S_u18 w os).drawn, (S_u18 w os).toks, os⟩ := fun w os => by kernel_rfl
theorem v_30 : ∀ (w : World) (os : OsState), S_v30 w os = ⟨(S_u30 w os).tree.set 143 stripPl, (S_u30 w os).n, (S_u30 w os).life, (S_u30 w os).gens, (S_u30 w os).drawn, (S_u30 w os).toks, os⟩ := fun w os => by kernel_rfl
theorem v_40 : ∀ (w : World) (os : OsState), S_v40 w os = ⟨(S_u40 w os).tree.set 143 stripPl, (S_u40 w os).n, (S_u40 w os).life, (S_u40 w os).gens, (S_u40 w os).drawn, (S_u40 w os).toks, os⟩ := fun w os => by kernel_rfl
theorem v_50 : ∀ (w : World) (os : OsState), S_v50 w os = ⟨(S_u50 w os).tree.set 143 stripPl, (S_u50 w os).n, (S_u50 w os).life, (S_u50 w os).gens, (S_u50 w os).drawn, (S_u50 w os).toks, os⟩ := fun w os => by kernel_rfl
theorem v_60 : ∀ (w : World) (os : OsState), S_v60 w os = ⟨(S_u60 w os).tree.set 143 stripPl, (S_u60 w os).n, (S_u60 w os).life, (S_u60 w os).gens, (S_u60 w os).drawn, (S_u60 w os).toks, os⟩ := fun w os => by kernel_rfl
theorem v_68 : ∀ (w : World) (os : OsState), S_v68 w os = ⟨(S_u68 w os).tree.set 143 stripPl, (S_u68 w os).n, (S_u68 w os).life, (S_u68 w os).gens, (S_u68 w os).drawn, (S_u68 w os).toks, os⟩ := fun w os => by kernel_rfl
theorem v_76 : ∀ (w : World) (os : OsState), S_v76 w os = ⟨(S_u76 w os).tree.set 143 stripPl, (S_u76 w os).n, (S_u76 w os).life, (S_u76 w os).gens, (S_u76 w os).drawn, (S_u76 w os).toks, os⟩ := fun w os => by kernel_rfl
theorem v_81 : ∀ (w : World) (os : OsState), S_v81 w os = ⟨(S_u81 w os).tree.set 143 stripPl, (S_u81 w os).n, (S_u81 w os).life, (S_u81 w os).gens, (S_u81 w os).drawn, (S_u81 w os).toks, os⟩ := fun w os => by kernel_rfl
theorem v_86 : ∀ (w : World) (os : OsState), S_v86 w os = ⟨(S_u86 w os).tree.set 143 stripPl, (S_u86 w os).n, (S_u86 w os).life, (S_u86 w os).gens, (S_u86 w os).drawn, (S_u86 w os).toks, os⟩ := fun w os => by kernel_rfl
theorem v_91 : ∀ (w : World) (os : OsState), S_v91 w os = ⟨(S_u91 w os).tree.set 143 stripPl, (S_u91 w os).n, (S_u91 w os).life, (S_u91 w os).gens, (S_u91 w os).drawn, (S_u91 w os).toks, os⟩ := fun w os => by kernel_rfl
theorem v_96 : ∀ (w : World) (os : OsState), S_v96 w os = ⟨(S_u96 w os).tree.set 143 stripPl, (S_u96 w os).n, (S_u96 w os).life, (S_u96 w os).gens, (S_u96 w os).drawn, (S_u96 w os).toks, os⟩ := fun w os => by kernel_rfl

end
end
noncomputable section
noncomputable section
set_option maxRecDepth 1000000
set_option maxHeartbeats 0
noncomputable def o143_u72 (P : Params) : Obj := ⟨(.type "set"), none, (.set ⟨[(917505, (.int 917505 684)), (917536, (.int 917536 690)), (917537, (.int 917537 691)), (917538, (.int 917538 692)), (917539, (.int 917539 693)), (917540, (.int 917540 694)), (917541, (.int 917541 695)), (917542, (.int 917542 696)), (917543, (.int 917543 697)), (917544, (.int 917544 698)), (917545, (.int 917545 699)), (917546, (.int 917546 700)), (917547, (.int 917547 701)), (917548, (.int 917548 702)), (917549, (.int 917549 703)), (917550, (.int 917550 704)), (917551, (.int 917551 705)), (917552, (.int 917552 706)), (917553, (.int 917553 707)), (917554, (.int 917554 708)), (917555, (.int 917555 709)), (917556, (.int 917556 710)), (917557, (.int 917557 711)), (917558, (.int 917558 712)), (917559, (.int 917559 713)), (917560, (.int 917560 714)), (917561, (.int 917561 715)), (917562, (.int 917562 716)), (917563, (.int 917563 717)), (917564, (.int 917564 718)), (917565, (.int 917565 719)), (917566, (.int 917566 720)), (917567, (.int 917567 721)), (917568, (.int 917568 722)), (917569, (.int 917569 723)), (917570, (.int 917570 724)), (917571, (.int 917571 725)), (917572, (.int 917572 726)), (917573, (.int 917573 727)), (917574, (.int 917574 728)), (917575, (.int 917575 729)), (917576, (.int 917576 730)), (917577, (.int 917577 731)), (917578, (.int 917578 732)), (917579, (.int 917579 733)), (917580, (.int 917580 734)), (917581, (.int 917581 735)), (917582, (.int 917582 736)), (917583, (.int 917583 737)), (917584, (.int 917584 738)), (917585, (.int 917585 739)), (917586, (.int 917586 740)), (917587, (.int 917587 741)), (917588, (.int 917588 742)), (917589, (.int 917589 743)), (917590, (.int 917590 744)), (917591, (.int 917591 745)), (917592, (.int 917592 746)), (917593, (.int 917593 747)), (917594, (.int 917594 748)), (917595, (.int 917595 749)), (917596, (.int 917596 750)), (917597, (.int 917597 751)), (917598, (.int 917598 752)), (917599, (.int 917599 753)), (917600, (.int 917600 754)), (917601, (.int 917601 755)), (917602, (.int 917602 756)), (917603, (.int 917603 757)), (917604, (.int 917604 758)), (917605, (.int 917605 759)), (917606, (.int 917606 760)), (917607, (.int 917607 761))]⟩ 75 ⟨127, ⟨[1, 32, 33, 34, 35, 36, 37, 38, 39, 40, 41, 42, 43, 44, 45, 46, 47, 48, 49, 50, 51, 52, 53, 54, 55, 56, 57, 58, 59, 60, 61, 62, 63, 64, 65, 66, 67, 68, 69, 70, 71, 72, 73, 74, 75, 76, 77, 78, 79, 80, 81, 82, 83, 84, 85, 86, 87, 88, 89, 90, 91, 92, 93, 94, 95, 96, 97, 98, 99, 100, 101, 102, 103]⟩, ⟨[]⟩, 0, !P.followText "set-order", 2, true⟩), ⟨[]⟩⟩
noncomputable def o143_v72 (P : Params) : Obj := ⟨(.type "set"), none, (.set ⟨[(917505, (.int 917505 684)), (917536, (.int 917536 690)), (917537, (.int 917537 691)), (917538, (.int 917538 692)), (917539, (.int 917539 693)), (917540, (.int 917540 694)), (917541, (.int 917541 695)), (917542, (.int 917542 696)), (917543, (.int 917543 697)), (917544, (.int 917544 698)), (917545, (.int 917545 699)), (917546, (.int 917546 700)), (917547, (.int 917547 701)), (917548, (.int 917548 702)), (917549, (.int 917549 703)), (917550, (.int 917550 704)), (917551, (.int 917551 705)), (917552, (.int 917552 706)), (917553, (.int 917553 707)), (917554, (.int 917554 708)), (917555, (.int 917555 709)), (917556, (.int 917556 710)), (917557, (.int 917557 711)), (917558, (.int 917558 712)), (917559, (.int 917559 713)), (917560, (.int 917560 714)), (917561, (.int 917561 715)), (917562, (.int 917562 716)), (917563, (.int 917563 717)), (917564, (.int 917564 718)), (917565, (.int 917565 719)), (917566, (.int 917566 720)), (917567, (.int 917567 721)), (917568, (.int 917568 722)), (917569, (.int 917569 723)), (917570, (.int 917570 724)), (917571, (.int 917571 725)), (917572, (.int 917572 726)), (917573, (.int 917573 727)), (917574, (.int 917574 728)), (917575, (.int 917575 729)), (917576, (.int 917576 730)), (917577, (.int 917577 731)), (917578, (.int 917578 732)), (917579, (.int 917579 733)), (917580, (.int 917580 734)), (917581, (.int 917581 735)), (917582, (.int 917582 736)), (917583, (.int 917583 737)), (917584, (.int 917584 738)), (917585, (.int 917585 739)), (917586, (.int 917586 740)), (917587, (.int 917587 741)), (917588, (.int 917588 742)), (917589, (.int 917589 743)), (917590, (.int 917590 744)), (917591, (.int 917591 745)), (917592, (.int 917592 746)), (917593, (.int 917593 747)), (917594, (.int 917594 748)), (917595, (.int 917595 749)), (917596, (.int 917596 750)), (917597, (.int 917597 751)), (917598, (.int 917598 752)), (917599, (.int 917599 753)), (917600, (.int 917600 754)), (917601, (.int 917601 755)), (917602, (.int 917602 756)), (917603, (.int 917603 757)), (917604, (.int 917604 758)), (917605, (.int 917605 759)), (917606, (.int 917606 760)), (917607, (.int 917607 761))]⟩ 75 ⟨127, ⟨[]⟩, ⟨[]⟩, 0, !P.followText "set-order", 2, true⟩), ⟨[]⟩⟩
noncomputable def o144_u72 (P : Params) : Obj := ⟨(.type "list_iterator"), none, (.fields ⟨[(.ref 142), (.int 73 0)]⟩), ⟨[]⟩⟩
noncomputable def T_u72 (P : Params) : BT := (.node (o0_0 P) (.node (o1_0 P) (.node (o3_8 P) (.node (o7_0 P) (.node (o15_0 P) (.node (o31_0 P) (.node (o63_0 P) (.node (o127_0 P) .nil .nil) .nil) (.node (o95_0 P) .nil .nil)) (.node (o47_0 P) (.node (o79_0 P) (.node (o143_u72 P) .nil .nil) .nil) (.node (o111_0 P) .nil .nil))) (.node (o23_0 P) (.node (o39_0 P) (.node (o71_0 P) (.node (o135_0 P) .nil .nil) .nil) (.node (o103_0 P) .nil .nil)) (.node (o55_0 P) (.node (o87_0 P) .nil .nil) (.node (o119_0 P) .nil .nil)))) (.node (o11_0 P) (.node (o19_0 P) (.node (o35_0 P) (.node (o67_0 P) (.node (o131_0 P) .nil .nil) .nil) (.node (o99_0 P) .nil .nil)) (.node (o51_0 P) (.node (o83_0 P) .nil .nil) (.node (o115_0 P) .nil .nil))) (.node (o27_0 P) (.node (o43_0 P) (.node (o75_0 P) (.node (o139_0 P) .nil .nil) .nil) (.node (o107_0 P) .nil .nil)) (.node (o59_0 P) (.node (o91_0 P) .nil .nil) (.node (o123_0 P) .nil .nil))))) (.node (o5_0 P) (.node (o9_0 P) (.node (o17_0 P) (.node (o33_0 P) (.node (o65_0 P) (.node (o129_0 P) .nil .nil) .nil) (.node (o97_0 P) .nil .nil)) (.node (o49_0 P) (.node (o81_0 P) .nil .nil) (.node (o113_0 P) .nil .nil))) (.node (o25_0 P) (.node (o41_0 P) (.node (o73_0 P) (.node (o137_0 P) .nil .nil) .nil) (.node (o105_0 P) .nil .nil)) (.node (o57_0 P) (.node (o89_0 P) .nil .nil) (.node (o121_0 P) .nil .nil)))) (.node (o13_0 P) (.node (o21_0 P) (.node (o37_0 P) (.node (o69_0 P) (.node (o133_0 P) .nil .nil) .nil) (.node (o101_0 P) .nil .nil)) (.node (o53_0 P) (.node (o85_0 P) .nil .nil) (.node (o117_0 P) .nil .nil))) (.node (o29_5 P) (.node (o45_0 P) (.node (o77_0 P) (.node (o141_0 P) .nil .nil) .nil) (.node (o109_0 P) .nil .nil)) (.node (o61_0 P) (.node (o93_0 P) .nil .nil) (.node (o125_0 P) .nil .nil)))))) (.node (o2_0 P) (.node (o4_0 P) (.node (o8_0 P) (.node (o16_0 P) (.node (o32_0 P) (.node (o64_0 P) (.node (o128_0 P) .nil .nil) .nil) (.node (o96_0 P) .nil .nil)) (.node (o48_0 P) (.node (o80_0 P) (.node (o144_u72 P) .nil .nil) .nil) (.node (o112_0 P) .nil .nil))) (.node (o24_0 P) (.node (o40_0 P) (.node (o72_0 P) (.node (o136_0 P) .nil .nil) .nil) (.node (o104_0 P) .nil .nil)) (.node (o56_0 P) (.node (o88_0 P) .nil .nil) (.node (o120_0 P) .nil .nil)))) (.node (o12_0 P) (.node (o20_0 P) (.node (o36_0 P) (.node (o68_0 P) (.node (o132_0 P) .nil .nil) .nil) (.node (o100_0 P) .nil .nil)) (.node (o52_0 P) (.node (o84_0 P) .nil .nil) (.node (o116_0 P) .nil .nil))) (.node (o28_0 P) (.node (o44_0 P) (.node (o76_0 P) (.node (o140_0 P) .nil .nil) .nil) (.node (o108_0 P) .nil .nil)) (.node (o60_0 P) (.node (o92_0 P) .nil .nil) (.node (o124_0 P) .nil .nil))))) (.node (o6_0 P) (.node (o10_0 P) (.node (o18_0 P) (.node (o34_0 P) (.node (o66_0 P) (.node (o130_0 P) .nil .nil) .nil) (.node (o98_0 P) .nil .nil)) (.node (o50_0 P) (.node (o82_0 P) .nil .nil) (.node (o114_0 P) .nil .nil))) (.node (o26_0 P) (.node (o42_0 P) (.node (o74_0 P) (.node (o138_0 P) .nil .nil) .nil) (.node (o106_0 P) .nil .nil)) (.node (o58_0 P) (.node (o90_0 P) .nil .nil) (.node (o122_0 P) .nil .nil)))) (.node (o14_0 P) (.node (o22_0 P) (.node (o38_0 P) (.node (o70_0 P) (.node (o134_0 P) .nil .nil) .nil) (.node (o102_0 P) .nil .nil)) (.node (o54_0 P) (.node (o86_0 P) .nil .nil) (.node (o118_0 P) .nil .nil))) (.node (o30_0 P) (.node (o46_0 P) (.node (o78_0 P) (.node (o142_0 P) .nil .nil) .nil) (.node (o110_0 P) .nil .nil)) (.node (o62_0 P) (.node (o94_0 P) .nil .nil) (.node (o126_0 P) .nil .nil)))))))
noncomputable def S_u72 (w : World) (os : OsState) : SharedT := ⟨T_u72 w.params, 145, {}, #[], {}, 859, os⟩
noncomputable def T_v72 (P : Params) : BT := (.node (o0_0 P) (.node (o1_0 P) (.node (o3_8 P) (.node (o7_0 P) (.node (o15_0 P) (.node (o31_0 P) (.node (o63_0 P) (.node (o127_0 P) .nil .nil) .nil) (.node (o95_0 P) .nil .nil)) (.node (o47_0 P) (.node (o79_0 P) (.node (o143_v72 P) .nil .nil) .nil) (.node (o111_0 P) .nil .nil))) (.node (o23_0 P) (.node (o39_0 P) (.node (o71_0 P) (.node (o135_0 P) .nil .nil) .nil) (.node (o103_0 P) .nil .nil)) (.node (o55_0 P) (.node (o87_0 P) .nil .nil) (.node (o119_0 P) .nil .nil)))) (.node (o11_0 P) (.node (o19_0 P) (.node (o35_0 P) (.node (o67_0 P) (.node (o131_0 P) .nil .nil) .nil) (.node (o99_0 P) .nil .nil)) (.node (o51_0 P) (.node (o83_0 P) .nil .nil) (.node (o115_0 P) .nil .nil))) (.node (o27_0 P) (.node (o43_0 P) (.node (o75_0 P) (.node (o139_0 P) .nil .nil) .nil) (.node (o107_0 P) .nil .nil)) (.node (o59_0 P) (.node (o91_0 P) .nil .nil) (.node (o123_0 P) .nil .nil))))) (.node (o5_0 P) (.node (o9_0 P) (.node (o17_0 P) (.node (o33_0 P) (.node (o65_0 P) (.node (o129_0 P) .nil .nil) .nil) (.node (o97_0 P) .nil .nil)) (.node (o49_0 P) (.node (o81_0 P) .nil .nil) (.node (o113_0 P) .nil .nil))) (.node (o25_0 P) (.node (o41_0 P) (.node (o73_0 P) (.node (o137_0 P) .nil .nil) .nil) (.node (o105_0 P) .nil .nil)) (.node (o57_0 P) (.node (o89_0 P) .nil .nil) (.node (o121_0 P) .nil .nil)))) (.node (o13_0 P) (.node (o21_0 P) (.node (o37_0 P) (.node (o69_0 P) (.node (o133_0 P) .nil .nil) .nil) (.node (o101_0 P) .nil .nil)) (.node (o53_0 P) (.node (o85_0 P) .nil .nil) (.node (o117_0 P) .nil .nil))) (.node (o29_5 P) (.node (o45_0 P) (.node (o77_0 P) (.node (o141_0 P) .nil .nil) .nil) (.node (o109_0 P) .nil .nil)) (.node (o61_0 P) (.node (o93_0 P) .nil .nil) (.node (o125_0 P) .nil .nil)))))) (.node (o2_0 P) (.node (o4_0 P) (.node (o8_0 P) (.node (o16_0 P) (.node (o32_0 P) (.node (o64_0 P) (.node (o128_0 P) .nil .nil) .nil) (.node (o96_0 P) .nil .nil)) (.node (o48_0 P) (.node (o80_0 P) (.node (o144_u72 P) .nil .nil) .nil) (.node (o112_0 P) .nil .nil))) (.node (o24_0 P) (.node (o40_0 P) (.node (o72_0 P) (.node (o136_0 P) .nil .nil) .nil) (.node (o104_0 P) .nil .nil)) (.node (o56_0 P) (.node (o88_0 P) .nil .nil) (.node (o120_0 P) .nil .nil)))) (.node (o12_0 P) (.node (o20_0 P) (.node (o36_0 P) (.node (o68_0 P) (.node (o132_0 P) .nil .nil) .nil) (.node (o100_0 P) .nil .nil)) (.node (o52_0 P) (.node (o84_0 P) .nil .nil) (.node (o116_0 P) .nil .nil))) (.node (o28_0 P) (.node (o44_0 P) (.node (o76_0 P) (.node (o140_0 P) .nil .nil) .nil) (.node (o108_0 P) .nil .nil)) (.node (o60_0 P) (.node (o92_0 P) .nil .nil) (.node (o124_0 P) .nil .nil))))) (.node (o6_0 P) (.node (o10_0 P) (.node (o18_0 P) (.node (o34_0 P) (.node (o66_0 P) (.node (o130_0 P) .nil .nil) .nil) (.node (o98_0 P) .nil .nil)) (.node (o50_0 P) (.node (o82_0 P) .nil .nil) (.node (o114_0 P) .nil .nil))) (.node (o26_0 P) (.node (o42_0 P) (.node (o74_0 P) (.node (o138_0 P) .nil .nil) .nil) (.node (o106_0 P) .nil .nil)) (.node (o58_0 P) (.node (o90_0 P) .nil .nil) (.node (o122_0 P) .nil .nil)))) (.node (o14_0 P) (.node (o22_0 P) (.node (o38_0 P) (.node (o70_0 P) (.node (o134_0 P) .nil .nil) .nil) (.node (o102_0 P) .nil .nil)) (.node (o54_0 P) (.node (o86_0 P) .nil .nil) (.node (o118_0 P) .nil .nil))) (.node (o30_0 P) (.node (o46_0 P) (.node (o78_0 P) (.node (o142_0 P) .nil .nil) .nil) (.node (o110_0 P) .nil .nil)) (.node (o62_0 P) (.node (o94_0 P) .nil .nil) (.node (o126_0 P) .nil .nil)))))))
noncomputable def S_v72 (w : World) (os : OsState) : SharedT := ⟨T_v72 w.params, 145, {}, #[], {}, 859, os⟩
noncomputable def pl_72 : List Nat := [1, 32, 33, 34, 35, 36, 37, 38, 39, 40, 41, 42, 43, 44, 45, 46, 47, 48, 49, 50, 51, 52, 53, 54, 55, 56, 57, 58, 59, 60, 61, 62, 63, 64, 65, 66, 67, 68, 69, 70, 71, 72, 73, 74, 75, 76, 77, 78, 79, 80, 81, 82, 83, 84, 85, 86, 87, 88, 89, 90, 91, 92, 93, 94, 95, 96, 97, 98, 99, 100, 101, 102, 103]
theorem v_72 : ∀ (w : World) (os : OsState), S_v72 w os = ⟨(S_u72 w os).tree.set 143 stripPl, (S_u72 w os).n, (S_u72 w os).life, (S_u72 w os).gens, (S_u72 w os).drawn, (S_u72 w os).toks, os⟩ := fun w os => by kernel_rfl
noncomputable def o143_u75 (P : Params) : Obj := ⟨(.type "set"), none, (.set ⟨[(917505, (.int 917505 684)), (917536, (.int 917536 690)), (917537, (.int 917537 691)), (917538, (.int 917538 692)), (917539, (.int 917539 693)), (917540, (.int 917540 694)), (917541, (.int 917541 695)), (917542, (.int 917542 696)), (917543, (.int 917543 697)), (917544, (.int 917544 698)), (917545, (.int 917545 699)), (917546, (.int 917546 700)), (917547, (.int 917547 701)), (917548, (.int 917548 702)), (917549, (.int 917549 703)), (917550, (.int 917550 704)), (917551, (.int 917551 705)), (917552, (.int 917552 706)), (917553, (.int 917553 707)), (917554, (.int 917554 708)), (917555, (.int 917555 709)), (917556, (.int 917556 710)), (917557, (.int 917557 711)), (917558, (.int 917558 712)), (917559, (.int 917559 713)), (917560, (.int 917560 714)), (917561, (.int 917561 715)), (917562, (.int 917562 716)), (917563, (.int 917563 717)), (917564, (.int 917564 718)), (917565, (.int 917565 719)), (917566, (.int 917566 720)), (917567, (.int 917567 721)), (917568, (.int 917568 722)), (917569, (.int 917569 723)), (917570, (.int 917570 724)), (917571, (.int 917571 725)), (917572, (.int 917572 726)), (917573, (.int 917573 727)), (917574, (.int 917574 728)), (917575, (.int 917575 729)), (917576, (.int 917576 730)), (917577, (.int 917577 731)), (917578, (.int 917578 732)), (917579, (.int 917579 733)), (917580, (.int 917580 734)), (917581, (.int 917581 735)), (917582, (.int 917582 736)), (917583, (.int 917583 737)), (917584, (.int 917584 738)), (917585, (.int 917585 739)), (917586, (.int 917586 740)), (917587, (.int 917587 741)), (917588, (.int 917588 742)), (917589, (.int 917589 743)), (917590, (.int 917590 744)), (917591, (.int 917591 745)), (917592, (.int 917592 746)), (917593, (.int 917593 747)), (917594, (.int 917594 748)), (917595, (.int 917595 749)), (917596, (.int 917596 750)), (917597, (.int 917597 751)), (917598, (.int 917598 752)), (917599, (.int 917599 753)), (917600, (.int 917600 754)), (917601, (.int 917601 755)), (917602, (.int 917602 756)), (917603, (.int 917603 757)), (917604, (.int 917604 758)), (917605, (.int 917605 759)), (917606, (.int 917606 760)), (917607, (.int 917607 761)), (917608, (.int 917608 762)), (917609, (.int 917609 763)), (917610, (.int 917610 764))]⟩ 78 ⟨127, ⟨[1, 32, 33, 34, 35, 36, 37, 38, 39, 40, 41, 42, 43, 44, 45, 46, 47, 48, 49, 50, 51, 52, 53, 54, 55, 56, 57, 58, 59, 60, 61, 62, 63, 64, 65, 66, 67, 68, 69, 70, 71, 72, 73, 74, 75, 76, 77, 78, 79, 80, 81, 82, 83, 84, 85, 86, 87, 88, 89, 90, 91, 92, 93, 94, 95, 96, 97, 98, 99, 100, 101, 102, 103, 104, 105, 106]⟩, ⟨[]⟩, 0, !P.followText "set-order", 2, true⟩), ⟨[]⟩⟩
noncomputable def o143_v75 (P : Params) : Obj := ⟨(.type "set"), none, (.set ⟨[(917505, (.int 917505 684)), (917536, (.int 917536 690)), (917537, (.int 917537 691)), (917538, (.int 917538 692)), (917539, (.int 917539 693)), (917540, (.int 917540 694)), (917541, (.int 917541 695)), (917542, (.int 917542 696)), (917543, (.int 917543 697)), (917544, (.int 917544 698)), (917545, (.int 917545 699)), (917546, (.int 917546 700)), (917547, (.int 917547 701)), (917548, (.int 917548 702)), (917549, (.int 917549 703)), (917550, (.int 917550 704)), (917551, (.int 917551 705)), (917552, (.int 917552 706)), (917553, (.int 917553 707)), (917554, (.int 917554 708)), (917555, (.int 917555 709)), (917556, (.int 917556 710)), (917557, (.int 917557 711)), (917558, (.int 917558 712)), (917559, (.int 917559 713)), (917560, (.int 917560 714)), (917561, (.int 917561 715)), (917562, (.int 917562 716)), (917563, (.int 917563 717)), (917564, (.int 917564 718)), (917565, (.int 917565 719)), (917566, (.int 917566 720)), (917567, (.int 917567 721)), (917568, (.int 917568 722)), (917569, (.int 917569 723)), (917570, (.int 917570 724)), (917571, (.int 917571 725)), (917572, (.int 917572 726)), (917573, (.int 917573 727)), (917574, (.int 917574 728)), (917575, (.int 917575 729)), (917576, (.int 917576 730)), (917577, (.int 917577 731)), (917578, (.int 917578 732)), (917579, (.int 917579 733)), (917580, (.int 917580 734)), (917581, (.int 917581 735)), (917582, (.int 917582 736)), (917583, (.int 917583 737)), (917584, (.int 917584 738)), (917585, (.int 917585 739)), (917586, (.int 917586 740)), (917587, (.int 917587 741)), (917588, (.int 917588 742)), (917589, (.int 917589 743)), (917590, (.int 917590 744)), (917591, (.int 917591 745)), (917592, (.int 917592 746)), (917593, (.int 917593 747)), (917594, (.int 917594 748)), (917595, (.int 917595 749)), (917596, (.int 917596 750)), (917597, (.int 917597 751)), (917598, (.int 917598 752)), (917599, (.int 917599 753)), (917600, (.int 917600 754)), (917601, (.int 917601 755)), (917602, (.int 917602 756)), (917603, (.int 917603 757)), (917604, (.int 917604 758)), (917605, (.int 917605 759)), (917606, (.int 917606 760)), (917607, (.int 917607 761)), (917608, (.int 917608 762)), (917609, (.int 917609 763)), (917610, (.int 917610 764))]⟩ 78 ⟨127, ⟨[]⟩, ⟨[]⟩, 0, !P.followText "set-order", 2, true⟩), ⟨[]⟩⟩
noncomputable def o144_u75 (P : Params) : Obj := ⟨(.type "list_iterator"), none, (.fields ⟨[(.ref 142), (.int 76 0)]⟩), ⟨[]⟩⟩
noncomputable def T_u75 (P : Params) : BT := (.node (o0_0 P) (.node (o1_0 P) (.node (o3_8 P) (.node (o7_0 P) (.node (o15_0 P) (.node (o31_0 P) (.node (o63_0 P) (.node (o127_0 P) .nil .nil) .nil) (.node (o95_0 P) .nil .nil)) (.node (o47_0 P) (.node (o79_0 P) (.node (o143_u75 P) .nil .nil) .nil) (.node (o111_0 P) .nil .nil))) (.node (o23_0 P) (.node (o39_0 P) (.node (o71_0 P) (.node (o135_0 P) .nil .nil) .nil) (.node (o103_0 P) .nil .nil)) (.node (o55_0 P) (.node (o87_0 P) .nil .nil) (.node (o119_0 P) .nil .nil)))) (.node (o11_0 P) (.node (o19_0 P) (.node (o35_0 P) (.node (o67_0 P) (.node (o131_0 P) .nil .nil) .nil) (.node (o99_0 P) .nil .nil)) (.node (o51_0 P) (.node (o83_0 P) .nil .nil) (.node (o115_0 P) .nil .nil))) (.node (o27_0 P) (.node (o43_0 P) (.node (o75_0 P) (.node (o139_0 P) .nil .nil) .nil) (.node (o107_0 P) .nil .nil)) (.node (o59_0 P) (.node (o91_0 P) .nil .nil) (.node (o123_0 P) .nil .nil))))) (.node (o5_0 P) (.node (o9_0 P) (.node (o17_0 P) (.node (o33_0 P) (.node (o65_0 P) (.node (o129_0 P) .nil .nil) .nil) (.node (o97_0 P) .nil .nil)) (.node (o49_0 P) (.node (o81_0 P) .nil .nil) (.node (o113_0 P) .nil .nil))) (.node (o25_0 P) (.node (o41_0 P) (.node (o73_0 P) (.node (o137_0 P) .nil .nil) .nil) (.node (o105_0 P) .nil .nil)) (.node (o57_0 P) (.node (o89_0 P) .nil .nil) (.node (o121_0 P) .nil .nil)))) (.node (o13_0 P) (.node (o21_0 P) (.node (o37_0 P) (.node (o69_0 P) (.node (o133_0 P) .nil .nil) .nil) (.node (o101_0 P) .nil .nil)) (.node (o53_0 P) (.node (o85_0 P) .nil .nil) (.node (o117_0 P) .nil .nil))) (.node (o29_5 P) (.node (o45_0 P) (.node (o77_0 P) (.node (o141_0 P) .nil .nil) .nil) (.node (o109_0 P) .nil .nil)) (.node (o61_0 P) (.node (o93_0 P) .nil .nil) (.node (o125_0 P) .nil .nil)))))) (.node (o2_0 P) (.node (o4_0 P) (.node (o8_0 P) (.node (o16_0 P) (.node (o32_0 P) (.node (o64_0 P) (.node (o128_0 P) .nil .nil) .nil) (.node (o96_0 P) .nil .nil)) (.node (o48_0 P) (.node (o80_0 P) (.node (o144_u75 P) .nil .nil) .nil) (.node (o112_0 P) .nil .nil))) (.node (o24_0 P) (.node (o40_0 P) (.node (o72_0 P) (.node (o136_0 P) .nil .nil) .nil) (.node (o104_0 P) .nil .nil)) (.node (o56_0 P) (.node (o88_0 P) .nil .nil) (.node (o120_0 P) .nil .nil)))) (.node (o12_0 P) (.node (o20_0 P) (.node (o36_0 P) (.node (o68_0 P) (.node (o132_0 P) .nil .nil) .nil) (.node (o100_0 P) .nil .nil)) (.node (o52_0 P) (.node (o84_0 P) .nil .nil) (.node (o116_0 P) .nil .nil))) (.node (o28_0 P) (.node (o44_0 P) (.node (o76_0 P) (.node (o140_0 P) .nil .nil) .nil) (.node (o108_0 P) .nil .nil)) (.node (o60_0 P) (.node (o92_0 P) .nil .nil) (.node (o124_0 P) .nil .nil))))) (.node (o6_0 P) (.node (o10_0 P) (.node (o18_0 P) (.node (o34_0 P) (.node (o66_0 P) (.node (o130_0 P) .nil .nil) .nil) (.node (o98_0 P) .nil .nil)) (.node (o50_0 P) (.node (o82_0 P) .nil .nil) (.node (o114_0 P) .nil .nil))) (.node (o26_0 P) (.node (o42_0 P) (.node (o74_0 P) (.node (o138_0 P) .nil .nil) .nil) (.node (o106_0 P) .nil .nil)) (.node (o58_0 P) (.node (o90_0 P) .nil .nil) (.node (o122_0 P) .nil .nil)))) (.node (o14_0 P) (.node (o22_0 P) (.node (o38_0 P) (.node (o70_0 P) (.node (o134_0 P) .nil .nil) .nil) (.node (o102_0 P) .nil .nil)) (.node (o54_0 P) (.node (o86_0 P) .nil .nil) (.node (o118_0 P) .nil .nil))) (.node (o30_0 P) (.node (o46_0 P) (.node (o78_0 P) (.node (o142_0 P) .nil .nil) .nil) (.node (o110_0 P) .nil .nil)) (.node (o62_0 P) (.node (o94_0 P) .nil .nil) (.node (o126_0 P) .nil .nil)))))))
noncomputable def S_u75 (w : World) (os : OsState) : SharedT := ⟨T_u75 w.params, 145, {}, #[], {}, 862, os⟩
noncomputable def T_v75 (P : Params) : BT := (.node (o0_0 P) (.node (o1_0 P) (.node (o3_8 P) (.node (o7_0 P) (.node (o15_0 P) (.node (o31_0 P) (.node (o63_0 P) (.node (o127_0 P) .nil .nil) .nil) (.node (o95_0 P) .nil .nil)) (.node (o47_0 P) (.node (o79_0 P) (.node (o143_v75 P) .nil .nil) .nil) (.node (o111_0 P) .nil .nil))) (.node (o23_0 P) (.node (o39_0 P) (.node (o71_0 P) (.node (o135_0 P) .nil .nil) .nil) (.node (o103_0 P) .nil .nil)) (.node (o55_0 P) (.node (o87_0 P) .nil .nil) (.node (o119_0 P) .nil .nil)))) (.node (o11_0 P) (.node (o19_0 P) (.node (o35_0 P) (.node (o67_0 P) (.node (o131_0 P) .nil .nil) .nil) (.node (o99_0 P) .nil .nil)) (.node (o51_0 P) (.node (o83_0 P) .nil .nil) (.node (o115_0 P) .nil .nil))) (.node (o27_0 P) (.node (o43_0 P) (.node (o75_0 P) (.node (o139_0 P) .nil .nil) .nil) (.node (o107_0 P) .nil .nil)) (.node (o59_0 P) (.node (o91_0 P) .nil .nil) (.node (o123_0 P) .nil .nil))))) (.node (o5_0 P) (.node (o9_0 P) (.node (o17_0 P) (.node (o33_0 P) (.node (o65_0 P) (.node (o129_0 P) .nil .nil) .nil) (.node (o97_0 P) .nil .nil)) (.node (o49_0 P) (.node (o81_0 P) .nil .nil) (.node (o113_0 P) .nil .nil))) (.node (o25_0 P) (.node (o41_0 P) (.node (o73_0 P) (.node (o137_0 P) .nil .nil) .nil) (.node (o105_0 P) .nil .nil)) (.node (o57_0 P) (.node (o89_0 P) .nil .nil) (.node (o121_0 P) .nil .nil)))) (.node (o13_0 P) (.node (o21_0 P) (.node (o37_0 P) (.node (o69_0 P) (.node (o133_0 P) .nil .nil) .nil) (.node (o101_0 P) .nil .nil)) (.node (o53_0 P) (.node (o85_0 P) .nil .nil) (.node (o117_0 P) .nil .nil))) (.node (o29_5 P) (.node (o45_0 P) (.node (o77_0 P) (.node (o141_0 P) .nil .nil) .nil) (.node (o109_0 P) .nil .nil)) (.node (o61_0 P) (.node (o93_0 P) .nil .nil) (.node (o125_0 P) .nil .nil)))))) (.node (o2_0 P) (.node (o4_0 P) (.node (o8_0 P) (.node (o16_0 P) (.node (o32_0 P) (.node (o64_0 P) (.node (o128_0 P) .nil .nil) .nil) (.node (o96_0 P) .nil .nil)) (.node (o48_0 P) (.node (o80_0 P) (.node (o144_u75 P) .nil .nil) .nil) (.node (o112_0 P) .nil .nil))) (.node (o24_0 P) (.node (o40_0 P) (.node (o72_0 P) (.node (o136_0 P) .nil .nil) .nil) (.node (o104_0 P) .nil .nil)) (.node (o56_0 P) (.node (o88_0 P) .nil .nil) (.node (o120_0 P) .nil .nil)))) (.node (o12_0 P) (.node (o20_0 P) (.node (o36_0 P) (.node (o68_0 P) (.node (o132_0 P) .nil .nil) .nil) (.node (o100_0 P) .nil .nil)) (.node (o52_0 P) (.node (o84_0 P) .nil .nil) (.node (o116_0 P) .nil .nil))) (.node (o28_0 P) (.node (o44_0 P) (.node (o76_0 P) (.node (o140_0 P) .nil .nil) .nil) (.node (o108_0 P) .nil .nil)) (.node (o60_0 P) (.node (o92_0 P) .nil .nil) (.node (o124_0 P) .nil .nil))))) (.node (o6_0 P) (.node (o10_0 P) (.node (o18_0 P) (.node (o34_0 P) (.node (o66_0 P) (.node (o130_0 P) .nil .nil) .nil) (.node (o98_0 P) .nil .nil)) (.node (o50_0 P) (.node (o82_0 P) .nil .nil) (.node (o114_0 P) .nil .nil))) (.node (o26_0 P) (.node (o42_0 P) (.node (o74_0 P) (.node (o138_0 P) .nil .nil) .nil) (.node (o106_0 P) .nil .nil)) (.node (o58_0 P) (.node (o90_0 P) .nil .nil) (.node (o122_0 P) .nil .nil)))) (.node (o14_0 P) (.node (o22_0 P) (.node (o38_0 P) (.node (o70_0 P) (.node (o134_0 P) .nil .nil) .nil) (.node (o102_0 P) .nil .nil)) (.node (o54_0 P) (.node (o86_0 P) .nil .nil) (.node (o118_0 P) .nil .nil))) (.node (o30_0 P) (.node (o46_0 P) (.node (o78_0 P) (.node (o142_0 P) .nil .nil) .nil) (.node (o110_0 P) .nil .nil)) (.node (o62_0 P) (.node (o94_0 P) .nil .nil) (.node (o126_0 P) .nil .nil)))))))
noncomputable def S_v75 (w : World) (os : OsState) : SharedT := ⟨T_v75 w.params, 145, {}, #[], {}, 862, os⟩
noncomputable def pl_75 : List Nat := [1, 32, 33, 34, 35, 36, 37, 38, 39, 40, 41, 42, 43, 44, 45, 46, 47, 48, 49, 50, 51, 52, 53, 54, 55, 56, 57, 58, 59, 60, 61, 62, 63, 64, 65, 66, 67, 68, 69, 70, 71, 72, 73, 74, 75, 76, 77, 78, 79, 80, 81, 82, 83, 84, 85, 86, 87, 88, 89, 90, 91, 92, 93, 94, 95, 96, 97, 98, 99, 100, 101, 102, 103, 104, 105, 106]
theorem v_75 : ∀ (w : World) (os : OsState), S_v75 w os = ⟨(S_u75 w os).tree.set 143 stripPl, (S_u75 w os).n, (S_u75 w os).life, (S_u75 w os).gens, (S_u75 w os).drawn, (S_u75 w os).toks, os⟩ := fun w os => by kernel_rfl
noncomputable abbrev LB5a (F0 F1 F2 F3 : Frame) (w : World) := fun os => bothX pl_72 (segGoN tbN pwN w 28 ann6 1 80 (S_u68 w os) (thU F0 F1 F2 F3))
noncomputable abbrev RB5a (F0 F1 F2 F3 : Frame) (w : World) := fun os => (some (S_v72 w os, thU F0 F1 F2 F3), true)
theorem pB5af (F0 F1 F2 F3 : Frame) (w : World) : LB5a F0 F1 F2 F3 (w.withFollow "special-get-raises" false) = RB5a F0 F1 F2 F3 (w.withFollow "special-get-raises" false) := by kernel_rfl
theorem pB5at (F0 F1 F2 F3 : Frame) (w : World) : LB5a F0 F1 F2 F3 (w.withFollow "special-get-raises" true) = RB5a F0 F1 F2 F3 (w.withFollow "special-get-raises" true) := by kernel_rfl
theorem pB5a (F0 F1 F2 F3 : Frame) : ∀ w : World, LB5a F0 F1 F2 F3 w = RB5a F0 F1 F2 F3 w := byRow2 "special-get-raises" (P := fun w => LB5a F0 F1 F2 F3 w = RB5a F0 F1 F2 F3 w) (pB5af F0 F1 F2 F3) (pB5at F0 F1 F2 F3)
noncomputable abbrev LB5b (F0 F1 F2 F3 : Frame) (w : World) := fun os => bothX pl_75 (segGoN tbN pwN w 28 ann6 1 60 (S_u72 w os) (thU F0 F1 F2 F3))
noncomputable abbrev RB5b (F0 F1 F2 F3 : Frame) (w : World) := fun os => (some (S_v75 w os, thU F0 F1 F2 F3), true)
theorem pB5bf (F0 F1 F2 F3 : Frame) (w : World) : LB5b F0 F1 F2 F3 (w.withFollow "special-get-raises" false) = RB5b F0 F1 F2 F3 (w.withFollow "special-get-raises" false) := by kernel_rfl
theorem pB5bt (F0 F1 F2 F3 : Frame) (w : World) : LB5b F0 F1 F2 F3 (w.withFollow "special-get-raises" true) = RB5b F0 F1 F2 F3 (w.withFollow "special-get-raises" true) := by kernel_rfl
theorem pB5b (F0 F1 F2 F3 : Frame) : ∀ w : World, LB5b F0 F1 F2 F3 w = RB5b F0 F1 F2 F3 w := byRow2 "special-get-raises" (P := fun w => LB5b F0 F1 F2 F3 w = RB5b F0 F1 F2 F3 w) (pB5bf F0 F1 F2 F3) (pB5bt F0 F1 F2 F3)
noncomputable abbrev LB5c (F0 F1 F2 F3 : Frame) (w : World) := fun os => bothX pl_76 (segGoN tbN pwN w 28 ann6 1 22 (S_u75 w os) (thU F0 F1 F2 F3))
noncomputable abbrev RB5c (F0 F1 F2 F3 : Frame) (w : World) := fun os => (some (S_v76 w os, thU F0 F1 F2 F3), true)
theorem pB5cf (F0 F1 F2 F3 : Frame) (w : World) : LB5c F0 F1 F2 F3 (w.withFollow "special-get-raises" false) = RB5c F0 F1 F2 F3 (w.withFollow "special-get-raises" false) := by kernel_rfl
theorem pB5ct (F0 F1 F2 F3 : Frame) (w : World) : LB5c F0 F1 F2 F3 (w.withFollow "special-get-raises" true) = RB5c F0 F1 F2 F3 (w.withFollow "special-get-raises" true) := by kernel_rfl
theorem pB5c (F0 F1 F2 F3 : Frame) : ∀ w : World, LB5c F0 F1 F2 F3 w = RB5c F0 F1 F2 F3 w := byRow2 "special-get-raises" (P := fun w => LB5c F0 F1 F2 F3 w = RB5c F0 F1 F2 F3 w) (pB5cf F0 F1 F2 F3) (pB5ct F0 F1 F2 F3)
end
end
noncomputable section
noncomputable section
set_option maxRecDepth 1000000
set_option maxHeartbeats 0
theorem pA : ∀ w : World, LA w = RA w := byRow2 "special-get-raises" (P := fun w => LA w = RA w) (fun w => by kernel_rfl) (fun w => by kernel_rfl)

end
end
noncomputable section
noncomputable section
set_option maxRecDepth 1000000
set_option maxHeartbeats 0
noncomputable abbrev LB0 (F0 F1 F2 F3 : Frame) (w : World) := fun os => bothX pl_30 (segGoN tbN pwN w 28 ann6 1 240 (S_u18 w os) (thU F0 F1 F2 F3))
noncomputable abbrev RB0 (F0 F1 F2 F3 : Frame) (w : World) := fun os => (some (S_v30 w os, thU F0 F1 F2 F3), true)
theorem pB0 (F0 F1 F2 F3 : Frame) : ∀ w : World, LB0 F0 F1 F2 F3 w = RB0 F0 F1 F2 F3 w := byRow2 "special-get-raises" (P := fun w => LB0 F0 F1 F2 F3 w = RB0 F0 F1 F2 F3 w) (fun w => by kernel_rfl) (fun w => by kernel_rfl)
noncomputable abbrev LB1 (F0 F1 F2 F3 : Frame) (w : World) := fun os => bothX pl_40 (segGoN tbN pwN w 28 ann6 1 200 (S_u30 w os) (thU F0 F1 F2 F3))
noncomputable abbrev RB1 (F0 F1 F2 F3 : Frame) (w : World) := fun os => (some (S_v40 w os, thU F0 F1 F2 F3), true)
theorem pB1 (F0 F1 F2 F3 : Frame) : ∀ w : World, LB1 F0 F1 F2 F3 w = RB1 F0 F1 F2 F3 w := byRow2 "special-get-raises" (P := fun w => LB1 F0 F1 F2 F3 w = RB1 F0 F1 F2 F3 w) (fun w => by kernel_rfl) (fun w => by kernel_rfl)

end
end
noncomputable section
noncomputable section
set_option maxRecDepth 1000000
set_option maxHeartbeats 0
noncomputable abbrev LB2 (F0 F1 F2 F3 : Frame) (w : World) := fun os => bothX pl_50 (segGoN tbN pwN w 28 ann6 1 200 (S_u40 w os) (thU F0 F1 F2 F3))
noncomputable abbrev RB2 (F0 F1 F2 F3 : Frame) (w : World) := fun os => (some (S_v50 w os, thU F0 F1 F2 F3), true)
theorem pB2 (F0 F1 F2 F3 : Frame) : ∀ w : World, LB2 F0 F1 F2 F3 w = RB2 F0 F1 F2 F3 w := byRow2 "special-get-raises" (P := fun w => LB2 F0 F1 F2 F3 w = RB2 F0 F1 F2 F3 w) (fun w => by kernel_rfl) (fun w => by kernel_rfl)
noncomputable abbrev LB3 (F0 F1 F2 F3 : Frame) (w : World) := fun os => bothX pl_60 (segGoN tbN pwN w 28 ann6 1 200 (S_u50 w os) (thU F0 F1 F2 F3))
noncomputable abbrev RB3 (F0 F1 F2 F3 : Frame) (w : World) := fun os => (some (S_v60 w os, thU F0 F1 F2 F3), true)
theorem pB3 (F0 F1 F2 F3 : Frame) : ∀ w : World, LB3 F0 F1 F2 F3 w = RB3 F0 F1 F2 F3 w := byRow2 "special-get-raises" (P := fun w => LB3 F0 F1 F2 F3 w = RB3 F0 F1 F2 F3 w) (fun w => by kernel_rfl) (fun w => by kernel_rfl)

end
end
noncomputable section
noncomputable section
set_option maxRecDepth 1000000
set_option maxHeartbeats 0
noncomputable abbrev LB4 (F0 F1 F2 F3 : Frame) (w : World) := fun os => bothX pl_68 (segGoN tbN pwN w 28 ann6 1 160 (S_u60 w os) (thU F0 F1 F2 F3))
noncomputable abbrev RB4 (F0 F1 F2 F3 : Frame) (w : World) := fun os => (some (S_v68 w os, thU F0 F1 F2 F3), true)
theorem pB4 (F0 F1 F2 F3 : Frame) : ∀ w : World, LB4 F0 F1 F2 F3 w = RB4 F0 F1 F2 F3 w := byRow2 "special-get-raises" (P := fun w => LB4 F0 F1 F2 F3 w = RB4 F0 F1 F2 F3 w) (fun w => by kernel_rfl) (fun w => by kernel_rfl)

end
end
noncomputable section
noncomputable section
set_option maxRecDepth 1000000
set_option maxHeartbeats 0
noncomputable abbrev LB6 (F0 F1 F2 F3 : Frame) (w : World) := fun os => bothX pl_81 (segGoN tbN pwN w 28 ann6 1 100 (S_u76 w os) (thU F0 F1 F2 F3))
noncomputable abbrev RB6 (F0 F1 F2 F3 : Frame) (w : World) := fun os => (some (S_v81 w os, thU F0 F1 F2 F3), true)
theorem pB6 (F0 F1 F2 F3 : Frame) : ∀ w : World, LB6 F0 F1 F2 F3 w = RB6 F0 F1 F2 F3 w := byRow2 "special-get-raises" (P := fun w => LB6 F0 F1 F2 F3 w = RB6 F0 F1 F2 F3 w) (fun w => by kernel_rfl) (fun w => by kernel_rfl)
noncomputable abbrev LB7 (F0 F1 F2 F3 : Frame) (w : World) := fun os => bothX pl_86 (segGoN tbN pwN w 28 ann6 1 100 (S_u81 w os) (thU F0 F1 F2 F3))
noncomputable abbrev RB7 (F0 F1 F2 F3 : Frame) (w : World) := fun os => (some (S_v86 w os, thU F0 F1 F2 F3), true)
theorem pB7 (F0 F1 F2 F3 : Frame) : ∀ w : World, LB7 F0 F1 F2 F3 w = RB7 F0 F1 F2 F3 w := byRow2 "special-get-raises" (P := fun w => LB7 F0 F1 F2 F3 w = RB7 F0 F1 F2 F3 w) (fun w => by kernel_rfl) (fun w => by kernel_rfl)

end
end
noncomputable section
noncomputable section
set_option maxRecDepth 1000000
set_option maxHeartbeats 0
noncomputable abbrev LB8 (F0 F1 F2 F3 : Frame) (w : World) := fun os => bothX pl_91 (segGoN tbN pwN w 28 ann6 1 100 (S_u86 w os) (thU F0 F1 F2 F3))
noncomputable abbrev RB8 (F0 F1 F2 F3 : Frame) (w : World) := fun os => (some (S_v91 w os, thU F0 F1 F2 F3), true)
theorem pB8 (F0 F1 F2 F3 : Frame) : ∀ w : World, LB8 F0 F1 F2 F3 w = RB8 F0 F1 F2 F3 w := byRow2 "special-get-raises" (P := fun w => LB8 F0 F1 F2 F3 w = RB8 F0 F1 F2 F3 w) (fun w => by kernel_rfl) (fun w => by kernel_rfl)
noncomputable abbrev LB9 (F0 F1 F2 F3 : Frame) (w : World) := fun os => bothX pl_96 (segGoN tbN pwN w 28 ann6 1 100 (S_u91 w os) (thU F0 F1 F2 F3))
noncomputable abbrev RB9 (F0 F1 F2 F3 : Frame) (w : World) := fun os => (some (S_v96 w os, thU F0 F1 F2 F3), true)
theorem pB9 (F0 F1 F2 F3 : Frame) : ∀ w : World, LB9 F0 F1 F2 F3 w = RB9 F0 F1 F2 F3 w := byRow2 "special-get-raises" (P := fun w => LB9 F0 F1 F2 F3 w = RB9 F0 F1 F2 F3 w) (fun w => by kernel_rfl) (fun w => by kernel_rfl)

end
end
noncomputable section
noncomputable section
set_option maxRecDepth 1000000
set_option maxHeartbeats 0
noncomputable abbrev LC (w : World) := fun os => segRunN tbN pwN w 28 ann6 1 27 (S_u96 w os) (thW w os)
noncomputable abbrev RC (w : World) : OsState → Option (Flow × SharedT × Code × Pos) := fun os => some (Flow.next, S_g9 w os, cE, ⟨96, 0, 96, 6⟩)
theorem pC : ∀ w : World, LC w = RC w := byRow2 "special-get-raises" (P := fun w => LC w = RC w) (fun w => by kernel_rfl) (fun w => by kernel_rfl)
end
end
noncomputable section
noncomputable section
set_option maxRecDepth 1000000
set_option maxHeartbeats 0
theorem sgo {w : World} {n : Nat} {S S' : SharedT} {t t' : Thread} (h : segGoN tbN pwN w 28 ann6 1 n S t = some (S', t')) : segGo treeTable pwN w 28 ann6 1 n S.abs t = some (S'.abs, t') :=
  segGo_of (by rw [segGo_eq, tb_eq]; exact h)
theorem srn {w : World} {n : Nat} {S S' : SharedT} {t : Thread} {f : Flow} {c : Code} {q : Pos} (h : segRunN tbN pwN w 28 ann6 1 n S t = some (f, S', c, q)) : segRun treeTable pwN w 28 ann6 1 n S.abs t = some (f, S'.abs, c, q) :=
  segRun_of (by rw [segRun_eq, tb_eq]; exact h)

theorem gA (w : World) (os : OsState) : segGo treeTable pwN w 28 ann6 1 2162 (S_g8 w os).abs thA = some ((S_u18 w os).abs, thW w os) := sgo (of_bothX (congrFun (pA w) os) (v_18 w os) rfl rfl)
theorem gB0 (w : World) (os : OsState) (F0 F1 F2 F3 : Frame) : segGo treeTable pwN w 28 ann6 1 240 (S_u18 w os).abs (thU F0 F1 F2 F3) = some ((S_u30 w os).abs, thU F0 F1 F2 F3) := sgo (of_bothX (congrFun (pB0 F0 F1 F2 F3 w) os) (v_30 w os) rfl rfl)
theorem gB1 (w : World) (os : OsState) (F0 F1 F2 F3 : Frame) : segGo treeTable pwN w 28 ann6 1 200 (S_u30 w os).abs (thU F0 F1 F2 F3) = some ((S_u40 w os).abs, thU F0 F1 F2 F3) := sgo (of_bothX (congrFun (pB1 F0 F1 F2 F3 w) os) (v_40 w os) rfl rfl)
theorem gB2 (w : World) (os : OsState) (F0 F1 F2 F3 : Frame) : segGo treeTable pwN w 28 ann6 1 200 (S_u40 w os).abs (thU F0 F1 F2 F3) = some ((S_u50 w os).abs, thU F0 F1 F2 F3) := sgo (of_bothX (congrFun (pB2 F0 F1 F2 F3 w) os) (v_50 w os) rfl rfl)
theorem gB3 (w : World) (os : OsState) (F0 F1 F2 F3 : Frame) : segGo treeTable pwN w 28 ann6 1 200 (S_u50 w os).abs (thU F0 F1 F2 F3) = some ((S_u60 w os).abs, thU F0 F1 F2 F3) := sgo (of_bothX (congrFun (pB3 F0 F1 F2 F3 w) os) (v_60 w os) rfl rfl)
theorem gB4 (w : World) (os : OsState) (F0 F1 F2 F3 : Frame) : segGo treeTable pwN w 28 ann6 1 160 (S_u60 w os).abs (thU F0 F1 F2 F3) = some ((S_u68 w os).abs, thU F0 F1 F2 F3) := sgo (of_bothX (congrFun (pB4 F0 F1 F2 F3 w) os) (v_68 w os) rfl rfl)
theorem gB5a (w : World) (os : OsState) (F0 F1 F2 F3 : Frame) : segGo treeTable pwN w 28 ann6 1 80 (S_u68 w os).abs (thU F0 F1 F2 F3) = some ((S_u72 w os).abs, thU F0 F1 F2 F3) := sgo (of_bothX (congrFun (pB5a F0 F1 F2 F3 w) os) (v_72 w os) rfl rfl)
theorem gB5b (w : World) (os : OsState) (F0 F1 F2 F3 : Frame) : segGo treeTable pwN w 28 ann6 1 60 (S_u72 w os).abs (thU F0 F1 F2 F3) = some ((S_u75 w os).abs, thU F0 F1 F2 F3) := sgo (of_bothX (congrFun (pB5b F0 F1 F2 F3 w) os) (v_75 w os) rfl rfl)
theorem gB5c (w : World) (os : OsState) (F0 F1 F2 F3 : Frame) : segGo treeTable pwN w 28 ann6 1 22 (S_u75 w os).abs (thU F0 F1 F2 F3) = some ((S_u76 w os).abs, thU F0 F1 F2 F3) := sgo (of_bothX (congrFun (pB5c F0 F1 F2 F3 w) os) (v_76 w os) rfl rfl)
theorem gB6 (w : World) (os : OsState) (F0 F1 F2 F3 : Frame) : segGo treeTable pwN w 28 ann6 1 100 (S_u76 w os).abs (thU F0 F1 F2 F3) = some ((S_u81 w os).abs, thU F0 F1 F2 F3) := sgo (of_bothX (congrFun (pB6 F0 F1 F2 F3 w) os) (v_81 w os) rfl rfl)
theorem gB7 (w : World) (os : OsState) (F0 F1 F2 F3 : Frame) : segGo treeTable pwN w 28 ann6 1 100 (S_u81 w os).abs (thU F0 F1 F2 F3) = some ((S_u86 w os).abs, thU F0 F1 F2 F3) := sgo (of_bothX (congrFun (pB7 F0 F1 F2 F3 w) os) (v_86 w os) rfl rfl)
theorem gB8 (w : World) (os : OsState) (F0 F1 F2 F3 : Frame) : segGo treeTable pwN w 28 ann6 1 100 (S_u86 w os).abs (thU F0 F1 F2 F3) = some ((S_u91 w os).abs, thU F0 F1 F2 F3) := sgo (of_bothX (congrFun (pB8 F0 F1 F2 F3 w) os) (v_91 w os) rfl rfl)
theorem gB9 (w : World) (os : OsState) (F0 F1 F2 F3 : Frame) : segGo treeTable pwN w 28 ann6 1 100 (S_u91 w os).abs (thU F0 F1 F2 F3) = some ((S_u96 w os).abs, thU F0 F1 F2 F3) := sgo (of_bothX (congrFun (pB9 F0 F1 F2 F3 w) os) (v_96 w os) rfl rfl)
theorem r8 (w : World) (os : OsState) : segRun treeTable pwN w 28 ann6 1 (2162 + (240 + (200 + (200 + (200 + (160 + (80 + (60 + (22 + (100 + (100 + (100 + (100 + 27))))))))))))) (S_g8 w os).abs thA = some (Flow.next, (S_g9 w os).abs, cE, ⟨96, 0, 96, 6⟩) := (seg_go (gA w os) (seg_go (gB0 w os _ _ _ _) (seg_go (gB1 w os _ _ _ _) (seg_go (gB2 w os _ _ _ _) (seg_go (gB3 w os _ _ _ _) (seg_go (gB4 w os _ _ _ _) (seg_go (gB5a w os _ _ _ _) (seg_go (gB5b w os _ _ _ _) (seg_go (gB5c w os _ _ _ _) (seg_go (gB6 w os _ _ _ _) (seg_go (gB7 w os _ _ _ _) (seg_go (gB8 w os _ _ _ _) (seg_go (gB9 w os _ _ _ _) (srn (congrFun (pC w) os)))))))))))))))
theorem r0 (w : World) (os : OsState) : segRun treeTable pwN w 28 ann6 1 91 (S_pre w os).abs (piecesOf sts0 envM cE ⟨0, 0, 0, 0⟩ [topFrame q0]) = some (Flow.next, (S_g1 w os).abs, cE, ⟨3, 0, 3, 8⟩) := srn (congrFun (pc0 w) os)
theorem r1 (w : World) (os : OsState) : segRun treeTable pwN w 28 ann6 1 1253 (S_g1 w os).abs (piecesOf sts1 envM cE ⟨3, 0, 3, 8⟩ [topFrame q0]) = some (Flow.next, (S_g2 w os).abs, cE, ⟨4, 0, 4, 18⟩) := srn (congrFun (pc1 w) os)
theorem r2 (w : World) (os : OsState) : segRun treeTable pwN w 28 ann6 1 89 (S_g2 w os).abs (piecesOf sts2 envM cE ⟨4, 0, 4, 18⟩ [topFrame q0]) = some (Flow.next, (S_g3 w os).abs, cE, ⟨74, 0, 74, 8⟩) := srn (congrFun (pc2 w) os)
theorem r3 (w : World) (os : OsState) : segRun treeTable pwN w 28 ann6 1 999 (S_g3 w os).abs (piecesOf sts3 envM cE ⟨74, 0, 74, 8⟩ [topFrame q0]) = some (Flow.next, (S_g4 w os).abs, cE, ⟨75, 0, 75, 6⟩) := srn (congrFun (pc3 w) os)
theorem r4 (w : World) (os : OsState) : segRun treeTable pwN w 28 ann6 1 288 (S_g4 w os).abs (piecesOf sts4 envM cE ⟨75, 0, 75, 6⟩ [topFrame q0]) = some (Flow.next, (S_g5 w os).abs, cE, ⟨87, 0, 87, 6⟩) := srn (congrFun (pc4 w) os)
theorem r5 (w : World) (os : OsState) : segRun treeTable pwN w 28 ann6 1 390 (S_g5 w os).abs (piecesOf sts5 envM cE ⟨87, 0, 87, 6⟩ [topFrame q0]) = some (Flow.next, (S_g6 w os).abs, cE, ⟨90, 0, 90, 6⟩) := srn (congrFun (pc5 w) os)
theorem r6 (w : World) (os : OsState) : segRun treeTable pwN w 28 ann6 1 804 (S_g6 w os).abs (piecesOf sts6 envM cE ⟨90, 0, 90, 6⟩ [topFrame q0]) = some (Flow.next, (S_g7 w os).abs, cE, ⟨93, 0, 93, 6⟩) := srn (congrFun (pc6 w) os)
theorem r7 (w : World) (os : OsState) : segRun treeTable pwN w 28 ann6 1 30 (S_g7 w os).abs (piecesOf sts7 envM cE ⟨93, 0, 93, 6⟩ [topFrame q0]) = some (Flow.next, (S_g8 w os).abs, cE, ⟨94, 0, 95, 30⟩) := srn (congrFun (pc7 w) os)
theorem r9 (w : World) (os : OsState) : segRun treeTable pwN w 28 ann6 1 326 (S_g9 w os).abs (piecesOf sts9 envM cE ⟨96, 0, 96, 6⟩ [topFrame q0]) = some (Flow.next, (S_g10 w os).abs, cE, ⟨203, 0, 211, 110⟩) := srn (congrFun (pc9 w) os)
theorem bE_eq : bE = (sts0 ++ (sts1 ++ (sts2 ++ (sts3 ++ (sts4 ++ (sts5 ++ (sts6 ++ (sts7 ++ (sts8 ++ (sts9 ++ [])))))))))) := by kernel_rfl
theorem rFin (w : World) (os : OsState) : topRun treeTable pwN w 28 ann6 2 (S_g10 w os).abs (restOf [] envM cE ⟨203, 0, 211, 110⟩ [topFrame q0]) = some (S_g10 w os).abs := by
  rw [show @topRun = topRunN from PySem.W.Fast.te14082659384304107361, tb_eq]; exact congrFun (pFin w) os
theorem rPre (w : World) (os : OsState) : topGo treeTable pwN w 28 ann6 12 ⟨H₀ w.params, #[], {}, 276, os⟩ (topStub pwN) = some ((S_pre w os).abs, ⟨denote treeTable cE, cE, q0, [topFrame q0]⟩) := by
  rw [show @topGo = topGoN from PySem.W.Fast.te15667345088766844465, show @denote = denN' from PySem.W.Fast.te11892475500146522536, tb_eq]; exact congrFun (pPre w) os
theorem rBl (w : World) (os : OsState) : segRun treeTable pwN w 28 ann6 1 1 (S_pre w os).abs (blockOf bE envM cE q0 [topFrame q0]) = some (Flow.next, (S_pre w os).abs, cE, q0) := by
  rw [show @segRun = segRunH from PySem.W.Fast.te14374325043358763698, tb_eq]; exact congrFun (pBl w) os
theorem rRest (w : World) (os : OsState) : topRun treeTable pwN w 28 ann6 (91 + (1253 + (89 + (999 + (288 + (390 + (804 + (30 + ((2162 + (240 + (200 + (200 + (200 + (160 + (80 + (60 + (22 + (100 + (100 + (100 + (100 + 27))))))))))))) + (326 + 2)))))))))) (S_pre w os).abs (restOf bE envM cE q0 [topFrame q0]) = some (S_g10 w os).abs := by
  rw [show restOf bE envM cE q0 [topFrame q0] = restOf (sts0 ++ (sts1 ++ (sts2 ++ (sts3 ++ (sts4 ++ (sts5 ++ (sts6 ++ (sts7 ++ (sts8 ++ (sts9 ++ [])))))))))) envM cE q0 [topFrame q0] from congrArg (fun l => restOf l envM cE q0 [topFrame q0]) bE_eq]
  exact (piece_app (l := sts0) (rest := (sts1 ++ (sts2 ++ (sts3 ++ (sts4 ++ (sts5 ++ (sts6 ++ (sts7 ++ (sts8 ++ (sts9 ++ [])))))))))) (r0 w os) (piece_app (l := sts1) (rest := (sts2 ++ (sts3 ++ (sts4 ++ (sts5 ++ (sts6 ++ (sts7 ++ (sts8 ++ (sts9 ++ []))))))))) (r1 w os) (piece_app (l := sts2) (rest := (sts3 ++ (sts4 ++ (sts5 ++ (sts6 ++ (sts7 ++ (sts8 ++ (sts9 ++ [])))))))) (r2 w os) (piece_app (l := sts3) (rest := (sts4 ++ (sts5 ++ (sts6 ++ (sts7 ++ (sts8 ++ (sts9 ++ []))))))) (r3 w os) (piece_app (l := sts4) (rest := (sts5 ++ (sts6 ++ (sts7 ++ (sts8 ++ (sts9 ++ [])))))) (r4 w os) (piece_app (l := sts5) (rest := (sts6 ++ (sts7 ++ (sts8 ++ (sts9 ++ []))))) (r5 w os) (piece_app (l := sts6) (rest := (sts7 ++ (sts8 ++ (sts9 ++ [])))) (r6 w os) (piece_app (l := sts7) (rest := (sts8 ++ (sts9 ++ []))) (r7 w os) (piece_app (l := sts8) (rest := (sts9 ++ [])) (r8 w os) (piece_app (l := sts9) (rest := []) (r9 w os) (rFin w os)))))))))))
theorem runAll (w : World) (os : OsState) : topRun treeTable pwN w 28 ann6 (12 + (1 + (91 + (1253 + (89 + (999 + (288 + (390 + (804 + (30 + ((2162 + (240 + (200 + (200 + (200 + (160 + (80 + (60 + (22 + (100 + (100 + (100 + (100 + 27))))))))))))) + (326 + 2)))))))))))) ⟨H₀ w.params, #[], {}, 276, os⟩ (topStub pwN) = some ⟨H₁ w.params, #[], {}, 988, os⟩ :=
  go_top (rPre w os) (piece_block (rBl w os) (rRest w os))
theorem openAll : ∀ w : World, (fencedOpening treeTable pwN w 20000).map (fun s => (s.heap, s.gens, s.drawn, s.toks)) = some (H₀ w.params, #[], {}, 276) := by
  intro w
  unfold fencedOpening
  rw [show @importEnds = impN from PySem.W.Fast.te10274390034422433532, show @start = startN from PySem.W.Fast.te1435165496053646825, show @fenceModules? = fenceN from PySem.W.Fast.te14289696077712309145, tb_eq]
  exact pO w
theorem looksAll : ∀ w : World, (fun os => ((staticsOk (importedModules pwN.main.body) (H₀ w.params) (H₁ w.params) && namesBound pwN (H₁ w.params) && gensDone ⟨H₁ w.params, #[], {}, 988, os⟩ && laidKept (H₀ w.params) (H₁ w.params)),
        openSeen qv looseV (importedModules pwN.main.body) XtV true ⟨H₁ w.params, #[], {}, 988, os⟩, hookF.obs ⟨H₁ w.params, #[], {}, 988, os⟩)) = fun _ => (true, openGood qv looseV, hookF.val w) := by
  intro w
  funext os
  rw [show @openSeen = openSeenN from PySem.W.Fast.te4187177175401517315]
  exact Prod.ext (congrFun (lk1 w) os) (Prod.ext (congrFun (lk2 w) os) (congrFun (lk3 w) os))
theorem leftN : LeftO pwN qv looseV XtV hookF.obs hookF.val 20000 :=
  LeftO.of_pieces (H₀ := H₀) (H₁ := H₁) (m₀ := 28) (ann := ann6) (M := 12 + (1 + (91 + (1253 + (89 + (999 + (288 + (390 + (804 + (30 + ((2162 + (240 + (200 + (200 + (200 + (160 + (80 + (60 + (22 + (100 + (100 + (100 + (100 + 27))))))))))))) + (326 + 2)))))))))))) openAll pSize runAll (by decide +kernel) looksAll
theorem leftP : LeftO PySem.Challenge.pw_ij0078_01 qv looseV XtV hookF.obs hookF.val 20000 := pw_eq ▸ leftN

end
end
noncomputable section
set_option maxRecDepth 100000

/-! The engine: a frame, a heap that stays, a ledger of what changes. -/

noncomputable def Ext (h h' : Heap) : Prop := ∀ b o, h.get? b = some o → h'.get? b = some o
theorem Ext.refl (h : Heap) : Ext h h := fun _ _ e => e
theorem Ext.trans {a b c : Heap} (x : Ext a b) (y : Ext b c) : Ext a c := fun d o e => y d o (x d o e)

structure St (imm : Heap) (L : Addr) (m : Str → Option Value) (mu : List (Addr × Obj)) (h : Heap) : Prop where
  ns : h.Ns L m
  keep : Ext imm h
  immL : imm.get? L = none
  mem : ∀ p ∈ mu, h.get? p.1 = some p.2 ∧ p.1 ≠ L ∧ imm.get? p.1 = none
  nodup : (mu.map (·.1)).Nodup

theorem get_none_of_size {h : Heap} {a : Addr} (ha : h.objs.size ≤ a) : h.get? a = none := by
  cases e : h.get? a with
  | none => rfl
  | some o => exact absurd (Heap.lt_size e) (Nat.not_lt.mpr ha)

section
variable {imm h h' : Heap} {L : Addr} {m m' : Str → Option Value} {mu mu' : List (Addr × Obj)}

theorem St.setName (S : St imm L m mu h) (hn : h'.Ns L m') (hs : Heap.SameBut L h h') : St imm L m' mu h' :=
  ⟨hn, fun b o e => (hs.2 b (by rintro rfl; rw [S.immL] at e; cases e)).trans (S.keep b o e), S.immL,
    fun p hp => ⟨(hs.2 p.1 (S.mem p hp).2.1).trans (S.mem p hp).1, (S.mem p hp).2⟩, S.nodup⟩

theorem St.ext (S : St imm L m mu h) (x : Ext h h') : St imm L m mu h' :=
  ⟨S.ns.keeps x, S.keep.trans x, S.immL, fun p hp => ⟨x _ _ (S.mem p hp).1, (S.mem p hp).2⟩, S.nodup⟩

theorem St.push (S : St imm L m mu h) (o : Obj) : St imm L m mu (h.push o) := S.ext fun _ _ e => Heap.get?_push_of_some o e

theorem St.size_fresh (S : St imm L m mu h) : imm.get? h.objs.size = none ∧ h.objs.size ≠ L ∧ ∀ p ∈ mu, p.1 ≠ h.objs.size := by
  refine ⟨?_, ?_, ?_⟩
  · cases e : imm.get? h.objs.size with
    | none => rfl
    | some o => exact absurd (Heap.lt_size (S.keep _ _ e)) (Nat.lt_irrefl _)
  · exact fun e => absurd S.ns.lt (by rw [e]; exact Nat.lt_irrefl _)
  · intro p hp e
    exact absurd (Heap.lt_size (S.mem p hp).1) (by rw [e]; exact Nat.lt_irrefl _)

theorem St.alloc (S : St imm L m mu h) {o : Obj} (hf : o.isFreed = false) : St imm L m ((h.objs.size, o) :: mu) (h.push o) := by
  obtain ⟨f1, f2, f3⟩ := S.size_fresh
  have P := S.push o
  refine ⟨P.ns, P.keep, P.immL, fun p hp => ?_, ?_⟩
  · rcases List.mem_cons.mp hp with rfl | hp
    · exact ⟨Heap.get?_push_size _ hf, f2, f1⟩
    · exact P.mem p hp
  · rw [List.map_cons, List.nodup_cons]
    refine ⟨fun hm => ?_, S.nodup⟩
    obtain ⟨p, hp, e⟩ := List.mem_map.mp hm
    exact f3 p hp e

/-- the ledger's entry at `a` changes -/
theorem St.updAt (S : St imm L m mu h) {a : Addr} {o' : Obj} (hL : a ≠ L) (hi : imm.get? a = none) (hs : Heap.SameBut a h h') (hg : h'.get? a = some o')
    (hmut : ∀ p ∈ mu', (p ∈ mu ∧ p.1 ≠ a) ∨ p = (a, o')) (hn : (mu'.map (·.1)).Nodup) : St imm L m mu' h' := by
  refine ⟨S.ns.sameBut hs (Ne.symm hL), fun b o e => (hs.2 b (by rintro rfl; rw [hi] at e; cases e)).trans (S.keep b o e), S.immL, fun p hp => ?_, hn⟩
  rcases hmut p hp with ⟨hp, hne⟩ | rfl
  · exact ⟨(hs.2 p.1 hne).trans (S.mem p hp).1, (S.mem p hp).2⟩
  · exact ⟨hg, hL, hi⟩

theorem St.upd0 {a : Addr} {o o' : Obj} (S : St imm L m ((a, o) :: mu) h) (hs : Heap.SameBut a h h') (hg : h'.get? a = some o') : St imm L m ((a, o') :: mu) h' := by
  have z := S.mem (a, o) (.head _)
  have nd := S.nodup
  rw [List.map_cons, List.nodup_cons] at nd
  refine S.updAt z.2.1 z.2.2 hs hg (fun p hp => ?_) (by rw [List.map_cons, List.nodup_cons]; exact nd)
  rcases List.mem_cons.mp hp with rfl | hp
  · exact .inr rfl
  · exact .inl ⟨.tail _ hp, fun e => nd.1 (List.mem_map.mpr ⟨p, hp, e⟩)⟩

theorem St.perm (S : St imm L m mu h) (p : mu.Perm mu') : St imm L m mu' h :=
  ⟨S.ns, S.keep, S.immL, fun q hq => S.mem q (p.mem_iff.mpr hq), (p.map _).nodup_iff.mp S.nodup⟩

theorem St.swap {x y : Addr × Obj} (S : St imm L m (x :: y :: mu) h) : St imm L m (y :: x :: mu) h := S.perm (List.Perm.swap ..)
theorem St.rot3 {x y z : Addr × Obj} (S : St imm L m (x :: y :: z :: mu) h) : St imm L m (z :: x :: y :: mu) h :=
  S.perm (((List.Perm.swap z y mu).cons x).trans (List.Perm.swap z x (y :: mu)))

theorem St.upd1 {a : Addr} {o o' : Obj} {x : Addr × Obj} (S : St imm L m (x :: (a, o) :: mu) h) (hs : Heap.SameBut a h h') (hg : h'.get? a = some o') : St imm L m (x :: (a, o') :: mu) h' :=
  (S.swap.upd0 hs hg).swap
theorem St.upd2 {a : Addr} {o o' : Obj} {x y : Addr × Obj} (S : St imm L m (x :: y :: (a, o) :: mu) h) (hs : Heap.SameBut a h h') (hg : h'.get? a = some o') : St imm L m (x :: y :: (a, o') :: mu) h' := by
  have z := S.rot3.upd0 hs hg
  exact z.perm ((List.Perm.swap x (a, o') (y :: mu)).trans ((List.Perm.swap y (a, o') mu).cons x))

theorem St.drop (S : St imm L m mu h) (hs : mu'.Sublist mu) : St imm L m mu' h :=
  ⟨S.ns, S.keep, S.immL, fun p hp => S.mem p (hs.subset hp), S.nodup.sublist (hs.map _)⟩
theorem St.drop0 {x : Addr × Obj} (S : St imm L m (x :: mu) h) : St imm L m mu h := S.drop (List.sublist_cons_self _ _)

theorem St.get0 {a : Addr} {o : Obj} (S : St imm L m ((a, o) :: mu) h) : h.get? a = some o := (S.mem _ (.head _)).1
theorem St.get1 {a : Addr} {o : Obj} {x : Addr × Obj} (S : St imm L m (x :: (a, o) :: mu) h) : h.get? a = some o := (S.mem _ (.tail _ (.head _))).1
theorem St.get2 {a : Addr} {o : Obj} {x y : Addr × Obj} (S : St imm L m (x :: y :: (a, o) :: mu) h) : h.get? a = some o := (S.mem _ (.tail _ (.tail _ (.head _)))).1

/-- all but the frame and the ledger is laid into what stays -/
theorem St.freeze (S : St imm L m mu h) : ∃ imm', Ext imm imm' ∧ St imm' L m mu h ∧ (∀ b o, h.get? b = some o → b ≠ L → (∀ p ∈ mu, p.1 ≠ b) → imm'.get? b = some o) := by
  refine ⟨hideAll h (L :: mu.map (·.1)), fun b o e => hideAll_get _ (S.keep b o e) fun hm => ?_, ⟨S.ns, fun b o e => of_hideAll _ e, hideAll_none _ (.head _), fun p hp => ⟨(S.mem p hp).1, (S.mem p hp).2.1, hideAll_none _ (.tail _ (List.mem_map.mpr ⟨p, hp, rfl⟩))⟩, S.nodup⟩, fun b o e hL hm => hideAll_get _ e fun hb => ?_⟩
  · rcases List.mem_cons.mp hm with rfl | hm
    · rw [S.immL] at e; cases e
    · obtain ⟨p, hp, rfl⟩ := List.mem_map.mp hm
      rw [(S.mem p hp).2.2] at e; cases e
  · rcases List.mem_cons.mp hb with rfl | hb
    · exact hL rfl
    · obtain ⟨p, hp, rfl⟩ := List.mem_map.mp hb
      exact hm p hp rfl

/-- the first of the ledger is laid into what stays -/
theorem St.freeze0 {a : Addr} {o : Obj} (S : St imm L m ((a, o) :: mu) h) : ∃ imm', Ext imm imm' ∧ St imm' L m mu h ∧ imm'.get? a = some o := by
  obtain ⟨imm', x, S', hk⟩ := S.drop0.freeze
  have nd := S.nodup
  rw [List.map_cons, List.nodup_cons] at nd
  exact ⟨imm', x, S', hk a o S.get0 (S.mem _ (.head _)).2.1 fun p hp e => nd.1 (List.mem_map.mpr ⟨p, hp, e⟩)⟩
end

/-- what of a heap lies at `n` and above -/
noncomputable def above (n : Nat) (h : Heap) : Heap := hideAll h (List.range n)
theorem above_get {n : Nat} {h : Heap} {b : Addr} {o : Obj} : (above n h).get? b = some o ↔ h.get? b = some o ∧ n ≤ b := by
  constructor
  · intro e
    refine ⟨of_hideAll _ e, Nat.le_of_not_lt fun hb => ?_⟩
    unfold above at e
    rw [hideAll_none _ (List.mem_range.mpr hb)] at e; cases e
  · rintro ⟨e, hb⟩
    exact hideAll_get _ e fun hm => absurd (List.mem_range.mp hm) (Nat.not_lt.mpr hb)

theorem St.called {imm h h' : Heap} {L : Addr} {m : Str → Option Value} {mu : List (Addr × Obj)} (S : St imm L m mu h) (x : Ext h h') :
    ∃ imm', Ext imm imm' ∧ St imm' L m mu h' ∧ Ext (above h.objs.size h') imm' := by
  obtain ⟨imm', y, S', hk⟩ := (S.ext x).freeze
  refine ⟨imm', y, S', fun b o e => ?_⟩
  obtain ⟨e, hb⟩ := above_get.mp e
  refine hk b o e ?_ fun p hp q => ?_
  · rintro rfl; exact absurd S.ns.lt (Nat.not_lt.mpr hb)
  · subst q; exact absurd (Heap.lt_size (S.mem p hp).1) (Nat.not_lt.mpr hb)

/-! Data -/
inductive D where
  | none
  | bool (b : Bool)
  | int (i : Int)
  | str (s : Str)
  | list (ds : List D)
  | tup (ds : List D)

noncomputable abbrev lstO (vs : List Value) (n : Nat) : Obj := { cls := .type "list", data := .seq vs.toArray n }
noncomputable abbrev tupO (vs : List Value) (n : Nat) : Obj := { cls := .type "tuple", data := .seq vs.toArray n }

mutual
noncomputable def Rep (h : Heap) : D → Value → Prop
  | .none, v => v = .none
  | .bool b, v => v = .bool b
  | .int i, v => ∃ t, v = .int i t
  | .str s, v => ∃ t, v = .str s t
  | .list ds, v => ∃ a vs n, v = .ref a ∧ h.get? a = some (lstO vs n) ∧ Reps h ds vs
  | .tup ds, v => ∃ a vs n, v = .ref a ∧ h.get? a = some (tupO vs n) ∧ Reps h ds vs
noncomputable def Reps (h : Heap) : List D → List Value → Prop
  | [], vs => vs = []
  | d :: ds, vs => ∃ v r, vs = v :: r ∧ Rep h d v ∧ Reps h ds r
end

mutual
theorem Rep.ext {h h' : Heap} (x : Ext h h') : ∀ (d : D) (v : Value), Rep h d v → Rep h' d v
  | .none, _, e => by simpa only [Rep] using e
  | .bool _, _, e => by simpa only [Rep] using e
  | .int _, _, e => by simpa only [Rep] using e
  | .str _, _, e => by simpa only [Rep] using e
  | .list ds, _, e => by
    simp only [Rep] at e ⊢
    obtain ⟨a, vs, n, rfl, g, r⟩ := e
    exact ⟨a, vs, n, rfl, x _ _ g, Reps.ext x ds vs r⟩
  | .tup ds, _, e => by
    simp only [Rep] at e ⊢
    obtain ⟨a, vs, n, rfl, g, r⟩ := e
    exact ⟨a, vs, n, rfl, x _ _ g, Reps.ext x ds vs r⟩
theorem Reps.ext {h h' : Heap} (x : Ext h h') : ∀ (ds : List D) (vs : List Value), Reps h ds vs → Reps h' ds vs
  | [], _, e => by simpa only [Reps] using e
  | d :: ds, _, e => by
    simp only [Reps] at e ⊢
    obtain ⟨v, r, rfl, a, b⟩ := e
    exact ⟨v, r, rfl, Rep.ext x d v a, Reps.ext x ds r b⟩
end

theorem Reps.length {h : Heap} : ∀ {ds : List D} {vs : List Value}, Reps h ds vs → vs.length = ds.length
  | [], _, e => by simp only [Reps] at e; subst e; rfl
  | d :: ds, _, e => by
    simp only [Reps] at e
    obtain ⟨v, r, rfl, _, b⟩ := e
    simp [b.length]
theorem Reps.get {h : Heap} : ∀ {ds : List D} {vs : List Value} {i : Nat} {v : Value}, Reps h ds vs → vs[i]? = some v → ∃ d, ds[i]? = some d ∧ Rep h d v
  | [], _, _, _, e, q => by simp only [Reps] at e; subst e; cases q
  | d :: ds, _, 0, _, e, q => by
    simp only [Reps] at e
    obtain ⟨v, r, rfl, a, _⟩ := e
    cases q; exact ⟨d, rfl, a⟩
  | d :: ds, _, i + 1, _, e, q => by
    simp only [Reps] at e
    obtain ⟨v, r, rfl, _, b⟩ := e
    exact b.get (by simpa using q)
theorem Reps.at {h : Heap} : ∀ {ds : List D} {vs : List Value} {i : Nat} {d : D}, Reps h ds vs → ds[i]? = some d → ∃ v, vs[i]? = some v ∧ Rep h d v
  | [], _, _, _, _, q => by cases q
  | d :: ds, _, 0, _, e, q => by
    simp only [Reps] at e
    obtain ⟨v, r, rfl, a, _⟩ := e
    cases q; exact ⟨v, rfl, a⟩
  | d :: ds, _, i + 1, _, e, q => by
    simp only [Reps] at e
    obtain ⟨v, r, rfl, _, b⟩ := e
    exact b.at (by simpa using q)
theorem Reps.append {h : Heap} : ∀ {ds es : List D} {vs ws : List Value}, Reps h ds vs → Reps h es ws → Reps h (ds ++ es) (vs ++ ws)
  | [], _, _, _, e, q => by simp only [Reps] at e; subst e; exact q
  | d :: ds, _, _, _, e, q => by
    simp only [Reps] at e
    obtain ⟨v, r, rfl, a, b⟩ := e
    simp only [List.cons_append, Reps]
    exact ⟨v, _, rfl, a, b.append q⟩
theorem Reps.nil {h : Heap} : Reps h [] [] := by simp only [Reps]
theorem Reps.cons {h : Heap} {d : D} {ds : List D} {v : Value} {vs : List Value} (a : Rep h d v) (b : Reps h ds vs) : Reps h (d :: ds) (v :: vs) := by
  simp only [Reps]; exact ⟨v, vs, rfl, a, b⟩
theorem Reps.snoc {h : Heap} {ds : List D} {vs : List Value} {d : D} {v : Value} (a : Reps h ds vs) (b : Rep h d v) : Reps h (ds ++ [d]) (vs ++ [v]) := a.append (Reps.cons b Reps.nil)
theorem Reps.drop {h : Heap} : ∀ (k : Nat) {ds : List D} {vs : List Value}, Reps h ds vs → Reps h (ds.drop k) (vs.drop k)
  | 0, _, _, e => e
  | k + 1, [], _, e => by simp only [Reps] at e; subst e; simp only [List.drop_nil, Reps]
  | k + 1, d :: ds, _, e => by
    simp only [Reps] at e
    obtain ⟨v, r, rfl, _, b⟩ := e
    simpa using b.drop k
theorem Reps.take {h : Heap} : ∀ (k : Nat) {ds : List D} {vs : List Value}, Reps h ds vs → Reps h (ds.take k) (vs.take k)
  | 0, _, _, e => by simp only [List.take_zero, Reps]
  | k + 1, [], _, e => by simp only [Reps] at e; subst e; simp only [List.take_nil, Reps]
  | k + 1, d :: ds, _, e => by
    simp only [Reps] at e
    obtain ⟨v, r, rfl, a, b⟩ := e
    simp only [List.take_succ_cons]
    exact Reps.cons a (b.take k)

end
noncomputable section
set_option maxRecDepth 100000

noncomputable abbrev MM (w : World) : Model := model PySem.Challenge.pw_ij0078_01 w
noncomputable abbrev Bot : Value → Shared → Prop := fun _ _ => False

noncomputable def fdAt (st : Option Stmt) (g : Addr) (m c : Value) : FuncData := match st with
  | some (.FunctionDef name args body _ _ _ scope _ _ _) => { name, qualname := name, params := args, body := .stmts body, scope, globals := g, closure := [], defaults := .none, kwdefaults := .none, pyModule := m, code := c }
  | _ => default
noncomputable def fdP (i : Nat) (g : Addr) (m c : Value) : FuncData := fdAt (PySem.Challenge.pw_ij0078_01.main.body[i]?) g m c
theorem fdOf_eq : fdOf = fdP := by
  funext i g m c
  unfold fdP
  rw [pw_eq]
  unfold fdOf
  generalize pwN.main.body[i]? = st
  cases st with
  | none => rfl
  | some st => cases st <;> rfl
noncomputable def bodyP (i : Nat) : List Stmt := match PySem.Challenge.pw_ij0078_01.main.body[i]? with
  | some (.FunctionDef _ _ body _ _ _ _ _ _ _) => body
  | _ => []

/-- what of the top stays: all written objects but the code table that a lambda's making turns -/
noncomputable def Kb (P : Params) : Frag := (Kf P).filter fun p => p.1 != 50
structure Base (w : World) (h : Heap) : Prop where
  k : ∀ a o, (Kb w.params).lookup a = some o → h.get? a = some o
  mb : ∃ mb, h.Ns builtinsNs mb ∧ ∀ x : Str, x ≠ "__name__" → mb x = bootBuiltins x
  lim : h.NoLimit
  bm : ∃ o, h.get? 4 = some o ∧ o.cls = .type "module" ∧ o.dict = some builtinsNs ∧ o.data = .plain
theorem Base.ext {w : World} {h h' : Heap} (B : Base w h) (x : Ext h h') : Base w h' :=
  ⟨fun a o e => x _ _ (B.k a o e), let ⟨mb, a, b⟩ := B.mb; ⟨mb, a.keeps x, b⟩, B.lim.keeps x, let ⟨o, a, b⟩ := B.bm; ⟨o, x _ _ a, b⟩⟩

noncomputable def Room (A : Around) (k : Nat) : Prop := A.handled = none ∧ A.depth + k < 1000 ∧ A.units + 10 * k < 9900
theorem Room.deeper {A : Around} {k : Nat} (r : Room A (k + 1)) (env : Env) : Room (A.deeper env) k := ⟨r.1, by have := r.2.1; show A.depth + 1 + k < 1000; omega, by have := r.2.2; show A.units + 3 + 10 * k < 9900; omega⟩
theorem Room.le {A : Around} {k k' : Nat} (r : Room A k) (h : k' ≤ k) : Room A k' := ⟨r.1, by have := r.2.1; omega, by have := r.2.2; omega⟩
theorem Room.in1 {A : Around} {k : Nat} (r : Room A (k + 1)) : Room A.in1 k := ⟨r.1, by have := r.2.1; show A.depth + k < 1000; omega, by have := r.2.2; show A.units + 1 + 10 * k < 9900; omega⟩

structure EnvOk (env : Env) (L : Addr) : Prop where
  kind : env.scope.kind = .function
  locals : env.locals = L
  globals : env.globals = mainGlobals
  builtins : env.builtins = builtinsNs

section
variable {w : World} {A : Around} {s : Shared} {env : Env} {imm : Heap} {L : Addr} {m : Str → Option Value} {mu : List (Addr × Obj)}

theorem nm_local {x : Str} {pos : Pos} {v : Value} {E : Value → Shared → Prop} {Q : Value → Shared → Prop} (S : St imm L m mu s.heap) (e : EnvOk env L) (hl : env.kindOf x = some .local) (hv : m x = some v) (h : Q v s)
    (hd : (x == ("__debug__" : Str)) = false := by decide) : wpAny (MM w) A (eval (.Name x pos) env) Q E s :=
  wpAny_Name (wpAny_loadName_local e.kind hl (e.locals ▸ S.ns) hv h) hd
theorem ld_local {x : Str} {v : Value} {E : Value → Shared → Prop} {Q : Value → Shared → Prop} (S : St imm L m mu s.heap) (e : EnvOk env L) (hl : env.kindOf x = some .local) (hv : m x = some v) (h : Q v s) :
    wpAny (MM w) A (loadName env x) Q E s := wpAny_loadName_local e.kind hl (e.locals ▸ S.ns) hv h
theorem st_local {x : Str} {v : Value} {E : Value → Shared → Prop} {Q : Unit → Shared → Prop} (S : St imm L m mu s.heap) (e : EnvOk env L) (hl : env.kindOf x = some .local)
    (h : ∀ h', St imm L (fun y => if y = x then some v else m y) mu h' → Q () { s with heap := h', toks := s.toks + 1 }) : wpAny (MM w) A (storeName env x v) Q E s := by
  have hn : s.heap.Ns env.locals m := e.locals ▸ S.ns
  refine wpAny_storeName_local hl hn (fun h' hn' hs' => h h' (S.setName (e.locals ▸ hn') (e.locals ▸ hs'))) ?_
  rw [e.kind]; rfl

/-- the globals -/
noncomputable def mgK (P : Params) : Str → Option Value := match (Kb P).lookup 3 with
  | some ⟨_, _, .dict es _, _⟩ => nsFind es
  | _ => fun _ => none
theorem Base.glob {h : Heap} (B : Base w h) : h.Ns mainGlobals (mgK w.params) := by
  obtain ⟨o, ho⟩ : ∃ o, (Kb w.params).lookup 3 = some o := ⟨_, rfl⟩
  have hg := B.k 3 o ho
  have : mgK w.params = match some o with
    | some ⟨_, _, .dict es _, _⟩ => nsFind es
    | _ => fun _ => none := by unfold mgK; rw [ho]
  have hk : (Kb w.params).lookup 3 = some _ := rfl
  rw [this]
  have e := ho.symm.trans hk
  cases e
  refine ⟨_, _, _, hg, rfl, ?_, fun _ => rfl⟩
  intro e he
  have : ∀ l : List DictEntry, (l.all fun e => match e.key with | .str _ _ => true | _ => false) = true → ∀ e ∈ l, ∃ n t, e.key = .str n t := by
    intro l hl e he
    have := List.all_eq_true.mp hl e he
    revert this
    cases e.key <;> simp
  exact this _ rfl e (Array.mem_toList_iff.mpr he)

theorem nm_glob {x : Str} {pos : Pos} {v : Value} {E : Value → Shared → Prop} {Q : Value → Shared → Prop} (S : St imm L m mu s.heap) (B : Base w imm) (e : EnvOk env L) (hl : env.kindOf x = some .globalImplicit)
    (hv : mgK w.params x = some v) (h : Q v s) (hd : (x == ("__debug__" : Str)) = false := by decide) : wpAny (MM w) A (eval (.Name x pos) env) Q E s :=
  Name_function_global e.kind hl (loadGlobal_global (by rw [e.globals]; exact (B.ext S.keep).glob) hv h) hd
theorem nm_built {x : Str} {pos : Pos} {v : Value} {E : Value → Shared → Prop} {Q : Value → Shared → Prop} (S : St imm L m mu s.heap) (B : Base w imm) (e : EnvOk env L) (hl : env.kindOf x = some .globalImplicit)
    (hm : mgK w.params x = none) (hv : bootBuiltins x = some v) (h : Q v s) (hne : x ≠ ("__name__" : Str) := by decide) (hd : (x == ("__debug__" : Str)) = false := by decide) : wpAny (MM w) A (eval (.Name x pos) env) Q E s := by
  obtain ⟨mb, hb, hx⟩ := (B.ext S.keep).mb
  exact Name_function_global e.kind hl (loadGlobal_builtin (by rw [e.globals]; exact (B.ext S.keep).glob) hm (by rw [e.builtins]; exact hb) ((hx x hne).trans hv) h) hd

/-- a def of the text's own is called -/
theorem call_def {R : Value → Shared → Prop} {E : Value → Shared → Prop} {f : Addr} {o : Obj} {fd : FuncData} {body : List Stmt} {args : List Value} {binds : List (Str × Value)} {k : Nat}
    (B : Base w s.heap) (r : Room A (k + 1)) (ho : s.heap.get? f = some o) (hdata : o.data = .func fd) (hcd : s.heap.CodeRec fd.code fd.qualname) (hbody : fd.body = .stmts body)
    (hbind : bindArgs fd ⟨args, []⟩ = pure binds) (hcell : ∀ x ∈ fd.scope.names, x.2 ≠ .cell) (hloc : ∀ x ∈ binds, fd.scope.names.lookup x.1 = some .local)
    (h : ∀ h₀, St s.heap s.heap.objs.size (fun x => binds.reverse.lookup x) [] h₀ →
      wpAny (MM w) (A.deeper (callEnv fd s.heap.objs.size f)) (execs body (callEnv fd s.heap.objs.size f)) (fun fl s' => R (match fl with | .ret v => v | _ => .none) s') Bot
        { s with heap := h₀, toks := s.toks + binds.length })
    (hco : fd.scope.isCoroutine = false) (hgen : fd.scope.isGenerator = false) (hk : fd.scope.kind = .function) : wpAny (MM w) A (call (.ref f) args) R E s := by
  refine wpAny_call (codeAny_call_def (fd := fd) (body := body) (binds := binds) (by have := r.2.1; show A.depth < 1000; omega) ho hdata B.lim hcd hbody (.of_eq hbind) hcell hloc (fun h₀ hn hx => ?_) hco hgen hk)
  refine wpAny_mono (h h₀ ⟨hn, hx, get_none_of_size (Nat.le_refl _), fun _ hp => (nomatch hp), by simp⟩) (fun f s' q => q) fun _ _ q => q.elim
end

end
noncomputable section
set_option maxRecDepth 100000
noncomputable section
theorem no_cell {l : List (Str × NameKind)} (h : (l.all fun x => match x.2 with | .cell => false | _ => true) = true) : ∀ x ∈ l, x.2 ≠ .cell := fun x hx e => by
  have := List.all_eq_true.mp h x hx
  rw [e] at this; cases this
noncomputable def fd_translate : FuncData := fdP 6 3 (.str "cpy313.fnmatch" 475) (.ref 54)
theorem fn_translate {w : World} {h : Heap} (B : Base w h) : ∃ o, h.get? 55 = some o ∧ o.data = .func fd_translate := ⟨_, B.k 55 _ rfl, by unfold fd_translate; rw [← fdOf_eq]; rfl⟩
theorem cd_translate {w : World} {h : Heap} (B : Base w h) : h.CodeRec fd_translate.code fd_translate.qualname := ⟨54, _, _, _, rfl, B.k 54 _ rfl, rfl, by unfold fd_translate; rw [← fdOf_eq]; rfl⟩
theorem cl_translate : ∀ x ∈ fd_translate.scope.names, x.2 ≠ .cell := no_cell (by decide +kernel)
theorem gl_translate (P : Params) : mgK P "_translate" = some (.ref 55) := by kernel_rfl
theorem gn_translate (P : Params) : mgK P ("_translate" : Str) = some (.ref 55) := gl_translate P
noncomputable def fd_b1 : FuncData := fdP 9 3 (.str "cpy313.stringprep" 496) (.ref 72)
theorem fn_b1 {w : World} {h : Heap} (B : Base w h) : ∃ o, h.get? 73 = some o ∧ o.data = .func fd_b1 := ⟨_, B.k 73 _ rfl, by unfold fd_b1; rw [← fdOf_eq]; rfl⟩
theorem cd_b1 {w : World} {h : Heap} (B : Base w h) : h.CodeRec fd_b1.code fd_b1.qualname := ⟨72, _, _, _, rfl, B.k 72 _ rfl, rfl, by unfold fd_b1; rw [← fdOf_eq]; rfl⟩
theorem cl_b1 : ∀ x ∈ fd_b1.scope.names, x.2 ≠ .cell := no_cell (by decide +kernel)
theorem gl_b1 (P : Params) : mgK P "in_table_b1" = some (.ref 73) := by kernel_rfl
theorem gn_b1 (P : Params) : mgK P ("in_table_b1" : Str) = some (.ref 73) := gl_b1 P
noncomputable def fd_c11 : FuncData := fdP 10 3 (.str "cpy313.stringprep" 496) (.ref 79)
theorem fn_c11 {w : World} {h : Heap} (B : Base w h) : ∃ o, h.get? 80 = some o ∧ o.data = .func fd_c11 := ⟨_, B.k 80 _ rfl, by unfold fd_c11; rw [← fdOf_eq]; rfl⟩
theorem cd_c11 {w : World} {h : Heap} (B : Base w h) : h.CodeRec fd_c11.code fd_c11.qualname := ⟨79, _, _, _, rfl, B.k 79 _ rfl, rfl, by unfold fd_c11; rw [← fdOf_eq]; rfl⟩
theorem cl_c11 : ∀ x ∈ fd_c11.scope.names, x.2 ≠ .cell := no_cell (by decide +kernel)
theorem gl_c11 (P : Params) : mgK P "in_table_c11" = some (.ref 80) := by kernel_rfl
theorem gn_c11 (P : Params) : mgK P ("in_table_c11" : Str) = some (.ref 80) := gl_c11 P
noncomputable def fd_c4 : FuncData := fdP 11 3 (.str "cpy313.stringprep" 496) (.ref 86)
theorem fn_c4 {w : World} {h : Heap} (B : Base w h) : ∃ o, h.get? 87 = some o ∧ o.data = .func fd_c4 := ⟨_, B.k 87 _ rfl, by unfold fd_c4; rw [← fdOf_eq]; rfl⟩
theorem cd_c4 {w : World} {h : Heap} (B : Base w h) : h.CodeRec fd_c4.code fd_c4.qualname := ⟨86, _, _, _, rfl, B.k 86 _ rfl, rfl, by unfold fd_c4; rw [← fdOf_eq]; rfl⟩
theorem cl_c4 : ∀ x ∈ fd_c4.scope.names, x.2 ≠ .cell := no_cell (by decide +kernel)
theorem gl_c4 (P : Params) : mgK P "in_table_c4" = some (.ref 87) := by kernel_rfl
theorem gn_c4 (P : Params) : mgK P ("in_table_c4" : Str) = some (.ref 87) := gl_c4 P
noncomputable def fd_c6 : FuncData := fdP 13 3 (.str "cpy313.stringprep" 496) (.ref 98)
theorem fn_c6 {w : World} {h : Heap} (B : Base w h) : ∃ o, h.get? 99 = some o ∧ o.data = .func fd_c6 := ⟨_, B.k 99 _ rfl, by unfold fd_c6; rw [← fdOf_eq]; rfl⟩
theorem cd_c6 {w : World} {h : Heap} (B : Base w h) : h.CodeRec fd_c6.code fd_c6.qualname := ⟨98, _, _, _, rfl, B.k 98 _ rfl, rfl, by unfold fd_c6; rw [← fdOf_eq]; rfl⟩
theorem cl_c6 : ∀ x ∈ fd_c6.scope.names, x.2 ≠ .cell := no_cell (by decide +kernel)
theorem gl_c6 (P : Params) : mgK P "in_table_c6" = some (.ref 99) := by kernel_rfl
theorem gn_c6 (P : Params) : mgK P ("in_table_c6" : Str) = some (.ref 99) := gl_c6 P
noncomputable def fd_c7 : FuncData := fdP 15 3 (.str "cpy313.stringprep" 496) (.ref 110)
theorem fn_c7 {w : World} {h : Heap} (B : Base w h) : ∃ o, h.get? 111 = some o ∧ o.data = .func fd_c7 := ⟨_, B.k 111 _ rfl, by unfold fd_c7; rw [← fdOf_eq]; rfl⟩
theorem cd_c7 {w : World} {h : Heap} (B : Base w h) : h.CodeRec fd_c7.code fd_c7.qualname := ⟨110, _, _, _, rfl, B.k 110 _ rfl, rfl, by unfold fd_c7; rw [← fdOf_eq]; rfl⟩
theorem cl_c7 : ∀ x ∈ fd_c7.scope.names, x.2 ≠ .cell := no_cell (by decide +kernel)
theorem gl_c7 (P : Params) : mgK P "in_table_c7" = some (.ref 111) := by kernel_rfl
theorem gn_c7 (P : Params) : mgK P ("in_table_c7" : Str) = some (.ref 111) := gl_c7 P
noncomputable def fd_c8 : FuncData := fdP 17 3 (.str "cpy313.stringprep" 496) (.ref 134)
theorem fn_c8 {w : World} {h : Heap} (B : Base w h) : ∃ o, h.get? 135 = some o ∧ o.data = .func fd_c8 := ⟨_, B.k 135 _ rfl, by unfold fd_c8; rw [← fdOf_eq]; rfl⟩
theorem cd_c8 {w : World} {h : Heap} (B : Base w h) : h.CodeRec fd_c8.code fd_c8.qualname := ⟨134, _, _, _, rfl, B.k 134 _ rfl, rfl, by unfold fd_c8; rw [← fdOf_eq]; rfl⟩
theorem cl_c8 : ∀ x ∈ fd_c8.scope.names, x.2 ≠ .cell := no_cell (by decide +kernel)
theorem gl_c8 (P : Params) : mgK P "in_table_c8" = some (.ref 135) := by kernel_rfl
theorem gn_c8 (P : Params) : mgK P ("in_table_c8" : Str) = some (.ref 135) := gl_c8 P
noncomputable def fd_c9 : FuncData := fdP 19 3 (.str "cpy313.stringprep" 496) (.ref 152)
theorem fn_c9 {w : World} {h : Heap} (B : Base w h) : ∃ o, h.get? 153 = some o ∧ o.data = .func fd_c9 := ⟨_, B.k 153 _ rfl, by unfold fd_c9; rw [← fdOf_eq]; rfl⟩
theorem cd_c9 {w : World} {h : Heap} (B : Base w h) : h.CodeRec fd_c9.code fd_c9.qualname := ⟨152, _, _, _, rfl, B.k 152 _ rfl, rfl, by unfold fd_c9; rw [← fdOf_eq]; rfl⟩
theorem cl_c9 : ∀ x ∈ fd_c9.scope.names, x.2 ≠ .cell := no_cell (by decide +kernel)
theorem gl_c9 (P : Params) : mgK P "in_table_c9" = some (.ref 153) := by kernel_rfl
theorem gn_c9 (P : Params) : mgK P ("in_table_c9" : Str) = some (.ref 153) := gl_c9 P
noncomputable def fd_runs : FuncData := fdP 21 3 (.str "law_ij0078_01" 891) (.ref 157)
theorem fn_runs {w : World} {h : Heap} (B : Base w h) : ∃ o, h.get? 158 = some o ∧ o.data = .func fd_runs := ⟨_, B.k 158 _ rfl, by unfold fd_runs; rw [← fdOf_eq]; rfl⟩
theorem cd_runs {w : World} {h : Heap} (B : Base w h) : h.CodeRec fd_runs.code fd_runs.qualname := ⟨157, _, _, _, rfl, B.k 157 _ rfl, rfl, by unfold fd_runs; rw [← fdOf_eq]; rfl⟩
theorem cl_runs : ∀ x ∈ fd_runs.scope.names, x.2 ≠ .cell := no_cell (by decide +kernel)
theorem gl_runs (P : Params) : mgK P "_law_runs" = some (.ref 158) := by kernel_rfl
theorem gn_runs (P : Params) : mgK P ("_law_runs" : Str) = some (.ref 158) := gl_runs P
noncomputable def fd_asked : FuncData := fdP 22 3 (.str "law_ij0078_01" 891) (.ref 164)
theorem fn_asked {w : World} {h : Heap} (B : Base w h) : ∃ o, h.get? 165 = some o ∧ o.data = .func fd_asked := ⟨_, B.k 165 _ rfl, by unfold fd_asked; rw [← fdOf_eq]; rfl⟩
theorem cd_asked {w : World} {h : Heap} (B : Base w h) : h.CodeRec fd_asked.code fd_asked.qualname := ⟨164, _, _, _, rfl, B.k 164 _ rfl, rfl, by unfold fd_asked; rw [← fdOf_eq]; rfl⟩
theorem cl_asked : ∀ x ∈ fd_asked.scope.names, x.2 ≠ .cell := no_cell (by decide +kernel)
theorem gl_asked (P : Params) : mgK P "_law_asked" = some (.ref 165) := by kernel_rfl
theorem gn_asked (P : Params) : mgK P ("_law_asked" : Str) = some (.ref 165) := gl_asked P
noncomputable def fd_written : FuncData := fdP 23 3 (.str "law_ij0078_01" 891) (.ref 171)
theorem fn_written {w : World} {h : Heap} (B : Base w h) : ∃ o, h.get? 172 = some o ∧ o.data = .func fd_written := ⟨_, B.k 172 _ rfl, by unfold fd_written; rw [← fdOf_eq]; rfl⟩
theorem cd_written {w : World} {h : Heap} (B : Base w h) : h.CodeRec fd_written.code fd_written.qualname := ⟨171, _, _, _, rfl, B.k 171 _ rfl, rfl, by unfold fd_written; rw [← fdOf_eq]; rfl⟩
theorem cl_written : ∀ x ∈ fd_written.scope.names, x.2 ≠ .cell := no_cell (by decide +kernel)
theorem gl_written (P : Params) : mgK P "_law_written" = some (.ref 172) := by kernel_rfl
theorem gn_written (P : Params) : mgK P ("_law_written" : Str) = some (.ref 172) := gl_written P
noncomputable def fd_pattern : FuncData := fdP 24 3 (.str "law_ij0078_01" 891) (.ref 178)
theorem fn_pattern {w : World} {h : Heap} (B : Base w h) : ∃ o, h.get? 179 = some o ∧ o.data = .func fd_pattern := ⟨_, B.k 179 _ rfl, by unfold fd_pattern; rw [← fdOf_eq]; rfl⟩
theorem cd_pattern {w : World} {h : Heap} (B : Base w h) : h.CodeRec fd_pattern.code fd_pattern.qualname := ⟨178, _, _, _, rfl, B.k 178 _ rfl, rfl, by unfold fd_pattern; rw [← fdOf_eq]; rfl⟩
theorem cl_pattern : ∀ x ∈ fd_pattern.scope.names, x.2 ≠ .cell := no_cell (by decide +kernel)
theorem gl_pattern (P : Params) : mgK P "_law_pattern" = some (.ref 179) := by kernel_rfl
theorem gn_pattern (P : Params) : mgK P ("_law_pattern" : Str) = some (.ref 179) := gl_pattern P
noncomputable def fd_sign : FuncData := fdP 25 3 (.str "law_ij0078_01" 891) (.ref 185)
theorem fn_sign {w : World} {h : Heap} (B : Base w h) : ∃ o, h.get? 186 = some o ∧ o.data = .func fd_sign := ⟨_, B.k 186 _ rfl, by unfold fd_sign; rw [← fdOf_eq]; rfl⟩
theorem cd_sign {w : World} {h : Heap} (B : Base w h) : h.CodeRec fd_sign.code fd_sign.qualname := ⟨185, _, _, _, rfl, B.k 185 _ rfl, rfl, by unfold fd_sign; rw [← fdOf_eq]; rfl⟩
theorem cl_sign : ∀ x ∈ fd_sign.scope.names, x.2 ≠ .cell := no_cell (by decide +kernel)
theorem gl_sign (P : Params) : mgK P "_law_sign" = some (.ref 186) := by kernel_rfl
theorem gn_sign (P : Params) : mgK P ("_law_sign" : Str) = some (.ref 186) := gl_sign P
noncomputable def fd_told : FuncData := fdP 26 3 (.str "law_ij0078_01" 891) (.ref 190)
theorem fn_told {w : World} {h : Heap} (B : Base w h) : ∃ o, h.get? 191 = some o ∧ o.data = .func fd_told := ⟨_, B.k 191 _ rfl, by unfold fd_told; rw [← fdOf_eq]; rfl⟩
theorem cd_told {w : World} {h : Heap} (B : Base w h) : h.CodeRec fd_told.code fd_told.qualname := ⟨190, _, _, _, rfl, B.k 190 _ rfl, rfl, by unfold fd_told; rw [← fdOf_eq]; rfl⟩
theorem gl_told (P : Params) : mgK P "_law_told" = some (.ref 191) := by kernel_rfl
theorem gn_told (P : Params) : mgK P ("_law_told" : Str) = some (.ref 191) := gl_told P
noncomputable def fd_takes : FuncData := fdP 27 3 (.str "law_ij0078_01" 891) (.ref 197)
theorem fn_takes {w : World} {h : Heap} (B : Base w h) : ∃ o, h.get? 198 = some o ∧ o.data = .func fd_takes := ⟨_, B.k 198 _ rfl, by unfold fd_takes; rw [← fdOf_eq]; rfl⟩
theorem cd_takes {w : World} {h : Heap} (B : Base w h) : h.CodeRec fd_takes.code fd_takes.qualname := ⟨197, _, _, _, rfl, B.k 197 _ rfl, rfl, by unfold fd_takes; rw [← fdOf_eq]; rfl⟩
theorem cl_takes : ∀ x ∈ fd_takes.scope.names, x.2 ≠ .cell := no_cell (by decide +kernel)
theorem gl_takes (P : Params) : mgK P "_law_takes" = some (.ref 198) := by kernel_rfl
theorem gn_takes (P : Params) : mgK P ("_law_takes" : Str) = some (.ref 198) := gl_takes P
noncomputable def fd_taken : FuncData := fdP 28 3 (.str "law_ij0078_01" 891) (.ref 204)
theorem fn_taken {w : World} {h : Heap} (B : Base w h) : ∃ o, h.get? 205 = some o ∧ o.data = .func fd_taken := ⟨_, B.k 205 _ rfl, by unfold fd_taken; rw [← fdOf_eq]; rfl⟩
theorem cd_taken {w : World} {h : Heap} (B : Base w h) : h.CodeRec fd_taken.code fd_taken.qualname := ⟨204, _, _, _, rfl, B.k 204 _ rfl, rfl, by unfold fd_taken; rw [← fdOf_eq]; rfl⟩
theorem cl_taken : ∀ x ∈ fd_taken.scope.names, x.2 ≠ .cell := no_cell (by decide +kernel)
theorem gl_taken (P : Params) : mgK P "_law_taken" = some (.ref 205) := by kernel_rfl
theorem gn_taken (P : Params) : mgK P ("_law_taken" : Str) = some (.ref 205) := gl_taken P
noncomputable def fd_law : FuncData := fdP 29 3 (.str "law_ij0078_01" 891) (.ref 209)
theorem fn_law {w : World} {h : Heap} (B : Base w h) : ∃ o, h.get? 210 = some o ∧ o.data = .func fd_law := ⟨_, B.k 210 _ rfl, by unfold fd_law; rw [← fdOf_eq]; rfl⟩
theorem cd_law {w : World} {h : Heap} (B : Base w h) : h.CodeRec fd_law.code fd_law.qualname := ⟨209, _, _, _, rfl, B.k 209 _ rfl, rfl, by unfold fd_law; rw [← fdOf_eq]; rfl⟩
theorem gl_law (P : Params) : mgK P "law" = some (.ref 210) := by kernel_rfl
theorem gn_law (P : Params) : mgK P ("law" : Str) = some (.ref 210) := gl_law P
theorem gb_len (P : Params) : mgK P "len" = none := by kernel_rfl
theorem gb_range (P : Params) : mgK P "range" = none := by kernel_rfl
theorem gb_chr (P : Params) : mgK P "chr" = none := by kernel_rfl
theorem gb_ord (P : Params) : mgK P "ord" = none := by kernel_rfl
theorem gb_min (P : Params) : mgK P "min" = none := by kernel_rfl
theorem gb_int (P : Params) : mgK P "int" = none := by kernel_rfl
theorem gb_list (P : Params) : mgK P "list" = none := by kernel_rfl
theorem gb_enumerate (P : Params) : mgK P "enumerate" = none := by kernel_rfl
theorem gb_set (P : Params) : mgK P "set" = none := by kernel_rfl
theorem gb_isinstance (P : Params) : mgK P "isinstance" = none := by kernel_rfl
theorem gb_str (P : Params) : mgK P "str" = none := by kernel_rfl
theorem gb_ValueError (P : Params) : mgK P "ValueError" = none := by kernel_rfl
theorem gs_b1_set (P : Params) : mgK P "b1_set" = some (.ref 63) := by kernel_rfl
theorem gs_c6_set (P : Params) : mgK P "c6_set" = some (.ref 89) := by kernel_rfl
theorem gs_c7_set (P : Params) : mgK P "c7_set" = some (.ref 101) := by kernel_rfl
theorem gs_c8_set (P : Params) : mgK P "c8_set" = some (.ref 125) := by kernel_rfl
theorem gs_c9_set (P : Params) : mgK P "c9_set" = some (.ref 143) := by kernel_rfl
theorem gs_twin_re_1 (P : Params) : mgK P "_twin_re_1" = some (.ref 36) := by kernel_rfl
end
end
noncomputable section
/-! The plain side: tables, texts, items. -/

noncomputable def planesN : List (Nat × Nat) := (List.range 17).map fun p => (65536 * p + 65534, 65536 * p + 65535)
noncomputable def runsN : Nat → List (Nat × Nat)
  | 0 => [(173, 173), (847, 847), (6150, 6150), (6155, 6157), (8203, 8205), (8288, 8288), (65024, 65039), (65279, 65279)]
  | 1 => [(32, 32)]
  | 2 => (64976, 65007) :: planesN
  | 3 => [(65529, 65533)]
  | 4 => [(12272, 12283)]
  | 5 => [(832, 833), (8206, 8207), (8234, 8238), (8298, 8303)]
  | _ => [(917505, 917505), (917536, 917631)]

noncomputable def inRun (c : Nat) (r : Nat × Nat) : Bool := decide (r.1 ≤ c) && decide (c ≤ r.2)
noncomputable def askedN (t c : Nat) : Bool := (runsN t).any (inRun c)

/-- a run of ints by its start and its length -/
noncomputable def inSpan (k : Int) (r : Int × Nat) : Bool := decide (r.1 ≤ k) && decide (k < r.1 + r.2)
theorem contains_spans {l : List Int} {rs : List (Int × Nat)} (h1 : (l.all fun k => rs.any (inSpan k)) = true)
    (h2 : (rs.all fun r => (List.range r.2).all fun (j : Nat) => l.contains (r.1 + (j : Int))) = true) (k : Int) : l.contains k = rs.any (inSpan k) := by
  rw [Bool.eq_iff_iff]
  constructor
  · intro h
    exact List.all_eq_true.mp h1 k (List.contains_iff_mem.mp h)
  · intro h
    obtain ⟨r, hr, hk⟩ := List.any_eq_true.mp h
    simp only [inSpan, Bool.and_eq_true, decide_eq_true_eq] at hk
    have := List.all_eq_true.mp (List.all_eq_true.mp h2 r hr) (k - r.1).toNat (List.mem_range.mpr (by omega))
    rwa [show r.1 + ((k - r.1).toNat : Int) = k by omega] at this

noncomputable def spansOf (rs : List (Nat × Nat)) : List (Int × Nat) := rs.map fun r => ((r.1 : Int), r.2 - r.1 + 1)
theorem spans_runs {rs : List (Nat × Nat)} (h : (rs.all fun r => decide (r.1 ≤ r.2)) = true) (c : Nat) : (spansOf rs).any (inSpan (c : Int)) = rs.any (inRun c) := by
  induction rs with
  | nil => rfl
  | cons r rs ih =>
    simp only [List.all_cons, Bool.and_eq_true, decide_eq_true_eq] at h
    have : spansOf (r :: rs) = ((r.1 : Int), r.2 - r.1 + 1) :: spansOf rs := rfl
    rw [this, List.any_cons, List.any_cons, ih h.2]
    congr 1
    simp only [inSpan, inRun]
    congr 1
    · rw [decide_eq_decide]; omega
    · rw [decide_eq_decide]; omega

noncomputable def c4N (c : Nat) : Bool := if (c : Int) < 64976 then false else if (c : Int) < 65008 then true else ((c &&& 65535) == 65534 || (c &&& 65535) == 65535)
theorem c4_asked {c : Nat} (hc : c ≤ 1114111) : c4N c = askedN 2 c := by
  have hand : c &&& 65535 = c % 65536 := by
    have := Nat.and_two_pow_sub_one_eq_mod c 16
    simpa using this
  unfold c4N askedN
  rw [hand]
  have hp : (runsN 2).any (inRun c) = (inRun c (64976, 65007) || (planesN.any (inRun c))) := rfl
  have hq : planesN.any (inRun c) = (decide (c % 65536 = 65534) || decide (c % 65536 = 65535)) := by
    rw [Bool.eq_iff_iff]
    unfold planesN
    simp only [List.any_map, List.any_eq_true, List.mem_range, Function.comp, inRun, Bool.and_eq_true, decide_eq_true_eq, Bool.or_eq_true]
    constructor
    · rintro ⟨p, hp, h1, h2⟩; omega
    · intro h; exact ⟨c / 65536, by omega, by omega, by omega⟩
  rw [hp, hq]
  simp only [inRun]
  by_cases h1 : (c : Int) < 64976
  · rw [if_pos h1]
    have a : ¬ 64976 ≤ c := by omega
    have b : ¬ c % 65536 = 65534 := by omega
    have d : ¬ c % 65536 = 65535 := by omega
    simp [a, b, d]
  · rw [if_neg h1]
    by_cases h2 : (c : Int) < 65008
    · rw [if_pos h2]
      have a : 64976 ≤ c := by omega
      have b : c ≤ 65007 := by omega
      simp [a, b]
    · rw [if_neg h2]
      have b : ¬ c ≤ 65007 := by omega
      have e1 : (c % 65536 == 65534) = decide (c % 65536 = 65534) := by simp [BEq.beq]
      have e2 : (c % 65536 == 65535) = decide (c % 65536 = 65535) := by simp [BEq.beq]
      rw [e1, e2]
      simp [b]
end
section
local macro_rules | `(tactic| omega) => `(tactic| lia)
noncomputable section
set_option maxRecDepth 100000
set_option maxHeartbeats 1000000
theorem flush_1 : True := by first | walk1 | trivial
noncomputable section
section
variable {w : World} {A : Around} {s : Shared} {E : Value → Shared → Prop} {imm : Heap} {L : Addr} {m : Str → Option Value} {mu : List (Addr × Obj)}
theorem newTup {vs : List Value} {Q : Value → Shared → Prop} (S : St imm L m mu s.heap) (hsz : vs.length ≤ sizeLine)
    (h : ∀ a h', St imm L m ((a, tupO vs 0) :: mu) h' → Ext s.heap h' → L < a → Q (.ref a) { s with heap := h' }) : wpAny (MM w) A (newTuple vs) Q E s := by
  unfold newTuple
  exact wpAny_newObj_type (h _ _ (S.alloc rfl) (fun _ _ e => Heap.get?_push_of_some _ e) S.ns.lt) (by simpa [sizeOk] using hsz)
theorem newLst {vs : List Value} {Q : Value → Shared → Prop} (S : St imm L m mu s.heap) (hsz : vs.length ≤ sizeLine)
    (h : ∀ a h', St imm L m ((a, lstO vs 0) :: mu) h' → Ext s.heap h' → L < a → Q (.ref a) { s with heap := h' }) : wpAny (MM w) A (newList vs) Q E s := by
  unfold newList
  exact wpAny_newObj_type (h _ _ (S.alloc rfl) (fun _ _ e => Heap.get?_push_of_some _ e) S.ns.lt) (by simpa [sizeOk] using hsz)
theorem tup_of {h : Heap} {a : Addr} {vs : List Value} {n : Nat} (g : h.get? a = some (tupO vs n)) : IsTup h a vs.toArray := ⟨_, g, rfl, n, rfl⟩
theorem lst_of {h : Heap} {a : Addr} {vs : List Value} {n : Nat} (g : h.get? a = some (lstO vs n)) : h.IsList a vs.toArray := ⟨_, g, rfl, n, rfl⟩
end
noncomputable def Keep (imm h : Heap) (P : Prop) : Prop := Ext imm h ∧ P
section
variable {w : World} {A : Around} {s : Shared} {E : Value → Shared → Prop} {imm : Heap} {L : Addr} {m : Str → Option Value} {mu : List (Addr × Obj)}
theorem cw_def {pos : Pos} {a : Addr} {fd : FuncData} {env : Env} {e : Expr} {rest : List Expr} {Q : Value → Shared → Prop} (hf : ∃ o, imm.get? a = some o ∧ o.data = .func fd)
    (h : wpAny (MM w) A (spliced (backTo pos (starEach (e :: rest) env))) (fun vs s₁ => Keep imm s₁.heap (wpAny (MM w) A (call (.ref a) vs) Q E s₁)) E s)
    (he : starEach (e :: rest) env = (false, eval e env) :: starEach rest env := by rfl) :
    wpAny (MM w) A (callWith pos (.ref a) [] (backTo pos (starEach (e :: rest) env)) []) Q E s := by
  obtain ⟨o, ho, hd⟩ := hf
  exact callWith_def hd (wpAny_mono h (fun vs s₁ h₁ => ⟨h₁.1 _ _ ho, h₁.2⟩) fun _ _ e => e) he
theorem keep_of {P : Prop} {h : Heap} (S : St imm L m mu h) (p : P) : Keep imm h P := ⟨S.keep, p⟩
end
end
theorem flush_2 : True := by first | walk1 | trivial
noncomputable section
/-! Loops over iterators. -/

structure Cur (w : World) (A : Around) (target : Expr) (I : Addr) (wr : List Addr) (n : Nat) (P : Nat → Value → Heap → Prop) (C : Nat → Heap → Prop) (imm : Heap) : Prop where
  live : ∀ i h, C i h → ∀ b ∈ wr, ∃ o, h.get? b = some o
  frame : ∀ i h h', C i h → Ext imm h → Ext imm h' → (∀ b ∈ wr, ∀ o, h.get? b = some o → h'.get? b = some o) → C i h'
  item : ∀ i (s : Shared) (Q : Value → Shared → Prop) (E : Value → Shared → Prop), i < n → C i s.heap →
    (∀ v h' tk, P i v h' → C (i + 1) h' → (∀ b o, b ∉ wr → s.heap.get? b = some o → h'.get? b = some o) → Q v { s with heap := h', toks := tk }) →
    wpAny (MM w) A (pyNext (.ref I)) (fun r s₁ => match r with
      | none => False
      | some v => wpAny (MM w) A (letOwnedTupleGo target (.ref I) v) (fun _ s₂ => Q v s₂) E s₁) E s
  done : ∀ (s : Shared) (Q : Option Value → Shared → Prop) (E : Value → Shared → Prop), C n s.heap →
    (∀ h' tk, (∀ b o, b ∉ wr → s.heap.get? b = some o → h'.get? b = some o) → Q none { s with heap := h', toks := tk }) → wpAny (MM w) A (pyNext (.ref I)) Q E s

section
variable {w : World} {A : Around} {I : Addr} {fp wr : List Addr} {n : Nat} {imm : Heap}

theorem frame_of {C : Nat → Heap → Prop} (hfp : ∀ b ∈ fp, b ∈ wr ∨ ∃ o, imm.get? b = some o) (frame : ∀ i h h', C i h → (∀ b ∈ fp, ∀ o, h.get? b = some o → h'.get? b = some o) → C i h')
    (i : Nat) (h h' : Heap) (c : C i h) (x : Ext imm h) (x' : Ext imm h') (k : ∀ b ∈ wr, ∀ o, h.get? b = some o → h'.get? b = some o) : C i h' := by
  refine frame i h h' c fun b hb o ho => ?_
  rcases hfp b hb with hw | ⟨o', e⟩
  · exact k b hw o ho
  · have := x b o' e
    rw [ho] at this; cases this
    exact x' b o e

theorem Cur.ofWalks {P : Nat → Value → Prop} {C : Nat → Heap → Prop} (W : Walks PySem.Challenge.pw_ij0078_01 w A I fp wr n P C) (hfp : ∀ b ∈ fp, b ∈ wr ∨ ∃ o, imm.get? b = some o)
    (live : ∀ i h, C i h → ∀ b ∈ wr, ∃ o, h.get? b = some o) (y : Str) (pos : Pos) : Cur w A (.Name y pos) I wr n (fun i v _ => P i v) C imm where
  live := live
  frame := frame_of hfp W.frame
  item := fun i s Q E hi c hQ => W.item i s _ E hi c fun v h' tk p c' k => by
    show wpAny (MM w) A (letOwnedTupleGo (.Name y pos) (.ref I) v) (fun _ s₂ => Q v s₂) E _
    exact wpAny_of_eq (a := ()) rfl (hQ v h' tk p c' k)
  done := fun s Q E c hQ => W.done s Q E c hQ

theorem Cur.ofWalksT {Pt : Nat → Array Value → Prop} {C : Nat → Heap → Prop} {Mid : Nat → Addr → Heap → Prop} (W : WalksT PySem.Challenge.pw_ij0078_01 w A I fp wr n Pt C Mid) (hfp : ∀ b ∈ fp, b ∈ wr ∨ ∃ o, imm.get? b = some o)
    (live : ∀ i h, C i h → ∀ b ∈ wr, ∃ o, h.get? b = some o) (es : List Expr) (z : Nat) (pos : Pos) :
    Cur w A (.Tuple es z pos) I wr n (fun i v h => ∃ T vals, v = .ref T ∧ h.IsTuple T vals ∧ Pt i vals) C imm where
  live := live
  frame := frame_of hfp W.frame
  item := fun i s Q E hi c hQ => W.item i s _ E hi c fun T vals h' tk p _ hT m k => by
    show wpAny (MM w) A (letOwnedTupleGo (.Tuple es z pos) (.ref I) (.ref T)) (fun _ s₂ => Q (.ref T) s₂) E _
    refine W.go es z pos i T _ _ E m fun h'' c' k' => ?_
    have ap := W.apart i T h' m
    obtain ⟨o, ho, r⟩ := hT
    exact hQ (.ref T) h'' tk ⟨T, vals, rfl, ⟨o, k' T o ap ho, r⟩, p⟩ c' fun b o hb e => k' b o hb (k b o hb e)
  done := fun s Q E c hQ => W.done s Q E c hQ

theorem Cur.list (hh : A.handled = none) {ax : Addr} (hne : ax ≠ I) {vs : List Value} {k : Nat} (hg : imm.get? ax = some (lstO vs k)) (y : Str) (pos : Pos) :
    Cur w A (.Name y pos) I [I] vs.length (fun i v _ => vs[i]? = some v) (fun i h => h.IsListIter I ax i ∧ h.IsList ax vs.toArray) imm := by
  have W := Cur.ofWalks (imm := imm) (w := w) (Walks.list (prog := PySem.Challenge.pw_ij0078_01) (w := w) hh I ax hne vs.toArray) (fun b hb => by
    rcases List.mem_cons.mp hb with rfl | hb
    · exact .inl (by simp)
    · rw [List.mem_singleton.mp hb]; exact .inr ⟨_, hg⟩) (fun i h c b hb => by
    rw [List.mem_singleton.mp hb]; obtain ⟨o, ho, _⟩ := c.1; exact ⟨o, ho⟩) y pos
  simpa using W

theorem Cur.listT (hh : A.handled = none) {ax : Addr} (hne : ax ≠ I) {vs : List Value} {k : Nat} (hg : imm.get? ax = some (lstO vs k)) (hr : ∀ v ∈ vs, ∃ T, v = .ref T) (es : List Expr) (z : Nat) (pos : Pos) :
    Cur w A (.Tuple es z pos) I [I] vs.length (fun i v _ => vs[i]? = some v) (fun i h => h.IsListIter I ax i ∧ h.IsList ax vs.toArray) imm where
  live := fun i h c b hb => by rw [List.mem_singleton.mp hb]; obtain ⟨o, ho, _⟩ := c.1; exact ⟨o, ho⟩
  frame := (Cur.list (w := w) hh hne hg default default).frame
  item := fun i s Q E hi c hQ => by
    have hx : vs.toArray[i]? = some vs[i] := by simp [hi]
    refine wpAny_pyNext_list_item c.1 c.2 hx fun h' hit' hs' => ?_
    obtain ⟨T, hT⟩ := hr vs[i] (List.getElem_mem hi)
    show wpAny (MM w) A (letOwnedTupleGo (.Tuple es z pos) (.ref I) vs[i]) (fun _ s₂ => Q vs[i] s₂) E _
    have hq := hQ vs[i] h' s.toks (by simp [hi]) ⟨hit', c.2.extBut hs'.extBut hne⟩ fun b o hb e => hs'.extBut b o (fun h => hb (by simp [h])) e
    rw [hT] at hq ⊢
    exact wpAny_letOwnedTupleGo_listiter hit' hq
  done := fun s Q E c hQ => wpAny_pyNext_list_end hh c.1 c.2 (by simp) fun h' he' => hQ h' s.toks fun b o hb e => he' b o (fun h => hb (by simp [h])) e

theorem Cur.range (hh : A.handled = none) (a c : Int) (n : Nat) (y : Str) (pos : Pos) :
    Cur w A (.Name y pos) I [I] n (fun i v _ => ∃ t, v = .int (a + i * c) t) (fun i h => IsRangeIter h I (a + (i : Nat) * c) ((n : Int) - (i : Nat)) c) imm :=
  Cur.ofWalks (Walks.range hh I a c n) (fun b hb => .inl hb) (fun i h c b hb => by rw [List.mem_singleton.mp hb]; exact ⟨_, c⟩) y pos

theorem Cur.enumList (hh : A.handled = none) {e it l : Addr} (hei : e ≠ it) (hle : l ≠ e) (hli : l ≠ it) {vs : List Value} {k : Nat} (hg : imm.get? l = some (lstO vs k)) (es : List Expr) (z : Nat) (pos : Pos) :
    Cur w A (.Tuple es z pos) e [e, it] vs.length (fun i v h => ∃ T vals, v = .ref T ∧ h.IsTuple T vals ∧ ∃ t x, vs.toArray[i]? = some x ∧ vals = #[.int i t, x])
      (fun i h => (∃ old, IsEnum h e it i old) ∧ h.IsListIter it l i ∧ h.IsList l vs.toArray) imm :=
  Cur.ofWalksT (WalksT.enumerate hh e it l hei hle hli vs.toArray) (fun b hb => by
    rcases List.mem_cons.mp hb with rfl | hb
    · exact .inl (by simp)
    · rcases List.mem_cons.mp hb with rfl | hb
      · exact .inl (by simp)
      · rw [List.mem_singleton.mp hb]; exact .inr ⟨_, hg⟩) (fun i h c b hb => by
    rcases List.mem_cons.mp hb with rfl | hb
    · obtain ⟨old, e⟩ := c.1; exact ⟨_, e⟩
    · rw [List.mem_singleton.mp hb]; obtain ⟨o, ho, _⟩ := c.2.1; exact ⟨o, ho⟩) es z pos
end

/-! The ledger and an iterator's objects -/
section
variable {imm h h' : Heap} {L : Addr} {m : Str → Option Value} {mu : List (Addr × Obj)} {wr : List Addr}

structure Off (imm : Heap) (L : Addr) (mu : List (Addr × Obj)) (wr : List Addr) : Prop where
  nodup : wr.Nodup
  off : ∀ b ∈ wr, imm.get? b = none ∧ b ≠ L ∧ b ∉ mu.map (·.1)

theorem St.extOff (S : St imm L m mu h) (O : Off imm L mu wr) (x : ∀ b o, b ∉ wr → h.get? b = some o → h'.get? b = some o) : St imm L m mu h' := by
  have hL : L ∉ wr := fun hm => (O.off L hm).2.1 rfl
  refine ⟨?_, fun b o e => x b o (fun hm => by rw [(O.off b hm).1] at e; cases e) (S.keep b o e), S.immL, fun p hp => ⟨x _ _ (fun hm => (O.off _ hm).2.2 (List.mem_map.mpr ⟨p, hp, rfl⟩)) (S.mem p hp).1, (S.mem p hp).2⟩, S.nodup⟩
  obtain ⟨o, es, ep, ho, r⟩ := S.ns
  exact ⟨o, es, ep, x _ _ hL ho, r⟩

theorem its_of : ∀ {wr : List Addr}, (∀ b ∈ wr, ∃ o, h.get? b = some o) → ∃ its : List (Addr × Obj), its.map (·.1) = wr ∧ ∀ p ∈ its, h.get? p.1 = some p.2
  | [], _ => ⟨[], rfl, fun _ hp => (nomatch hp)⟩
  | b :: r, hl => by
    obtain ⟨its, e, hi⟩ := its_of (wr := r) fun b hb => hl b (.tail _ hb)
    obtain ⟨o, ho⟩ := hl b (.head _)
    exact ⟨(b, o) :: its, by simp [e], fun p hp => by
      rcases List.mem_cons.mp hp with rfl | hp
      · exact ho
      · exact hi p hp⟩

theorem St.join (S : St imm L m mu h) (O : Off imm L mu wr) {its : List (Addr × Obj)} (e : its.map (·.1) = wr) (hi : ∀ p ∈ its, h.get? p.1 = some p.2) : St imm L m (mu ++ its) h := by
  refine ⟨S.ns, S.keep, S.immL, fun p hp => ?_, ?_⟩
  · rcases List.mem_append.mp hp with hp | hp
    · exact S.mem p hp
    · have := O.off p.1 (e ▸ List.mem_map.mpr ⟨p, hp, rfl⟩)
      exact ⟨hi p hp, this.2.1, this.1⟩
  · rw [List.map_append, e, List.nodup_append]
    exact ⟨S.nodup, O.nodup, fun a ha b hb q => (O.off b hb).2.2 (q ▸ ha)⟩

theorem St.part {its : List (Addr × Obj)} (S : St imm L m (mu ++ its) h) : St imm L m mu h ∧ Off imm L mu (its.map (·.1)) ∧ ∀ p ∈ its, h.get? p.1 = some p.2 := by
  have nd := S.nodup
  rw [List.map_append, List.nodup_append] at nd
  refine ⟨S.drop (List.sublist_append_left _ _), ⟨nd.2.1, fun b hb => ?_⟩, fun p hp => (S.mem p (List.mem_append_right _ hp)).1⟩
  obtain ⟨p, hp, rfl⟩ := List.mem_map.mp hb
  have := S.mem p (List.mem_append_right _ hp)
  exact ⟨this.2.2, this.2.1, fun hm => nd.2.2 _ hm _ hb rfl⟩
end

section
variable {w : World} {A : Around} {E : Value → Shared → Prop} {s : Shared} {env : Env}

noncomputable def LBack (s : Shared) (J : Nat → Heap → (Str → Option Value) → List (Addr × Obj) → Prop) (L : Addr) (imm₁ : Heap) (i : Nat) (its : List (Addr × Obj)) (s₃ : Shared) : Prop :=
  ∃ imm₂ m₂ mu₂ h₂ tk₂, s₃ = { s with heap := h₂, toks := tk₂ } ∧ Ext imm₁ imm₂ ∧ J i imm₂ m₂ mu₂ ∧ St imm₂ L m₂ (mu₂ ++ its) h₂
theorem loop_for {target : Expr} {body : List Stmt} {I : Addr} {wr : List Addr} {n : Nat} {P : Nat → Value → Heap → Prop} {C : Nat → Heap → Prop} {imm : Heap} {L : Addr} {m : Str → Option Value} {mu : List (Addr × Obj)}
    {Q : Flow → Shared → Prop} {E' : Value → Shared → Prop} (J : Nat → Heap → (Str → Option Value) → List (Addr × Obj) → Prop)
    (W : Cur w A target I wr n P C imm) (c0 : C 0 s.heap) (S : St imm L m mu s.heap) (O : Off imm L mu wr) (j0 : J 0 imm m mu)
    (turn : ∀ i v imm₁ m₁ mu₁ its h tk, i < n → P i v h → Ext imm imm₁ → J i imm₁ m₁ mu₁ → St imm₁ L m₁ (mu₁ ++ its) h →
      wpAny (MM w) A (assign target env v) (fun _ s₂ => wpAny (MM w) A (execs body env) (fun f s₃ => match f with
        | .next | .cont => LBack s J L imm₁ (i + 1) its s₃
        | .brk => Q .next s₃
        | .ret v => Q (.ret v) s₃) Bot s₂) Bot { s with heap := h, toks := tk })
    (hQ : ∀ imm₁ m₁ mu₁ h tk, Ext imm imm₁ → J n imm₁ m₁ mu₁ → St imm₁ L m₁ mu₁ h → Q .next { s with heap := h, toks := tk }) :
    codeAny (MM w) A (.forLoop target (.ref I) body [] env) (fun r s' => match r with | .ok f => Q f s' | .error e => E' e s') s := by
  refine codeAny_forLoop_any (fun k s' => ∃ i imm₁ m₁ mu₁ h tk, s' = { s with heap := h, toks := tk } ∧ i ≤ n ∧ k = n - i ∧ Ext imm imm₁ ∧ J i imm₁ m₁ mu₁ ∧ St imm₁ L m₁ mu₁ h ∧ Off imm₁ L mu₁ wr ∧ C i h)
    ?_ n ⟨0, imm, m, mu, s.heap, s.toks, rfl, Nat.zero_le _, rfl, Ext.refl _, j0, S, O, c0⟩
  rintro k s' ⟨i, imm₁, m₁, mu₁, h, tk, rfl, hi, rfl, x, j, S, O, c⟩
  rcases Nat.lt_or_ge i n with hlt | hge
  · refine wpAny_mono (W.item i _ (fun v s₂ => ∃ h' tk', s₂ = { s with heap := h', toks := tk' } ∧ P i v h' ∧ C (i + 1) h' ∧ (∀ b o, b ∉ wr → h.get? b = some o → h'.get? b = some o)) Bot hlt c
      fun v h' tk' p c' k => ⟨h', tk', rfl, p, c', k⟩) (fun r s₁ hr => ?_) fun _ _ f => f.elim
    cases r with
    | none => exact hr.elim
    | some v =>
      refine wpAny_mono hr (fun _ s₂ h₂ => ?_) fun _ _ f => f.elim
      obtain ⟨h', tk', rfl, p, c', k⟩ := h₂
      have S' := S.extOff O k
      obtain ⟨its, ei, gi⟩ := its_of (W.live _ _ c')
      refine wpAny_mono (turn i v imm₁ m₁ mu₁ its h' tk' hlt p x j (S'.join O ei gi)) (fun _ s₂ h₂ => wpAny_mono h₂ (fun f s₃ h₃ => ?_) fun _ _ f => f.elim) fun _ _ f => f.elim
      have back : (∃ imm₂ m₂ mu₂ h₂ tk₂, s₃ = { s with heap := h₂, toks := tk₂ } ∧ Ext imm₁ imm₂ ∧ J (i + 1) imm₂ m₂ mu₂ ∧ St imm₂ L m₂ (mu₂ ++ its) h₂) →
          ∃ k, k < n - i ∧ ∃ i imm₁ m₁ mu₁ h tk, s₃ = { s with heap := h, toks := tk } ∧ i ≤ n ∧ k = n - i ∧ Ext imm imm₁ ∧ J i imm₁ m₁ mu₁ ∧ St imm₁ L m₁ mu₁ h ∧ Off imm₁ L mu₁ wr ∧ C i h := by
        rintro ⟨imm₂, m₂, mu₂, h₂, tk₂, rfl, x₂, j₂, S₂⟩
        obtain ⟨S₃, O₃, g₃⟩ := S₂.part
        rw [ei] at O₃
        refine ⟨n - (i + 1), by omega, i + 1, imm₂, m₂, mu₂, h₂, tk₂, rfl, hlt, rfl, x.trans x₂, j₂, S₃, O₃, ?_⟩
        refine W.frame _ _ _ c' (x.trans S'.keep) ((x.trans x₂).trans S₃.keep) fun b hb o ho => ?_
        obtain ⟨p, hp, rfl⟩ := List.mem_map.mp (ei.symm ▸ hb : b ∈ its.map (·.1))
        rw [gi p hp] at ho; cases ho
        exact g₃ p hp
      cases f with
      | next => exact back h₃
      | cont => exact back h₃
      | brk => exact h₃
      | ret v => exact h₃
  · have : i = n := Nat.le_antisymm hi hge
    subst this
    refine W.done _ _ _ c fun h' tk' k => ?_
    exact wpAny_execs_nil (hQ imm₁ m₁ mu₁ h' tk' x j (S.extOff O k))
end
end
theorem flush_3 : True := by first | walk1 | trivial
noncomputable section
/-! Cells and list comprehensions -/
noncomputable abbrev cellO (v : Option Value) : Obj := { cls := .type "cell", data := .cell v }
noncomputable def cellLed : Nat → List (Str × NameKind) → List (Addr × Obj) → List (Addr × Obj)
  | _, [], mu => mu
  | n, (_, k) :: r, mu => if k == .cell then cellLed (n + 1) r ((n, cellO none) :: mu) else cellLed n r mu

section
variable {imm h h' : Heap} {L : Addr} {m : Str → Option Value} {mu : List (Addr × Obj)} {wr : List Addr}
theorem St.pushCells : ∀ (names : List (Str × NameKind)) {h : Heap} {mu : List (Addr × Obj)}, St imm L m mu h → St imm L m (cellLed h.objs.size names mu) (PySem.pushCells h names)
  | [], _, _, S => S
  | (x, k) :: r, h, mu, S => by
    unfold cellLed PySem.pushCells
    split
    · have := St.pushCells r (S.alloc (o := cellO none) rfl)
      rwa [Heap.size_push] at this
    · exact St.pushCells r S
end

section
variable {w : World} {A : Around} {s : Shared} {env : Env} {imm : Heap} {L : Addr} {m : Str → Option Value} {mu : List (Addr × Obj)}

theorem cellSet_at {c : Addr} {v₀ v : Option Value} {E : Value → Shared → Prop} {Q : Unit → Shared → Prop} (hc : s.heap.get? c = some (cellO v₀))
    (h : ∀ h', h'.get? c = some (cellO v) → Heap.SameBut c s.heap h' → Q () { s with heap := h' }) : wpAny (MM w) A (cellSet c v) Q E s := by
  unfold cellSet
  refine wpAny_bind (wpAny_load hc ?_)
  exact wpAny_update hc (h _ (Heap.get?_update_self _ hc rfl) (Heap.SameBut.update ..))

theorem st_cell {x : Str} {c : Addr} {v₀ : Option Value} {v : Value} {E : Value → Shared → Prop} {Q : Unit → Shared → Prop} (hk : env.scope.kind = .function) (hl : env.kindOf x = some .cell)
    (hc : env.cells.lookup x = some c) (hv : s.heap.get? c = some (cellO v₀))
    (h : ∀ h', h'.get? c = some (cellO (some v)) → Heap.SameBut c s.heap h' → Q () { s with heap := h' }) : wpAny (MM w) A (storeName env x v) Q E s := by
  unfold storeName
  simp only [hl, hk]
  exact wpAny_bind (wpAny_cellOf hc (cellSet_at hv h))
theorem nm_cell {x : Str} {pos : Pos} {c : Addr} {v : Value} {E : Value → Shared → Prop} {Q : Value → Shared → Prop} (hk : env.scope.kind = .function) (hl : env.kindOf x = some .cell)
    (hc : env.cells.lookup x = some c) (hv : s.heap.get? c = some (cellO (some v))) (h : Q v s) (hd : (x == ("__debug__" : Str)) = false := by decide) : wpAny (MM w) A (eval (.Name x pos) env) Q E s :=
  wpAny_Name (wpAny_loadName_cell hk hl hc ⟨_, hv, rfl⟩ h) hd
theorem nm_free {x : Str} {pos : Pos} {c : Addr} {v : Value} {E : Value → Shared → Prop} {Q : Value → Shared → Prop} (hk : env.scope.kind = .function) (hl : env.kindOf x = some .free)
    (hc : env.cells.lookup x = some c) (hv : s.heap.get? c = some (cellO (some v))) (h : Q v s) (hd : (x == ("__debug__" : Str)) = false := by decide) (hn : (x == ("__classdict__" : Str)) = false := by decide) :
    wpAny (MM w) A (eval (.Name x pos) env) Q E s :=
  wpAny_Name (wpAny_loadName_free hk hl hc ⟨_, hv, rfl⟩ h hn) hd
end


section
variable {w : World} {A : Around} {s : Shared} {E : Value → Shared → Prop}
theorem list_append_at {l : Addr} {items : List Value} {k : Nat} {x : Value} {Q : Value → Shared → Prop} (hl : s.heap.get? l = some (lstO items k)) (hsz : items.length ≤ sizeLine)
    (hQ : ∀ h' k', h'.get? l = some (lstO (items ++ [x]) k') → Heap.SameBut l s.heap h' → Q .none { s with heap := h' }) :
    wpAny (MM w) A (call (.builtin "list.append") [.ref l, x]) Q E s :=
  wpAny_list_append_plain (items := items.toArray) ⟨k, hl⟩ (fun h' ⟨k', e⟩ hs => hQ h' k' (by rw [e]; simp) hs) (by simpa using hsz)

theorem codeAny_compLoop_any {R : Result → Shared → Prop} {elt target iter : Expr} {ifs : List Expr} {scope : Scope} {pos : Pos} {it acc : Value} {env : Env} (I : Nat → Shared → Prop)
    (turn : ∀ n s, I n s → wpAny (MM w) A (pyNext it) (fun r s₁ => match r with
      | none => R (.ok .next) s₁
      | some v => wpAny (MM w) A (letOwnedTupleGo target it v) (fun _ s₁' => wpAny (MM w) A (assign target env v) (fun _ s₂ =>
          wpAny (MM w) A (forIn ifs true fun c r => if r = true then do let ok ← isTrue c env (eval c env); pure (ForInStep.yield ok) else pure (ForInStep.yield r)) (fun ok s₃ =>
            if ok = true then wpAny (MM w) A (eval elt env) (fun x s₄ =>
              wpAny (MM w) A (call (.builtin "list.append") [acc, x]) (fun _ s₅ => ∃ m, m < n ∧ I m s₅) Bot s₄) Bot s₃
            else ∃ m, m < n ∧ I m s₃) Bot s₂) Bot s₁') Bot s₁) Bot s)
    (n : Nat) (h : I n s) :
    codeAny (MM w) A (.compLoop (.ListComp elt [⟨target, iter, ifs, 0⟩] scope pos) 0 it acc env) R s := by
  refine codeAny_loop rfl I (fun n s hI => ?_) n h
  show wpAny _ A ((compTurn (.ListComp elt [⟨target, iter, ifs, 0⟩] scope pos) 0 it acc env).onRaise (fun x => do noteFrame x env; theTreesLotGoes x)) _ _ s
  refine wpAny_noted ?_
  rw [compTurn_list]
  refine wpAny_bind (wpAny_standAt (wpAny_bind (wpAny_mono (turn n s hI) (fun r s₁ h₁ => ?_) fun _ _ f => f.elim)))
  cases r with
  | none => exact wpAny_pure h₁
  | some v =>
    refine wpAny_bind (wpAny_mono h₁ (fun _ s₁' h₁' => ?_) fun _ _ f => f.elim)
    refine wpAny_bind (wpAny_mono h₁' (fun _ s₂ h₂ => wpAny_bind (wpAny_mono h₂ (fun ok s₃ h₃ => ?_) fun _ _ f => f.elim)) fun _ _ f => f.elim)
    cases ok with
    | false => exact wpAny_pure ⟨rfl, h₃⟩
    | true =>
      exact wpAny_bind (wpAny_bind (wpAny_mono h₃ (fun x s₄ h₄ => wpAny_bind (wpAny_mono h₄ (fun _ s₅ h₅ => wpAny_pure (wpAny_pure ⟨rfl, h₅⟩)) fun _ _ f => f.elim)) fun _ _ f => f.elim))
end

/-- the frame of a comprehension -/
noncomputable def cEnv (scope : Scope) (cl : List (Str × Addr)) (C : Addr) (env : Env) : Env :=
  { newEnv scope C env.globals (cellsFrom (C + 1) scope.names cl) env.qual none .none (some env) builtinsNs with scope := relabel scope env }

section
variable {w : World} {A : Around} {s : Shared} {env : Env} {imm : Heap} {L : Addr} {m : Str → Option Value} {mu : List (Addr × Obj)} {E : Value → Shared → Prop}

theorem newEnv_comp {scope : Scope} {g : Addr} {cl : List (Str × Addr)} {qual : Str} {Q : Env → Shared → Prop}
    (hQ : Q (newEnv scope s.heap.objs.size g (cellsFrom (s.heap.objs.size + 1) scope.names cl) qual none .none (some env) builtinsNs)
      { s with heap := PySem.pushCells (s.heap.push { cls := .type "dict", data := .dict #[] }) scope.names }) :
    wpAny (MM w) A (newFunctionEnv scope g cl [] qual none .none (some env)) Q E s := by
  simp only [newFunctionEnv, Option.isSome_some, if_true]
  refine wpAny_bind (wpAny_alloc ?_)
  refine wpAny_bind (wpAny_layCells _ (fun name kind cells => by cases hkc : kind == NameKind.cell <;> simp [hkc]) _ _ _ _ ?_)
  rw [show ({ s with heap := s.heap.push { cls := .type "dict", data := .dict #[] } } : Shared).heap.objs.size = s.heap.objs.size + 1 from Heap.size_push ..]
  refine wpAny_bind ?_
  rw [List.forIn_nil]
  exact wpAny_pure (wpAny_pure hQ)

theorem comp_block {elt target iter : Expr} {ifs : List Expr} {scope : Scope} {cl : List (Str × Addr)} {pos : Pos} {I : Addr} {wr : List Addr} {n : Nat} {P : Nat → Value → Heap → Prop} {C : Nat → Heap → Prop}
    {RR : Value → Addr → Result → Shared → Prop} {E' : Value → Shared → Prop} (CE : Addr → List (Addr × Obj) → Prop) (F : Nat → List D)
    (W : Cur w A target I wr n P C imm) (hn : n ≤ sizeLine) (self : ∀ (s : Shared) (Q : Value → Shared → Prop) (E : Value → Shared → Prop), C 0 s.heap → Q (.ref I) s → wpAny (MM w) A (pyIter (.ref I)) Q E s)
    (c0 : C 0 s.heap) (S : St imm L m mu s.heap) (O : Off imm L mu wr) (hlt : ∀ b ∈ wr, b < s.heap.objs.size)
    (hCE : ∀ c, CE c (cellLed (c + 1) scope.names [])) (hF : F 0 = [])
    (hFn : ∀ i, i ≤ n → (F i).length ≤ i)
    (turn : ∀ Cc Dd i v immT mT ce its ys k h tk, s.heap.objs.size ≤ Cc → i < n → P i v h → Ext (hideAll s.heap wr) immT → CE Cc ce → Reps (above s.heap.objs.size immT) (F i) ys → St immT Cc mT (ce ++ (Dd, lstO ys k) :: its) h →
      wpAny (MM w) A (assign target (cEnv scope cl Cc env) v) (fun _ s₂ =>
        wpAny (MM w) A (forIn ifs true fun c r => if r = true then do let ok ← isTrue c (cEnv scope cl Cc env) (eval c (cEnv scope cl Cc env)); pure (ForInStep.yield ok) else pure (ForInStep.yield r)) (fun ok s₃ =>
          if ok = true then wpAny (MM w) A (eval elt (cEnv scope cl Cc env)) (fun y s₄ => ∃ imm' m' ce' h' tk' d, s₄ = { s with heap := h', toks := tk' } ∧ Ext immT imm' ∧ CE Cc ce' ∧
            St imm' Cc m' (ce' ++ (Dd, lstO ys k) :: its) h' ∧ Rep (above s.heap.objs.size imm') d y ∧ F (i + 1) = F i ++ [d]) Bot s₃
          else ∃ imm' m' ce' h' tk', s₃ = { s with heap := h', toks := tk' } ∧ Ext immT imm' ∧ CE Cc ce' ∧ St imm' Cc m' (ce' ++ (Dd, lstO ys k) :: its) h' ∧ F (i + 1) = F i) Bot s₂) Bot { s with heap := h, toks := tk })
    (hR : ∀ Cc Dd h' tk imm' ys k, s.heap.objs.size ≤ Cc → s.heap.objs.size ≤ Dd → Dd ≠ Cc → (∃ m', h'.Ns Cc m') → h'.get? Dd = some (lstO ys k) → imm'.get? Dd = none → imm'.get? Cc = none →
      (∀ b o, b ∉ wr → s.heap.get? b = some o → h'.get? b = some o) → Ext imm' h' → Reps (above s.heap.objs.size imm') (F n) ys → RR (.ref Dd) Cc (.ok .next) { s with heap := h', toks := tk }) :
    wpAny (MM w) A (newList []) (fun acc s₃ => wpAny (MM w) A (newFunctionEnv scope env.globals cl [] env.qual none .none (some env)) (fun cenv s₄ =>
      codeAny (MM w) A (.compStart (.ListComp elt [⟨target, iter, ifs, 0⟩] scope pos) 0 (.ref I) acc { cenv with scope := relabel scope env }) (RR acc cenv.locals) s₄) E' s₃) E' s := by
  refine wpAny_newObj_type (newEnv_comp ?_)
  show codeAny _ _ (.compStart _ 0 (.ref I) (.ref s.heap.objs.size) (cEnv scope cl (s.heap.push (lstO [] 0)).objs.size env)) (RR (.ref s.heap.objs.size) (s.heap.push (lstO [] 0)).objs.size) _
  rw [Heap.size_push]
  -- the comprehension's state
  let H2 := s.heap.push (lstO [] 0)
  let H4 := PySem.pushCells (H2.push { cls := .type "dict", data := .dict #[] }) scope.names
  have hz2 : H2.objs.size = s.heap.objs.size + 1 := Heap.size_push ..
  have old : ∀ b o, s.heap.get? b = some o → H4.get? b = some o := fun b o e => pushCells_keeps _ _ b o (Heap.get?_push_of_some _ (Heap.get?_push_of_some _ e))
  have fresh : ∀ a, s.heap.objs.size ≤ a → (hideAll s.heap wr).get? a = none := fun a ha => by
    cases e : (hideAll s.heap wr).get? a with
    | none => rfl
    | some o => exact absurd (Heap.lt_size (of_hideAll _ e)) (Nat.not_lt.mpr ha)
  have S2 : St (hideAll s.heap wr) (s.heap.objs.size + 1) (fun _ => none) [(s.heap.objs.size, lstO [] 0)] (H2.push { cls := .type "dict", data := .dict #[] }) := by
    refine ⟨?_, fun b o e => Heap.get?_push_of_some _ (Heap.get?_push_of_some _ (of_hideAll _ e)), fresh _ (Nat.le_succ _), fun p hp => ?_, by simp⟩
    · have := Heap.Ns.new H2 (.type "dict")
      rwa [hz2] at this
    · rw [List.mem_singleton.mp hp]
      exact ⟨Heap.get?_push_of_some _ (Heap.get?_push_size _ rfl), Nat.ne_of_lt (Nat.lt_succ_self _), fresh _ (Nat.le_refl _)⟩
  have led : ∀ (names : List (Str × NameKind)) (c : Nat) (a b : List (Addr × Obj)), cellLed c names (a ++ b) = cellLed c names a ++ b := by
    intro names
    induction names with
    | nil => intros; rfl
    | cons x r ih =>
      intro c a b
      obtain ⟨y, k⟩ := x
      unfold cellLed
      split
      · exact ih (c + 1) ((c, cellO none) :: a) b
      · exact ih c a b
  have S4 : St (hideAll s.heap wr) (s.heap.objs.size + 1) (fun _ => none) (cellLed (s.heap.objs.size + 2) scope.names [] ++ [(s.heap.objs.size, lstO [] 0)]) H4 := by
    have := S2.pushCells scope.names
    rw [Heap.size_push, hz2] at this
    rw [← led]; exact this
  have xim : Ext imm (hideAll s.heap wr) := fun b o e => hideAll_get _ (S.keep b o e) fun hm => by rw [(O.off b hm).1] at e; cases e
  have O4 : Off (hideAll s.heap wr) (s.heap.objs.size + 1) (cellLed (s.heap.objs.size + 2) scope.names [] ++ [(s.heap.objs.size, lstO [] 0)]) wr := by
    refine ⟨O.nodup, fun b hb => ⟨hideAll_none _ hb, Nat.ne_of_lt (Nat.lt_succ_of_lt (hlt b hb)), fun hm => ?_⟩⟩
    have hge : ∀ (names : List (Str × NameKind)) (c : Nat) (a : List (Addr × Obj)), s.heap.objs.size ≤ c → (∀ p ∈ a, s.heap.objs.size ≤ p.1) → ∀ p ∈ cellLed c names a, s.heap.objs.size ≤ p.1 := by
      intro names
      induction names with
      | nil => intro c a _ ha; exact ha
      | cons x r ih =>
        intro c a hc ha
        obtain ⟨y, k⟩ := x
        unfold cellLed
        split
        · exact ih (c + 1) _ (Nat.le_succ_of_le hc) fun p hp => by
            rcases List.mem_cons.mp hp with rfl | hp
            · exact hc
            · exact ha p hp
        · exact ih c a hc ha
    obtain ⟨p, hp, rfl⟩ := List.mem_map.mp hm
    have : s.heap.objs.size ≤ p.1 := by
      rcases List.mem_append.mp hp with hp | hp
      · exact hge _ _ [] (Nat.le_add_right _ _) (fun _ h => absurd h List.not_mem_nil) p hp
      · rw [List.mem_singleton.mp hp]; exact Nat.le_refl _
    exact absurd (hlt _ hb) (Nat.not_lt.mpr this)
  have c4 : C 0 H4 := W.frame 0 _ _ c0 S.keep (fun b o e => old b o (S.keep b o e)) fun b _ o e => old b o e
  have loop : codeAny (MM w) A (.compLoop (.ListComp elt [⟨target, iter, ifs, 0⟩] scope pos) 0 (.ref I) (.ref s.heap.objs.size) (cEnv scope cl (s.heap.objs.size + 1) env))
      (RR (.ref s.heap.objs.size) (s.heap.objs.size + 1)) { s with heap := H4 } := by
    refine codeAny_compLoop_any (fun k s' => ∃ i immT mT ce ys kk h tk, s' = { s with heap := h, toks := tk } ∧ i ≤ n ∧ k = n - i ∧ Ext (hideAll s.heap wr) immT ∧ CE (s.heap.objs.size + 1) ce ∧
        Reps (above s.heap.objs.size immT) (F i) ys ∧ St immT (s.heap.objs.size + 1) mT (ce ++ [(s.heap.objs.size, lstO ys kk)]) h ∧ Off immT (s.heap.objs.size + 1) (ce ++ [(s.heap.objs.size, lstO ys kk)]) wr ∧ C i h)
      ?_ n ⟨0, _, _, _, [], 0, H4, s.toks, rfl, Nat.zero_le _, rfl, Ext.refl _, hCE _, hF ▸ Reps.nil, S4, O4, c4⟩
    rintro k s' ⟨i, immT, mT, ce, ys, kk, h, tk, rfl, hi, rfl, x, hce, hys, ST, OT, c⟩
    rcases Nat.lt_or_ge i n with hlt | hge
    · refine wpAny_mono (W.item i _ (fun v s₂ => ∃ h' tk', s₂ = { s with heap := h', toks := tk' } ∧ P i v h' ∧ C (i + 1) h' ∧ (∀ b o, b ∉ wr → h.get? b = some o → h'.get? b = some o)) Bot hlt c
        fun v h' tk' p c' k => ⟨h', tk', rfl, p, c', k⟩) (fun r s₁ hr => ?_) fun _ _ f => f.elim
      cases r with
      | none => exact hr.elim
      | some v =>
        refine wpAny_mono hr (fun _ s₂ h₂ => ?_) fun _ _ f => f.elim
        obtain ⟨h', tk', rfl, p, c', k⟩ := h₂
        have S' := ST.extOff OT k
        obtain ⟨its, ei, gi⟩ := its_of (W.live _ _ c')
        have SJ := S'.join OT ei gi
        rw [List.append_assoc] at SJ
        have fin : ∀ {imm' m' ce' h'' ys' kk'}, Ext immT imm' → St imm' (s.heap.objs.size + 1) m' (ce' ++ (s.heap.objs.size, lstO ys' kk') :: its) h'' →
            St imm' (s.heap.objs.size + 1) m' (ce' ++ [(s.heap.objs.size, lstO ys' kk')]) h'' ∧ Off imm' (s.heap.objs.size + 1) (ce' ++ [(s.heap.objs.size, lstO ys' kk')]) wr ∧ C (i + 1) h'' := by
          intro imm' m' ce' h'' ys' kk' x₂ S₂
          rw [show ce' ++ (s.heap.objs.size, lstO ys' kk') :: its = (ce' ++ [(s.heap.objs.size, lstO ys' kk')]) ++ its by simp] at S₂
          obtain ⟨S₃, O₃, g₃⟩ := S₂.part
          rw [ei] at O₃
          refine ⟨S₃, O₃, ?_⟩
          refine W.frame _ _ _ c' ((xim.trans x).trans S'.keep) (((xim.trans x).trans x₂).trans S₃.keep) fun b hb o ho => ?_
          obtain ⟨p, hp, rfl⟩ := List.mem_map.mp (ei.symm ▸ hb : b ∈ its.map (·.1))
          rw [gi p hp] at ho; cases ho
          exact g₃ p hp
        refine wpAny_mono (turn _ _ i v immT mT ce its ys kk h' tk' (Nat.le_succ _) hlt p x hce hys SJ) (fun _ s₂ h₂ => wpAny_mono h₂ (fun ok s₃ h₃ => ?_) fun _ _ f => f.elim) fun _ _ f => f.elim
        cases ok with
        | false =>
          simp only [Bool.false_eq_true, if_false] at h₃ ⊢
          obtain ⟨imm', m', ce', h'', tk'', rfl, x₂, hce', S₂, eF⟩ := h₃
          obtain ⟨S₃, O₃, c₃⟩ := fin x₂ S₂
          refine ⟨n - (i + 1), by omega, i + 1, imm', m', ce', ys, kk, h'', tk'', rfl, hlt, rfl, x.trans x₂, hce', ?_, S₃, O₃, c₃⟩
          rw [eF]
          exact hys.ext fun b o e => let ⟨a, b⟩ := above_get.mp e; above_get.mpr ⟨x₂ _ _ a, b⟩
        | true =>
          simp only [if_true] at h₃ ⊢
          refine wpAny_mono h₃ (fun y s₄ h₄ => ?_) fun _ _ f => f.elim
          obtain ⟨imm', m', ce', h'', tk'', d, rfl, x₂, hce', S₂, hd, eF⟩ := h₄
          have zD := S₂.mem (s.heap.objs.size, lstO ys kk) (by simp)
          have hys' : Reps (above s.heap.objs.size imm') (F i) ys := hys.ext fun b o e => let ⟨a, b⟩ := above_get.mp e; above_get.mpr ⟨x₂ _ _ a, b⟩
          refine list_append_at zD.1 (by rw [hys'.length]; have := hFn i hi; omega) fun h₅ kk' g₅ hs₅ => ?_
          have S₅ : St imm' (s.heap.objs.size + 1) m' (ce' ++ (s.heap.objs.size, lstO (ys ++ [y]) kk') :: its) h₅ := by
            have nd := S₂.nodup
            rw [List.map_append, List.map_cons, List.nodup_append, List.nodup_cons] at nd
            refine S₂.updAt zD.2.1 zD.2.2 hs₅ g₅ (fun p hp => ?_) (by simpa using S₂.nodup)
            rcases List.mem_append.mp hp with hp | hp
            · exact .inl ⟨List.mem_append_left _ hp, nd.2.2 _ (List.mem_map.mpr ⟨p, hp, rfl⟩) _ (.head _)⟩
            · rcases List.mem_cons.mp hp with rfl | hp
              · exact .inr rfl
              · exact .inl ⟨List.mem_append_right _ (.tail _ hp), fun e => nd.2.1.1 (e ▸ List.mem_map.mpr ⟨p, hp, rfl⟩)⟩
          obtain ⟨S₃, O₃, c₃⟩ := fin x₂ S₅
          refine ⟨n - (i + 1), by omega, i + 1, imm', m', ce', _, kk', h₅, tk'', rfl, hlt, rfl, x.trans x₂, hce', ?_, S₃, O₃, c₃⟩
          rw [eF]
          exact hys'.snoc hd
    · have : i = n := Nat.le_antisymm hi hge
      subst this
      refine W.done _ _ _ c fun h' tk' k => ?_
      have S' := ST.extOff OT k
      have zD := S'.mem (s.heap.objs.size, lstO ys kk) (by simp)
      refine hR _ _ h' tk' immT ys kk (Nat.le_succ _) (Nat.le_refl _) (Nat.ne_of_lt (Nat.lt_succ_self _)) ⟨_, S'.ns⟩ zD.1 zD.2.2 S'.immL (fun b o hb e => ?_) S'.keep hys
      exact S'.keep b o (x b o (hideAll_get _ e hb))
  exact codeAny_compStart_list loop (self { s with heap := H4 } _ _ c4 loop)
end
end
theorem flush_4 : True := by first | walk1 | trivial
noncomputable section
section
variable {imm h h' : Heap} {L : Addr} {m : Str → Option Value} {mu : List (Addr × Obj)} {wr : List Addr}
theorem St.lose {a : Addr} {o : Obj} (S : St imm L m ((a, o) :: mu) h) (hs : Heap.SameBut a h h') : St imm L m mu h' := by
  have z := S.mem _ (.head _)
  have nd := S.nodup
  rw [List.map_cons, List.nodup_cons] at nd
  exact S.drop0.extOff (wr := [a]) ⟨by simp, fun b hb => by rw [List.mem_singleton.mp hb]; exact ⟨z.2.2, z.2.1, nd.1⟩⟩ fun b o hb e => hs.extBut b o (fun q => hb (by simp [q])) e

theorem comp_back {Cc Dd : Addr} {ys : List Value} {k : Nat} {immT : Heap} {ds : List D} (S : St imm L m mu h) (O : Off imm L mu wr) (hC : h.objs.size ≤ Cc) (hD : h.objs.size ≤ Dd) (hDC : Dd ≠ Cc)
    (x : ∀ b o, b ∉ wr → h.get? b = some o → h'.get? b = some o) (ns : ∃ m', h'.Ns Cc m') (gD : h'.get? Dd = some (lstO ys k)) (nD : immT.get? Dd = none) (nC : immT.get? Cc = none) (xT : Ext immT h')
    (hys : Reps (above h.objs.size immT) ds ys) : ∃ imm' oC, Ext imm imm' ∧ St imm' L m ((Cc, oC) :: (Dd, lstO ys k) :: mu) h' ∧ Reps (above h.objs.size imm') ds ys ∧ ∃ m', h'.Ns Cc m' := by
  obtain ⟨m', hn⟩ := ns
  obtain ⟨oC, es, ep, gC, r⟩ := id hn
  have S' := S.extOff O x
  have hi : ∀ a, h.objs.size ≤ a → imm.get? a = none ∧ a ≠ L ∧ ∀ p ∈ mu, p.1 ≠ a := fun a ha => by
    refine ⟨?_, ?_, ?_⟩
    · cases e : imm.get? a with
      | none => rfl
      | some o => exact absurd (Heap.lt_size (S.keep _ _ e)) (Nat.not_lt.mpr ha)
    · rintro rfl; exact absurd S.ns.lt (Nat.not_lt.mpr ha)
    · rintro p hp rfl; exact absurd (Heap.lt_size (S.mem p hp).1) (Nat.not_lt.mpr ha)
  have S2 : St imm L m ((Cc, oC) :: (Dd, lstO ys k) :: mu) h' := by
    refine ⟨S'.ns, S'.keep, S'.immL, fun p hp => ?_, ?_⟩
    · rcases List.mem_cons.mp hp with rfl | hp
      · exact ⟨gC, (hi _ hC).2.1, (hi _ hC).1⟩
      · rcases List.mem_cons.mp hp with rfl | hp
        · exact ⟨gD, (hi _ hD).2.1, (hi _ hD).1⟩
        · exact S'.mem p hp
    · rw [List.map_cons, List.map_cons, List.nodup_cons, List.nodup_cons]
      refine ⟨fun hm => ?_, fun hm => ?_, S'.nodup⟩
      · rcases List.mem_cons.mp hm with e | hm
        · exact hDC e.symm
        · obtain ⟨p, hp, e⟩ := List.mem_map.mp hm; exact (hi _ hC).2.2 p hp e
      · obtain ⟨p, hp, e⟩ := List.mem_map.mp hm; exact (hi _ hD).2.2 p hp e
  obtain ⟨imm', y, S3, hk⟩ := S2.freeze
  refine ⟨imm', oC, y, S3, hys.ext fun b o e => ?_, m', hn⟩
  obtain ⟨e, hb⟩ := above_get.mp e
  refine above_get.mpr ⟨?_, hb⟩
  refine hk b o (xT b o e) (hi b hb).2.1 fun p hp => ?_
  rcases List.mem_cons.mp hp with rfl | hp
  · rintro rfl; rw [nC] at e; cases e
  · rcases List.mem_cons.mp hp with rfl | hp
    · rintro rfl; rw [nD] at e; cases e
    · exact (hi b hb).2.2 p hp
end

section
variable {w : World} {A : Around} {s : Shared} {env : Env} {imm : Heap} {L : Addr} {m : Str → Option Value} {mu : List (Addr × Obj)} {E : Value → Shared → Prop}
  {elt target iter : Expr} {ifs : List Expr} {scope : Scope} {cl : List (Str × Addr)} {pos : Pos}

/-- what a comprehension does once its iterable is known -/
noncomputable def CompAt (w : World) (A : Around) (E : Value → Shared → Prop) (elt target iter : Expr) (ifs : List Expr) (scope : Scope) (cl : List (Str × Addr)) (pos : Pos) (env : Env) (use : Option (Value → Sem Unit)) (Q : Value → Shared → Prop) (xv : Value) (s : Shared) : Prop :=
  wpAny (MM w) A (pyIter xv) (fun it s₂ => wpAny (MM w) A (newList []) (fun acc s₃ => wpAny (MM w) A (newFunctionEnv scope env.globals cl [] env.qual none .none (some env)) (fun cenv s₄ =>
    codeAny (MM w) A (.compStart (.ListComp elt [⟨target, iter, ifs, 0⟩] scope pos) 0 it acc { cenv with scope := relabel scope env }) (compPost (MM w) A E use Q acc cenv.locals) s₄) E s₃) E s₂) E s

noncomputable def namesOk (scope : Scope) : Bool := scope.names.all fun x => x.2 != .local || scope.names.lookup x.1 == some .local
theorem namesOk_ok (h : namesOk scope = true) : ∀ x ∈ scope.names, x.2 = .local → scope.names.lookup x.1 = some .local := fun x hx hl => by
  have := List.all_eq_true.mp h x hx
  rw [hl] at this
  simpa using this

theorem comp_eval {Q : Value → Shared → Prop} (hclos : closureFor scope env = pure cl) (hkind : scope.kind = .function) (hnames : namesOk scope = true)
    (h : wpAny (MM w) A (eval iter env) (CompAt w A E elt target iter ifs scope cl pos env none Q) E s)
    (hs : ∀ x, foldedSetIterable iter env x = pure x := by intro _; rfl) :
    wpAny (MM w) A (eval (.ListComp elt [⟨target, iter, ifs, 0⟩] scope pos) env) Q E s := by
  rw [eval_ListComp]
  exact wpAny_comprehension_free (use := none) rfl hs hclos hkind (namesOk_ok hnames) h

theorem comp_assign {y : Str} {py spos : Pos} {Q : Flow → Shared → Prop}
    (hsw : swapsWith (.ListComp elt [⟨target, iter, ifs, 0⟩] scope pos) (some (.Name y py)) spos.line env = pure true)
    (hclos : closureFor scope env = pure cl) (hkind : scope.kind = .function) (hnames : namesOk scope = true)
    (h : wpAny (MM w) A (eval iter env) (CompAt w A E elt target iter ifs scope cl pos env (some (assign (.Name y py) env)) (fun _ s' => Q .next s')) E s)
    (hs : ∀ x, foldedSetIterable iter env x = pure x := by intro _; rfl) :
    wpAny (MM w) A (exec (.Assign [.Name y py] (.ListComp elt [⟨target, iter, ifs, 0⟩] scope pos) spos) env) Q E s := by
  rw [exec_Assign_Name_used _ _ _ _ hsw]
  refine wpAny_bind (wpAny_standAt (wpAny_bind ?_))
  show wpAny _ A (do let _ ← comprehension (.ListComp elt [⟨target, iter, ifs, 0⟩] scope pos) scope env _ (newList []) false (eval iter env) (some (assign (.Name y py) env))) _ _ s
  exact wpAny_bind (wpAny_mono (wpAny_comprehension_free (use := some (assign (.Name y py) env)) (Q := fun _ s' => Q .next s') rfl hs hclos hkind (namesOk_ok hnames) h) (fun _ s' hq => wpAny_pure (wpAny_pure hq)) fun _ _ e => e)

theorem EnvOk.comp (e : EnvOk env L) (hk : scope.kind = .function) (C : Addr) : EnvOk (cEnv scope cl C env) C := ⟨hk, rfl, e.globals, e.builtins⟩

theorem use_name {y : Str} {py : Pos} {Cc Dd : Addr} {oC oD : Obj} {Q : Shared → Prop} (e : EnvOk env L) (hl : env.kindOf y = some .local) (S : St imm L m ((Cc, oC) :: (Dd, oD) :: mu) s.heap)
    (q : ∀ h tk, St imm L (fun z => if z = y then some (.ref Dd) else m z) ((Dd, oD) :: mu) h → Q { s with heap := h, toks := tk }) :
    wpAny (MM w) A (assign (.Name y py) env (.ref Dd)) (fun _ s'' => ∃ imm'' m'' mu'' h'' tk'', s'' = { s with heap := h'', toks := tk'' } ∧ St imm'' L m'' ((Cc, oC) :: mu'') h'' ∧
          ∀ h₃, St imm'' L m'' mu'' h₃ → Q { s with heap := h₃, toks := tk'' }) E s :=
  wpAny_assign_Name (st_local S e hl fun h' S' => ⟨_, _, _, _, _, rfl, S', fun h₃ S₃ => q h₃ _ S₃⟩)

noncomputable def CYield (CE : Addr → List (Addr × Obj) → Prop) (F : Nat → List D) (N : Nat) (s : Shared) (Cc Dd : Addr) (i : Nat) (immT : Heap) (its : List (Addr × Obj)) (ys : List Value) (k : Nat) (y : Value) (s₄ : Shared) : Prop :=
  ∃ imm' m' ce' h' tk' d, s₄ = { s with heap := h', toks := tk' } ∧ Ext immT imm' ∧ CE Cc ce' ∧ St imm' Cc m' (ce' ++ (Dd, lstO ys k) :: its) h' ∧ Rep (above N imm') d y ∧ F (i + 1) = F i ++ [d]
noncomputable def CPass (CE : Addr → List (Addr × Obj) → Prop) (F : Nat → List D) (s : Shared) (Cc Dd : Addr) (i : Nat) (immT : Heap) (its : List (Addr × Obj)) (ys : List Value) (k : Nat) (s₃ : Shared) : Prop :=
  ∃ imm' m' ce' h' tk', s₃ = { s with heap := h', toks := tk' } ∧ Ext immT imm' ∧ CE Cc ce' ∧ St imm' Cc m' (ce' ++ (Dd, lstO ys k) :: its) h' ∧ F (i + 1) = F i
/-- a turn of a comprehension -/
noncomputable def CTurn (w : World) (A : Around) (CE : Addr → List (Addr × Obj) → Prop) (F : Nat → List D) (P : Nat → Value → Heap → Prop) (n : Nat) (immO : Heap) (N : Nat) (s : Shared) (elt target : Expr) (ifs : List Expr) (cenv : Addr → Env) : Prop :=
  ∀ Cc Dd i v immT mT ce its ys k h tk, EnvOk (cenv Cc) Cc → N ≤ Cc → i < n → P i v h → Ext immO immT → CE Cc ce → Reps (above N immT) (F i) ys → St immT Cc mT (ce ++ (Dd, lstO ys k) :: its) h →
    wpAny (MM w) A (assign target (cenv Cc) v) (fun _ s₂ =>
      wpAny (MM w) A (forIn ifs true fun c r => if r = true then do let ok ← isTrue c (cenv Cc) (eval c (cenv Cc)); pure (ForInStep.yield ok) else pure (ForInStep.yield r)) (fun ok s₃ =>
        if ok = true then wpAny (MM w) A (eval elt (cenv Cc)) (fun y s₄ => CYield CE F N s Cc Dd i immT its ys k y s₄) Bot s₃
        else CPass CE F s Cc Dd i immT its ys k s₃) Bot s₂) Bot { s with heap := h, toks := tk }

theorem comp_run {I : Addr} {wr : List Addr} {n : Nat} {P : Nat → Value → Heap → Prop} {C : Nat → Heap → Prop} {use : Option (Value → Sem Unit)} {Q : Value → Shared → Prop} (CE : Addr → List (Addr × Obj) → Prop) (F : Nat → List D) (e : EnvOk env L) (hk : scope.kind = .function)
    (W : Cur w A target I wr n P C imm) (hn : n ≤ sizeLine) (self : ∀ (s : Shared) (Q : Value → Shared → Prop) (E : Value → Shared → Prop), C 0 s.heap → Q (.ref I) s → wpAny (MM w) A (pyIter (.ref I)) Q E s)
    (c0 : C 0 s.heap) (S : St imm L m mu s.heap) (O : Off imm L mu wr) (hlt : ∀ b ∈ wr, b < s.heap.objs.size)
    (hCE : ∀ c, CE c (cellLed (c + 1) scope.names [])) (hF : F 0 = []) (hFn : ∀ i, i ≤ n → (F i).length ≤ i)
    (turn : CTurn w A CE F P n (hideAll s.heap wr) s.heap.objs.size s elt target ifs (fun C => cEnv scope cl C env))
    (hQ : ∀ D h tk imm' ys k Cc oC, Ext imm imm' → St imm' L m ((Cc, oC) :: (D, lstO ys k) :: mu) h → Reps (above s.heap.objs.size imm') (F n) ys → s.heap.objs.size ≤ D →
      match use with
      | none => ∀ h', St imm' L m ((D, lstO ys k) :: mu) h' → Q (.ref D) { s with heap := h', toks := tk }
      | some u => wpAny (MM w) A (u (.ref D)) (fun _ s'' => ∃ imm'' m'' mu'' h'' tk'', s'' = { s with heap := h'', toks := tk'' } ∧ St imm'' L m'' ((Cc, oC) :: mu'') h'' ∧
          ∀ h₃, St imm'' L m'' mu'' h₃ → Q .none { s with heap := h₃, toks := tk'' }) E { s with heap := h, toks := tk }) :
    wpAny (MM w) A (newList []) (fun acc s₃ => wpAny (MM w) A (newFunctionEnv scope env.globals cl [] env.qual none .none (some env)) (fun cenv s₄ =>
      codeAny (MM w) A (.compStart (.ListComp elt [⟨target, iter, ifs, 0⟩] scope pos) 0 (.ref I) acc { cenv with scope := relabel scope env }) (compPost (MM w) A E use Q acc cenv.locals) s₄) E s₃) E s := by
  refine comp_block (RR := fun acc C => compPost (MM w) A E use Q acc C) CE F W hn self c0 S O hlt hCE hF hFn (fun Cc Dd i v immT mT ce its ys k h tk => turn Cc Dd i v immT mT ce its ys k h tk (e.comp hk Cc)) ?_
  intro Cc Dd h' tk immT ys k hC hD hDC ns gD nD nC x xT hys
  obtain ⟨imm', oC, y, S', hy, m', hn'⟩ := comp_back S O hC hD hDC x ns gD nD nC xT hys
  have q := hQ Dd h' tk imm' ys k Cc oC y S' hy hD
  cases use with
  | none => exact ⟨m', hn', fun h'' hs => q h'' (S'.lose hs)⟩
  | some u =>
    refine wpAny_mono q (fun _ s'' hs => ?_) fun _ _ e => e
    obtain ⟨imm'', m'', mu'', h'', tk'', rfl, S'', hq⟩ := hs
    have e0 : ∀ o, h'.get? Cc = some o → h''.get? Cc = some o := fun o e => by
      rw [S'.get0] at e; cases e; exact S''.get0
    exact ⟨m', hn'.at' e0, fun h₃ hs => hq h₃ (S''.lose hs)⟩

theorem off_new {h : Heap} (S : St imm L m mu h) : Off imm L mu [h.objs.size] :=
  ⟨by simp, fun b hb => by rw [List.mem_singleton.mp hb]; exact ⟨S.size_fresh.1, S.size_fresh.2.1, fun hm => let ⟨p, hp, e⟩ := List.mem_map.mp hm; S.size_fresh.2.2 p hp e⟩⟩
theorem hide_new {h : Heap} {o : Obj} : Ext h (hideAll (h.push o) [h.objs.size]) := fun b o e => hideAll_get _ (Heap.get?_push_of_some _ e) fun hm => by
  rw [List.mem_singleton.mp hm] at e; exact absurd (Heap.lt_size e) (Nat.lt_irrefl _)

theorem CTurn.mono {CE : Addr → List (Addr × Obj) → Prop} {F : Nat → List D} {P : Nat → Value → Heap → Prop} {n : Nat} {i1 i2 : Heap} {N1 N2 : Nat} {s1 s2 : Shared} {cenv : Addr → Env} (x : Ext i1 i2) (hN : N1 ≤ N2) (hs : ∀ h tk, ({ s1 with heap := h, toks := tk } : Shared) = { s2 with heap := h, toks := tk })
    (T : ∀ N, N1 ≤ N → CTurn w A CE F P n i1 N s1 elt target ifs cenv) : CTurn w A CE F P n i2 N2 s2 elt target ifs cenv := by
  intro Cc Dd i v immT mT ce its ys k h tk e hC hi hp xT hce hys S
  have := T N2 hN Cc Dd i v immT mT ce its ys k h tk e hC hi hp (x.trans xT) hce hys S
  simp only [CYield, CPass, hs] at this ⊢
  exact this

/-- over a list that stays -/
theorem comp_list {x : Str} {px : Pos} {ax : Addr} {vs : List Value} {k : Nat} {use : Option (Value → Sem Unit)} {Q : Value → Shared → Prop} (CE : Addr → List (Addr × Obj) → Prop) (F : Nat → List D) (e : EnvOk env L) (hk : scope.kind = .function)
    (hh : A.handled = none) (S : St imm L m mu s.heap) (hg : imm.get? ax = some (lstO vs k)) (hn : vs.length ≤ sizeLine)
    (hCE : ∀ c, CE c (cellLed (c + 1) scope.names [])) (hF : F 0 = []) (hFn : ∀ i, i ≤ vs.length → (F i).length ≤ i)
    (turn : ∀ N, s.heap.objs.size ≤ N → CTurn w A CE F (fun i v _ => vs[i]? = some v) vs.length s.heap N s elt (.Name x px) ifs (fun C => cEnv scope cl C env))
    (hQ : ∀ D h tk imm' ys k Cc oC, Ext imm imm' → St imm' L m ((Cc, oC) :: (D, lstO ys k) :: mu) h → Reps (above s.heap.objs.size imm') (F vs.length) ys → s.heap.objs.size ≤ D →
      match use with
      | none => ∀ h', St imm' L m ((D, lstO ys k) :: mu) h' → Q (.ref D) { s with heap := h', toks := tk }
      | some u => wpAny (MM w) A (u (.ref D)) (fun _ s'' => ∃ imm'' m'' mu'' h'' tk'', s'' = { s with heap := h'', toks := tk'' } ∧ St imm'' L m'' ((Cc, oC) :: mu'') h'' ∧
          ∀ h₃, St imm'' L m'' mu'' h₃ → Q .none { s with heap := h₃, toks := tk'' }) E { s with heap := h, toks := tk }) :
    CompAt w A E elt (.Name x px) iter ifs scope cl pos env use Q (.ref ax) s := by
  have hl : s.heap.IsList ax vs.toArray := ⟨_, S.keep _ _ hg, rfl, _, rfl⟩
  have hne : ax ≠ s.heap.objs.size := Nat.ne_of_lt (Heap.lt_size (S.keep _ _ hg))
  unfold CompAt
  refine wpAny_pyIter_list hl ?_
  refine comp_run CE F e hk (Cur.list (w := w) hh hne hg x px) hn (fun s Q E c q => wpAny_pyIter_listiter c.1 q) ⟨⟨_, Heap.get?_push_size _ rfl, rfl, rfl⟩, hl.push _⟩ (S.push _) (off_new S)
    (fun b hb => by rw [List.mem_singleton.mp hb]; show _ < (s.heap.push _).objs.size; rw [Heap.size_push]; exact Nat.lt_succ_self _) hCE hF hFn ?_ (fun D h tk imm' ys k Cc oC x S hy hD => hQ D h tk imm' ys k Cc oC x S (hy.ext fun b o e => let ⟨a, b⟩ := above_get.mp e; above_get.mpr ⟨a, Nat.le_trans (by show _ ≤ (s.heap.push _).objs.size; rw [Heap.size_push]; exact Nat.le_succ _) b⟩) (Nat.le_trans (by show _ ≤ (s.heap.push _).objs.size; rw [Heap.size_push]; exact Nat.le_succ _) hD))
  exact CTurn.mono hide_new (by show _ ≤ (s.heap.push _).objs.size; rw [Heap.size_push]; exact Nat.le_succ _) (fun _ _ => rfl) turn

/-- over a range from nought -/
theorem comp_range {x : Str} {px : Pos} {r : Addr} {n : Nat} {t u v : Tok} {use : Option (Value → Sem Unit)} {Q : Value → Shared → Prop} (CE : Addr → List (Addr × Obj) → Prop) (F : Nat → List D) (e : EnvOk env L) (hk : scope.kind = .function)
    (hh : A.handled = none) (S : St imm L m mu s.heap) (hg : IsRange s.heap r 0 n 1 t u v) (hn : n ≤ sizeLine) (hsm : Builtin.Range.small 0 n 1 = true) (hrs : Builtin.Range.rangeSize 0 n 1 = n)
    (hCE : ∀ c, CE c (cellLed (c + 1) scope.names [])) (hF : F 0 = []) (hFn : ∀ i, i ≤ n → (F i).length ≤ i)
    (turn : ∀ N, s.heap.objs.size ≤ N → CTurn w A CE F (fun i v _ => ∃ t, v = .int (0 + i * 1) t) n s.heap N s elt (.Name x px) ifs (fun C => cEnv scope cl C env))
    (hQ : ∀ D h tk imm' ys k Cc oC, Ext imm imm' → St imm' L m ((Cc, oC) :: (D, lstO ys k) :: mu) h → Reps (above s.heap.objs.size imm') (F n) ys → s.heap.objs.size ≤ D →
      match use with
      | none => ∀ h', St imm' L m ((D, lstO ys k) :: mu) h' → Q (.ref D) { s with heap := h', toks := tk }
      | some u => wpAny (MM w) A (u (.ref D)) (fun _ s'' => ∃ imm'' m'' mu'' h'' tk'', s'' = { s with heap := h'', toks := tk'' } ∧ St imm'' L m'' ((Cc, oC) :: mu'') h'' ∧
          ∀ h₃, St imm'' L m'' mu'' h₃ → Q .none { s with heap := h₃, toks := tk'' }) E { s with heap := h, toks := tk }) :
    CompAt w A E elt (.Name x px) iter ifs scope cl pos env use Q (.ref r) s := by
  unfold CompAt
  have hle : s.heap.objs.size ≤ (s.heap.push { cls := .type "range_iterator", data := .fields #[rawInt 0, rawInt n, rawInt 1] }).objs.size := by rw [Heap.size_push]; exact Nat.le_succ _
  refine wpAny_pyIter_range hg hsm ?_
  rw [hrs]
  refine comp_run CE F e hk (Cur.range (w := w) hh 0 1 n x px) hn (fun s Q E c q => wpAny_pyIter_rangeiter c q) ?_ (S.push _) (off_new S)
    (fun b hb => by rw [List.mem_singleton.mp hb]; show _ < (s.heap.push _).objs.size; rw [Heap.size_push]; exact Nat.lt_succ_self _) hCE hF hFn ?_ (fun D h tk imm' ys k Cc oC x S hy hD => hQ D h tk imm' ys k Cc oC x S (hy.ext fun b o e => let ⟨a, b⟩ := above_get.mp e; above_get.mpr ⟨a, Nat.le_trans hle b⟩) (Nat.le_trans hle hD))
  · have e2 : (n : Int) - ((0 : Nat) : Int) = n := Int.sub_zero _
    have e1 : (0 : Int) + ((0 : Nat) : Int) * 1 = 0 := rfl
    show IsRangeIter _ _ _ _ _
    rw [e1, e2]
    exact Heap.get?_push_size _ rfl
  · exact CTurn.mono hide_new hle (fun _ _ => rfl) turn

theorem comp_range_as {x : Str} {px : Pos} {y : Str} {py : Pos} {r : Addr} {n : Nat} {t u v : Tok} {Q : Value → Shared → Prop} (CE : Addr → List (Addr × Obj) → Prop) (F : Nat → List D) (e : EnvOk env L) (hk : scope.kind = .function)
    (hh : A.handled = none) (S : St imm L m mu s.heap) (hg : IsRange s.heap r 0 n 1 t u v) (hn : n ≤ sizeLine) (hsm : Builtin.Range.small 0 n 1 = true) (hrs : Builtin.Range.rangeSize 0 n 1 = n)
    (hl : env.kindOf y = some .local) (hCE : ∀ c, CE c (cellLed (c + 1) scope.names [])) (hF : F 0 = []) (hFn : ∀ i, i ≤ n → (F i).length ≤ i)
    (turn : ∀ N, s.heap.objs.size ≤ N → CTurn w A CE F (fun i v _ => ∃ t, v = .int (0 + i * 1) t) n s.heap N s elt (.Name x px) ifs (fun C => cEnv scope cl C env))
    (hQ : ∀ D h tk imm' ys k, Ext imm imm' → St imm' L (fun z => if z = y then some (.ref D) else m z) ((D, lstO ys k) :: mu) h → Reps (above s.heap.objs.size imm') (F n) ys → s.heap.objs.size ≤ D → Q .none { s with heap := h, toks := tk }) :
    CompAt w A E elt (.Name x px) iter ifs scope cl pos env (some (assign (.Name y py) env)) Q (.ref r) s :=
  comp_range CE F e hk hh S hg hn hsm hrs hCE hF hFn turn fun D h tk imm' ys k Cc oC x S hy hD => use_name (s := { s with heap := h, toks := tk }) (Q := Q .none) e hl S fun h' tk' S' => hQ D h' tk' imm' ys k x S' hy hD
theorem comp_list_as {x : Str} {px : Pos} {y : Str} {py : Pos} {ax : Addr} {vs : List Value} {k : Nat} {Q : Value → Shared → Prop} (CE : Addr → List (Addr × Obj) → Prop) (F : Nat → List D) (e : EnvOk env L) (hk : scope.kind = .function)
    (hh : A.handled = none) (S : St imm L m mu s.heap) (hg : imm.get? ax = some (lstO vs k)) (hn : vs.length ≤ sizeLine)
    (hl : env.kindOf y = some .local) (hCE : ∀ c, CE c (cellLed (c + 1) scope.names [])) (hF : F 0 = []) (hFn : ∀ i, i ≤ vs.length → (F i).length ≤ i)
    (turn : ∀ N, s.heap.objs.size ≤ N → CTurn w A CE F (fun i v _ => vs[i]? = some v) vs.length s.heap N s elt (.Name x px) ifs (fun C => cEnv scope cl C env))
    (hQ : ∀ D h tk imm' ys k, Ext imm imm' → St imm' L (fun z => if z = y then some (.ref D) else m z) ((D, lstO ys k) :: mu) h → Reps (above s.heap.objs.size imm') (F vs.length) ys → s.heap.objs.size ≤ D → Q .none { s with heap := h, toks := tk }) :
    CompAt w A E elt (.Name x px) iter ifs scope cl pos env (some (assign (.Name y py) env)) Q (.ref ax) s :=
  comp_list CE F e hk hh S hg hn hCE hF hFn turn fun D h tk imm' ys k Cc oC x S hy hD => use_name (s := { s with heap := h, toks := tk }) (Q := Q .none) e hl S fun h' tk' S' => hQ D h' tk' imm' ys k x S' hy hD
theorem comp_list_of {x : Str} {px : Pos} {ax : Addr} {vs : List Value} {k : Nat} {Q : Value → Shared → Prop} (CE : Addr → List (Addr × Obj) → Prop) (F : Nat → List D) (e : EnvOk env L) (hk : scope.kind = .function)
    (hh : A.handled = none) (S : St imm L m mu s.heap) (hg : imm.get? ax = some (lstO vs k)) (hn : vs.length ≤ sizeLine)
    (hCE : ∀ c, CE c (cellLed (c + 1) scope.names [])) (hF : F 0 = []) (hFn : ∀ i, i ≤ vs.length → (F i).length ≤ i)
    (turn : ∀ N, s.heap.objs.size ≤ N → CTurn w A CE F (fun i v _ => vs[i]? = some v) vs.length s.heap N s elt (.Name x px) ifs (fun C => cEnv scope cl C env))
    (hQ : ∀ D h tk imm' ys k, Ext imm imm' → St imm' L m ((D, lstO ys k) :: mu) h → Reps (above s.heap.objs.size imm') (F vs.length) ys → s.heap.objs.size ≤ D → Q (.ref D) { s with heap := h, toks := tk }) :
    CompAt w A E elt (.Name x px) iter ifs scope cl pos env none Q (.ref ax) s :=
  comp_list CE F e hk hh S hg hn hCE hF hFn turn fun D h tk imm' ys k Cc oC x S hy hD h' S' => hQ D h' tk imm' ys k x S' hy hD
end
end
theorem flush_5 : True := by first | walk1 | trivial
noncomputable section
section
variable {w : World} {A : Around} {s : Shared} {E : Value → Shared → Prop} {imm : Heap} {L : Addr} {m : Str → Option Value} {mu : List (Addr × Obj)}
theorem range1 {n : Int} {t : Tok} {Q : Value → Shared → Prop} (S : St imm L m mu s.heap)
    (h : ∀ a h' t u v tk, St imm L m mu h' → IsRange h' a 0 n 1 t u v → Ext s.heap h' → Q (.ref a) { s with heap := h', toks := tk }) : wpAny (MM w) A (call (.type "range") [.int n t]) Q E s :=
  call_range_1 (h _ _ _ _ _ _ (S.push _) (Heap.get?_push_size _ rfl) fun _ _ e => Heap.get?_push_of_some _ e)
theorem range2 {a b : Int} {t u : Tok} {Q : Value → Shared → Prop} (S : St imm L m mu s.heap)
    (h : ∀ r h' t u v tk, St imm L m mu h' → IsRange h' r a b 1 t u v → Ext s.heap h' → Q (.ref r) { s with heap := h', toks := tk }) : wpAny (MM w) A (call (.type "range") [.int a t, .int b u]) Q E s :=
  call_range_2 (h _ _ _ _ _ _ (S.push _) (Heap.get?_push_size _ rfl) fun _ _ e => Heap.get?_push_of_some _ e)
end

section
variable {h : Heap} {a : Addr} {n : Nat} {vs : List Value} {ds : List D} {t : Tok}
theorem Rep.mkInt {a b : Int} (e : a = b) : Rep h (.int b) (.int a t) := by subst e; simp only [Rep]; exact ⟨t, rfl⟩
theorem Rep.mkStr {a b : Str} (e : a = b) : Rep h (.str b) (.str a t) := by subst e; simp only [Rep]; exact ⟨t, rfl⟩
theorem Rep.mkBool {a b : Bool} (e : a = b) : Rep h (.bool b) (.bool a) := by subst e; simp only [Rep]
theorem Rep.mkNone : Rep h .none .none := by simp only [Rep]
theorem Rep.mkTup (g : h.get? a = some (tupO vs n)) (r : Reps h ds vs) : Rep h (.tup ds) (.ref a) := by simp only [Rep]; exact ⟨a, vs, n, rfl, g, r⟩
theorem Rep.mkList (g : h.get? a = some (lstO vs n)) (r : Reps h ds vs) : Rep h (.list ds) (.ref a) := by simp only [Rep]; exact ⟨a, vs, n, rfl, g, r⟩
end

/-! Lists -/
section
variable {w : World} {A : Around} {s : Shared} {E : Value → Shared → Prop} {imm : Heap} {L : Addr} {m : Str → Option Value} {mu : List (Addr × Obj)}
theorem addL {a b : Addr} {vs ws : List Value} {n n2 : Nat} {Q : Value → Shared → Prop} (S : St imm L m mu s.heap) (ha : s.heap.get? a = some (lstO vs n)) (hb : s.heap.get? b = some (lstO ws n2)) (hsz : vs.length + ws.length ≤ sizeLine)
    (h : ∀ c h', St imm L m ((c, lstO (vs ++ ws) 0) :: mu) h' → Ext s.heap h' → L < c → Q (.ref c) { s with heap := h' }) : wpAny (MM w) A (binaryOp .Add (.ref a) (.ref b)) Q E s := by
  refine P.add_list (items := vs.toArray) (items2 := ws.toArray) ha hb ?_ (by simpa using hsz)
  have := h _ _ (S.alloc (o := lstO (vs ++ ws) 0) rfl) (fun _ _ e => Heap.get?_push_of_some _ e) S.ns.lt
  simpa using this

/-- a subscript and the place it means -/
noncomputable def AtPlace (i : Int) (n j : Nat) : Prop := j < n ∧ (i = j ∨ i = (j : Int) - n)
theorem getL {a : Addr} {vs : List Value} {n : Nat} {i : Int} {t : Tok} {x : Value} {j : Nat} {Q : Value → Shared → Prop} (hg : s.heap.get? a = some (lstO vs n)) (hi : AtPlace i vs.length j) (hx : vs[j]? = some x) (hsz : vs.length ≤ sizeLine)
    (h : Q x s) : wpAny (MM w) A (getItem (.ref a) (.int i t)) Q E s := by
  have hl : s.heap.IsList a vs.toArray := ⟨_, hg, rfl, _, rfl⟩
  have hs : (sizeLine : Int) < 2 ^ 62 := by decide +kernel
  obtain ⟨hj, rfl | rfl⟩ := hi
  · exact wpAny_getItem_list hl (by omega) (by omega) (by simpa using hx) h
  · refine wpAny_getItem_list_neg hl (by omega) (by simp only [List.size_toArray]; omega) (by omega) ?_ h
    have : ((j : Int) - vs.length + (vs.toArray.size : Int)).toNat = j := by simp
    rw [this]; simpa using hx

theorem setL {a : Addr} {vs : List Value} {n : Nat} {i : Int} {t : Tok} {x : Value} {j : Nat} {Q : Unit → Shared → Prop} (hg : s.heap.get? a = some (lstO vs n)) (hi : AtPlace i vs.length j) (hsz : vs.length ≤ sizeLine)
    (h : ∀ h' n', h'.get? a = some (lstO (vs.set j x) n') → Heap.SameBut a s.heap h' → Q () { s with heap := h' }) : wpAny (MM w) A (setItem (.ref a) (.int i t) x) Q E s := by
  have hT : s.TypeIs (.ref a) "list" := ⟨_, hg, rfl⟩
  have hs : (sizeLine : Int) < 2 ^ 62 := by decide +kernel
  have fit : Builtin.List.listFitsIndex i = true := by
    unfold Builtin.List.listFitsIndex
    simp only [Bool.and_eq_true, decide_eq_true_eq]
    obtain ⟨hj, rfl | rfl⟩ := hi <;> omega
  have fin : wpAny (MM w) A.in1 (setSeqItemAt a j x) (fun _ s' => Q () s') E s := by
    have := IsL.update (items := vs.toArray) hg (·.setIfInBounds j x)
    rw [List.setIfInBounds_toArray] at this
    exact wpAny_setSeqItemAt hg rfl (h _ _ this (Heap.SameBut.update ..))
  have hx' : vs.toArray[j]? = some (vs[j]'hi.1) := by simp [hi.1]
  unfold setItem
  try with_reducible refine wpAny_holding ?_
  first | refine wpAny_bind (wpAny_pure ?_) | skip
  refine wpAny_bind (wpAny_sequenceKey hT (by decide) ?_)
  refine wpAny_bind (wpAny_callSpecial?_slot (name := Str.ofString "__setitem__") hT slot_list_setitem
    (wpAny_call_entry slot_list_setitem hT entry_list_setitem ?_ (args_list_setitem _ _ _)))
  show wpAny _ _ (Builtin.List.listSubscript? (.int i t) >>= _) _ _ s
  refine wpAny_bind (wpAny_listSubscript_int fit ?_)
  clear fit
  obtain ⟨hj, rfl | rfl⟩ := hi
  · show wpAny _ _ ((seqItemAt a j >>= fun r => pure (r.map (j, ·))) >>= _) _ _ s
    refine wpAny_bind (wpAny_bind (wpAny_seqItemAt hg rfl (wpAny_pure ?_)))
    rw [hx']
    show wpAny _ _ (setSeqItemAt a j x >>= _) _ _ s
    refine wpAny_bind (wpAny_mono fin (fun _ s' q => ?_) fun _ _ e => e)
    first
      | exact wpAny_bind (wpAny_pure (wpAny_pure ⟨.none, rfl, wpAny_pure q⟩))
      | exact wpAny_pure ⟨.none, rfl, wpAny_pure q⟩
  · have hidx : seqIndex? ((j : Int) - vs.length) vs.toArray.size = some j := by
      rw [seqIndex_neg (by omega) (by simp only [List.size_toArray]; omega)]; simp
    obtain ⟨jj, e⟩ : ∃ jj : Nat, (j : Int) - vs.length = Int.negSucc jj := by
      cases k : (j : Int) - vs.length with
      | ofNat n => exact absurd (show (j : Int) - vs.length < 0 by omega) (by rw [k]; exact Int.not_lt.mpr (Int.ofNat_nonneg n))
      | negSucc n => exact ⟨n, rfl⟩
    rw [e] at hidx ⊢
    show wpAny _ _ ((Builtin.List.listItems (.ref a) >>= fun xs => pure ((seqIndex? (Int.negSucc jj) xs.size).bind fun i => xs[i]?.map (i, ·))) >>= _) _ _ s
    refine wpAny_bind (wpAny_bind ?_)
    show wpAny _ _ (seqItems? (.ref a) >>= _) _ _ s
    refine wpAny_bind (wpAny_seqItems hg rfl (wpAny_pure (wpAny_pure ?_)))
    rw [hidx]
    simp only [Option.bind_some, hx', Option.map_some]
    show wpAny _ _ (setSeqItemAt a j x >>= _) _ _ s
    refine wpAny_bind (wpAny_mono fin (fun _ s' q => ?_) fun _ _ e => e)
    first
      | exact wpAny_bind (wpAny_pure (wpAny_pure ⟨.none, rfl, wpAny_pure q⟩))
      | exact wpAny_pure ⟨.none, rfl, wpAny_pure q⟩
end

theorem St.at {imm h : Heap} {L : Addr} {m : Str → Option Value} {mu : List (Addr × Obj)} {a : Addr} {o : Obj} (S : St imm L m mu h) (hp : (a, o) ∈ mu) : h.get? a = some o := (S.mem _ hp).1
section
variable {w : World} {A : Around} {s : Shared} {E : Value → Shared → Prop} {imm : Heap} {L : Addr} {m : Str → Option Value} {mu : List (Addr × Obj)} {value slice : Expr}
theorem subL {a : Addr} {vs : List Value} {n : Nat} {i : Int} {t : Tok} {x : Value} {j : Nat} {Q : Value → Shared → Prop} (hg : s.heap.get? a = some (lstO vs n)) (hi : AtPlace i vs.length j) (hx : vs[j]? = some x) (hsz : vs.length ≤ sizeLine)
    (h : Q x s) (hs : subscripted slice false (.ref a) (.int i t) = operate [.ref a, .int i t] (getItem (.ref a) (.int i t)) := by with_unfolding_all rfl) :
    wpAny (MM w) A (subscriptTail value slice (.ref a) (.int i t)) Q E s :=
  subscriptTail_builtinR ⟨_, hg, rfl⟩ slot_list_getitem.lookup (getL (Q := fun r s' => r = x ∧ Q r s') hg hi hx hsz ⟨rfl, h⟩) hs
theorem subT {a : Addr} {vs : List Value} {n : Nat} {i : Int} {t : Tok} {x : Value} {j : Nat} {Q : Value → Shared → Prop} (hg : s.heap.get? a = some (tupO vs n)) (hi : i = j) (hj : j < 2 ^ 62) (hx : vs[j]? = some x)
    (h : Q x s) (hs : subscripted slice false (.ref a) (.int i t) = operate [.ref a, .int i t] (getItem (.ref a) (.int i t)) := by with_unfolding_all rfl) :
    wpAny (MM w) A (subscriptTail value slice (.ref a) (.int i t)) Q E s := by
  subst hi
  have hlt : j < vs.length := (List.getElem?_eq_some_iff.mp hx).1
  refine subscriptTail_builtinR (x := x) ⟨_, hg, rfl⟩ F.slot_tuple_getitem.lookup (P.getItem_tuple (items := vs.toArray) (k := j) hg (by omega) (by omega) ?_ (by simpa using hx) ⟨rfl, h⟩) hs
  unfold seqIndex?
  simp only [show ¬ ((j : Int) < 0) by omega, if_false]
  rw [if_pos (by simp only [List.size_toArray, Bool.and_eq_true, decide_eq_true_eq]; omega)]
  simp
theorem sliceL {hp : Heap} {l : Addr} {vs : List Value} {n : Nat} {vl vu : Value} {lo hi : Option Int} {Q : Value → Shared → Prop} (S : St imm L m mu hp) (hg : hp.get? l = some (lstO vs n)) (pl : IsPart vl lo) (pu : IsPart vu hi) (hsz : vs.length ≤ sizeLine)
    (h : ∀ c h', St imm L m ((c, lstO (slicePick vs.toArray lo hi none).toList 0) :: mu) h' → Ext hp h' → L < c → Q (.ref c) { s with heap := h' })
    (hs : subscripted slice false (.ref l) (.ref hp.objs.size) = operate [.ref hp.objs.size, .ref l] (getItem (.ref l) (.ref hp.objs.size)) := by with_unfolding_all rfl)
    (ht : ∀ r, letTemporaryGo value (.ref l) r = pure () := by intro _; with_unfolding_all rfl) :
    wpAny (MM w) A (subscriptTail value slice (.ref l) (.ref hp.objs.size)) Q E { s with heap := hp.push { cls := .type "slice", data := .fields #[vl, vu, .none] } } := by
  have hl : hp.IsList l vs.toArray := ⟨_, hg, rfl, _, rfl⟩
  refine subscriptTail_ops (Heap.IsList.typeIs (s := { s with heap := hp.push { cls := .type "slice", data := .fields #[vl, vu, .none] } }) (hl.push _)) list_getitem_lookup
    (wpAny_getItem_list_slice (hl.push _) (Heap.IsSliceOf.new ..) pl pu .none (by simp) ?_ (by simpa using hsz)) hs ht
  have S2 := (S.push { cls := .type "slice", data := .fields #[vl, vu, .none] })
  have := h _ _ (S2.alloc (o := lstO (slicePick vs.toArray lo hi none).toList 0) rfl) (fun _ _ e => Heap.get?_push_of_some _ (Heap.get?_push_of_some _ e)) S2.ns.lt
  simpa using this
theorem sliceFrom {hp : Heap} {l : Addr} {vs : List Value} {n a : Nat} {t : Tok} {Q : Value → Shared → Prop} (S : St imm L m mu hp) (hg : hp.get? l = some (lstO vs n)) (hsz : vs.length ≤ sizeLine) (e : s.heap = hp.push { cls := .type "slice", data := .fields #[.int (a : Int) t, .none, .none] })
    (h : ∀ c h', St imm L m ((c, lstO (vs.drop a) 0) :: mu) h' → Ext hp h' → L < c → Q (.ref c) { s with heap := h' })
    (hs : subscripted slice false (.ref l) (.ref hp.objs.size) = operate [.ref hp.objs.size, .ref l] (getItem (.ref l) (.ref hp.objs.size)) := by with_unfolding_all rfl)
    (ht : ∀ r, letTemporaryGo value (.ref l) r = pure () := by intro _; with_unfolding_all rfl) :
    wpAny (MM w) A (subscriptTail value slice (.ref l) (.ref hp.objs.size)) Q E s := by
  have := sliceL (s := s) (w := w) (A := A) (E := E) (Q := Q) (value := value) (slice := slice) S hg (.int a t) .none hsz (fun c h' S' x lt => h c h' (by rw [slicePick_from'] at S'; simpa using S') x lt) hs ht
  rw [← e] at this
  exact this
theorem sliceUpto {hp : Heap} {l : Addr} {vs : List Value} {n a : Nat} {t : Tok} {Q : Value → Shared → Prop} (S : St imm L m mu hp) (hg : hp.get? l = some (lstO vs n)) (hsz : vs.length ≤ sizeLine) (e : s.heap = hp.push { cls := .type "slice", data := .fields #[.none, .int (a : Int) t, .none] })
    (h : ∀ c h', St imm L m ((c, lstO (vs.take a) 0) :: mu) h' → Ext hp h' → L < c → Q (.ref c) { s with heap := h' })
    (hs : subscripted slice false (.ref l) (.ref hp.objs.size) = operate [.ref hp.objs.size, .ref l] (getItem (.ref l) (.ref hp.objs.size)) := by with_unfolding_all rfl)
    (ht : ∀ r, letTemporaryGo value (.ref l) r = pure () := by intro _; with_unfolding_all rfl) :
    wpAny (MM w) A (subscriptTail value slice (.ref l) (.ref hp.objs.size)) Q E s := by
  have := sliceL (s := s) (w := w) (A := A) (E := E) (Q := Q) (value := value) (slice := slice) S hg .none (.int a t) hsz (fun c h' S' x lt => h c h' (by rw [slicePick_upto'] at S'; simpa using S') x lt) hs ht
  rw [← e] at this
  exact this
end

theorem look_ne {x a : Str} {p q v : Option Value} (h : x ≠ a) (e : q = v) : (if x = a then p else q) = v := by rw [if_neg h]; exact e
section
variable {w : World} {A : Around} {s : Shared} {E : Value → Shared → Prop} {imm : Heap} {L : Addr} {m : Str → Option Value} {mu : List (Addr × Obj)}
theorem lenL {a : Addr} {vs : List Value} {n : Nat} {Q : Value → Shared → Prop} (hg : s.heap.get? a = some (lstO vs n)) (hsz : vs.length ≤ sizeLine) (h : ∀ t tk, Q (.int vs.length t) { s with toks := tk }) :
    wpAny (MM w) A (call (.builtin "len") [.ref a]) Q E s := by
  have hs : (sizeLine : Int) < 2 ^ 62 := by decide +kernel
  exact call_len_list (items := vs.toArray) ⟨_, hg, rfl, _, rfl⟩ (by simp only [List.size_toArray]; omega) (h _ _)
theorem modN {a bn : Nat} {b : Int} {t u : Tok} {Q : Value → Shared → Prop} (hb : b = (bn : Int)) (h0 : 0 < bn) (h : ∀ t tk, Q (.int ((a % bn : Nat) : Int) t) { s with toks := tk }) :
    wpAny (MM w) A (binaryOp .Mod (.int (a : Int) t) (.int b u)) Q E s := by
  subst hb
  refine mod_int (by omega) ?_
  have := h s.toks (s.toks + 1)
  simpa [Int.fmod_eq_emod_of_nonneg] using this
theorem divN {a bn : Nat} {b : Int} {t u : Tok} {Q : Value → Shared → Prop} (hb : b = (bn : Int)) (h0 : 0 < bn) (ha : bn < 1000000000) (h : ∀ t tk, Q (.int ((a / bn : Nat) : Int) t) { s with toks := tk }) :
    wpAny (MM w) A (binaryOp .FloorDiv (.int (a : Int) t) (.int b u)) Q E s := by
  subst hb
  refine floordiv_int (by omega) ?_
  have := h s.toks (s.toks + 1)
  simpa [Int.fdiv_eq_ediv_of_nonneg] using this
end

theorem St.got {imm h : Heap} {L : Addr} {m : Str → Option Value} {mu : List (Addr × Obj)} {a : Addr} {o : Obj} (S : St imm L m mu h) (g : imm.get? a = some o) : h.get? a = some o := S.keep _ _ g

/-! for over a list that stays -/
section
variable {w : World} {A : Around} {s : Shared} {E E' : Value → Shared → Prop} {imm : Heap} {L : Addr} {m : Str → Option Value} {mu : List (Addr × Obj)} {env : Env}
theorem for_list {x : Str} {px : Pos} {body : List Stmt} {ax : Addr} {vs : List Value} {k : Nat} {Q : Flow → Shared → Prop} (J : Nat → Heap → (Str → Option Value) → List (Addr × Obj) → Prop)
    (hh : A.handled = none) (S : St imm L m mu s.heap) (hg : imm.get? ax = some (lstO vs k)) (j0 : J 0 imm m mu)
    (turn : ∀ i v imm₁ m₁ mu₁ its h tk, i < vs.length → vs[i]? = some v → Ext imm imm₁ → J i imm₁ m₁ mu₁ → St imm₁ L m₁ (mu₁ ++ its) h →
      wpAny (MM w) A (assign (.Name x px) env v) (fun _ s₂ => wpAny (MM w) A (execs body env) (fun f s₃ => match f with
        | .next | .cont => LBack s J L imm₁ (i + 1) its s₃
        | .brk => Q .next s₃
        | .ret v => Q (.ret v) s₃) Bot s₂) Bot { s with heap := h, toks := tk })
    (hQ : ∀ imm₁ m₁ mu₁ h tk, Ext imm imm₁ → J vs.length imm₁ m₁ mu₁ → St imm₁ L m₁ mu₁ h → Q .next { s with heap := h, toks := tk }) :
    wpAny (MM w) A (pyIter (.ref ax)) (fun it s₂ => codeAny (MM w) A (.forLoop (.Name x px) it body [] env) (fun r s' => match r with | .ok f => Q f s' | .error e => E' e s') s₂) E s := by
  have hl : s.heap.IsList ax vs.toArray := ⟨_, S.keep _ _ hg, rfl, _, rfl⟩
  have hne : ax ≠ s.heap.objs.size := Nat.ne_of_lt (Heap.lt_size (S.keep _ _ hg))
  refine wpAny_pyIter_list hl ?_
  exact loop_for (s := { s with heap := s.heap.push { cls := .type "list_iterator", data := .fields #[.ref ax, .int 0 0] } }) J (Cur.list (w := w) hh hne hg x px) ⟨⟨_, Heap.get?_push_size _ rfl, rfl, rfl⟩, hl.push _⟩ (S.push _) (off_new S) j0 turn hQ
theorem for_listT {es : List Expr} {z : Nat} {px : Pos} {body : List Stmt} {ax : Addr} {vs : List Value} {k : Nat} {Q : Flow → Shared → Prop} (J : Nat → Heap → (Str → Option Value) → List (Addr × Obj) → Prop)
    (hh : A.handled = none) (S : St imm L m mu s.heap) (hg : imm.get? ax = some (lstO vs k)) (hr : ∀ v ∈ vs, ∃ T, v = .ref T) (j0 : J 0 imm m mu)
    (turn : ∀ i v imm₁ m₁ mu₁ its h tk, i < vs.length → vs[i]? = some v → Ext imm imm₁ → J i imm₁ m₁ mu₁ → St imm₁ L m₁ (mu₁ ++ its) h →
      wpAny (MM w) A (assign (.Tuple es z px) env v) (fun _ s₂ => wpAny (MM w) A (execs body env) (fun f s₃ => match f with
        | .next | .cont => LBack s J L imm₁ (i + 1) its s₃
        | .brk => Q .next s₃
        | .ret v => Q (.ret v) s₃) Bot s₂) Bot { s with heap := h, toks := tk })
    (hQ : ∀ imm₁ m₁ mu₁ h tk, Ext imm imm₁ → J vs.length imm₁ m₁ mu₁ → St imm₁ L m₁ mu₁ h → Q .next { s with heap := h, toks := tk }) :
    wpAny (MM w) A (pyIter (.ref ax)) (fun it s₂ => codeAny (MM w) A (.forLoop (.Tuple es z px) it body [] env) (fun r s' => match r with | .ok f => Q f s' | .error e => E' e s') s₂) E s := by
  have hl : s.heap.IsList ax vs.toArray := ⟨_, S.keep _ _ hg, rfl, _, rfl⟩
  have hne : ax ≠ s.heap.objs.size := Nat.ne_of_lt (Heap.lt_size (S.keep _ _ hg))
  refine wpAny_pyIter_list hl ?_
  exact loop_for (s := { s with heap := s.heap.push { cls := .type "list_iterator", data := .fields #[.ref ax, .int 0 0] } }) J (Cur.listT (w := w) hh hne hg hr es z px) ⟨⟨_, Heap.get?_push_size _ rfl, rfl, rfl⟩, hl.push _⟩ (S.push _) (off_new S) j0 turn hQ

/-- a tuple of two is unpacked into two names -/
theorem unpack2 {x y : Expr} {z : Nat} {px : Pos} {T : Addr} {v1 v2 : Value} {n : Nat} {Q : Unit → Shared → Prop} (hh : A.handled = none) (S : St imm L m mu s.heap) (hg : s.heap.get? T = some (tupO [v1, v2] n))
    (hf : (assignEach [x, y] env).map (·.1) = [false, false]) (ha : (assignEach [x, y] env).map (·.2) = [assign x env, assign y env])
    (h : ∀ h', St imm L m mu h' → wpAny (MM w) A (assign x env v1) (fun _ s₁ => wpAny (MM w) A (assign y env v2) Q E s₁) E { s with heap := h' }) :
    wpAny (MM w) A (assign (.Tuple [x, y] z px) env (.ref T)) Q E s := by
  have hlen : (assignEach [x, y] env).length = 2 := by simpa using congrArg List.length hf
  refine wpAny_assign_Tuple (items := #[v1, v2]) hh ⟨_, hg, rfl, n, rfl⟩ (by simpa using hlen) ?_ fun h' hx => ?_
  · rw [List.findIdx?_eq_none_iff]
    intro p hp
    have : p.1 ∈ (assignEach [x, y] env).map (·.1) := List.mem_map.mpr ⟨p, hp, rfl⟩
    rw [hf] at this
    simpa using this
  · rw [ha]
    have S' : St imm L m mu h' := S.extOff (off_new S) fun b o hb e => hx b o (fun q => hb (by simp [q])) e
    have := h h' S'
    show wpAny _ _ (assignInOrder [assign x env, assign y env] [v1, v2]) _ _ _
    exact wpAny_bind (wpAny_holding (wpAny_mono this (fun _ s1 q => wpAny_bind (wpAny_holding (wpAny_mono q (fun _ s2 q2 => wpAny_pure q2) fun _ _ e => e))) fun _ _ e => e))
end

/-! Texts by their code points -/
noncomputable def strN (l : List Nat) : Str := ⟨l.toArray⟩
theorem strN_add (a b : List Nat) : strN a ++ strN b = strN (a ++ b) := by
  show Str.append _ _ = _
  simp [Str.append, strN]
theorem strN_len (a : List Nat) : (strN a).length = a.length := by simp [strN, Str.length]
theorem strN_dash : Str.ofString "-" = strN [45] := by decide +kernel
theorem strN_nil : Str.ofString "" = strN [] := by decide +kernel
section
variable {w : World} {A : Around} {s : Shared} {E : Value → Shared → Prop}
theorem chrN {i : Int} {c : Nat} {t : Tok} {Q : Value → Shared → Prop} (hi : i = (c : Int)) (hc : c ≤ 1114111) (h : ∀ t tk, Q (.str (strN [c]) t) { s with toks := tk }) : wpAny (MM w) A (call (.builtin "chr") [.int i t]) Q E s := by
  subst hi
  refine P.chr_of_int ?_ ?_
  · simp only [Bool.or_eq_false_iff, decide_eq_false_iff_not]; omega
  · exact h _ _
theorem addS {x y : Str} {a b : List Nat} {t u : Tok} {Q : Value → Shared → Prop} (hx : x = strN a) (hy : y = strN b) (hz : a.length + b.length ≤ sizeLine) (h : ∀ t tk, Q (.str (strN (a ++ b)) t) { s with toks := tk }) :
    wpAny (MM w) A (binaryOp .Add (.str x t) (.str y u)) Q E s := by
  subst hx hy
  exact PyProof.Rows.add_str (fun t' tk => by rw [strN_add]; exact h t' tk) (by rw [strN_len, strN_len]; exact hz)
theorem iaddS {x y : Str} {a b : List Nat} {t u : Tok} {Q : Value → Shared → Prop} (hx : x = strN a) (hy : y = strN b) (hz : a.length + b.length ≤ sizeLine) (h : ∀ t tk, Q (.str (strN (a ++ b)) t) { s with toks := tk }) :
    wpAny (MM w) A (inplaceOp .Add (.str x t) (.str y u)) Q E s := by
  subst hx hy
  exact PyProof.Rows.iadd_str (fun t' tk => by rw [strN_add]; exact h t' tk) (by rw [strN_len, strN_len]; exact hz)
end
end
end
end
noncomputable section
noncomputable section
set_option maxRecDepth 1000000
set_option maxHeartbeats 0
noncomputable def dLaw : DefRec := match stmtOf 29 with
  | .FunctionDef name args body _ _ _ scope _ _ pos => { name := name, params := args, body := body, scope := scope, pos := pos }
  | _ => { name := "law", params := default, body := [], scope := default, pos := default }
noncomputable def kLaw : List (Str × Expr) := []
theorem dLaw_eq : defOf qv "law" = some (dLaw, kLaw) := by kernel_rfl
noncomputable abbrev rowP : RowW := PySem.Challenge.rw_ij0078_01.row.toRowW
end
end
noncomputable section
set_option maxRecDepth 100000
set_option maxHeartbeats 1000000
local macro_rules | `(tactic| walk_at "B look") => `(tactic| first | (with_unfolding_all rfl) | ((repeat' (refine' Mine.look_ne (by decide) ?_)); (first | (with_reducible assumption) | exact if_pos rfl)))
local macro_rules | `(tactic| walk_at "B glob") => `(tactic| first | with_reducible exact gs_b1_set _ | with_reducible exact gs_c6_set _ | with_reducible exact gs_c7_set _ | with_reducible exact gs_c8_set _ | with_reducible exact gs_c9_set _ | with_reducible exact gs_twin_re_1 _ | with_reducible exact gn_translate _ | with_reducible exact gn_b1 _ | with_reducible exact gn_c11 _ | with_reducible exact gn_c4 _ | with_reducible exact gn_c6 _ | with_reducible exact gn_c7 _ | with_reducible exact gn_c8 _ | with_reducible exact gn_c9 _ | with_reducible exact gn_runs _ | with_reducible exact gn_asked _ | with_reducible exact gn_written _ | with_reducible exact gn_pattern _ | with_reducible exact gn_sign _ | with_reducible exact gn_told _ | with_reducible exact gn_takes _ | with_reducible exact gn_taken _)
local macro_rules | `(tactic| walk_at "B none") => `(tactic| first | with_reducible exact gb_len _ | with_reducible exact gb_range _ | with_reducible exact gb_chr _ | with_reducible exact gb_ord _ | with_reducible exact gb_min _ | with_reducible exact gb_int _ | with_reducible exact gb_list _ | with_reducible exact gb_enumerate _)
local macro_rules | `(tactic| walk_at "eval Name") => `(tactic| (refine' Mine.nm_built (by assumption) (by assumption) (by assumption) (by with_unfolding_all rfl) (by walk_at "B none") (by boot_by_name) ?_))
local macro_rules | `(tactic| walk_at "eval Name") => `(tactic| (refine' Mine.nm_glob (by assumption) (by assumption) (by assumption) (by with_unfolding_all rfl) (by walk_at "B glob") ?_))
local macro_rules | `(tactic| walk_at "eval Name") => `(tactic| (refine' Mine.nm_local (by assumption) (by assumption) (by with_unfolding_all rfl) (by walk_at "B look") ?_))
local macro_rules | `(tactic| walk_at "loadName") => `(tactic| (refine' Mine.ld_local (by assumption) (by assumption) (by with_unfolding_all rfl) (by walk_at "B look") ?_))
local macro_rules | `(tactic| walk_at "storeName") => `(tactic| (refine' Mine.st_local (by assumption) (by assumption) (by with_unfolding_all rfl) ?_; intro _ _))
local macro_rules | `(tactic| walk_at "newTuple") => `(tactic| (refine' Mine.newTup (by assumption) ?z ?_; (case z => first | exact Nat.le_of_ble_eq_true rfl | size_fits); intro _ _ _ _ _))
local macro_rules | `(tactic| walk_at "newList") => `(tactic| (refine' Mine.newLst (by assumption) ?z ?_; (case z => first | exact Nat.le_of_ble_eq_true rfl | size_fits); intro _ _ _ _ _))
local macro_rules | `(tactic| walk_at "B go") => `(tactic| repeat' (first | ((fail_if_success (first | (with_reducible show wpAny _ _ (subscriptTail _ _ _ _) _ _ _) | (with_reducible show wpAny _ _ (exec (Stmt.For _ _ _ _ _) _) _ _ _) | (with_reducible show wpAny _ _ (exec (Stmt.While _ _ _ _) _) _ _ _) | (walk_at "B stop"))); walk1) | (dsimp only)))
local macro_rules | `(tactic| walk_at "callWith") => `(tactic| first | (with_reducible refine PyProof.Rows.callWith_method1 ?_ (by with_unfolding_all rfl) (by with_unfolding_all rfl)) | (with_reducible refine PyProof.Rows.callWith_builtin1 ?_ (by with_unfolding_all rfl) (by with_unfolding_all rfl)))
local macro_rules | `(tactic| walk_at "B fn") => `(tactic| first | with_reducible exact fn_b1 (by assumption) | with_reducible exact fn_c11 (by assumption) | with_reducible exact fn_c4 (by assumption) | with_reducible exact fn_c6 (by assumption) | with_reducible exact fn_c7 (by assumption) | with_reducible exact fn_c8 (by assumption) | with_reducible exact fn_c9 (by assumption) | with_reducible exact fn_runs (by assumption) | with_reducible exact fn_asked (by assumption) | with_reducible exact fn_written (by assumption) | with_reducible exact fn_pattern (by assumption) | with_reducible exact fn_sign (by assumption) | with_reducible exact fn_told (by assumption) | with_reducible exact fn_takes (by assumption) | with_reducible exact fn_taken (by assumption) | with_reducible exact fn_translate (by assumption))
local macro_rules | `(tactic| walk_at "callWith ref") => `(tactic| (refine' Mine.cw_def (by walk_at "B fn") ?_))
local macro_rules | `(tactic| walk_at "Keep") => `(tactic| refine' Mine.keep_of (by assumption) ?_)
local macro_rules | `(tactic| walk_at "B sc") => `(tactic| (intro _ _ xx; have S' := Mine.St.ext (by assumption) xx; clear xx))
local macro_rules | `(tactic| walk_at "B led") => `(tactic| (refine' Mine.St.at (by with_reducible assumption) ?_; repeat' (first | (with_reducible exact List.mem_cons_self) | (with_reducible refine' List.mem_cons_of_mem _ ?_))))
local macro_rules | `(tactic| walk_at "B rep") => `(tactic| repeat' (first | (with_reducible exact Mine.Reps.nil) | (with_reducible refine' Mine.Reps.cons ?_ ?_) | (with_reducible refine' Mine.Rep.mkInt ?_; (first | rfl | omega)) | (with_reducible refine' Mine.Rep.mkTup (Mine.above_get.mpr ⟨by walk_at "B led", Nat.le_of_lt (by with_reducible assumption)⟩) ?_) | (with_reducible refine' Mine.Rep.mkList (Mine.above_get.mpr ⟨by walk_at "B led", Nat.le_of_lt (by with_reducible assumption)⟩) ?_)))
local macro_rules | `(tactic| walk_at "binaryOp Mod int int") => `(tactic| (refine' Mine.modN (by rfl) (by first | decide | omega | assumption) ?_; intro _ _))
local macro_rules | `(tactic| walk_at "binaryOp FloorDiv int int") => `(tactic| (refine' Mine.divN (by rfl) (by first | decide | omega | assumption) (by first | decide | omega | assumption) ?_; intro _ _))
local macro_rules | `(tactic| walk_at "B got") => `(tactic| first | (refine' Mine.St.got (by with_reducible assumption) ?_; with_reducible assumption) | (walk_at "B led"; done))
local macro_rules | `(tactic| walk_at "C step") => `(tactic| first | (with_reducible (first | refine PySem.wpAny_pure ?_ | refine PySem.wpAny_bind ?_ | refine PySem.wpAny_holding ?_ | refine PySem.wpAny_standAt ?_ | refine PySem.wpAny_point ?_ | refine PySem.wpAny_rule ?_ | refine PySem.wpAny_letGo ?_ | refine PySem.wpAny_mkInt' ?_ | refine PySem.wpAny_fresh' ?_ | refine PySem.wpAny_alloc' ?_ | refine PySem.wpAny_attempt ?_ | refine PySem.wpAny_throw ?_ | refine PySem.wpAny_of_eq (by assumption) ?_ | refine PySem.wpAny_typeOf (by assumption) ?_ | refine PySem.wpAny_specialOf_val (by assumption) (by assumption) ?_ | refine PySem.wpAny_specialOf (by assumption) (by assumption) ?_ | refine PySem.wpAny_isInstance_val (by assumption) (by assumption) ?_ | refine PySem.wpAny_isInstance (by assumption) (by assumption) ?_ | refine PySem.wpAny_call ?_ | refine PySem.wpAny_runValue ?_ | refine PySem.wpAny_run ?_)) | ((with_reducible apply PySem.wpAny_load'); focus (heap_get; done)) | ((with_reducible apply PySem.wpAny_update'); focus (heap_get; done)) | ((with_reducible apply PySem.wpAny_loadPart'); focus (heap_get; done)) | ((with_reducible apply PySem.wpAny_updatePart'); focus (heap_get; done)) | ((with_reducible apply PySem.wpAny_handled_none); focus (assumption; done)) | ((with_reducible apply PySem.wpAny_ite_false); focus (rfl; done)) | ((with_reducible apply PySem.wpAny_ite_true); focus (rfl; done)) | ((with_reducible apply PySem.wpAny_ite_false); focus (simp [*]; done)) | ((with_reducible apply PySem.wpAny_ite_true); focus (simp [*]; done)) | ((fail_if_success (with_reducible show wpAny _ _ (mkStr _) _ _ _)); wp_delta) | wp_step)
section
local macro_rules | `(tactic| omega) => `(tactic| lia)
theorem flush_6 : True := by first | walk1 | trivial
noncomputable section
noncomputable def intOf (e : Int × Value) : Int := match e.2 with
  | .int i _ => i
  | _ => 0
noncomputable def setGood (l : List (Int × Value)) : Bool := l.all fun e => match e.2 with
  | .int i _ => e.1 == hashInt i
  | _ => false
theorem setOf_ints {w : World} {h : Heap} {a : Addr} {es : Array (Int × Value)} {ep : Nat} {t : SetTable} (hg : h.get? a = some ⟨.type "set", none, .set es ep t, #[]⟩)
    (hs : setGood es.toList = true) (hn : es.size < scanBound) (hf : t.fits es.size = true) : h.SetOf (intKind PySem.Challenge.pw_ij0078_01 w) a (fun k => (es.toList.map intOf).contains k) es.size := by
  have hall : ∀ e ∈ es.toList, ∃ i u, e = (hashInt i, Value.int i u) := fun e he => by
    have := List.all_eq_true.mp hs e he
    obtain ⟨x, v⟩ := e
    cases v <;> simp at this
    subst this
    exact ⟨_, _, rfl⟩
  refine ⟨_, es, ep, t, hg, ⟨rfl, rfl, rfl⟩, rfl, fun e he => ?_, fun k => ?_, hn, hf, rfl⟩
  · obtain ⟨i, u, rfl⟩ := hall e he
    exact ⟨⟨i, intKind_is _ _ i u, rfl⟩, rfl⟩
  · rw [List.contains_iff_mem, List.mem_map]
    constructor
    · rintro ⟨e, he, rfl⟩
      refine ⟨e, he, ?_⟩
      obtain ⟨i, u, rfl⟩ := hall e he
      exact intKind_is _ _ i u
    · rintro ⟨e, he, hk⟩
      refine ⟨e, he, ?_⟩
      obtain ⟨i, u, rfl⟩ := hall e he
      simp only [intKind, Value.isInt] at hk
      simpa [intOf] using hk

theorem in_set {w : World} {A : Around} {s : Shared} {E : Value → Shared → Prop} {Q : Value → Shared → Prop} {imm : Heap} {a : Addr} {es : Array (Int × Value)} {ep : Nat} {t : SetTable} {c : Nat} {u : Tok} {b : Nat}
    (hx : Ext imm s.heap) (hg : imm.get? a = some ⟨.type "set", none, .set es ep t, #[]⟩) (hs : setGood es.toList = true) (hn : es.size < scanBound) (hf : t.fits es.size = true)
    (h1 : ((es.toList.map intOf).all fun k => (spansOf (runsN b)).any (inSpan k)) = true)
    (h2 : ((spansOf (runsN b)).all fun r => (List.range r.2).all fun (j : Nat) => (es.toList.map intOf).contains (r.1 + (j : Int))) = true)
    (h3 : ((runsN b).all fun r => decide (r.1 ≤ r.2)) = true)
    (h : Q (.bool (askedN b c)) { s with toks := s.toks + 1 }) : wpAny (MM w) A (compareOp .In (.int (c : Int) u) (.ref a)) Q E s := by
  refine wpAny_inSet_of (intKind_is _ w (c : Int) u) rfl (setOf_ints (hx _ _ hg) hs hn hf) ?_
  rw [contains_spans h1 h2, spans_runs h3]
  exact h

section
variable {w : World} {A : Around} {s : Shared} {E : Value → Shared → Prop} {Q : Value → Shared → Prop} {x : Nat} {t : Tok} {k : Nat}

theorem spec_b1 (B : Base w s.heap) (r : Room A (k + 1)) (hQ : ∀ h' tk, Ext s.heap h' → Q (.bool (askedN 0 x)) { s with heap := h', toks := tk }) : wpAny (MM w) A (call (.ref 73) [.str ⟨#[x]⟩ t]) Q E s := by
  obtain ⟨o, ho, hd⟩ := fn_b1 B
  refine call_def B r ho hd (cd_b1 B) (body := bodyP 9) rfl rfl cl_b1 (locs (by rfl)) ?_ rfl rfl rfl
  intro h₀ S
  have e : EnvOk (callEnv fd_b1 s.heap.objs.size 73) s.heap.objs.size := ⟨rfl, rfl, rfl, rfl⟩
  conv => arg 3; arg 1; whnf
  walk_at "B go"
  refine in_set S.keep (B.k 63 _ rfl) (by decide +kernel) (by decide +kernel) (by rfl) (b := 0) (by decide +kernel) (by decide +kernel) (by decide +kernel) ?_
  exact hQ _ _ S.keep
theorem spec_c6 (B : Base w s.heap) (r : Room A (k + 1)) (hQ : ∀ h' tk, Ext s.heap h' → Q (.bool (askedN 3 x)) { s with heap := h', toks := tk }) : wpAny (MM w) A (call (.ref 99) [.str ⟨#[x]⟩ t]) Q E s := by
  obtain ⟨o, ho, hd⟩ := fn_c6 B
  refine call_def B r ho hd (cd_c6 B) (body := bodyP 13) rfl rfl cl_c6 (locs (by rfl)) ?_ rfl rfl rfl
  intro h₀ S
  have e : EnvOk (callEnv fd_c6 s.heap.objs.size 99) s.heap.objs.size := ⟨rfl, rfl, rfl, rfl⟩
  conv => arg 3; arg 1; whnf
  walk_at "B go"
  refine in_set S.keep (B.k 89 _ rfl) (by decide +kernel) (by decide +kernel) (by rfl) (b := 3) (by decide +kernel) (by decide +kernel) (by decide +kernel) ?_
  exact hQ _ _ S.keep
theorem spec_c7 (B : Base w s.heap) (r : Room A (k + 1)) (hQ : ∀ h' tk, Ext s.heap h' → Q (.bool (askedN 4 x)) { s with heap := h', toks := tk }) : wpAny (MM w) A (call (.ref 111) [.str ⟨#[x]⟩ t]) Q E s := by
  obtain ⟨o, ho, hd⟩ := fn_c7 B
  refine call_def B r ho hd (cd_c7 B) (body := bodyP 15) rfl rfl cl_c7 (locs (by rfl)) ?_ rfl rfl rfl
  intro h₀ S
  have e : EnvOk (callEnv fd_c7 s.heap.objs.size 111) s.heap.objs.size := ⟨rfl, rfl, rfl, rfl⟩
  conv => arg 3; arg 1; whnf
  walk_at "B go"
  refine in_set S.keep (B.k 101 _ rfl) (by decide +kernel) (by decide +kernel) (by rfl) (b := 4) (by decide +kernel) (by decide +kernel) (by decide +kernel) ?_
  exact hQ _ _ S.keep
theorem spec_c8 (B : Base w s.heap) (r : Room A (k + 1)) (hQ : ∀ h' tk, Ext s.heap h' → Q (.bool (askedN 5 x)) { s with heap := h', toks := tk }) : wpAny (MM w) A (call (.ref 135) [.str ⟨#[x]⟩ t]) Q E s := by
  obtain ⟨o, ho, hd⟩ := fn_c8 B
  refine call_def B r ho hd (cd_c8 B) (body := bodyP 17) rfl rfl cl_c8 (locs (by rfl)) ?_ rfl rfl rfl
  intro h₀ S
  have e : EnvOk (callEnv fd_c8 s.heap.objs.size 135) s.heap.objs.size := ⟨rfl, rfl, rfl, rfl⟩
  conv => arg 3; arg 1; whnf
  walk_at "B go"
  refine in_set S.keep (B.k 125 _ rfl) (by decide +kernel) (by decide +kernel) (by rfl) (b := 5) (by decide +kernel) (by decide +kernel) (by decide +kernel) ?_
  exact hQ _ _ S.keep
theorem spec_c9 (B : Base w s.heap) (r : Room A (k + 1)) (hQ : ∀ h' tk, Ext s.heap h' → Q (.bool (askedN 6 x)) { s with heap := h', toks := tk }) : wpAny (MM w) A (call (.ref 153) [.str ⟨#[x]⟩ t]) Q E s := by
  obtain ⟨o, ho, hd⟩ := fn_c9 B
  refine call_def B r ho hd (cd_c9 B) (body := bodyP 19) rfl rfl cl_c9 (locs (by rfl)) ?_ rfl rfl rfl
  intro h₀ S
  have e : EnvOk (callEnv fd_c9 s.heap.objs.size 153) s.heap.objs.size := ⟨rfl, rfl, rfl, rfl⟩
  conv => arg 3; arg 1; whnf
  walk_at "B go"
  refine in_set S.keep (B.k 143 _ rfl) (by decide +kernel) (by decide +kernel) (by rfl) (b := 6) (by decide +kernel) (by decide +kernel) (by decide +kernel) ?_
  exact hQ _ _ S.keep
theorem spec_c11 (B : Base w s.heap) (r : Room A (k + 1)) (hQ : ∀ h' tk, Ext s.heap h' → Q (.bool (askedN 1 x)) { s with heap := h', toks := tk }) : wpAny (MM w) A (call (.ref 80) [.str ⟨#[x]⟩ t]) Q E s := by
  obtain ⟨o, ho, hd⟩ := fn_c11 B
  refine call_def B r ho hd (cd_c11 B) (body := bodyP 10) rfl rfl cl_c11 (locs (by rfl)) ?_ rfl rfl rfl
  intro h₀ S
  have e : EnvOk (callEnv fd_c11 s.heap.objs.size 80) s.heap.objs.size := ⟨rfl, rfl, rfl, rfl⟩
  conv => arg 3; arg 1; whnf
  walk_at "B go"
  have : (({ cps := #[x] } : Str) == Str.ofString " ") = askedN 1 x := by
    rw [show Str.ofString " " = Str.mk #[32] from by decide +kernel]
    by_cases hx : x = 32
    · subst hx; decide +kernel
    · have h1 : (Str.mk #[x] == Str.mk #[32]) = false := by
        rw [beq_eq_false_iff_ne]
        intro q
        have := congrArg (fun s : Str => s.cps.toList) q
        simp at this
        exact hx this
      have h2 : askedN 1 x = (inRun x (32, 32) || false) := rfl
      rw [h1, h2, Bool.or_false]
      unfold inRun
      symm
      rw [Bool.and_eq_false_iff, decide_eq_false_iff_not, decide_eq_false_iff_not]
      show ¬ 32 ≤ x ∨ ¬ x ≤ 32
      omega
  rw [this]
  exact hQ _ _ S.keep
theorem spec_c4 (hx : x ≤ 1114111) (B : Base w s.heap) (r : Room A (k + 1)) (hQ : ∀ h' tk, Ext s.heap h' → Q (.bool (askedN 2 x)) { s with heap := h', toks := tk }) : wpAny (MM w) A (call (.ref 87) [.str ⟨#[x]⟩ t]) Q E s := by
  obtain ⟨o, ho, hd⟩ := fn_c4 B
  refine call_def B r ho hd (cd_c4 B) (body := bodyP 11) rfl rfl cl_c4 (locs (by rfl)) ?_ rfl rfl rfl
  intro h₀ S
  have e : EnvOk (callEnv fd_c4 s.heap.objs.size 87) s.heap.objs.size := ⟨rfl, rfl, rfl, rfl⟩
  conv => arg 3; arg 1; whnf
  rw [← c4_asked hx] at hQ
  unfold c4N at hQ
  walk_at "B go"
  · rw [if_pos (show (x : Int) < 64976 by with_reducible assumption)] at hQ; exact hQ _ _ (St.keep (by assumption))
  · rw [if_neg (show ¬ ((x : Int) < 64976) by with_reducible assumption), if_pos (show (x : Int) < 65008 by with_reducible assumption)] at hQ; exact hQ _ _ (St.keep (by assumption))
  · rw [if_neg (show ¬ ((x : Int) < 64976) by with_reducible assumption), if_neg (show ¬ ((x : Int) < 65008) by with_reducible assumption)] at hQ
    refine in_tuple_ints (ns := [65534, 65535]) (tup_of (St.get0 (by assumption))) (IntsAre.cons _ _ (IntsAre.cons _ _ IntsAre.nil)) ?_
    have hb : Builtin.bitAnd (x : Int) 65535 = ((x &&& 65535 : Nat) : Int) := rfl
    have : ([65534, 65535] : List Int).any (· == Builtin.bitAnd (x : Int) 65535) = ((x &&& 65535) == 65534 || (x &&& 65535) == 65535) := by
      rw [hb]
      generalize x &&& 65535 = y
      rw [Bool.eq_iff_iff]
      simp only [List.any_cons, List.any_nil, Bool.or_false, Bool.or_eq_true, beq_iff_eq]
      omega
    first | rw [this] | skip
    exact hQ _ _ (St.keep (by assumption))
end
end
theorem flush_7 : True := by first | walk1 | trivial
noncomputable section
section
variable {w : World} {A : Around} {s : Shared} {E : Value → Shared → Prop} {Q : Value → Shared → Prop} {x : Nat} {t u : Tok} {k : Nat}
local macro_rules | `(tactic| walk_at "call ref") => `(tactic| first
    | (refine' Mine.spec_b1 (Mine.Base.ext (by assumption) (Mine.St.keep (by assumption))) (by assumption) ?_; walk_at "B sc")
    | (refine' Mine.spec_c11 (Mine.Base.ext (by assumption) (Mine.St.keep (by assumption))) (by assumption) ?_; walk_at "B sc")
    | (refine' Mine.spec_c4 (by assumption) (Mine.Base.ext (by assumption) (Mine.St.keep (by assumption))) (by assumption) ?_; walk_at "B sc")
    | (refine' Mine.spec_c6 (Mine.Base.ext (by assumption) (Mine.St.keep (by assumption))) (by assumption) ?_; walk_at "B sc")
    | (refine' Mine.spec_c7 (Mine.Base.ext (by assumption) (Mine.St.keep (by assumption))) (by assumption) ?_; walk_at "B sc")
    | (refine' Mine.spec_c8 (Mine.Base.ext (by assumption) (Mine.St.keep (by assumption))) (by assumption) ?_; walk_at "B sc")
    | (refine' Mine.spec_c9 (Mine.Base.ext (by assumption) (Mine.St.keep (by assumption))) (by assumption) ?_; walk_at "B sc"))
theorem spec_asked {tb : Nat} (htb : tb ≤ 6) (hx : x ≤ 1114111) (B : Base w s.heap) (r : Room A (k + 2)) (hQ : ∀ h' tk, Ext s.heap h' → Q (.bool (askedN tb x)) { s with heap := h', toks := tk }) :
    wpAny (MM w) A (call (.ref 165) [.int (tb : Int) u, .str ⟨#[x]⟩ t]) Q E s := by
  obtain ⟨o, ho, hd⟩ := fn_asked B
  refine call_def B r ho hd (cd_asked B) (body := bodyP 22) (binds := [("table", .int (tb : Int) u), ("sign", .str ⟨#[x]⟩ t)]) rfl rfl cl_asked (locs (by rfl)) ?_ rfl rfl rfl
  intro h₀ S
  have e : EnvOk (callEnv fd_asked s.heap.objs.size 165) s.heap.objs.size := ⟨rfl, rfl, rfl, rfl⟩
  have r' := r.deeper (callEnv fd_asked s.heap.objs.size 165)
  conv => arg 3; arg 1; whnf
  walk_at "B go"
  · obtain rfl : tb = 0 := by omega
    exact hQ _ _ (St.keep (by assumption))
  · obtain rfl : tb = 1 := by omega
    exact hQ _ _ (St.keep (by assumption))
  · obtain rfl : tb = 2 := by omega
    exact hQ _ _ (St.keep (by assumption))
  · obtain rfl : tb = 3 := by omega
    exact hQ _ _ (St.keep (by assumption))
  · obtain rfl : tb = 4 := by omega
    exact hQ _ _ (St.keep (by assumption))
  · obtain rfl : tb = 5 := by omega
    exact hQ _ _ (St.keep (by assumption))
  · obtain rfl : tb = 6 := by omega
    exact hQ _ _ (St.keep (by assumption))
end
end
theorem flush_8 : True := by first | walk1 | trivial
noncomputable section
noncomputable def pairD (r : Nat × Nat) : D := .tup [.int r.1, .int r.2]
noncomputable def runsD (t : Nat) : D := .list ((runsN t).map pairD)
section
variable {w : World} {A : Around} {s : Shared} {E : Value → Shared → Prop} {Q : Value → Shared → Prop} {x : Nat} {t u : Tok} {k : Nat}
inductive PairsE : List Expr → List (Nat × Nat) → Prop
  | nil : PairsE [] []
  | cons {i j : Int} {a b k k1 k2 : Nat} {p p1 p2 : Pos} {rest : List Expr} {ps : List (Nat × Nat)} : i = (a : Int) → j = (b : Int) → PairsE rest ps →
      PairsE (.Tuple [.Constant (.int i) k1 p1, .Constant (.int j) k2 p2] k p :: rest) ((a, b) :: ps)
theorem pairs_go {L : Addr} {mu : List (Addr × Obj)} {env : Env} {pos : Pos} {elts : List Expr} {ps : List (Nat × Nat)} (p : PairsE elts ps) : ∀ {s : Shared} {imm : Heap} {m : Str → Option Value} {Q : List Value → Shared → Prop}, St imm L m mu s.heap →
    (∀ vs imm' h' tk, Ext imm imm' → St imm' L m mu h' → Reps (above L imm') (ps.map pairD) vs → Q vs { s with heap := h', toks := tk }) → wpAny (MM w) A (spliced (backTo pos (starEach elts env))) Q E s := by
  induction p with
  | nil => intro s imm m Q S hQ; exact spliced_none (hQ [] imm _ _ (Ext.refl _) S Reps.nil)
  | cons hi hj _ ih =>
    intro s imm m Q S hQ
    subst hi hj
    refine spliced_more ?_
    refine Tuple_ ?_
    refine spliced_more (wpAny_Constant_int ?_)
    refine spliced_more (wpAny_Constant_int ?_)
    refine spliced_none ?_
    refine newTup S (Nat.le_of_ble_eq_true rfl) fun a h' S' _ hL => ?_
    obtain ⟨imm1, x1, S1, g1⟩ := S'.freeze0
    refine ih S1 fun vs imm' h'' tk x S2 hr => ?_
    exact hQ _ imm' h'' tk (x1.trans x) S2 (Reps.cons (Rep.mkTup (above_get.mpr ⟨x _ _ g1, Nat.le_of_lt hL⟩) (Reps.cons (Rep.mkInt rfl) (Reps.cons (Rep.mkInt rfl) Reps.nil))) hr)
theorem pairs_list {L : Addr} {mu : List (Addr × Obj)} {env : Env} {pos : Pos} {elts : List Expr} {ps : List (Nat × Nat)} {imm : Heap} {m : Str → Option Value} (p : PairsE elts ps) (hl : ps.length ≤ 100) (S : St imm L m mu s.heap)
    (hQ : ∀ a vs imm' h' tk, Ext imm imm' → St imm' L m mu h' → imm'.get? a = some (lstO vs 0) ∧ L < a ∧ Reps (above L imm') (ps.map pairD) vs → Q (.ref a) { s with heap := h', toks := tk }) :
    wpAny (MM w) A (eval (.List elts pos) env) Q E s := by
  refine List_ (pairs_go p S fun vs imm' h' tk x S' hr => ?_)
  have hlen : vs.length ≤ 100 := by have := hr.length; simp at this; omega
  refine newLst S' (Nat.le_trans hlen (Nat.le_of_ble_eq_true rfl)) fun a h'' S'' _ hL => ?_
  obtain ⟨imm1, x1, S1, g1⟩ := S''.freeze0
  exact hQ a vs imm1 _ _ (x.trans x1) S1 ⟨g1, hL, Reps.ext (fun c o e => let ⟨e1, e2⟩ := above_get.mp e; above_get.mpr ⟨x1 _ _ e1, e2⟩) _ _ hr⟩
local macro_rules | `(tactic| walk_at "eval List") => `(tactic| (refine' Mine.pairs_list ?pp ?pl (by with_reducible assumption) ?_; (case pp => (repeat' (first | (with_reducible exact Mine.PairsE.nil) | refine' Mine.PairsE.cons rfl rfl ?_))); (case pl => exact Nat.le_of_ble_eq_true rfl); intro _ _ _ _ _ _ _ _))
theorem spec_runs {tb : Nat} (htb : tb ≤ 6) (B : Base w s.heap) (r : Room A (k + 1)) (hQ : ∀ h' tk v, Ext s.heap h' → Rep (above s.heap.objs.size h') (runsD tb) v → Q v { s with heap := h', toks := tk }) :
    wpAny (MM w) A (call (.ref 158) [.int (tb : Int) u]) Q E s := by
  obtain ⟨o, ho, hd⟩ := fn_runs B
  refine call_def B r ho hd (cd_runs B) (body := bodyP 21) (binds := [("table", .int (tb : Int) u)]) rfl rfl cl_runs (locs (by rfl)) ?_ rfl rfl rfl
  intro h₀ S
  have e : EnvOk (callEnv fd_runs s.heap.objs.size 158) s.heap.objs.size := ⟨rfl, rfl, rfl, rfl⟩
  have r' := r.deeper (callEnv fd_runs s.heap.objs.size 158)
  conv => arg 3; arg 1; whnf
  refine wpAny_execs_cons ?_
  refine comp_assign (cl := []) (by rfl) (by rfl) rfl (by rfl) ?_
  walk_at "B go"
  refine range1 S fun rr h1 t1 u1 v1 tk1 S1 hr1 _ => ?_
  refine comp_range_as (n := 17) (fun _ ce => ce = []) (fun i => (planesN.take i).map pairD) e rfl r.1 S1 hr1 (by decide) (by decide +kernel) (by decide +kernel) (by rfl) (fun _ => rfl) rfl (fun i _ => by simp; omega) ?_ ?_
  · rintro N hN Cc Dd i v immT mT ce its ys kk h tk e' hC hi ⟨t', rfl⟩ xT rfl hys ST
    walk_at "B go"
    obtain ⟨imm2, x2, S2, g2⟩ := St.freeze0 (by with_reducible assumption)
    refine ⟨imm2, _, [], _, _, pairD (65536 * i + 65534, 65536 * i + 65535), rfl, x2, rfl, S2, ?_, ?_⟩
    · exact Rep.mkTup (above_get.mpr ⟨g2, Nat.le_trans hC (Nat.le_of_lt (by with_reducible assumption))⟩) (Reps.cons (Rep.mkInt (by omega)) (Reps.cons (Rep.mkInt (by omega)) Reps.nil))
    · have : planesN[i]? = some (65536 * i + 65534, 65536 * i + 65535) := by simp [planesN, hi]
      simp [List.take_add_one, this]
  · intro D h tk imm' ys k x S' hys hD
    walk_at "B go"
    rename_i aA vA iA hA tA xA SA gA aB vB iB hB tB xB SB gB aC vC iC hC tC xC SC gC
    refine addL SC (SC.keep _ _ gC.1) (by walk_at "B led") ?_ ?_
    · have h1 := hys.length
      have h2 := gC.2.2.length
      simp [planesN] at h1 h2
      rw [h1, h2]; exact Nat.le_of_ble_eq_true rfl
    intro cD h3 S3 x3 hL3
    obtain ⟨iD, xD, SD, gD⟩ := S3.freeze0
    clear S3
    walk_at "B go"
    rename_i aE vE iE hE tE xE SE gE aF vF iF hF tF xF SF gF aG vG iG hG tG xG SG gG aH vH iH hH tH xH SH gH oa ho Sf xo hLo
    have eF : Ext iF iH := xG.trans xH
    have eE : Ext iE iH := xF.trans eF
    have eD : Ext iD iH := xE.trans eE
    have eC : Ext iC iH := xD.trans eD
    have eB : Ext iB iH := xC.trans eC
    have eA : Ext iA iH := xB.trans eB
    have fin : ∀ {a vs n i} {ps : List (Nat × Nat)} (ex : Ext i iH) (g : i.get? a = some (lstO vs n)) (hL : s.heap.objs.size < a) (hr : Reps (above s.heap.objs.size i) (ps.map pairD) vs), Rep (above s.heap.objs.size ho) (.list (ps.map pairD)) (.ref a) :=
      fun ex g hL hr => Rep.mkList (above_get.mpr ⟨Sf.keep _ _ (ex _ _ g), Nat.le_of_lt hL⟩) (Reps.ext (fun b o q => let ⟨q1, q2⟩ := above_get.mp q; above_get.mpr ⟨Sf.keep _ _ (ex _ _ q1), q2⟩) _ _ hr)
    have done : ∀ v tk, Rep (above s.heap.objs.size ho) (runsD tb) v → Q v { heap := ho, gens := s.gens, drawn := s.drawn, toks := tk, os := s.os } :=
      fun v tk hv => hQ ho tk v ((x.trans (xA.trans eA)).trans Sf.keep) hv
    have led := Sf.at (List.mem_cons_self)
    have cases7 : tb = 0 ∨ tb = 1 ∨ tb = 2 ∨ tb = 3 ∨ tb = 4 ∨ tb = 5 ∨ tb = 6 := by omega
    rcases cases7 with rfl | rfl | rfl | rfl | rfl | rfl | rfl
    · exact subL (j := 0) led ⟨by simp, .inl rfl⟩ rfl (Nat.le_of_ble_eq_true rfl) (done _ _ (fin eA gA.1 gA.2.1 gA.2.2))
    · exact subL (j := 1) led ⟨by simp, .inl rfl⟩ rfl (Nat.le_of_ble_eq_true rfl) (done _ _ (fin eB gB.1 gB.2.1 gB.2.2))
    · refine subL (j := 2) led ⟨by simp, .inl rfl⟩ rfl (Nat.le_of_ble_eq_true rfl) (done _ _ ?_)
      show Rep _ (.list ([(64976, 65007)].map pairD ++ (planesN.take 17).map pairD)) _
      refine Rep.mkList (above_get.mpr ⟨Sf.keep _ _ (eD _ _ gD), Nat.le_of_lt hL3⟩) (Reps.append (Reps.ext (fun b o q => ?_) _ _ gC.2.2) (Reps.ext (fun b o q => ?_) _ _ hys))
      · obtain ⟨q1, q2⟩ := above_get.mp q
        exact above_get.mpr ⟨Sf.keep _ _ (eC _ _ q1), q2⟩
      · obtain ⟨q1, q2⟩ := above_get.mp q
        exact above_get.mpr ⟨Sf.keep _ _ (eA _ _ (xA _ _ q1)), Nat.le_trans (Nat.le_of_lt S1.ns.lt) q2⟩
    · exact subL (j := 3) led ⟨by simp, .inl rfl⟩ rfl (Nat.le_of_ble_eq_true rfl) (done _ _ (fin eE gE.1 gE.2.1 gE.2.2))
    · exact subL (j := 4) led ⟨by simp, .inl rfl⟩ rfl (Nat.le_of_ble_eq_true rfl) (done _ _ (fin eF gF.1 gF.2.1 gF.2.2))
    · exact subL (j := 5) led ⟨by simp, .inl rfl⟩ rfl (Nat.le_of_ble_eq_true rfl) (done _ _ (fin xH gG.1 gG.2.1 gG.2.2))
    · exact subL (j := 6) led ⟨by simp, .inl rfl⟩ rfl (Nat.le_of_ble_eq_true rfl) (done _ _ (fin (Ext.refl _) gH.1 gH.2.1 gH.2.2))
end
end
theorem flush_9 : True := by first | walk1 | trivial
noncomputable section
/-! Ints that are naturals; texts -/
section
variable {w : World} {A : Around} {s : Shared} {E : Value → Shared → Prop}
theorem addN {a bn : Nat} {b : Int} {t u : Tok} {Q : Value → Shared → Prop} (hb : b = (bn : Int)) (h : ∀ t tk, Q (.int ((a + bn : Nat) : Int) t) { s with toks := tk }) :
    wpAny (MM w) A (binaryOp .Add (.int (a : Int) t) (.int b u)) Q E s := by
  subst hb
  have := h s.toks (s.toks + 1)
  exact add_int (by simpa using this)
theorem iaddN {a bn : Nat} {b : Int} {t u : Tok} {Q : Value → Shared → Prop} (hb : b = (bn : Int)) (h : ∀ t tk, Q (.int ((a + bn : Nat) : Int) t) { s with toks := tk }) :
    wpAny (MM w) A (inplaceOp .Add (.int (a : Int) t) (.int b u)) Q E s := by
  subst hb
  have := h s.toks (s.toks + 1)
  exact iadd_int (by simpa using this)
theorem subN {a bn : Nat} {b : Int} {t u : Tok} {Q : Value → Shared → Prop} (hb : b = (bn : Int)) (hle : bn ≤ a) (h : ∀ t tk, Q (.int ((a - bn : Nat) : Int) t) { s with toks := tk }) :
    wpAny (MM w) A (binaryOp .Sub (.int (a : Int) t) (.int b u)) Q E s := by
  subst hb
  have := h s.toks (s.toks + 1)
  exact sub_int (by rwa [Int.ofNat_sub hle] at this)
theorem chrC {c : Nat} {t : Tok} {Q : Value → Shared → Prop} (hc : c ≤ 1114111) (h : ∀ t tk, Q (.str (strN [c]) t) { s with toks := tk }) : wpAny (MM w) A (call (.builtin "chr") [.int (c : Int) t]) Q E s :=
  chrN rfl hc h
theorem constS {x : Str} {l : List Nat} {k : Nat} {p : Pos} {env : Env} {Q : Value → Shared → Prop} (hx : x = strN l) (h : ∀ t tk, Q (.str (strN l) t) { s with toks := tk }) : wpAny (MM w) A (eval (.Constant (.str x) k p) env) Q E s := by
  subst hx
  exact wpAny_Constant_str (h _ _)
theorem strN_beq (a b : List Nat) : (strN a == strN b) = decide (a = b) := by
  rw [Bool.eq_iff_iff, beq_iff_eq, decide_eq_true_eq]
  constructor
  · intro e
    have := congrArg (fun s : Str => s.cps.toList) e
    simpa [strN] using this
  · rintro rfl; rfl
theorem eqS {a b : List Nat} {t u : Tok} {Q : Value → Shared → Prop} (h : Q (.bool (decide (a = b))) s) : wpAny (MM w) A (compareOp .Eq (.str (strN a) t) (.str (strN b) u)) Q E s := by
  rw [← strN_beq] at h
  exact eq_str h
theorem neS {a b : List Nat} {t u : Tok} {Q : Value → Shared → Prop} (h : Q (.bool (decide (a ≠ b))) s) : wpAny (MM w) A (compareOp .NotEq (.str (strN a) t) (.str (strN b) u)) Q E s := by
  refine ne_str ?_
  have : (strN a != strN b) = decide (a ≠ b) := by
    show (!(strN a == strN b)) = _
    rw [strN_beq]; simp
  rw [this]; exact h
end
theorem strN_star : Str.ofString "*" = strN [42] := by decide +kernel
theorem strN_ask : Str.ofString "?" = strN [63] := by decide +kernel
theorem strN_open : Str.ofString "[" = strN [91] := by decide +kernel
theorem strN_shut : Str.ofString "]" = strN [93] := by decide +kernel
theorem strN_bang : Str.ofString "!" = strN [33] := by decide +kernel
theorem strN_dot : Str.ofString "." = strN [46] := by decide +kernel
theorem strN_hat : Str.ofString "^" = strN [94] := by decide +kernel
theorem strN_bs : Str.ofString "\\" = strN [92] := by decide +kernel
theorem strN_bs2 : Str.ofString "\\\\" = strN [92, 92] := by decide +kernel
theorem strN_bsd : Str.ofString "\\-" = strN [92, 45] := by decide +kernel
theorem strN_bso : Str.ofString "\\[" = strN [92, 91] := by decide +kernel
theorem strN_no : Str.ofString "(?!)" = strN [40, 63, 33, 41] := by decide +kernel
theorem litN (n : Nat) : (@OfNat.ofNat Int n (@instOfNat n)) = ((@OfNat.ofNat Nat n (instOfNatNat n) : Nat) : Int) := rfl

/-! The ledger at any place -/
inductive At (a : Addr) (o o' : Obj) : List (Addr × Obj) → List (Addr × Obj) → Prop
  | here {mu} : At a o o' ((a, o) :: mu) ((a, o') :: mu)
  | there {x mu mu'} : At a o o' mu mu' → At a o o' (x :: mu) (x :: mu')
inductive Del (p : Addr × Obj) : List (Addr × Obj) → List (Addr × Obj) → Prop
  | here {mu} : Del p (p :: mu) mu
  | there {x mu mu'} : Del p mu mu' → Del p (x :: mu) (x :: mu')
theorem At.mem {a : Addr} {o o' : Obj} {mu mu' : List (Addr × Obj)} (p : At a o o' mu mu') : (a, o) ∈ mu := by
  induction p with
  | here => exact .head _
  | there _ ih => exact .tail _ ih
theorem At.keys {a : Addr} {o o' : Obj} {mu mu' : List (Addr × Obj)} (p : At a o o' mu mu') : mu'.map (·.1) = mu.map (·.1) := by
  induction p with
  | here => rfl
  | there _ ih => simp [ih]
theorem At.split {a : Addr} {o o' : Obj} {mu mu' : List (Addr × Obj)} (p : At a o o' mu mu') (nd : (mu.map (·.1)).Nodup) : ∀ q ∈ mu', (q ∈ mu ∧ q.1 ≠ a) ∨ q = (a, o') := by
  induction p with
  | here =>
    intro q hq
    rw [List.map_cons, List.nodup_cons] at nd
    rcases List.mem_cons.mp hq with rfl | hq
    · exact .inr rfl
    · exact .inl ⟨.tail _ hq, fun e => nd.1 (List.mem_map.mpr ⟨q, hq, e⟩)⟩
  | there p ih =>
    intro q hq
    rw [List.map_cons, List.nodup_cons] at nd
    rcases List.mem_cons.mp hq with rfl | hq
    · exact .inl ⟨.head _, fun e => nd.1 (List.mem_map.mpr ⟨_, p.mem, e.symm⟩)⟩
    · rcases ih nd.2 q hq with ⟨a, b⟩ | h
      · exact .inl ⟨.tail _ a, b⟩
      · exact .inr h
theorem Del.mem {p : Addr × Obj} {mu mu' : List (Addr × Obj)} (d : Del p mu mu') : p ∈ mu := by
  induction d with
  | here => exact .head _
  | there _ ih => exact .tail _ ih
theorem Del.sub {p : Addr × Obj} {mu mu' : List (Addr × Obj)} (d : Del p mu mu') : mu'.Sublist mu := by
  induction d with
  | here => exact List.sublist_cons_self _ _
  | there _ ih => exact ih.cons_cons _
theorem Del.perm {p : Addr × Obj} {mu mu' : List (Addr × Obj)} (d : Del p mu mu') : mu.Perm (p :: mu') := by
  induction d with
  | here => exact List.Perm.refl _
  | there _ ih => exact (ih.cons _).trans (List.Perm.swap _ _ _)
section
variable {imm h h' : Heap} {L : Addr} {m : Str → Option Value} {mu mu' : List (Addr × Obj)}
theorem St.updA {a : Addr} {o o' : Obj} (S : St imm L m mu h) (p : At a o o' mu mu') (hs : Heap.SameBut a h h') (hg : h'.get? a = some o') : St imm L m mu' h' := by
  have z := S.mem _ p.mem
  exact S.updAt z.2.1 z.2.2 hs hg (p.split S.nodup) (by rw [p.keys]; exact S.nodup)
theorem St.freezeD {a : Addr} {o : Obj} (S : St imm L m mu h) (d : Del (a, o) mu mu') : ∃ imm', Ext imm imm' ∧ St imm' L m mu' h ∧ imm'.get? a = some o := (S.perm d.perm).freeze0
/-- a made object is laid into what stays; the rest of the ledger is left -/
theorem St.lay {a : Addr} {o : Obj} (S : St imm L m mu h) (hp : (a, o) ∈ mu) (hs : mu'.Sublist mu) (hn : a ∉ mu'.map (·.1)) : ∃ imm', Ext imm imm' ∧ St imm' L m mu' h ∧ imm'.get? a = some o := by
  have z := S.mem _ hp
  obtain ⟨imm', x, S', hk⟩ := (S.drop hs).freeze
  exact ⟨imm', x, S', hk a o z.1 z.2.1 fun p hp e => hn (List.mem_map.mpr ⟨p, hp, e⟩)⟩
end
section
variable {w : World} {A : Around} {s : Shared} {E : Value → Shared → Prop} {imm : Heap} {L : Addr} {m : Str → Option Value} {mu mu' : List (Addr × Obj)}
theorem gm_append {l : Addr} {vs : List Value} {n : Nat} {pl : Sem Bool} {Q : Value × List Value → Shared → Prop} (hg : s.heap.get? l = some (lstO vs n)) (h : Q (.builtin "list.append", [.ref l]) s) :
    wpAny (MM w) A (getMethod (.ref l) "append" pl) Q E s := getMethod_list_append hg rfl rfl h
theorem appendL {mu' : Nat → List (Addr × Obj)} {a : Addr} {vs : List Value} {n : Nat} {x : Value} {Q : Value → Shared → Prop} (S : St imm L m mu s.heap) (p : ∀ n', At a (lstO vs n) (lstO (vs ++ [x]) n') mu (mu' n')) (hsz : vs.length ≤ sizeLine)
    (h : ∀ h' n', St imm L m (mu' n') h' → Q .none { s with heap := h' }) : wpAny (MM w) A (call (.builtin "list.append") [.ref a, x]) Q E s :=
  list_append_at (S.mem _ (p 0).mem).1 hsz fun h' k' g hs => h h' k' (S.updA (p k') hs g)
theorem setA {mu' : Nat → List (Addr × Obj)} {a : Addr} {vs : List Value} {n : Nat} {i : Int} {t : Tok} {x : Value} {j : Nat} {Q : Unit → Shared → Prop} (S : St imm L m mu s.heap) (p : ∀ n', At a (lstO vs n) (lstO (vs.set j x) n') mu (mu' n')) (hi : AtPlace i vs.length j) (hsz : vs.length ≤ sizeLine)
    (h : ∀ h' n', St imm L m (mu' n') h' → Q () { s with heap := h' }) : wpAny (MM w) A (setItem (.ref a) (.int i t) x) Q E s :=
  setL (S.mem _ (p 0).mem).1 hi hsz fun h' k' g hs => h h' k' (S.updA (p k') hs g)
theorem upk {t : Addr} {vs : List Value} {n k : Nat} {Q : List Value → Shared → Prop} (hh : A.handled = none) (S : St imm L m mu s.heap) (hg : s.heap.get? t = some (tupO vs k)) (hn : n = vs.length)
    (h : ∀ h', St imm L m mu h' → Ext s.heap h' → Q vs { s with heap := h' }) : wpAny (MM w) A (unpackItems (.ref t) n none) Q E s := by
  subst hn
  refine unpackItems_tuple (items := vs.toArray) hh (tup_of hg) fun h' he => ?_
  have hx : ∀ b o, b ∉ [s.heap.objs.size] → s.heap.get? b = some o → h'.get? b = some o := fun b o hb e => he b o (fun q => hb (by simp [q])) e
  exact h h' (S.extOff (off_new S) hx) fun b o e => he b o (Nat.ne_of_lt (Heap.lt_size e)) e
theorem in_order2 {ops : List (Value → Sem Unit)} {vals : List Value} {o1 o2 : Value → Sem Unit} {v1 v2 : Value} {Q : Unit → Shared → Prop} (ho : ops = [o1, o2]) (hv : vals = [v1, v2])
    (h : wpAny (MM w) A (o1 v1) (fun _ s1 => wpAny (MM w) A (o2 v2) Q E s1) E s) : wpAny (MM w) A (assignInOrder ops vals) Q E s := by
  subst ho hv
  exact wpAny_bind (wpAny_holding (wpAny_mono h (fun _ s1 q => wpAny_bind (wpAny_holding (wpAny_mono q (fun _ s2 q2 => wpAny_pure q2) fun _ _ e => e))) fun _ _ e => e))
end
end
theorem flush_10 : True := by first | walk1 | trivial
noncomputable section
/-! Cuts of texts -/
noncomputable def clipN (n : Nat) (i : Int) : Nat := if i < 0 then (i + n).toNat else min i.toNat n
noncomputable def clipO (n d : Nat) : Option Int → Nat
  | none => d
  | some i => clipN n i
theorem pick_take (l : List Nat) (a : Nat) : ∀ c, a + c ≤ l.length → ((List.range c).map (fun k => a + k)).filterMap (fun k => l[k]?) = (l.drop a).take c := by
  intro c
  induction c with
  | zero => intro _; simp
  | succ c ih =>
    intro h
    rw [List.range_succ, List.map_append, List.filterMap_append, ih (by omega), List.take_add_one]
    congr 1
    have : l[a + c]? = some (l[a + c]'(by omega)) := List.getElem?_eq_getElem (by omega)
    simp [List.getElem?_drop, this]
theorem clip_le {n d : Nat} (hd : d ≤ n) (o : Option Int) : clipO n d o ≤ n := by
  cases o with
  | none => exact hd
  | some i =>
    show clipN n i ≤ n
    unfold clipN
    by_cases h : i < 0
    · rw [if_pos h]; omega
    · rw [if_neg h]; omega
theorem slice_strN (l : List Nat) (lo hi : Option Int) : Txt.slice (strN l) lo hi = strN ((l.take (clipO l.length l.length hi)).drop (clipO l.length 0 lo)) := by
  have hlen : (strN l).length = l.length := strN_len l
  have hidx : Builtin.Str.strSliceIndices lo hi 1 l.length = (List.range (clipO l.length l.length hi - clipO l.length 0 lo)).map (fun k => clipO l.length 0 lo + k) := by
    have e1 : ∀ (o : Option Int) (d : Nat), ((match o with | none => (d : Int) | some i => let i := if i < 0 then i + (l.length : Int) else i; max 0 (min i (l.length : Int))) : Int) = (clipO l.length d o : Nat) := by
      intro o d
      cases o with
      | none => rfl
      | some i =>
        simp only [clipO, clipN]
        split <;> omega
    have e2 : Builtin.Str.strSliceIndices lo hi 1 l.length = sliceRange (clipO l.length 0 lo : Nat) (clipO l.length l.length hi : Nat) 1 := by
      unfold Builtin.Str.strSliceIndices
      simp only [show (1 : Int) > 0 by decide, if_true]
      congr 1
      · exact e1 lo 0
      · exact e1 hi l.length
    rw [e2]
    unfold sliceRange
    simp only [show (1 : Int) > 0 by decide, if_true, Int.ediv_one]
    have hc : (if ((clipO l.length 0 lo : Nat) : Int) < ((clipO l.length l.length hi : Nat) : Int) then ((clipO l.length l.length hi : Nat) : Int) - ((clipO l.length 0 lo : Nat) : Int) + 1 - 1 else 0).toNat = clipO l.length l.length hi - clipO l.length 0 lo := by
      split <;> omega
    rw [hc]
    apply List.map_congr_left
    intro k _
    omega
  have hle : clipO l.length l.length hi ≤ l.length := clip_le (Nat.le_refl _) hi
  have hle0 : clipO l.length 0 lo ≤ l.length := clip_le (Nat.zero_le _) lo
  generalize clipO l.length l.length hi = b at *
  generalize clipO l.length 0 lo = a at *
  unfold Txt.slice
  rw [hlen, hidx]
  by_cases hw : b - a = l.length
  · have ha : a = 0 ∨ l.length = 0 := by omega
    have hif : ((1 : Int) == 1 && (List.map (fun k => a + k) (List.range (b - a))).length == l.length) = true := by simp [hw]
    rw [if_pos hif]
    rcases ha with ha | ha
    · subst ha
      have : b = l.length := by omega
      subst this
      simp
    · have : l = [] := List.length_eq_zero_iff.mp ha
      subst this; simp
  · have hif : ¬ ((1 : Int) == 1 && (List.map (fun k => a + k) (List.range (b - a))).length == l.length) = true := by simp [hw]
    rw [if_neg hif]
    have hcps : ∀ k : Nat, (strN l).cps[k]? = l[k]? := fun k => by simp [strN]
    rw [show (fun x : Nat => (strN l).cps[x]?) = fun x : Nat => l[x]? from funext hcps]
    unfold strN
    congr 2
    rcases Nat.lt_or_ge a b with hab | hab
    · rw [pick_take l a (b - a) (by omega), List.drop_take]
    · have : b - a = 0 := by omega
      rw [this]
      have : (List.take b l).length ≤ a := by rw [List.length_take]; omega
      rw [List.drop_eq_nil_of_le this]
      rfl

section
variable {w : World} {A : Around} {s : Shared} {E : Value → Shared → Prop} {imm : Heap} {L : Addr} {m : Str → Option Value} {mu : List (Addr × Obj)} {value slice : Expr}
theorem keptSt : KeptH (St imm L m mu) := fun h ob S => S.push ob
theorem sliceS_ns {hp : Heap} {l : List Nat} {t : Tok} {j : Int} {uj : Tok} {Q : Value → Shared → Prop} (S : St imm L m mu hp) (hsz : l.length ≤ sizeLine) (e : s.heap = hp.push { cls := .type "slice", data := .fields #[.none, .int j uj, .none] })
    (h : ∀ h' t' tk, St imm L m mu h' → Q (.str (strN (l.take (clipN l.length j))) t') { s with heap := h', toks := tk })
    (hs : subscripted slice false (.str (strN l) t) (.ref hp.objs.size) = operate [.ref hp.objs.size, .str (strN l) t] (getItem (.str (strN l) t) (.ref hp.objs.size)) := by with_unfolding_all rfl)
    (ht : ∀ r, letTemporaryGo value (.str (strN l) t) r = pure () := by intro _; with_unfolding_all rfl) :
    wpAny (MM w) A (subscriptTail value slice (.str (strN l) t) (.ref hp.objs.size)) Q E s := by
  have := tail_of_ItemOn (M := MM w) (A := A) (E := E) (value := value) (slice := slice) (SBH.sliceItem_ns (prog := PySem.Challenge.pw_ij0078_01) (w := w) (A := A) (s := { s with heap := hp }) (x := strN l) (t := t) (j := j) (uj := uj) (Q := Q) keptSt S (fun h' t' k S' => by rw [slice_strN]; exact h h' t' k S') (by rw [strN_len]; exact hsz)) hs ht
  dsimp only at this
  rw [← e] at this
  exact this
theorem sliceS_sn {hp : Heap} {l : List Nat} {t : Tok} {i : Int} {ui : Tok} {Q : Value → Shared → Prop} (S : St imm L m mu hp) (hsz : l.length ≤ sizeLine) (e : s.heap = hp.push { cls := .type "slice", data := .fields #[.int i ui, .none, .none] })
    (h : ∀ h' t' tk, St imm L m mu h' → Q (.str (strN (l.drop (clipN l.length i))) t') { s with heap := h', toks := tk })
    (hs : subscripted slice false (.str (strN l) t) (.ref hp.objs.size) = operate [.ref hp.objs.size, .str (strN l) t] (getItem (.str (strN l) t) (.ref hp.objs.size)) := by with_unfolding_all rfl)
    (ht : ∀ r, letTemporaryGo value (.str (strN l) t) r = pure () := by intro _; with_unfolding_all rfl) :
    wpAny (MM w) A (subscriptTail value slice (.str (strN l) t) (.ref hp.objs.size)) Q E s := by
  have := tail_of_ItemOn (M := MM w) (A := A) (E := E) (value := value) (slice := slice) (SBH.sliceItem_sn (prog := PySem.Challenge.pw_ij0078_01) (w := w) (A := A) (s := { s with heap := hp }) (x := strN l) (t := t) (i := i) (ui := ui) (Q := Q) keptSt S (fun h' t' k S' => by rw [slice_strN]; have := h h' t' k S'; simpa [clipO] using this) (by rw [strN_len]; exact hsz)) hs ht
  dsimp only at this
  rw [← e] at this
  exact this
theorem sliceS_ss {hp : Heap} {l : List Nat} {t : Tok} {i j : Int} {ui uj : Tok} {Q : Value → Shared → Prop} (S : St imm L m mu hp) (hsz : l.length ≤ sizeLine) (e : s.heap = hp.push { cls := .type "slice", data := .fields #[.int i ui, .int j uj, .none] })
    (h : ∀ h' t' tk, St imm L m mu h' → Q (.str (strN ((l.take (clipN l.length j)).drop (clipN l.length i))) t') { s with heap := h', toks := tk })
    (hs : subscripted slice false (.str (strN l) t) (.ref hp.objs.size) = operate [.ref hp.objs.size, .str (strN l) t] (getItem (.str (strN l) t) (.ref hp.objs.size)) := by with_unfolding_all rfl)
    (ht : ∀ r, letTemporaryGo value (.str (strN l) t) r = pure () := by intro _; with_unfolding_all rfl) :
    wpAny (MM w) A (subscriptTail value slice (.str (strN l) t) (.ref hp.objs.size)) Q E s := by
  have := tail_of_ItemOn (M := MM w) (A := A) (E := E) (value := value) (slice := slice) (SBH.sliceItem_ss (prog := PySem.Challenge.pw_ij0078_01) (w := w) (A := A) (s := { s with heap := hp }) (x := strN l) (t := t) (i := i) (ui := ui) (j := j) (uj := uj) (Q := Q) keptSt S (fun h' t' k S' => by rw [slice_strN]; exact h h' t' k S') (by rw [strN_len]; exact hsz)) hs ht
  dsimp only at this
  rw [← e] at this
  exact this
theorem subS {l : List Nat} {t : Tok} {i : Int} {u : Tok} {c j : Nat} {Q : Value → Shared → Prop} (hi : AtPlace i l.length j) (hx : l[j]? = some c) (hsz : l.length ≤ sizeLine) (h : ∀ t tk, Q (.str (strN [c]) t) { s with toks := tk })
    (hs : subscripted slice false (.str (strN l) t) (.int i u) = operate [.str (strN l) t, .int i u] (getItem (.str (strN l) t) (.int i u)) := by with_unfolding_all rfl)
    (ht : ∀ r, letTemporaryGo value (.str (strN l) t) r = pure () := by intro _; with_unfolding_all rfl) :
    wpAny (MM w) A (subscriptTail value slice (.str (strN l) t) (.int i u)) Q E s := by
  have hz : (sizeLine : Int) < 2 ^ 62 := by decide +kernel
  have hlen : (strN l).length = l.length := strN_len l
  have hcps : (strN l).cps[j]? = l[j]? := by simp [strN]
  have hidx : seqIndex? i (strN l).length = some j := by
    unfold seqIndex?
    rw [hlen]
    obtain ⟨hj, rfl | rfl⟩ := hi
    · simp only [show ¬ ((j : Int) < 0) by omega, if_false]
      rw [if_pos (by simp only [Bool.and_eq_true, decide_eq_true_eq]; omega)]
      simp
    · simp only [show ((j : Int) - l.length < 0) by omega, if_true]
      rw [if_pos (by simp only [Bool.and_eq_true, decide_eq_true_eq]; omega)]
      congr 1; omega
  have hit : Txt.item (strN l) i = strN [c] := by
    have : Txt.charAt (strN l) i = some c := by
      show (seqIndex? i (strN l).length).bind ((strN l).cps[·]?) = some c
      rw [hidx]
      exact hcps.trans hx
    unfold Txt.item
    rw [this]
    rfl
  have := item_str (prog := PySem.Challenge.pw_ij0078_01) (w := w) (A := A) (E := E) (s := s) (value := value) (slice := slice) (x := strN l) (t := t) (u := u) (i := i) (Q := Q) (by
    unfold fitsSsize
    obtain ⟨hj, rfl | rfl⟩ := hi <;> simp <;> omega) (by rw [hlen]; obtain ⟨hj, rfl | rfl⟩ := hi <;> omega) (by rw [hlen]; obtain ⟨hj, rfl | rfl⟩ := hi <;> omega) (fun _ => by rw [hit]; exact h _ _) hs ht
  exact this
end
section
variable {w : World} {A : Around} {s : Shared} {E : Value → Shared → Prop}
theorem truthyL {a : Addr} {vs : List Value} {n : Nat} {Q : Bool → Shared → Prop} (hg : s.heap.get? a = some (lstO vs n)) (hsz : vs.length ≤ sizeLine) (h : ∀ tk, Q (decide (vs ≠ [])) { s with toks := tk }) : wpAny (MM w) A (truthy (.ref a)) Q E s := by
  have hz : (sizeLine : Int) < 2 ^ 62 := by decide +kernel
  refine wpAny_truthy_list (lst_of hg) (by simp only [List.size_toArray]; omega) ?_
  have : (!vs.toArray.isEmpty) = decide (vs ≠ []) := by cases vs <;> simp
  rw [this]; exact h _
theorem truthyS {l : List Nat} {t : Tok} {Q : Bool → Shared → Prop} (hsz : l.length ≤ sizeLine) (h : ∀ tk, Q (decide (l ≠ [])) { s with toks := tk }) : wpAny (MM w) A (truthy (.str (strN l) t)) Q E s := by
  have hz : (sizeLine : Int) < 2 ^ 62 := by decide +kernel
  refine P.truthy_str (by rw [strN_len]; omega) ?_
  have : (((strN l).length : Int) != 0) = decide (l ≠ []) := by rw [strN_len]; cases l <;> simp <;> omega
  rw [this]; exact h _
theorem lenS {l : List Nat} {t : Tok} {Q : Value → Shared → Prop} (hsz : l.length ≤ sizeLine) (h : ∀ t tk, Q (.int (l.length : Int) t) { s with toks := tk }) : wpAny (MM w) A (call (.builtin "len") [.str (strN l) t]) Q E s := by
  have hz : (sizeLine : Int) < 2 ^ 62 := by decide +kernel
  refine len_str (by rw [strN_len]; omega) ?_
  rw [strN_len]; exact h _ _
theorem found_strN (l : List Nat) (c : Nat) : (!(Builtin.Str.occurrences (strN l) (strN [c]) 0 (strN l).length 1).isEmpty) = decide (c ∈ l) := by
  refine (StrLaws.found_one (strN l) c).trans ?_
  rw [decide_eq_decide]
  simp [strN]
theorem inS {l : List Nat} {c : Nat} {t u : Tok} {Q : Value → Shared → Prop} (h : Q (.bool (decide (c ∈ l))) s) : wpAny (MM w) A (compareOp .In (.str (strN [c]) u) (.str (strN l) t)) Q E s := by
  refine in_str ?_
  rw [found_strN]; exact h
theorem notInS {l : List Nat} {c : Nat} {t u : Tok} {Q : Value → Shared → Prop} (h : Q (.bool (decide (c ∉ l))) s) : wpAny (MM w) A (compareOp .NotIn (.str (strN [c]) u) (.str (strN l) t)) Q E s := by
  refine notIn_str ?_
  rw [found_strN]
  have : (!decide (c ∈ l)) = decide (c ∉ l) := by simp
  rw [this]; exact h
end
end
theorem flush_11 : True := by first | walk1 | trivial
noncomputable section
/-! while; texts of one sign in order -/
noncomputable def WBack (s : Shared) (J : Nat → Heap → (Str → Option Value) → List (Addr × Obj) → Prop) (L : Addr) (imm₁ : Heap) (i : Nat) (s₃ : Shared) : Prop :=
  ∃ j imm₂ m₂ mu₂ h₂ tk₂, s₃ = { s with heap := h₂, toks := tk₂ } ∧ j < i ∧ Ext imm₁ imm₂ ∧ J j imm₂ m₂ mu₂ ∧ St imm₂ L m₂ mu₂ h₂
section
variable {w : World} {A : Around} {s : Shared} {E : Value → Shared → Prop} {imm : Heap} {L : Addr} {m : Str → Option Value} {mu : List (Addr × Obj)} {env : Env}
theorem while_at {test : Expr} {body : List Stmt} {pos : Pos} {Q : Flow → Shared → Prop} (J : Nat → Heap → (Str → Option Value) → List (Addr × Obj) → Prop) (n : Nat) (S : St imm L m mu s.heap) (j0 : J n imm m mu)
    (turn : ∀ i imm₁ m₁ mu₁ h tk, Ext imm imm₁ → J i imm₁ m₁ mu₁ → St imm₁ L m₁ mu₁ h →
      wpAny (MM w) A (isTrue test env (eval test env)) (fun b s₂ => if b = true then wpAny (MM w) A (execs body env) (fun f s₃ => match f with
        | .next | .cont => WBack s J L imm₁ i s₃
        | .brk => Q .next s₃
        | .ret v => Q (.ret v) s₃) Bot s₂ else Q .next s₂) Bot { s with heap := h, toks := tk }) :
    wpAny (MM w) A (exec (.While test body [] pos) env) Q E s := by
  refine wpAny_While (codeAny_whileLoop (fun k s' => ∃ imm₁ m₁ mu₁ h tk, s' = { s with heap := h, toks := tk } ∧ Ext imm imm₁ ∧ J k imm₁ m₁ mu₁ ∧ St imm₁ L m₁ mu₁ h) ?_ n ⟨imm, m, mu, s.heap, s.toks, rfl, Ext.refl _, j0, S⟩)
  rintro k s' ⟨imm₁, m₁, mu₁, h, tk, rfl, x, j, S⟩
  refine wpAny_mono (turn k imm₁ m₁ mu₁ h tk x j S) (fun b s₂ h₂ => ?_) fun _ _ f => f.elim
  cases b with
  | true =>
    simp only [if_true] at h₂ ⊢
    refine wpAny_mono h₂ (fun f s₃ h₃ => ?_) fun _ _ f => f.elim
    have back : WBack s J L imm₁ k s₃ → ∃ m, m < k ∧ ∃ imm₁ m₁ mu₁ h tk, s₃ = { s with heap := h, toks := tk } ∧ Ext imm imm₁ ∧ J m imm₁ m₁ mu₁ ∧ St imm₁ L m₁ mu₁ h := by
      rintro ⟨j, imm₂, m₂, mu₂, h₂, tk₂, rfl, hj, x₂, j₂, S₂⟩
      exact ⟨j, hj, imm₂, m₂, mu₂, h₂, tk₂, rfl, x.trans x₂, j₂, S₂⟩
    cases f with
    | next => exact back h₃
    | cont => exact back h₃
    | brk => exact h₃
    | ret v => exact h₃
  | false =>
    simp only [Bool.false_eq_true, if_false] at h₂ ⊢
    exact wpAny_execs_nil h₂
theorem one_lt {a b : Nat} : ((strN [b]).cps.toList < (strN [a]).cps.toList) ↔ b < a := by
  show ([b] : List Nat) < [a] ↔ _
  rw [List.cons_lt_cons_iff]
  constructor
  · rintro (h | ⟨_, h⟩)
    · exact h
    · exact absurd h (List.not_lt_nil _)
  · exact .inl
theorem gt1 {a b : Nat} {t u : Tok} {Q : Value → Shared → Prop} (h : Q (.bool (decide (b < a))) s) : wpAny (MM w) A (compareOp .Gt (.str (strN [a]) t) (.str (strN [b]) u)) Q E s := by
  refine P.gt_str ?_
  have : decide ((strN [b]).cps.toList < (strN [a]).cps.toList) = decide (b < a) := by
    rw [decide_eq_decide]; exact one_lt
  rw [this]; exact h
theorem le1 {a b : Nat} {t u : Tok} {Q : Value → Shared → Prop} (h : Q (.bool (decide (a ≤ b))) s) : wpAny (MM w) A (compareOp .LtE (.str (strN [a]) t) (.str (strN [b]) u)) Q E s := by
  refine P.le_str ?_
  have : (!decide ((strN [b]).cps.toList < (strN [a]).cps.toList)) = decide (a ≤ b) := by
    rw [Bool.eq_iff_iff]
    simp only [Bool.not_eq_true', decide_eq_false_iff_not, decide_eq_true_eq, one_lt]
    omega
  rw [this]; exact h
end
theorem cutN (l : List Nat) (a b : Nat) : (l.take (clipN l.length (b : Int))).drop (clipN l.length (a : Int)) = (l.drop a).take (b - a) := by
  have h1 : clipN l.length (b : Int) = min b l.length := by unfold clipN; rw [if_neg (by omega)]; simp
  have h2 : clipN l.length (a : Int) = min a l.length := by unfold clipN; rw [if_neg (by omega)]; simp
  rw [h1, h2, ← List.drop_take]
  have h3 : l.take (min b l.length) = l.take b := by
    rcases Nat.le_total b l.length with h | h
    · rw [Nat.min_eq_left h]
    · rw [Nat.min_eq_right h, List.take_of_length_le (Nat.le_refl _), List.take_of_length_le h]
  rw [h3]
  rcases Nat.le_total a l.length with h | h
  · rw [Nat.min_eq_left h]
  · rw [Nat.min_eq_right h, List.drop_of_length_le (by simp; omega), List.drop_of_length_le (by simp; omega)]
theorem midN (x y : Nat) (m : List Nat) : ((x :: (m ++ [y])).take (clipN (x :: (m ++ [y])).length (-1))).drop (clipN (x :: (m ++ [y])).length (1 : Int)) = m := by
  have h1 : clipN (x :: (m ++ [y])).length (-1) = m.length + 1 := by unfold clipN; rw [if_pos (by omega)]; simp; omega
  have h2 : clipN (x :: (m ++ [y])).length (1 : Int) = 1 := by unfold clipN; rw [if_neg (by omega)]; simp
  rw [h1, h2]
  simp
theorem tailN (x : Nat) (m : List Nat) : (x :: m).drop (clipN (x :: m).length (1 : Int)) = m := by
  have h2 : clipN (x :: m).length (1 : Int) = 1 := by unfold clipN; rw [if_neg (by omega)]; simp
  rw [h2]; rfl
end
theorem flush_12 : True := by first | walk1 | trivial
noncomputable section
/-! join -/
noncomputable def joinN (sep : List Nat) : List (List Nat) → List Nat
  | [] => []
  | [l] => l
  | l :: r => l ++ sep ++ joinN sep r
theorem joinN_nil : ∀ ls : List (List Nat), joinN [] ls = ls.flatten
  | [] => rfl
  | [l] => by simp [joinN]
  | l :: l2 :: r => by
    have := joinN_nil (l2 :: r)
    simp only [joinN, List.append_nil, List.flatten_cons] at this ⊢
    rw [this]
theorem join_strN (sep : List Nat) : ∀ ls : List (List Nat), Str.join (strN sep) (ls.map strN) = strN (joinN sep ls)
  | [] => rfl
  | [l] => rfl
  | l :: l2 :: r => by
    have ih := join_strN sep (l2 :: r)
    show strN l ++ strN sep ++ Str.join (strN sep) ((l2 :: r).map strN) = _
    rw [ih, strN_add, strN_add]
    rfl
theorem strs_are {h : Heap} : ∀ {ls : List (List Nat)} {vs : List Value}, Reps h (ls.map fun l => .str (strN l)) vs → StrsAre vs (ls.map strN)
  | [], vs, e => by simp only [List.map_nil, Reps] at e; subst e; exact .nil
  | l :: ls, vs, e => by
    simp only [List.map_cons, Reps, Rep] at e
    obtain ⟨_, r, rfl, ⟨t, rfl⟩, b⟩ := e
    exact .cons _ t (strs_are b)
section
variable {w : World} {A : Around} {s : Shared} {E : Value → Shared → Prop} {Q : Value → Shared → Prop}
theorem joinS {a : Addr} {sep : List Nat} {ls : List (List Nat)} {vs : List Value} {n : Nat} {t : Tok} {hh : Heap} (hg : s.heap.get? a = some (lstO vs n)) (hr : Reps hh (ls.map fun l => .str (strN l)) vs) (hsep : sep.length ≤ 16) (hw : (ls.map List.length).sum + ls.length ≤ 1048576)
    (h : ∀ t tk, Q (.str (strN (joinN sep ls)) t) { s with toks := tk }) : wpAny (MM w) A (call (.builtin "str.join") [.str (strN sep) t, .ref a]) Q E s := by
  refine join_listW (items := vs.toArray) (lst_of hg) (by simpa using strs_are hr) (by rw [strN_len]; exact hsep) ?_ ?_
  · rw [List.map_map, List.length_map]
    have : (Str.length ∘ strN) = List.length := funext fun l => strN_len l
    rw [this]; exact hw
  · intro t' k
    have : Txt.join (strN sep) (ls.map strN) = strN (joinN sep ls) := (StrLaws.glued_eq_join (strN sep) (ls.map strN)).trans (join_strN sep ls)
    rw [this]; exact h _ _
end
theorem above_ext {n : Nat} {a b : Heap} (x : Ext a b) : Ext (above n a) (above n b) := fun c o e => let ⟨e1, e2⟩ := above_get.mp e; above_get.mpr ⟨x _ _ e1, e2⟩
end
theorem flush_13 : True := by first | walk1 | trivial
noncomputable section
/-! enumerate -/
section
variable {w : World} {A : Around} {imm : Heap}
theorem Cur.enumStr {ty : String} {x : Str} {tx : Tok} (hd : ∀ {A : Around} (_ : A.handled = none) (it : Addr), Draws PySem.Challenge.pw_ij0078_01 w A it [it] x.cps.size (fun i v => ∃ c u, x.cps[i]? = some c ∧ v = .str ⟨#[c]⟩ u) (fun i h => h.IsStrIter it ty x tx i))
    (hh : A.handled = none) {e it : Addr} (hei : e ≠ it) (es : List Expr) (z : Nat) (pos : Pos) :
    Cur w A (.Tuple es z pos) e [e, it] x.cps.size (fun i v h => ∃ T vals, v = .ref T ∧ h.IsTuple T vals ∧ ∃ t y, (∃ c u, x.cps[i]? = some c ∧ y = .str ⟨#[c]⟩ u) ∧ vals = #[.int i t, y])
      (fun i h => (∃ old, IsEnum h e it i old) ∧ h.IsStrIter it ty x tx i) imm := by
  have hh1 : A.in1.handled = none := hh
  exact Cur.ofWalksT (WalksT.enumerateD (hd hh1 it) e hei (by simpa using hei) (by simp)) (fun b hb => by
    rcases List.mem_cons.mp hb with rfl | hb
    · exact .inl (by simp)
    · rw [List.mem_singleton.mp hb]; exact .inl (by simp)) (fun i h c b hb => by
    rcases List.mem_cons.mp hb with rfl | hb
    · obtain ⟨old, e⟩ := c.1; exact ⟨_, e⟩
    · rw [List.mem_singleton.mp hb]; obtain ⟨o, ho, _⟩ := c.2; exact ⟨o, ho⟩) es z pos
end
theorem off_two {imm h h' : Heap} {L : Addr} {m : Str → Option Value} {mu : List (Addr × Obj)} (S : St imm L m mu h) : Off imm L mu [h.objs.size + 1, h.objs.size] := by
  have big : ∀ a, h.objs.size ≤ a → imm.get? a = none ∧ a ≠ L ∧ a ∉ mu.map (·.1) := by
    intro a ha
    refine ⟨?_, ?_, ?_⟩
    · cases e : imm.get? a with
      | none => rfl
      | some o => exact absurd (Heap.lt_size (S.keep _ _ e)) (Nat.not_lt.mpr ha)
    · rintro rfl; exact absurd S.ns.lt (Nat.not_lt.mpr ha)
    · intro hm
      obtain ⟨p, hp, rfl⟩ := List.mem_map.mp hm
      exact absurd (Heap.lt_size (S.mem p hp).1) (Nat.not_lt.mpr ha)
  refine ⟨by simp, fun b hb => ?_⟩
  rcases List.mem_cons.mp hb with rfl | hb
  · exact big _ (Nat.le_succ _)
  · rw [List.mem_singleton.mp hb]; exact big _ (Nat.le_refl _)
section
variable {w : World} {A : Around} {s : Shared} {E E' : Value → Shared → Prop} {imm : Heap} {L : Addr} {m : Str → Option Value} {mu : List (Addr × Obj)} {env : Env}
theorem for_enumL {es : List Expr} {z : Nat} {px : Pos} {body : List Stmt} {ax : Addr} {vs : List Value} {k : Nat} {Q : Flow → Shared → Prop} (J : Nat → Heap → (Str → Option Value) → List (Addr × Obj) → Prop)
    (hh : A.handled = none) (S : St imm L m mu s.heap) (hg : imm.get? ax = some (lstO vs k)) (j0 : J 0 imm m mu)
    (turn : ∀ i T x t imm₁ m₁ mu₁ its h tk, i < vs.length → vs[i]? = some x → h.IsTuple T #[.int (i : Int) t, x] → Ext imm imm₁ → J i imm₁ m₁ mu₁ → St imm₁ L m₁ (mu₁ ++ its) h →
      wpAny (MM w) A (assign (.Tuple es z px) env (.ref T)) (fun _ s₂ => wpAny (MM w) A (execs body env) (fun f s₃ => match f with
        | .next | .cont => LBack s J L imm₁ (i + 1) its s₃
        | .brk => Q .next s₃
        | .ret v => Q (.ret v) s₃) Bot s₂) Bot { s with heap := h, toks := tk })
    (hQ : ∀ imm₁ m₁ mu₁ h tk, Ext imm imm₁ → J vs.length imm₁ m₁ mu₁ → St imm₁ L m₁ mu₁ h → Q .next { s with heap := h, toks := tk }) :
    wpAny (MM w) A (call (.type "enumerate") [.ref ax]) (fun it₀ s₁ => wpAny (MM w) A (pyIter it₀) (fun it s₂ => codeAny (MM w) A (.forLoop (.Tuple es z px) it body [] env) (fun r s' => match r with | .ok f => Q f s' | .error e => E' e s') s₂) E s₁) E s := by
  have hl : s.heap.IsList ax vs.toArray := ⟨_, S.keep _ _ hg, rfl, _, rfl⟩
  have hlt : ax < s.heap.objs.size := Heap.lt_size (S.keep _ _ hg)
  refine call_enumerate_list hl fun h' he hit hsz hk => ?_
  refine wpAny_pyIter_enum he ?_
  have S' : St imm L m mu h' := S.ext hk
  have O : Off imm L mu [s.heap.objs.size + 1, s.heap.objs.size] := off_two (h' := h') S
  exact loop_for (s := { s with heap := h' }) J (Cur.enumList (w := w) (k := k) hh (Nat.succ_ne_self _) (Nat.ne_of_lt (Nat.lt_succ_of_lt hlt)) (Nat.ne_of_lt hlt) hg es z px) ⟨⟨_, he⟩, hit, hl.at fun o e => hk _ _ e⟩ S' O j0
    (fun i v imm₁ m₁ mu₁ its h tk hi hp x j Sx => by
      obtain ⟨T, vals, rfl, hT, t, y, hy, rfl⟩ := hp
      exact turn i T y t imm₁ m₁ mu₁ its h tk hi (by simpa using hy) hT x j Sx) hQ
theorem for_enumS {es : List Expr} {z : Nat} {px : Pos} {body : List Stmt} {l : List Nat} {tx : Tok} {Q : Flow → Shared → Prop} (J : Nat → Heap → (Str → Option Value) → List (Addr × Obj) → Prop)
    (hh : A.handled = none) (S : St imm L m mu s.heap) (j0 : J 0 imm m mu)
    (turn : ∀ i T c t u imm₁ m₁ mu₁ its h tk, i < l.length → l[i]? = some c → h.IsTuple T #[.int (i : Int) t, .str (strN [c]) u] → Ext imm imm₁ → J i imm₁ m₁ mu₁ → St imm₁ L m₁ (mu₁ ++ its) h →
      wpAny (MM w) A (assign (.Tuple es z px) env (.ref T)) (fun _ s₂ => wpAny (MM w) A (execs body env) (fun f s₃ => match f with
        | .next | .cont => LBack s J L imm₁ (i + 1) its s₃
        | .brk => Q .next s₃
        | .ret v => Q (.ret v) s₃) Bot s₂) Bot { s with heap := h, toks := tk })
    (hQ : ∀ imm₁ m₁ mu₁ h tk, Ext imm imm₁ → J l.length imm₁ m₁ mu₁ → St imm₁ L m₁ mu₁ h → Q .next { s with heap := h, toks := tk }) :
    wpAny (MM w) A (call (.type "enumerate") [.str (strN l) tx]) (fun it₀ s₁ => wpAny (MM w) A (pyIter it₀) (fun it s₂ => codeAny (MM w) A (.forLoop (.Tuple es z px) it body [] env) (fun r s' => match r with | .ok f => Q f s' | .error e => E' e s') s₂) E s₁) E s := by
  refine call_enumerate_str fun h' he hit hsz hk => ?_
  refine wpAny_pyIter_enum he ?_
  have S' : St imm L m mu h' := S.ext hk
  have O : Off imm L mu [s.heap.objs.size + 1, s.heap.objs.size] := off_two (h' := h') S
  have hn : (strN l).cps.size = l.length := by simp [strN]
  have tn : ∀ i v imm₁ m₁ mu₁ its h tk, i < (strN l).cps.size → (∃ T vals, v = Value.ref T ∧ h.IsTuple T vals ∧ ∃ t y, (∃ c u, (strN l).cps[i]? = some c ∧ y = .str ⟨#[c]⟩ u) ∧ vals = #[.int i t, y]) → Ext imm imm₁ → J i imm₁ m₁ mu₁ → St imm₁ L m₁ (mu₁ ++ its) h →
      wpAny (MM w) A (assign (.Tuple es z px) env v) (fun _ s₂ => wpAny (MM w) A (execs body env) (fun f s₃ => match f with
        | .next | .cont => LBack s J L imm₁ (i + 1) its s₃
        | .brk => Q .next s₃
        | .ret v => Q (.ret v) s₃) Bot s₂) Bot { s with heap := h, toks := tk } := by
    rintro i v imm₁ m₁ mu₁ its h tk hi ⟨T, vals, rfl, hT, t, y, ⟨c, u, hc, rfl⟩, rfl⟩ x j Sx
    exact turn i T c t u imm₁ m₁ mu₁ its h tk (by omega) (by simpa [strN] using hc) hT x j Sx
  rw [← hn] at hQ
  cases ha : (strN l).cps.all (· < 128)
  · have hit' : h'.IsStrIter s.heap.objs.size "str_iterator" (strN l) tx 0 := by
      have e : strIterType (strN l) = "str_iterator" := by unfold strIterType; rw [ha]; rfl
      rwa [e] at hit
    exact loop_for (s := { s with heap := h' }) J (Cur.enumStr (w := w) (fun hh it => Draws.strWide hh it (strN l) tx) hh (Nat.succ_ne_self _) es z px) ⟨⟨_, he⟩, hit'⟩ S' O j0 tn hQ
  · have hit' : h'.IsStrIter s.heap.objs.size "str_ascii_iterator" (strN l) tx 0 := by
      have e : strIterType (strN l) = "str_ascii_iterator" := by unfold strIterType; rw [ha]; rfl
      rwa [e] at hit
    exact loop_for (s := { s with heap := h' }) J (Cur.enumStr (w := w) (fun hh it => Draws.strAscii hh it (strN l) tx) hh (Nat.succ_ne_self _) es z px) ⟨⟨_, he⟩, hit'⟩ S' O j0 tn hQ
/-- a tuple of two is unpacked into two names -/
theorem unpackT {x y : Expr} {z : Nat} {px : Pos} {T : Addr} {v1 v2 : Value} {Q : Unit → Shared → Prop} (hh : A.handled = none) (S : St imm L m mu s.heap) (hT : s.heap.IsTuple T #[v1, v2])
    (hf : (assignEach [x, y] env).map (·.1) = [false, false]) (ha : (assignEach [x, y] env).map (·.2) = [assign x env, assign y env])
    (h : ∀ h', St imm L m mu h' → wpAny (MM w) A (assign x env v1) (fun _ s₁ => wpAny (MM w) A (assign y env v2) Q E s₁) E { s with heap := h' }) :
    wpAny (MM w) A (assign (.Tuple [x, y] z px) env (.ref T)) Q E s := by
  have hlen : (assignEach [x, y] env).length = 2 := by simpa using congrArg List.length hf
  refine wpAny_assign_Tuple (items := #[v1, v2]) hh hT (by simpa using hlen) ?_ fun h' hx => ?_
  · rw [List.findIdx?_eq_none_iff]
    intro p hp
    have : p.1 ∈ (assignEach [x, y] env).map (·.1) := List.mem_map.mpr ⟨p, hp, rfl⟩
    rw [hf] at this
    simpa using this
  · rw [ha]
    have S' : St imm L m mu h' := S.extOff (off_new S) fun b o hb e => hx b o (fun q => hb (by simp [q])) e
    have := h h' S'
    show wpAny _ _ (assignInOrder [assign x env, assign y env] [v1, v2]) _ _ _
    exact wpAny_bind (wpAny_holding (wpAny_mono this (fun _ s1 q => wpAny_bind (wpAny_holding (wpAny_mono q (fun _ s2 q2 => wpAny_pure q2) fun _ _ e => e))) fun _ _ e => e))
end
end
theorem flush_14 : True := by first | walk1 | trivial
noncomputable section
/-! A frame with cells -/
noncomputable def BindW (w : World) (A : Around) (env : Env) : List (Str × Value) → (Shared → Prop) → Shared → Prop
  | [], Q, s => Q s
  | (n, v) :: r, Q, s => wpAny (MM w) A (storeName env n v) (fun _ s' => BindW w A env r Q s') Bot s
section
variable {w : World} {A : Around} {s : Shared}
theorem bind_forIn {env : Env} {f : Str × Value → PUnit → Sem (ForInStep PUnit)} (hf : ∀ n v u, f (n, v) u = (do storeName env n v; pure (.yield ⟨⟩))) :
    ∀ (binds : List (Str × Value)) {s : Shared} {Q : Shared → Prop}, BindW w A env binds Q s → wpAny (MM w) A (forIn binds ⟨⟩ f) (fun _ s' => Q s') Bot s
  | [], s, Q, h => by rw [List.forIn_nil]; exact wpAny_pure h
  | (n, v) :: r, s, Q, h => by
    rw [List.forIn_cons, hf]
    exact wpAny_bind (wpAny_bind (wpAny_mono h (fun _ s' h' => wpAny_pure (bind_forIn hf r h')) fun _ _ e => e))
theorem call_defC {R : Value → Shared → Prop} {E : Value → Shared → Prop} {f : Addr} {o : Obj} {fd : FuncData} {body : List Stmt} {args : List Value} {binds : List (Str × Value)} {k : Nat}
    (B : Base w s.heap) (r : Room A (k + 1)) (ho : s.heap.get? f = some o) (hdata : o.data = .func fd) (hcd : s.heap.CodeRec fd.code fd.qualname) (hbody : fd.body = .stmts body)
    (hbind : bindArgs fd ⟨args, []⟩ = pure binds) (hclo : fd.closure = [])
    (h : ∀ h₀, St s.heap s.heap.objs.size (fun _ => none) (cellLed (s.heap.objs.size + 1) fd.scope.names []) h₀ →
      BindW w A.in1 (callEnvC fd s.heap.objs.size f) binds (fun s₁ => Ext s.heap s₁.heap ∧
        wpAny (MM w) (A.deeper (callEnvC fd s.heap.objs.size f)) (execs body (callEnvC fd s.heap.objs.size f)) (fun fl s' => R (match fl with | .ret v => v | _ => .none) s') Bot s₁) { s with heap := h₀ })
    (hco : fd.scope.isCoroutine = false) (hgen : fd.scope.isGenerator = false) (hk : fd.scope.kind = .function) : wpAny (MM w) A (call (.ref f) args) R E s := by
  refine wpAny_call ?_
  refine codeAny_call_function (by have := r.2.1; show A.depth < 1000; omega) ho hdata hco hgen hbody hcd ?_
  rw [hbind, hclo]
  refine wpAny_pure ?_
  simp only [newFunctionEnv, Option.isSome_none, Bool.false_eq_true, if_false]
  refine wpAny_bind (wpAny_alloc ?_)
  refine wpAny_bind (wpAny_layCells _ (fun name kind cells => by cases hkc : kind == NameKind.cell <;> simp [hkc]) _ _ _ _ ?_)
  rw [show ({ s with heap := s.heap.push { cls := .type "frame", data := .dict #[] } } : Shared).heap.objs.size = s.heap.objs.size + 1 from Heap.size_push ..]
  have S0 : St s.heap s.heap.objs.size (fun _ => none) [] (s.heap.push { cls := .type "frame", data := .dict #[] }) :=
    ⟨Heap.Ns.new .., fun b o e => Heap.get?_push_of_some _ e, get_none_of_size (Nat.le_refl _), fun _ hp => (nomatch hp), by simp⟩
  have S1 := S0.pushCells fd.scope.names
  rw [Heap.size_push] at S1
  refine wpAny_bind (wpAny_mono (bind_forIn (fun _ _ _ => rfl) binds (h _ S1)) (fun _ s₁ h₁ => wpAny_pure ⟨B.lim.keeps h₁.1, codeAny_func ?_⟩) fun _ _ f => False.elim f)
  exact wpAny_mono h₁.2 (fun f s' q => q) fun _ _ q => q.elim
end
section
variable {w : World} {A : Around} {s : Shared} {env : Env} {imm : Heap} {L : Addr} {m : Str → Option Value} {mu mu' : List (Addr × Obj)} {E : Value → Shared → Prop}
theorem stC {x : Str} {c : Addr} {v₀ : Option Value} {v : Value} {Q : Unit → Shared → Prop} (S : St imm L m mu s.heap) (hk : env.scope.kind = .function) (hl : env.kindOf x = some .cell)
    (hc : env.cells.lookup x = some c) (p : At c (cellO v₀) (cellO (some v)) mu mu') (h : ∀ h', St imm L m mu' h' → Q () { s with heap := h' }) : wpAny (MM w) A (storeName env x v) Q E s :=
  st_cell hk hl hc (S.mem _ p.mem).1 fun h' g hs => h h' (S.updA p hs g)
end
end
theorem flush_15 : True := by first | walk1 | trivial
noncomputable section
/-! list(range(..)) -/
theorem St.addNew {imm h h' : Heap} {L : Addr} {m : Str → Option Value} {mu : List (Addr × Obj)} {o : Obj} (S : St imm L m mu h) (x : Ext h h') (g : h'.get? h.objs.size = some o) : St imm L m ((h.objs.size, o) :: mu) h' := by
  obtain ⟨f1, f2, f3⟩ := S.size_fresh
  have P := S.ext x
  refine ⟨P.ns, P.keep, P.immL, fun p hp => ?_, ?_⟩
  · rcases List.mem_cons.mp hp with rfl | hp
    · exact ⟨g, f2, f1⟩
    · exact P.mem p hp
  · rw [List.map_cons, List.nodup_cons]
    refine ⟨fun hm => ?_, S.nodup⟩
    obtain ⟨p, hp, e⟩ := List.mem_map.mp hm
    exact f3 p hp e
theorem Reps.of_ints {h : Heap} : ∀ {l : List Nat} {vs : List Value}, vs.length = l.length → (∀ (i : Nat) (x : Nat) (v : Value), l[i]? = some x → vs[i]? = some v → ∃ t, v = .int (x : Int) t) → Reps h (l.map fun (n : Nat) => D.int n) vs
  | [], [], _, _ => Reps.nil
  | [], _ :: _, e, _ => nomatch e
  | _ :: _, [], e, _ => nomatch e
  | x :: l, v :: vs, e, hq => by
    obtain ⟨t, rfl⟩ := hq 0 x v rfl rfl
    exact Reps.cons (Rep.mkInt rfl) (Reps.of_ints (by simpa using e) fun i x v a b => hq (i + 1) x v (by simpa using a) (by simpa using b))
section
variable {w : World} {A : Around} {s : Shared} {E : Value → Shared → Prop} {imm : Heap} {L : Addr} {m : Str → Option Value} {mu : List (Addr × Obj)}
theorem listRange {r : Addr} {a b : Nat} {t u v : Tok} {Q : Value → Shared → Prop} (hh : A.handled = none) (S : St imm L m mu s.heap) (hr : IsRange s.heap r (a : Int) (b : Int) 1 t u v) (hab : a ≤ b) (hb : b ≤ 10000)
    (h : ∀ c h' tk vs n, St imm L m ((c, lstO vs n) :: mu) h' → Ext s.heap h' → L < c → (∀ hp, Reps hp (((List.range (b - a)).map fun k => a + k).map fun (n : Nat) => D.int n) vs) → Q (.ref c) { s with heap := h', toks := tk }) :
    wpAny (MM w) A (call (.type "list") [.ref r]) Q E s := by
  have hsz : Builtin.Range.rangeSize (a : Int) (b : Int) 1 = ((b - a : Nat) : Int) := by
    unfold Builtin.Range.rangeSize
    rw [if_pos (by decide)]
    by_cases hlt : (a : Int) < b
    · rw [if_pos hlt]; omega
    · rw [if_neg hlt]; omega
  have hsm : Builtin.Range.small (a : Int) (b : Int) 1 = true := by
    have fit : ∀ i : Int, -1000000 ≤ i → i ≤ 1000000 → Builtin.Range.rangeFitsLong i = true := by
      intro i h1 h2
      unfold Builtin.Range.rangeFitsLong
      simp only [Bool.and_eq_true, decide_eq_true_eq]
      omega
    unfold Builtin.Range.small
    rw [hsz, fit _ (by omega) (by omega), fit _ (by omega) (by omega), fit 1 (by omega) (by omega), fit _ (by omega) (by omega), if_pos (by decide), fit _ (by omega) (by omega)]
    simp
  refine call_list_range hh hr hsm hsz (by omega) fun h' tk acc' c' hk hS' hacc => ?_
  have e : acc' = acc'.toList.toArray := by simp
  rw [e] at hS'
  refine h _ h' tk acc'.toList c' (S.addNew hk hS') hk S.ns.lt fun hp => Reps.of_ints (by simp [hacc.1]) fun i x v hx hv => ?_
  obtain ⟨t, rfl⟩ := hacc.2 i v (by simpa using hv)
  rw [List.getElem?_map] at hx
  cases hr : (List.range (b - a))[i]? with
  | none => rw [hr] at hx; cases hx
  | some y =>
    rw [hr] at hx
    cases hx
    have : y = i := by
      have := List.getElem?_eq_some_iff.mp hr
      obtain ⟨_, e⟩ := this
      simpa using e.symm
    subst this
    have e2 : (a : Int) + (y : Int) * 1 = ((a + y : Nat) : Int) := by omega
    exact ⟨t, by rw [e2]⟩
end
theorem eqAt_bool {A : Around} {s : Shared} (a b : Bool) : SeqAt.EqAt A s (.bool a) (.bool b) (a == b) := by
  cases h : (a == b) with
  | true =>
    have : a = b := by simpa using h
    subst this
    exact SeqAt.EqAt.same _
  | false =>
    intro prog w E Q hq
    unfold eqBool
    refine wpAny_holding ?_
    refine wpAny_ite_split (fun hab => ?_) (fun _ => ?_)
    · have := eq_of_beq hab
      injection this with this
      subst this
      simp at h
    · have := SeqAt.RcAt.bool_bool (A := A) (s := s) a b
      rw [h] at this
      exact wpAny_bind (this prog w E _ (wpAny_truthy_bool hq))
theorem Reps.boolsOf {h : Heap} : ∀ {bs : List Bool} {vs : List Value}, Reps h (bs.map D.bool) vs → vs = bs.map Value.bool
  | [], vs, e => by simpa only [List.map_nil, Reps] using e
  | b :: bs, vs, e => by
    simp only [List.map_cons, Reps, Rep] at e
    obtain ⟨_, r, rfl, rfl, e2⟩ := e
    rw [Reps.boolsOf e2]; rfl
section
variable {w : World} {A : Around} {s : Shared} {E : Value → Shared → Prop}
theorem in_bools {a : Addr} {bs : List Bool} {vs : List Value} {n : Nat} {hp : Heap} {Q : Value → Shared → Prop} (hg : s.heap.get? a = some (lstO vs n)) (hr : Reps hp (bs.map D.bool) vs) (h : Q (.bool (bs.any id)) s) :
    wpAny (MM w) A (compareOp .In (.bool true) (.ref a)) Q E s := by
  have hv := hr.boolsOf
  subst hv
  refine SeqAt.in_listAt (fun v => match v with | .bool b => b | _ => false) (lst_of hg) (fun y hy => ?_) ?_
  · obtain ⟨b, _, rfl⟩ := List.mem_map.mp (by simpa using hy : y ∈ bs.map Value.bool)
    have := eqAt_bool (A := A.in1) (s := s) b true
    cases b <;> exact this
  · have : ((bs.map Value.bool).toArray.any fun v => match v with | .bool b => b | _ => false) = bs.any id := by
      rw [List.any_toArray, List.any_map]
      rfl
    rw [this]; exact h
end
theorem above_mono {n k : Nat} {a b : Heap} (hk : n ≤ k) (x : Ext a b) : Ext (above k a) (above n b) := fun c o e => let ⟨e1, e2⟩ := above_get.mp e; above_get.mpr ⟨x _ _ e1, Nat.le_trans hk e2⟩
end
end
theorem flush_16 : True := by first | walk1 | trivial
noncomputable section
/-! res.append as a value -/
theorem slot_md_get : Slot "method_descriptor" "__get__" "method_descriptor.__get__" :=
  .of (owner := "method_descriptor") (n := "__get__") (by rw [typeLookup_type, builtinLookup_eq_fast]; kernel_rfl) (by decide +kernel) (by decide +kernel) (by decide +kernel)
    (by first | exact .inl (by decide +kernel) | exact .inr (by decide +kernel)) (by rw [isSubtype_type]; kernel_rfl)
theorem md_set_none : typeLookup (.type "method_descriptor") "__set__" = pure none := by rw [typeLookup_type, builtinLookup_eq_fast]; kernel_rfl
theorem md_delete_none : typeLookup (.type "method_descriptor") "__delete__" = pure none := by rw [typeLookup_type, builtinLookup_eq_fast]; kernel_rfl
theorem entry_md_get : entryFor table "method_descriptor.__get__" = some Builtin.«method_descriptor.__get__» := entryFor_of_tree (by kernel_rfl)
theorem args_md_get (a b c : Value) : argsOk "method_descriptor.__get__" ⟨[a, b, c], []⟩ := by unfold argsOk; kernel_rfl
theorem owner_list_append : (".".intercalate ("list.append".cutAt '.').dropLast) = "list" := by
  have e0 : "list.append".cutAt '.' = ["list", "append"] := by first | rfl | decide +kernel
  rw [e0]; decide +kernel
theorem sub_list_append_owner : isSubtype (.type "list") (.type (".".intercalate ("list.append".cutAt '.').dropLast)) = pure true := by
  rw [owner_list_append, isSubtype_type]; kernel_rfl
theorem not_told_append : Manifest.toldItsClass.contains "list.append" = false := by decide +kernel
section
variable {prog : Program} {w : World} {A : Around} {E : Value → Shared → Prop} {h : Heap} {g : Array GenState} {d : Drawn} {t : Nat} {os : OsState} {a : Addr} {o : Obj}
noncomputable abbrev boundO (f : Value) (x : Value) : Obj := { cls := .type "builtin_function_or_method", data := .fields #[f, x] }
theorem append_get {R : Result → Shared → Prop} (hx : h.get? a = some o) (hc : o.cls = .type "list") (hq : R (.ok (.ret (.ref h.objs.size))) ⟨h.push (boundO (.builtin "list.append") (.ref a)), g, d, t, os⟩) :
    codeAny (model prog w) A (.call (.builtin "method_descriptor.__get__") ⟨[.builtin "list.append", .ref a, .type "list"], []⟩) R ⟨h, g, d, t, os⟩ := by
  have hT : (⟨h, g, d, t, os⟩ : Shared).TypeIs (.ref a) "list" := ⟨_, hx, hc⟩
  have hT5 : (⟨h, g, d, t, os⟩ : Shared).TypeIs (.builtin "list.append") "method_descriptor" := type_list_append
  have f8 := sub_list_append_owner
  have f9 := not_told_append
  refine codeAny_call_builtin slot_md_get.plain entry_md_get (slot_md_get.check _ _ _ _ _ _ _ _ hT5 (args_md_get _ _ _) ?_)
  unfold Builtin.«method_descriptor.__get__»
  repeat (any_goals (first | assumption | walk_at "C step"))
theorem append_entry {tk : Tok} {Q : Fin → Shared → Prop} {vs : List Value} {n : Nat} (hx : h.get? a = some (lstO vs n)) (hq : Q (.done (.ret (.ref h.objs.size))) ⟨h.push (boundO (.builtin "list.append") (.ref a)), g, d, t, os⟩) :
    wpAny (model prog w) A (Builtin.«object.__getattribute__» ⟨[.ref a, .str "append" tk], []⟩) Q E ⟨h, g, d, t, os⟩ := by
  have hT : (⟨h, g, d, t, os⟩ : Shared).TypeIs (.ref a) "list" := ⟨_, hx, rfl⟩
  have hT5 : (⟨h, g, d, t, os⟩ : Shared).TypeIs (.builtin "list.append") "method_descriptor" := type_list_append
  have f4 := slot_list_append.lookup
  have f5 := type_list_append
  have f6 := slot_md_get.lookup
  have f7 := md_set_none
  have f8 := md_delete_none
  have hname : (["__module__", "__name__", "__qualname__", "__doc__", "__annotations__"] : List Str).contains ("append" : Str) = false := by decide +kernel
  unfold Builtin.«object.__getattribute__»
  repeat (any_goals (first | assumption | walk_at "C step"))
  refine append_get hx rfl ?_
  repeat (any_goals (first | assumption | walk_at "C step"))
theorem append_call {tk : Tok} {R : Result → Shared → Prop} {vs : List Value} {n : Nat} (hx : h.get? a = some (lstO vs n)) (hq : R (.ok (.ret (.ref h.objs.size))) ⟨h.push (boundO (.builtin "list.append") (.ref a)), g, d, t, os⟩) :
    codeAny (model prog w) A (.call (.builtin "list.__getattribute__") ⟨[.ref a, .str "append" tk], []⟩) R ⟨h, g, d, t, os⟩ :=
  codeAny_call_builtin F.slot_list_getattribute.plain F.entry_list_ga (F.slot_list_getattribute.check _ _ _ _ _ _ _ _ (show (⟨h, g, d, t, os⟩ : Shared).TypeIs (.ref a) "list" from ⟨_, hx, rfl⟩) (F.args_list_getattribute_2 _ _) (append_entry hx hq))
theorem get_append {Q : Value → Shared → Prop} {vs : List Value} {n : Nat} (hx : h.get? a = some (lstO vs n)) (hq : ∀ tk, Q (.ref h.objs.size) ⟨h.push (boundO (.builtin "list.append") (.ref a)), g, d, tk, os⟩) :
    wpAny (model prog w) A (getAttr (.ref a) "append" true) Q E ⟨h, g, d, t, os⟩ := by
  have hT : ∀ tk', (⟨h, g, d, tk', os⟩ : Shared).TypeIs (.ref a) "list" := fun _ => ⟨_, hx, rfl⟩
  have f2 := F.slot_list_getattribute.lookup
  have f3 := F.slot_list_getattribute.bind (.ref a)
  unfold getAttr getAttrBy
  repeat (any_goals (first | assumption | exact hT _ | walk_at "C step"))
  refine append_call hx ?_
  repeat (any_goals (first | assumption | exact hq _ | walk_at "C step"))
end
end
local macro_rules | `(tactic| walk_at "B lit") => `(tactic| first | with_reducible exact Mine.litN _ | with_reducible rfl)
local macro_rules | `(tactic| walk_at "B str") => `(tactic| first | with_reducible exact Mine.strN_nil | with_reducible exact Mine.strN_dash | with_reducible exact Mine.strN_star | with_reducible exact Mine.strN_ask | with_reducible exact Mine.strN_open | with_reducible exact Mine.strN_shut | with_reducible exact Mine.strN_bang | with_reducible exact Mine.strN_dot | with_reducible exact Mine.strN_hat | with_reducible exact Mine.strN_bs | with_reducible exact Mine.strN_bs2 | with_reducible exact Mine.strN_bsd | with_reducible exact Mine.strN_bso | with_reducible exact Mine.strN_no)
local macro_rules | `(tactic| walk_at "B len") => `(tactic| first | with_reducible assumption | omega | (simp only [List.length_append, List.length_cons, List.length_nil]; omega))
local macro_rules | `(tactic| walk_at "eval Constant str") => `(tactic| (refine' Mine.constS (by walk_at "B str") ?_; intro _ _))
local macro_rules | `(tactic| walk_at "binaryOp Add str str") => `(tactic| (refine' Mine.addS rfl rfl ?z ?_; (case z => walk_at "B len"); intro _ _))
local macro_rules | `(tactic| walk_at "inplaceOp Add str str") => `(tactic| (refine' Mine.iaddS rfl rfl ?z ?_; (case z => walk_at "B len"); intro _ _))
local macro_rules | `(tactic| walk_at "binaryOp Add int int") => `(tactic| (refine' Mine.addN (by walk_at "B lit") ?_; intro _ _))
local macro_rules | `(tactic| walk_at "inplaceOp Add int int") => `(tactic| (refine' Mine.iaddN (by walk_at "B lit") ?_; intro _ _))
local macro_rules | `(tactic| walk_at "binaryOp Sub int int") => `(tactic| (refine' Mine.subN (by walk_at "B lit") (by first | with_reducible assumption | omega) ?_; intro _ _))
local macro_rules | `(tactic| walk_at "call builtin:chr") => `(tactic| (refine' Mine.chrC ?z ?_; (case z => first | with_reducible assumption | omega); intro _ _))
local macro_rules | `(tactic| walk_at "compareOp Eq str str") => `(tactic| (refine' Mine.eqS ?_))
local macro_rules | `(tactic| walk_at "compareOp NotEq str str") => `(tactic| (refine' Mine.neS ?_))
local macro_rules | `(tactic| walk_at "binaryOp Mod int int") => `(tactic| (refine' Mine.modN (by walk_at "B lit") (by first | decide | omega | assumption) ?_; intro _ _))
local macro_rules | `(tactic| walk_at "binaryOp FloorDiv int int") => `(tactic| (refine' Mine.divN (by walk_at "B lit") (by first | decide | omega | assumption) (by first | decide | omega | assumption) ?_; intro _ _))
local macro_rules | `(tactic| walk_at "B at") => `(tactic| (intro _; repeat' (first | (with_reducible exact Mine.At.here) | (with_reducible refine' Mine.At.there ?_))))
local macro_rules | `(tactic| walk_at "unpackItems ref") => `(tactic| (refine' Mine.upk (by with_reducible assumption) (by with_reducible assumption) (by walk_at "B led") (by rfl) ?_; intro _ _ _))
local macro_rules | `(tactic| walk_at "assignInOrder") => `(tactic| (refine' Mine.in_order2 (by rfl) (by rfl) ?_))
local macro_rules | `(tactic| walk_at "getMethod ref") => `(tactic| (refine' Mine.gm_append (by walk_at "B led") ?_))
local macro_rules | `(tactic| walk_at "call builtin:list.append") => `(tactic| (refine' Mine.appendL (by with_reducible assumption) (by walk_at "B at") ?z ?_; (case z => first | with_reducible assumption | omega); intro _ _ _))
local macro_rules | `(tactic| walk_at "truthy str") => `(tactic| (refine' Mine.truthyS ?z ?_; (case z => walk_at "B len"); intro _))
local macro_rules | `(tactic| walk_at "call builtin:len") => `(tactic| (refine' Mine.lenS ?z ?_; (case z => walk_at "B len"); intro _ _))
local macro_rules | `(tactic| walk_at "compareOp In str str") => `(tactic| (refine' Mine.inS ?_))
local macro_rules | `(tactic| walk_at "compareOp NotIn str str") => `(tactic| (refine' Mine.notInS ?_))
local macro_rules | `(tactic| walk_at "compareOp Gt str str") => `(tactic| (refine' Mine.gt1 ?_))
local macro_rules | `(tactic| walk_at "compareOp LtE str str") => `(tactic| (refine' Mine.le1 ?_))
local macro_rules | `(tactic| walk_at "B dec") => `(tactic| ((try simp only [decide_eq_true_eq, beq_iff_eq, bne_iff_ne, ne_eq, decide_not, Bool.not_eq_true', decide_eq_false_iff_not]); first | with_reducible assumption | omega | decide | (with_reducible exact fun h => absurd h (by assumption))))
local macro_rules | `(tactic| walk_at "ite") => `(tactic| first | rw [if_pos (by walk_at "B dec")] | rw [if_neg (by walk_at "B dec")])
theorem flush_17 : True := by first | walk1 | trivial
noncomputable section
section
variable {w : World} {A : Around} {s : Shared} {E : Value → Shared → Prop} {imm : Heap} {L : Addr} {m : Str → Option Value} {mu : List (Addr × Obj)} {env : Env}
theorem cw_bound {pos : Pos} {a : Addr} {f x : Value} {e : Expr} {rest : List Expr} {Q : Value → Shared → Prop}
    (h : wpAny (MM w) A (spliced (backTo pos (starEach (e :: rest) env))) (fun vs s₁ => s₁.heap.get? a = some (boundO f x) ∧ wpAny (MM w) A (call (.ref a) vs) Q E s₁) E s)
    (he : starEach (e :: rest) env = (false, eval e env) :: starEach rest env := by rfl)
    (hplain : (backTo pos (starEach rest env)).any (·.1) = false := by rfl) :
    wpAny (MM w) A (callWith pos (.ref a) [] (backTo pos (starEach (e :: rest) env)) []) Q E s := by
  rw [he] at h ⊢
  unfold callWith
  refine wpAny_bind (wpAny_holding (evalArgs_plain (wpAny_mono h (fun vs s₁ h₁ => wpAny_bind (wpAny_standAt ?_)) fun _ _ x => x)))
  have hpl : (backTo pos ((false, eval e env) :: starEach rest env)).any (·.1) = false := by
    show (false || (backTo pos (starEach rest env)).any (·.1)) = false
    rw [hplain]; rfl
  simp only [hpl, List.any_nil, Bool.or_false]
  refine wpAny_bind (m := keeperOf (.ref a)) ?_
  unfold keeperOf
  refine wpAny_bind (wpAny_load h₁.1 ?_)
  refine wpAny_pure ?_
  exact wpAny_bind (wpAny_mono h₁.2 (fun r s₂ hr => wpAny_bind (wpAny_holding (wpAny_point (wpAny_pure hr)))) fun _ _ x => x)
theorem call_bound {b l : Addr} {x : Value} {vs : List Value} {n : Nat} {Q : Value → Shared → Prop} (hb : s.heap.get? b = some (boundO (.builtin "list.append") (.ref l))) (hl : s.heap.get? l = some (lstO vs n)) (hsz : vs.length ≤ sizeLine)
    (hQ : ∀ h' k', h'.get? l = some (lstO (vs ++ [x]) k') → Heap.SameBut l s.heap h' → Q .none { s with heap := h' }) : wpAny (MM w) A (call (.ref b) [x]) Q E s := by
  refine wpAny_call (codeAny_of_tree ?_)
  show wpAny _ A.in1 (callAny (.ref b) ⟨[x], []⟩) _ _ s
  simp only [callAny]
  refine wpAny_bind (wpAny_load hb ?_)
  have hT : s.TypeIs (.ref l) "list" := ⟨_, hl, rfl⟩
  have f1 : isSubtype (lstO vs n).cls (.type "module") = pure false := by show isSubtype (.type "list") _ = _; rw [isSubtype_type]; kernel_rfl
  repeat (any_goals (first | assumption | walk_at "C step"))
  refine ⟨Code.quiet_builtin _ (by decide +kernel), codeAny_builtin entry_list_append ?_⟩
  show wpAny _ _ (updateSeq l (·.push x) >>= fun _ => ret .none) _ _ s
  refine wpAny_bind ?_
  refine wpAny_updateSeq hl rfl (wpAny_pure (hQ _ (n + 1) ?_ (Heap.SameBut.update ..)))
  rw [Heap.get?_update_self _ hl (by rw [Obj.mapSeq_push_plain]; rfl), Obj.mapSeq_push_plain]
  simp
theorem addA {mu' : Nat → List (Addr × Obj)} {b a : Addr} {vs : List Value} {n : Nat} {x : Value} {Q : Value → Shared → Prop} (S : St imm L m mu s.heap) (hb : s.heap.get? b = some (boundO (.builtin "list.append") (.ref a))) (p : ∀ n', At a (lstO vs n) (lstO (vs ++ [x]) n') mu (mu' n')) (hsz : vs.length ≤ sizeLine)
    (h : ∀ h' n', St imm L m (mu' n') h' → Q .none { s with heap := h' }) : wpAny (MM w) A (call (.ref b) [x]) Q E s :=
  call_bound hb (S.mem _ (p 0).mem).1 hsz fun h' k' g hs => h h' k' (S.updA (p k') hs g)
theorem bindA {a : Addr} {vs : List Value} {n : Nat} {Q : Value → Shared → Prop} (S : St imm L m mu s.heap) (hg : s.heap.get? a = some (lstO vs n)) (h : ∀ b h' tk, St imm L m ((b, boundO (.builtin "list.append") (.ref a)) :: mu) h' → L < b → Q (.ref b) { s with heap := h', toks := tk }) :
    wpAny (MM w) A (getAttr (.ref a) "append" true) Q E s :=
  get_append hg fun tk => h _ _ tk (S.alloc rfl) S.ns.lt
end
end
theorem flush_18 : True := by first | walk1 | trivial
noncomputable section
/-! find within bounds; replace of what is not there -/
theorem at_one {l : List Nat} {c hi i : Nat} (hh : hi ≤ l.length) : StrLaws.At (strN l) (strN [c]) hi i ↔ i < hi ∧ l[i]? = some c := by
  have h := StrLaws.subAt_one (strN l) c i
  have e1 : (strN l).cps.toList = l := by simp [strN]
  rw [e1, strN_len] at h
  have e2 : (⟨#[c]⟩ : Str).length = 1 := rfl
  have e3 : (strN [c]).length = 1 := rfl
  unfold StrLaws.At
  rw [e3]
  rw [e2] at h
  constructor
  · rintro ⟨h1, h2⟩
    exact ⟨by omega, h.mp ⟨by omega, h2⟩⟩
  · rintro ⟨h1, h2⟩
    exact ⟨by omega, (h.mpr h2).2⟩
theorem occ_upto {l : List Nat} {c lo hi : Nat} (hh : hi ≤ l.length) :
    (Builtin.Str.occurrences (strN l) (strN [c]) lo hi 1 = [] ∧ ∀ i, lo ≤ i → i < hi → l[i]? ≠ some c) ∨
    ∃ p r, Builtin.Str.occurrences (strN l) (strN [c]) lo hi 1 = p :: r ∧ lo ≤ p ∧ p < hi ∧ l[p]? = some c ∧ ∀ i, lo ≤ i → i < p → l[i]? ≠ some c := by
  rw [StrLaws.occ_eq]
  rcases StrLaws.occ_first (strN l) (strN [c]) hi 1 (Nat.le_refl 1) (List.range' lo (hi + 1 - lo)) lo (fun i hi => by have := List.mem_range'_1.mp hi; omega) with ⟨h0, hn⟩ | ⟨pre, a, post, e, h0, ha, hn⟩
  · refine .inl ⟨by rw [h0], fun i hlo hi' he => ?_⟩
    exact hn i (by rw [List.mem_range'_1]; omega) ((at_one hh).mpr ⟨hi', he⟩)
  · have hs := StrLaws.range'_split_from e
    have ha' := (at_one hh).mp ha
    refine .inr ⟨a, ((forIn (List.range' lo (hi + 1 - lo)) ((#[] : Array Nat), lo) (StrLaws.occBody (strN l) (strN [c]) hi 1)).run.fst.toList).tail, ?_, hs.1, ha'.1, ha'.2, fun k hk0 hk he => hn k (hs.2 k hk0 hk) ((at_one hh).mpr ⟨by omega, he⟩)⟩
    generalize (forIn (List.range' lo (hi + 1 - lo)) ((#[] : Array Nat), lo) (StrLaws.occBody (strN l) (strN [c]) hi 1)).run.fst = r at h0 ⊢
    have : r.toList[0]? = some a := by simpa using h0
    cases hr : r.toList with
    | nil => rw [hr] at this; cases this
    | cons x y => rw [hr] at this; cases this; rfl
theorem gives_find4 (x y : Str) (i j : Nat) (t u v v' : Tok) (hj : j ≤ x.length) : Gives (Builtin.«str.find» ⟨[.str x t, .str y u, .int (i : Int) v, .int (j : Int) v'], []⟩) (.int (match Builtin.Str.occurrences x y i j 1 with | k :: _ => (k : Int) | [] => -1)) := by
  have e1 : (max 0 (if (i : Int) < 0 then (i : Int) + x.length else (i : Int))).toNat = i := by rw [if_neg (by omega)]; omega
  have e2 : min (max 0 (if (j : Int) < 0 then (j : Int) + x.length else (j : Int))).toNat x.length = j := by rw [if_neg (by omega)]; omega
  show Gives (match Builtin.Str.occurrences x y (max 0 (if (i : Int) < 0 then (i : Int) + x.length else (i : Int))).toNat (min (max 0 (if (j : Int) < 0 then (j : Int) + x.length else (j : Int))).toNat x.length) 1 with | k :: _ => PySem.retInt k | [] => (do PySem.rule "str.find.not-found"; PySem.retInt (-1))) _
  rw [e1, e2]
  cases Builtin.Str.occurrences x y i j 1 with
  | nil => exact .rule (.of_eq rfl)
  | cons k _ => exact .of_eq rfl
section
variable {w : World} {A : Around} {s : Shared} {E : Value → Shared → Prop} {Q : Value → Shared → Prop}
theorem findS {l : List Nat} {c i j : Nat} {t u v v' : Tok} (hj : j ≤ l.length)
    (h0 : (∀ q, i ≤ q → q < j → l[q]? ≠ some c) → ∀ t tk, Q (.int (-1) t) { s with toks := tk })
    (h1 : ∀ p : Nat, i ≤ p → p < j → l[p]? = some c → (∀ q, i ≤ q → q < p → l[q]? ≠ some c) → ∀ t tk, Q (.int (p : Int) t) { s with toks := tk }) :
    wpAny (MM w) A (call (.builtin "str.find") [.str (strN l) t, .str (strN [c]) u, .int (i : Int) v, .int (j : Int) v']) Q E s := by
  refine call_gives F.slot_str_find (typeIs_str _ _ _) F.entry_str_find (F.args_str_find_4 _ _ _ _) (gives_find4 (strN l) (strN [c]) i j t u v v' (by rw [strN_len]; exact hj)) ?_
  rcases occ_upto (l := l) (c := c) (lo := i) hj with ⟨e, hn⟩ | ⟨p, r, e, a1, a2, a3, a4⟩
  · rw [e]; exact h0 hn _ _
  · rw [e]; exact h1 p a1 a2 a3 a4 _ _
theorem replS {l : List Nat} {c : Nat} {z : Str} {t u v : Tok} (hc : c ∉ l) (h : Q (.str (strN l) t) s) : wpAny (MM w) A (call (.builtin "str.replace") [.str (strN l) t, .str (strN [c]) u, .str z v]) Q E s := by
  have hnone : (Builtin.Str.occurrences (strN l) (strN [c]) 0 (strN l).length ((strN l).length + 1)) = [] := by
    rcases StrLaws.occ_head (strN l) (strN [c]) ((strN l).length + 1) (by omega) with ⟨e, _⟩ | ⟨i, r, e, hat, _⟩
    · exact e
    · rw [strN_len] at hat
      exact absurd (List.mem_of_getElem? ((at_one (Nat.le_refl _)).mp hat).2) hc
  refine call_gives F.slot_str_replace (typeIs_str _ _ _) F.entry_str_replace (F.args_str_replace_3 _ _ _)
    (gives_str_replace (strN l) (strN [c]) z t u v fun hf => by rw [hnone] at hf; simp at hf) ?_
  rw [hnone]
  exact h
end
end
theorem flush_19 : True := by first | walk1 | trivial
noncomputable section
/-! The code table of _translate: a lambda, a generator expression -/
noncomputable abbrev tabO (ps : Array Value) : Obj := { cls := .none, data := .fields ps }
theorem code_at {P : Params} {h : Heap} {ps : Array Value} (h54 : h.get? 54 = some (o54_0 P)) (h50 : h.get? 50 = some (tabO ps)) (ht : TriplesOk ps.toList) : h.IsCode 54 50 ps ∧ h.TableAt 54 50 ps :=
  ⟨⟨_, _, _, _, _, _, _, _, _, _, h54, rfl, rfl, rfl, rfl, rfl, rfl, h50, rfl, ht, by decide⟩, ⟨_, _, h54, rfl, rfl, rfl⟩, h50⟩
theorem Base.o54 {w : World} {h : Heap} (B : Base w h) : h.get? 54 = some (o54_0 w.params) := B.k 54 _ rfl
section
variable {imm h h' : Heap} {L : Addr} {m : Str → Option Value} {mu mu' : List (Addr × Obj)}
theorem St.updE {a : Addr} {o o' : Obj} (S : St imm L m mu h) (p : At a o o' mu mu') (x : Heap.ExtBut a h h') (hg : h'.get? a = some o') : St imm L m mu' h' := by
  have z := S.mem _ p.mem
  have hn := S.ns
  refine ⟨?_, fun b c e => x b c (by rintro rfl; rw [z.2.2] at e; cases e) (S.keep b c e), S.immL, fun q hq => ?_, by rw [p.keys]; exact S.nodup⟩
  · obtain ⟨oL, es, ep, gL, r⟩ := hn
    exact ⟨oL, es, ep, x L oL (Ne.symm z.2.1) gL, r⟩
  · rcases p.split S.nodup q hq with ⟨hm, hne⟩ | rfl
    · exact ⟨x _ _ hne (S.mem q hm).1, (S.mem q hm).2⟩
    · exact ⟨hg, z.2⟩
end
section
variable {w : World} {A : Around} {s : Shared} {E : Value → Shared → Prop} {imm : Heap} {L : Addr} {m : Str → Option Value} {mu : List (Addr × Obj)} {env : Env}
theorem genCode {mu' : Array Value → List (Addr × Obj)} {ps : Array Value} {pos : Pos} {qn : Str} {scope : Scope} {Q : Value → Shared → Prop} (hc : env.code = .ref 54) (S : St imm L m mu s.heap) (B : Base w imm) (p : ∀ ps', At 50 (tabO ps) (tabO ps') mu (mu' ps')) (ht : TriplesOk ps.toList)
    (hQ : ∀ cv h' tk ps', St imm L m (mu' ps') h' → TriplesOk ps'.toList → Heap.ExtBut 50 s.heap h' → Q cv { s with heap := h', toks := tk }) : wpAny (MM w) A (genexprCode env pos qn scope) Q E s := by
  obtain ⟨ok, tab⟩ := code_at (S.keep _ _ B.o54) (S.mem _ (p #[]).mem).1 ht
  cases hf : codeAmong pos ps.toList with
  | some cv => exact wpAny_genexprCode_hit hc ok hf (hQ cv s.heap s.toks ps (S.updE (p ps) (Heap.ExtBut.refl _ _) (S.mem _ (p #[]).mem).1) ht (Heap.ExtBut.refl _ _))
  | none =>
    refine wpAny_genexprCodeX hc ok tab hf fun c' h' tk x _ _ ok' _ tab' _ => ?_
    exact hQ _ h' tk _ (S.updE (p _) x tab'.2) (by rw [show (ps ++ #[rawInt pos.line, rawInt pos.col, Value.ref c']).toList = ps.toList ++ [rawInt pos.line, rawInt pos.col, .ref c'] by simp]; exact TriplesOk_snoc _ _ _ _ ht) x
end
end
theorem flush_20 : True := by first | walk1 | trivial
noncomputable section
section
variable {w : World} {A : Around} {s : Shared} {E : Value → Shared → Prop} {imm : Heap} {L : Addr} {m : Str → Option Value} {mu : List (Addr × Obj)} {env : Env}
theorem gm_builtins (P : Params) : mgK P "__builtins__" = some (.ref 4) := by kernel_rfl!
theorem codeHd_54 {P : Params} {h : Heap} (h54 : h.get? 54 = some (o54_0 P)) : CodeHd h 54 50 :=
  ⟨_, _, _, _, _, _, _, _, _, h54, rfl, rfl, rfl, rfl, rfl, rfl, rfl, rfl, by decide⟩
theorem lamMake {mu' : Array Value → List (Addr × Obj)} {ps : Array Value} {params : Arguments} {body : Expr} {scope : Scope} {pos : Pos} {Q : Value → Shared → Prop} (hdef : defaultsOf params env = ([], [])) (hc : env.code = .ref 54) (hge : env.globals = mainGlobals) (hcl : closureFor scope env = pure []) (S : St imm L m mu s.heap) (B : Base w imm)
    (p : ∀ ps', At 50 (tabO ps) (tabO ps') mu (mu' ps')) (ht : TriplesOk ps.toList)
    (hQ : ∀ f fd h' tk ps', St imm L m ((f, { cls := .type "function", data := .func fd }) :: mu' ps') h' → TriplesOk ps'.toList → Q (.ref f) { s with heap := h', toks := tk }) :
    wpAny (MM w) A (eval (.Lambda params body scope pos) env) Q E s := by
  refine kla_eval hdef ?_
  have BS : Base w s.heap := B.ext S.keep
  have h50 := (S.mem _ (p #[]).mem).1
  obtain ⟨ob, b3, b4, b5, b6⟩ := BS.bm
  have hb : s.heap.BuiltinsAt (mgK w.params) 50 := ⟨4, ob, gm_builtins _, by decide, by decide, by decide, b3, b4, b5, b6⟩
  cases hf : codeAmong pos ps.toList with
  | some cv =>
    refine kla_makeFunctionHit hcl hge BS.glob hc (codeHd_54 BS.o54) h50 ht hf hb fun ctv h' tk x hsz => ?_
    have S' : St imm L m (mu' ps) h' := (S.updE (p ps) (Heap.ExtBut.refl _ _) h50).ext x
    exact hQ _ _ _ _ ps (S'.alloc rfl) ht
  | none =>
    refine kla_makeFunction hcl hge BS.glob hc (codeHd_54 BS.o54) h50 ht hf (by decide) hb fun c' ctv h' tk x _ _ _ hp => ?_
    have S' := S.updE (p (ps ++ #[rawInt pos.line, rawInt pos.col, .ref c'])) x hp
    exact hQ _ _ _ _ _ (S'.alloc rfl) (by rw [show (ps ++ #[rawInt pos.line, rawInt pos.col, Value.ref c']).toList = ps.toList ++ [rawInt pos.line, rawInt pos.col, .ref c'] by simp]; exact TriplesOk_snoc _ _ _ _ ht)
end
end
theorem flush_21 : True := by first | walk1 | trivial
noncomputable section
/-! the pattern [&~|] finds nothing -/
theorem slot_re_sub : Slot "re.Pattern" "sub" "re.Pattern.sub" :=
  .of (owner := "re.Pattern") (n := "sub") (by rw [typeLookup_type, builtinLookup_eq_fast]; kernel_rfl) (by decide +kernel) (by decide +kernel) (by decide +kernel)
    (by first | exact .inl (by decide +kernel) | exact .inr (by decide +kernel)) (by rw [isSubtype_type]; kernel_rfl)
theorem type_re_sub : typeOf (.builtin "re.Pattern.sub") = pure (.type "method_descriptor") := by show builtinType _ = _; rw [builtinType_eq_fast]; kernel_rfl
theorem entry_re_sub : entryFor table "re.Pattern.sub" = some Builtin.«re.Pattern.sub» := entryFor_of_tree (by kernel_rfl)
theorem entry_re_loop : entryFor table "re.Pattern.sub.loop" = some Builtin.«re.Pattern.sub.loop» := entryFor_of_tree (by kernel_rfl)
theorem args_re_sub (a b c : Value) : argsOk "re.Pattern.sub" ⟨[a, b, c], []⟩ := by unfold argsOk; kernel_rfl
theorem plain_re : PlainAttrs "re.Pattern" :=
  ⟨⟨"object.__getattribute__", by rw [typeLookup_type, builtinLookup_eq_fast]; kernel_rfl, by decide +kernel⟩, by rw [typeLookup_type, builtinLookup_eq_fast]; kernel_rfl⟩
noncomputable def reCode : Array Nat := #[14, 14, 4, 1, 1, 9, 0, 64, 0, 1342177280, 0, 0, 0, 0, 0, 17, 0, 13, 11, 9, 0, 64, 0, 1342177280, 0, 0, 0, 0, 0, 17, 1, 1]
theorem re_inSet {c : Nat} (h1 : c ≠ 38) (h2 : c ≠ 124) (h3 : c ≠ 126) (seen : Sre.Seen) : Sre.inSet reCode c reCode.size 5 true seen = .ok (false, (seen.add 9).add 0) := by
  have hbit : (decide (c < 256) && (reCode.getD (5 + (1 + c / 32)) 0).testBit (c % 32)) = false := by
    by_cases hc : c < 256
    · have : ∀ c, c < 256 → c ≠ 38 → c ≠ 124 → c ≠ 126 → (reCode.getD (5 + (1 + c / 32)) 0).testBit (c % 32) = false := by decide +kernel
      rw [this c hc h1 h2 h3]; simp
    · simp [hc]
  show (if (decide (c < 256) && (reCode.getD (5 + (1 + c / 32)) 0).testBit (c % 32)) = true then .ok (true, seen.add 9) else Sre.inSet reCode c 31 14 true (seen.add 9)) = _
  rw [hbit]
  rfl
theorem re_admitted (m : Sre.M) (hc : m.code = reCode) (hm : ∀ i, i < m.lim → m.text.getD i 0 ≠ 38 ∧ m.text.getD i 0 ≠ 124 ∧ m.text.getD i 0 ≠ 126) : ∀ (fuel s : Nat) (seen : Sre.Seen), ∃ seen', Sre.M.admitted m fuel s seen = .ok (none, seen')
  | 0, _, seen => ⟨seen, rfl⟩
  | fuel + 1, s, seen => by
    unfold Sre.M.admitted
    by_cases h : s ≥ m.lim
    · rw [if_pos h]; exact ⟨seen, rfl⟩
    · rw [if_neg h, hc]
      obtain ⟨h1, h2, h3⟩ := hm s (by omega)
      rw [re_inSet h1 h2 h3]
      exact re_admitted m hc hm fuel (s + 1) _
theorem re_drive {n : Nat} {m : Sre.M} (h : (m.runFor Builtin.Re.reTurnSteps).outcome.isSome = true) : Builtin.Re.reDrive (n + 1) m = pure (m.runFor Builtin.Re.reTurnSteps) := by
  unfold Builtin.Re.reDrive
  simp only [h, if_true]
section
variable {w : World} {A : Around} {s : Shared} {E : Value → Shared → Prop}
theorem rules_go (l : List Nat) (c : Nat → Bool) (n : Nat → String) {Q : PUnit → Shared → Prop} (h : Q ⟨⟩ s) :
    wpAny (MM w) A (forIn l (⟨⟩ : PUnit) fun i _ => if c i = true then (do rule (n i); pure (ForInStep.yield ⟨⟩)) else pure (ForInStep.yield ⟨⟩)) Q E s := by
  induction l with
  | nil => rw [List.forIn_nil]; exact wpAny_pure h
  | cons x l ih =>
    rw [List.forIn_cons]
    cases c x with
    | true => exact wpAny_bind (wpAny_bind (wpAny_rule (wpAny_pure ih)))
    | false => exact wpAny_bind (wpAny_pure ih)
theorem re_fails {m : Sre.M} (hf : m.answer = some false) (hfr : m.frames = []) (ho : m.outcome = none) : (m.runFor Builtin.Re.reTurnSteps).outcome = some .failed := by
  obtain ⟨code, text, lim, start, ls, wt, ma, pc, pos, handed, om, marks, lm, li, loops, inner, frames, weight, answer, seen, outcome⟩ := m
  dsimp only at hf hfr ho
  subst hf hfr ho
  rfl
theorem re_none {m : Sre.M} {Q : Option Sre.M → Shared → Prop} (hf : m.answer = some false) (hfr : m.frames = []) (ho : m.outcome = none) (h : Q none s) : wpAny (MM w) A (Builtin.Re.reRunToEnd m) Q E s := by
  have hfail := re_fails hf hfr ho
  unfold Builtin.Re.reRunToEnd
  have e : Builtin.Re.reDrive (2 ^ 64) m = pure (m.runFor Builtin.Re.reTurnSteps) := re_drive (n := 18446744073709551615) (by rw [hfail]; rfl)
  rw [e]
  refine wpAny_bind (wpAny_pure ?_)
  refine wpAny_bind (rules_go _ _ _ ?_)
  rw [hfail]
  exact wpAny_pure h
theorem re_attempt {m : Sre.M} {k : Nat} (hc : m.code = reCode) (hm : ∀ i, i < m.lim → m.text.getD i 0 ≠ 38 ∧ m.text.getD i 0 ≠ 124 ∧ m.text.getD i 0 ≠ 126) (hf : m.frames = []) (ho : m.outcome = none) :
    (m.attemptFrom k true).answer = some false ∧ (m.attemptFrom k true).frames = [] ∧ (m.attemptFrom k true).outcome = none := by
  have hfs : m.hasFirstSet = true := by
    unfold Sre.M.hasFirstSet
    rw [hc]
    decide +kernel
  obtain ⟨seen', e⟩ := re_admitted m hc hm (m.lim + 1 - k) k m.seen
  unfold Sre.M.attemptFrom
  rw [hfs, e]
  exact ⟨rfl, hf, ho⟩
theorem re_search {text : Array Nat} {lim : Nat} (hm : ∀ i, i < lim → text.getD i 0 ≠ 38 ∧ text.getD i 0 ≠ 124 ∧ text.getD i 0 ≠ 126) :
    (Sre.forSearch reCode text 1 0 lim false).answer = some false ∧ (Sre.forSearch reCode text 1 0 lim false).frames = [] ∧ (Sre.forSearch reCode text 1 0 lim false).outcome = none := by
  unfold Sre.forSearch
  dsimp only
  split
  · exact ⟨rfl, rfl, rfl⟩
  · exact re_attempt rfl hm rfl rfl
theorem re_next {t : Builtin.Re.ReTarget} {Q : Option Sre.M → Shared → Prop} (hc : t.code = reCode) (hg : t.groups = 1) (hm : ∀ i, i < t.lim → t.text.getD i 0 ≠ 38 ∧ t.text.getD i 0 ≠ 124 ∧ t.text.getD i 0 ≠ 126) (h : Q none s) :
    wpAny (MM w) A (Builtin.Re.reNextFound t 0 false) Q E s := by
  unfold Builtin.Re.reNextFound
  rw [hc, hg]
  obtain ⟨a, b, c⟩ := re_search hm
  exact re_none a b c h
end
end
theorem flush_22 : True := by first | walk1 | trivial
noncomputable section
/-! sub with the lambda, where nothing is found -/
section
variable {w : World} {A : Around} {s : Shared} {E : Value → Shared → Prop} {imm : Heap} {L : Addr} {m : Str → Option Value} {mu : List (Addr × Obj)}
theorem Base.o35 {w : World} {h : Heap} (B : Base w h) : h.get? 35 = some (o35_0 w.params) := B.k 35 _ rfl
theorem Base.o36 {w : World} {h : Heap} (B : Base w h) : h.get? 36 = some (o36_0 w.params) := B.k 36 _ rfl
theorem gm_sub {pl : Sem Bool} {Q : Value × List Value → Shared → Prop} (B : Base w s.heap) (h : Q (.builtin "re.Pattern.sub", [.ref 36]) s) : wpAny (MM w) A (getMethod (.ref 36) "sub" pl) Q E s :=
  getMethod_builtin (T := "re.Pattern") ⟨_, B.o36, rfl⟩ plain_re slot_re_sub type_re_sub (fun a e => by cases e; exact ⟨_, B.o36, rfl⟩) h
theorem re_target {l : List Nat} {t : Tok} {Q : Builtin.Re.ReTarget → Shared → Prop} (B : Base w s.heap)
    (h : Q ⟨.ref 36, .str (strN l) t, reCode, l.toArray, 0, 1, 0, l.length⟩ s) : wpAny (MM w) A (Builtin.Re.reWholeTarget (.ref 36) (.str (strN l) t)) Q E s := by
  have h36 := B.o36
  have h35 := B.o35
  unfold Builtin.Re.reWholeTarget
  refine wpAny_bind (wpAny_fieldsOf h36 rfl ?_)
  repeat (any_goals (first | assumption | walk_at "C step"))
  have hl : (strN l).cps.size = l.length := by simp [strN]
  rw [hl]
  have key : ∀ c g, c = reCode → g = 1 → Q ⟨.ref 36, .str (strN l) t, c, (strN l).cps, 0, g, 0, l.length⟩ s := by
    rintro _ _ rfl rfl
    exact h
  exact key _ _ (by decide +kernel) (by rfl)
theorem sub_loop {l : List Nat} {t : Tok} {f p : Addr} {n : Nat} {R : Result → Shared → Prop} (B : Base w s.heap) (hp : s.heap.get? p = some (lstO [] n)) (hl : l ≠ []) (hsz : l.length ≤ 10000) (hm : ∀ c ∈ l, c ≠ 38 ∧ c ≠ 124 ∧ c ≠ 126)
    (hR : ∀ h' t' tk, Heap.SameBut p s.heap h' → R (.ok (.ret (.str (strN l) t'))) { s with heap := h', toks := tk }) :
    codeAny (MM w) A (.builtin "re.Pattern.sub.loop" ⟨[.ref 36, .str (strN l) t, .ref f, rawInt 1, rawInt 0, rawInt 0, rawInt 0, rawInt 0, .bool false, .ref p, .bool false], []⟩) R s := by
  refine codeAny_builtin entry_re_loop ?_
  unfold Builtin.«re.Pattern.sub.loop»
  dsimp only
  refine wpAny_bind (re_target B ?_)
  have hchars : ∀ i, i < l.length → l.toArray.getD i 0 ≠ 38 ∧ l.toArray.getD i 0 ≠ 124 ∧ l.toArray.getD i 0 ≠ 126 := by
    intro i hi
    have : l.toArray.getD i 0 = l[i] := by simp [hi]
    rw [this]
    exact hm _ (List.getElem_mem hi)
  show wpAny (MM w) _ (Builtin.Re.reNextFound _ 0 false >>= _) _ _ s
  refine wpAny_bind (re_next rfl rfl hchars ?_)
  have hlim : Int.toNat 0 < l.length := List.length_pos_iff.mpr hl
  have slice : ∀ (b e : Nat) (s : Shared) (A : Around) (E : Value → Shared → Prop) (Q : Value → Shared → Prop), (∀ tk, Q (.str ⟨l.toArray.extract b e⟩ tk) { s with toks := s.toks + 1 }) → wpAny (MM w) A (Builtin.Re.reSlice l.toArray 0 b e) Q E s := by
    intro b e s A E Q h
    show wpAny _ _ (mkStr ⟨l.toArray.extract b e⟩) _ _ _
    refine wpAny_mkStr (h _) ?_
    show (l.toArray.extract b e).size ≤ sizeLine
    have h200 : 20000 ≤ sizeLine := Nat.le_of_ble_eq_true rfl
    rw [Array.size_extract, List.size_toArray]
    omega
  have h200 : 20000 ≤ sizeLine := Nat.le_of_ble_eq_true rfl
  dsimp only
  rw [if_pos hlim]
  refine wpAny_bind (slice _ _ _ _ _ _ fun tk => ?_)
  refine wpAny_bind (wpAny_updateSeq hp rfl ?_)
  have e1 : (⟨l.toArray.extract (Int.toNat 0) l.length⟩ : Str) = strN l := by simp [strN]
  rw [e1]
  have g1 := Heap.get?_update_self (h := s.heap) (fun o => Obj.mapSeq (fun xs => xs.push (.str (strN l) tk)) o) hp (by rw [Obj.mapSeq_push_plain]; rfl)
  rw [Obj.mapSeq_push_plain] at g1
  have g2 : (s.heap.update p fun o => Obj.mapSeq (fun xs => xs.push (.str (strN l) tk)) o).get? p = some (lstO [.str (strN l) tk] (n + 1)) := by simpa using g1
  refine wpAny_bind (slice _ _ _ _ _ _ fun tk2 => ?_)
  refine wpAny_bind (wpAny_seqItems g2 rfl ?_)
  have e2 : (⟨l.toArray.extract 0 0⟩ : Str) = strN [] := by simp [strN]
  rw [e2]
  show wpAny (MM w) _ (call (.builtin "str.join") [.str (strN []) tk2, .ref p] >>= _) _ _ _
  refine wpAny_bind (joinS (ls := [l]) g2 (hh := s.heap) (Reps.cons (Rep.mkStr rfl) Reps.nil) (by simp) (by simp; omega) fun t' tk' => ?_)
  exact wpAny_pure (hR _ _ _ (Heap.SameBut.update ..))
theorem call_sub {f : Addr} {fd : FuncData} {l : List Nat} {t : Tok} {Q : Value → Shared → Prop} (B : Base w s.heap) (hf : s.heap.get? f = some { cls := .type "function", data := .func fd }) (hl : l ≠ []) (hsz : l.length ≤ 10000) (hm : ∀ c ∈ l, c ≠ 38 ∧ c ≠ 124 ∧ c ≠ 126)
    (hQ : ∀ h' t' tk, Ext s.heap h' → Q (.str (strN l) t') { s with heap := h', toks := tk }) : wpAny (MM w) A (call (.builtin "re.Pattern.sub") [.ref 36, .ref f, .str (strN l) t]) Q E s := by
  have hT : s.TypeIs (.ref 36) "re.Pattern" := ⟨_, B.o36, rfl⟩
  have hTf : s.TypeIs (.ref f) "function" := ⟨_, hf, rfl⟩
  refine wpAny_call (codeAny_call_builtin slot_re_sub.plain entry_re_sub (slot_re_sub.check _ _ _ _ _ _ _ _ hT (args_re_sub _ _ _) ?_))
  have lk : typeLookup (.type "function") "__call__" = pure (some (.builtin "function.__call__")) := by rw [typeLookup_type, builtinLookup_eq_fast]; kernel_rfl
  have h36 := B.o36
  have h35 := B.o35
  have f1 : isSubtype (.type "str") (.type "bytearray") = pure false := by rw [isSubtype_type]; kernel_rfl
  unfold Builtin.«re.Pattern.sub» Builtin.Re.reSubstitute
  dsimp only
  repeat (any_goals (first | assumption | walk_at "C step"))
  have hx : Ext s.heap (s.heap.push (lstO [] 0)) := fun b o e => Heap.get?_push_of_some _ e
  refine ⟨Code.quiet_builtin _ (by decide +kernel), ?_⟩
  exact sub_loop (s := { s with heap := s.heap.push (lstO [] 0) }) (R := fun r s' => match r with | .ok (.ret v) => Q v s' | .ok _ => False | .error e => E e s') (B.ext hx) (Heap.get?_push_size _ rfl) hl hsz hm
    fun h' t' tk hs => hQ h' t' tk fun b o e => hs.extBut b o (Nat.ne_of_lt (Heap.lt_size e)) (hx b o e)
end
end
section
local macro_rules | `(tactic| omega) => `(tactic| lia)
theorem flush_23 : True := by first | walk1 | trivial
noncomputable section
/-- the text of one run -/
noncomputable def writeRun (rest : Nat) (r : Nat × Nat) : List Nat :=
  if r.1 = r.2 then [r.1]
  else if rest / 7 % 3 = 1 then [r.1, 45, r.1 + rest / 21 % (r.2 - r.1), r.1 + rest / 21 % (r.2 - r.1) + 1, 45, r.2]
  else [r.1, 45, r.2] ++ if rest / 7 % 3 = 2 then [r.2, 45, r.1] else []
noncomputable def turned (t rest : Nat) : List (Nat × Nat) := (runsN t).drop (rest % (runsN t).length) ++ (runsN t).take (rest % (runsN t).length)
noncomputable def writtenN (t rest : Nat) : List Nat := ((turned t rest).map (writeRun rest)).flatten

theorem runs_ok {t : Nat} (ht : t ≤ 6) : ∀ r ∈ runsN t, r.1 ≤ r.2 ∧ r.2 ≤ 1114111 ∧ 32 ≤ r.1 := by
  have cases7 : t = 0 ∨ t = 1 ∨ t = 2 ∨ t = 3 ∨ t = 4 ∨ t = 5 ∨ t = 6 := by omega
  rcases cases7 with rfl | rfl | rfl | rfl | rfl | rfl | rfl <;> decide +kernel
theorem turned_mem {t rest : Nat} {r : Nat × Nat} (h : r ∈ turned t rest) : r ∈ runsN t := by
  rcases List.mem_append.mp h with h | h
  · exact List.mem_of_mem_drop h
  · exact List.mem_of_mem_take h
theorem writeRun_len (rest : Nat) (r : Nat × Nat) : (writeRun rest r).length ≤ 6 := by
  unfold writeRun
  split
  · simp
  · split
    · simp
    · split <;> simp
theorem text_len (rest : Nat) (rs : List (Nat × Nat)) : ((rs.map (writeRun rest)).flatten).length ≤ 6 * rs.length := by
  induction rs with
  | nil => simp
  | cons r rs ih =>
    have := writeRun_len rest r
    simp only [List.map_cons, List.flatten_cons, List.length_append, List.length_cons]
    omega
theorem turned_len (t rest : Nat) : (turned t rest).length = (runsN t).length := by
  unfold turned
  simp only [List.length_append, List.length_drop, List.length_take]
  omega
noncomputable def forBody (st : Option Stmt) : List Stmt := match st with
  | some (.For _ _ b _ _) => b
  | some (.While _ b _ _) => b
  | _ => []
section
variable {w : World} {A : Around} {s : Shared} {E : Value → Shared → Prop} {Q : Value → Shared → Prop} {x : Nat} {t u : Tok} {k : Nat}
theorem written_turn {rest f l : Nat} {cur : List Nat} {L : Addr} {imm : Heap} {m : Str → Option Value} {mu : List (Addr × Obj)} {tf tl tt : Tok} {Q : Flow → Shared → Prop} {E : Value → Shared → Prop}
    (S : St imm L m mu s.heap) (B : Base w imm) (hfl : f ≤ l) (hl : l ≤ 1114111) (hrest : rest < 1000000000) (hcur : cur.length + 6 ≤ sizeLine)
    (m1 : m "text" = some (.str (strN cur) tt)) (m2 : m "rest" = some (.int (rest : Int) t)) (m3 : m "first" = some (.int (f : Int) tf)) (m4 : m "last" = some (.int (l : Int) tl))
    (hQ : ∀ h' m' tk, St imm L m' mu h' → (∃ t, m' "text" = some (.str (strN (cur ++ writeRun rest (f, l))) t)) → m' "rest" = some (.int (rest : Int) t) → Q .next { s with heap := h', toks := tk }) :
    wpAny (MM w) A (execs (forBody (bodyP 23)[3]?) (callEnv fd_written L 172)) Q E s := by
  have e : EnvOk (callEnv fd_written L 172) L := ⟨rfl, rfl, rfl, rfl⟩
  conv => arg 3; arg 1; whnf
  have hc : f = l ∨ f + rest / 21 % (l - f) + 1 ≤ l := by
    by_cases h : f = l
    · exact .inl h
    · have := Nat.mod_lt (rest / 21) (show l - f > 0 by omega); exact .inr (by omega)
  have done : ∀ h' m' tk y, St imm L m' mu h' → y = cur ++ writeRun rest (f, l) → (∃ t, m' "text" = some (.str (strN y) t)) → m' "rest" = some (.int (rest : Int) t) → Q .next { s with heap := h', toks := tk } := by
    rintro h' m' tk y S' rfl a b; exact hQ h' m' tk S' a b
  clear hQ
  walk_at "B go"
  all_goals refine done _ _ _ _ (by with_reducible assumption) ?_ ⟨_, if_pos rfl⟩ (by walk_at "B look")
  · have : f = l := by omega
    simp [writeRun, this]
  · have h1 : f ≠ l := by omega
    have h2 : rest / 7 % 3 = 1 := by omega
    simp [writeRun, h1, h2]
  · have h1 : f ≠ l := by omega
    have h2 : rest / 7 % 3 = 2 := by omega
    simp [writeRun, h1, h2]
  · have h1 : f ≠ l := by omega
    have h2 : rest / 7 % 3 ≠ 1 := by omega
    have h3 : rest / 7 % 3 ≠ 2 := by omega
    simp [writeRun, h1, h2, h3]
end
end
theorem flush_24 : True := by first | walk1 | trivial
noncomputable section
/-! The plain side: pieces, items. -/
inductive Piece where
  | star
  | any
  | br (barred : Bool) (ts : List (Nat × Nat))
noncomputable def bodyText (ts : List (Nat × Nat)) : List Nat := (ts.map fun p => writtenN p.1 p.2).flatten
noncomputable def bangN (b : Bool) : List Nat := if b then [33] else []
noncomputable def pieceText : Piece → List Nat
  | .star => [42]
  | .any => [63]
  | .br b ts => 91 :: (bangN b ++ bodyText ts ++ [93])
noncomputable def itemD : Piece → D
  | .star => .none
  | .any => .tup [.list [], .bool true]
  | .br b ts => .tup [.list (ts.map fun p => .int p.1), .bool b]
noncomputable def lastBr (ps : List Piece) : Option (Bool × List (Nat × Nat)) := match ps.getLast? with
  | some (.br b ts) => some (b, ts)
  | _ => none
noncomputable def stepP (ps : List Piece) (cell : Nat) : List Piece :=
  if cell % 6 = 0 then ps ++ [.star]
  else if cell % 6 = 1 then ps ++ [.any]
  else if cell % 6 = 5 then ps
  else match if cell % 6 = 4 then lastBr ps else none with
    | some (b, ts) => ps.dropLast ++ [.br b (ts ++ [(cell / 6 % 7, cell / 6 / 7)])]
    | none => ps ++ [.br (decide (cell % 6 = 3)) [(cell / 6 % 7, cell / 6 / 7)]]
noncomputable def pcsOfN (cells : List Nat) : List Piece := cells.foldl stepP []
noncomputable def textsD (ps : List Piece) : List D := ps.map fun p => .str (strN (pieceText p))
noncomputable def itemsD (ps : List Piece) : List D := ps.map itemD

theorem written_len {t rest : Nat} (ht : t ≤ 6) : (writtenN t rest).length ≤ 120 := by
  have h1 := text_len rest (turned t rest)
  have h2 := turned_len t rest
  have h3 : (runsN t).length ≤ 20 := by
    have cases7 : t = 0 ∨ t = 1 ∨ t = 2 ∨ t = 3 ∨ t = 4 ∨ t = 5 ∨ t = 6 := by omega
    rcases cases7 with rfl | rfl | rfl | rfl | rfl | rfl | rfl <;> decide
  unfold writtenN
  omega
/-- all tables are there -/
noncomputable def OkP : Piece → Prop
  | .br _ ts => ts ≠ [] ∧ ∀ p ∈ ts, p.1 ≤ 6
  | _ => True
theorem body_len {ts : List (Nat × Nat)} (h : ∀ p ∈ ts, p.1 ≤ 6) : (bodyText ts).length ≤ 120 * ts.length := by
  induction ts with
  | nil => simp [bodyText]
  | cons p r ih =>
    have h1 := written_len (rest := p.2) (h p (.head _))
    have h2 := ih fun q hq => h q (.tail _ hq)
    unfold bodyText at h2 ⊢
    simp only [List.map_cons, List.flatten_cons, List.length_append, List.length_cons]
    omega
noncomputable def weightP : Piece → Nat
  | .br _ ts => ts.length
  | _ => 1
theorem piece_len {p : Piece} (h : OkP p) : (pieceText p).length ≤ 123 * weightP p := by
  cases p with
  | star => simp [pieceText, weightP]
  | any => simp [pieceText, weightP]
  | br b ts =>
    have h1 := body_len h.2
    have h2 : 0 < ts.length := List.length_pos_iff.mpr h.1
    simp only [pieceText, weightP, List.length_cons, List.length_append, List.length_nil]
    have : (bangN b).length ≤ 1 := by cases b <;> simp [bangN]
    omega
noncomputable def weightPs (ps : List Piece) : Nat := (ps.map weightP).sum
theorem lastBr_some {ps : List Piece} {b : Bool} {ts : List (Nat × Nat)} (h : lastBr ps = some (b, ts)) : ps = ps.dropLast ++ [.br b ts] := by
  unfold lastBr at h
  split at h
  · rename_i b' ts' e
    cases h
    obtain ⟨ys, rfl⟩ := List.getLast?_eq_some_iff.mp e
    simp
  · cases h
theorem step_ok {ps : List Piece} {cell : Nat} (h : ∀ p ∈ ps, OkP p) : (∀ p ∈ stepP ps cell, OkP p) ∧ weightPs (stepP ps cell) ≤ weightPs ps + 1 ∧ (stepP ps cell).length ≤ ps.length + 1 := by
  have one : ∀ p, OkP p → weightP p = 1 → (∀ q ∈ ps ++ [p], OkP q) ∧ weightPs (ps ++ [p]) ≤ weightPs ps + 1 ∧ (ps ++ [p]).length ≤ ps.length + 1 := by
    intro p hp hw
    refine ⟨fun q hq => ?_, by simp [weightPs, hw], by simp⟩
    rcases List.mem_append.mp hq with hq | hq
    · exact h q hq
    · rw [List.mem_singleton.mp hq]; exact hp
  have h7 : cell / 6 % 7 ≤ 6 := by omega
  unfold stepP
  split
  · exact one .star trivial rfl
  · split
    · exact one .any trivial rfl
    · split
      · exact ⟨h, by omega, by omega⟩
      · split
        · rename_i b ts e
          split at e
          · have hps := lastBr_some e
            have hb : OkP (.br b ts) := h _ (by rw [hps]; simp)
            refine ⟨fun q hq => ?_, ?_, ?_⟩
            · rcases List.mem_append.mp hq with hq | hq
              · exact h q (List.dropLast_subset _ hq)
              · rw [List.mem_singleton.mp hq]
                refine ⟨by simp, fun p hp => ?_⟩
                rcases List.mem_append.mp hp with hp | hp
                · exact hb.2 p hp
                · rw [List.mem_singleton.mp hp]; exact h7
            · conv => rhs; rw [hps]
              simp [weightPs, weightP]
              omega
            · conv => rhs; rw [hps]
              simp
          · cases e
        · refine one _ ⟨by simp, fun p hp => ?_⟩ rfl
          rw [List.mem_singleton.mp hp]; exact h7
end
theorem flush_25 : True := by first | walk1 | trivial
noncomputable section
/-! The plain side: the parts of a translated pattern. -/
inductive It where
  | one (c : Nat)
  | rng (a b : Nat)
noncomputable def itText : It → List Nat
  | .one c => [c]
  | .rng a b => [a, 45, b]
noncomputable def itsText (its : List It) : List Nat := (its.map itText).flatten
noncomputable def hasIt (c : Nat) : It → Bool
  | .one x => decide (x ≤ c) && decide (c ≤ x)
  | .rng a b => decide (a ≤ c) && decide (c ≤ b)
noncomputable def OkC (c : Nat) : Prop := c = 32 ∨ 173 ≤ c
/-- the signs are of the tables -/
noncomputable def OkI : It → Prop
  | .one c => OkC c
  | .rng a b => OkC a ∧ OkC b
noncomputable def fwd : It → Bool
  | .one _ => true
  | .rng a b => decide (a ≤ b)
inductive Part where
  | star
  | any
  | br (barred : Bool) (its : List It)
noncomputable def hatN (b : Bool) : List Nat := if b then [94] else []
noncomputable def partD : Part → D
  | .star => .none
  | .any => .str (strN [46])
  | .br b its => .str (strN (91 :: (hatN b ++ itsText its ++ [93])))
noncomputable def takesP : Part → Nat → Bool
  | .star, _ => false
  | .any, _ => true
  | .br b its, c => (its.any (hasIt c)) != b
/-- a bracket's part is such as is read -/
noncomputable def OkPart : Part → Prop
  | .br _ its => its ≠ [] ∧ its.length ≤ 5000 ∧ ∀ it ∈ its, OkI it ∧ fwd it = true
  | _ => True
theorem itText_len (it : It) : (itText it).length ≤ 3 ∧ 1 ≤ (itText it).length := by cases it <;> simp [itText]
theorem itsText_len (its : List It) : (itsText its).length ≤ 3 * its.length := by
  induction its with
  | nil => simp [itsText]
  | cons i r ih =>
    have := (itText_len i).1
    unfold itsText at ih ⊢
    simp only [List.map_cons, List.flatten_cons, List.length_append, List.length_cons]
    omega
theorem itsText_cons (i : It) (r : List It) : itsText (i :: r) = itText i ++ itsText r := rfl
theorem itsText_append (a b : List It) : itsText (a ++ b) = itsText a ++ itsText b := by simp [itsText]
/-- the first sign of items -/
noncomputable def headIt : It → Nat
  | .one c => c
  | .rng a _ => a
theorem itText_head (it : It) : ∃ r, itText it = headIt it :: r := by cases it <;> exact ⟨_, rfl⟩
theorem OkC.ne {c : Nat} (h : OkC c) : c ≠ 45 ∧ c ≠ 94 ∧ c ≠ 93 ∧ c ≠ 91 ∧ c ≠ 33 ∧ c ≠ 92 := by unfold OkC at h; omega
theorem OkI.head {it : It} (h : OkI it) : OkC (headIt it) := by
  cases it with
  | one c => exact h
  | rng a b => exact h.1
end
theorem flush_26 : True := by first | walk1 | trivial
noncomputable section
/-! The plain side: what is taken, row by row. -/
noncomputable def cellR (parts : List Part) (prev : Nat → Bool) (c : Nat) : Nat → Bool
  | 0 => false
  | p + 1 => match parts[p]? with
    | some .star => cellR parts prev c p || prev (p + 1)
    | some x => prev p && takesP x c
    | none => false
noncomputable def startR (parts : List Part) : Nat → Bool
  | 0 => true
  | p + 1 => match parts[p]? with
    | some .star => startR parts p
    | _ => false
noncomputable def rowR (parts : List Part) (text : List Nat) : Nat → Nat → Bool
  | 0 => startR parts
  | e + 1 => cellR parts (rowR parts text e) (text.getD e 0)
noncomputable def endsN (f : Nat → Bool) (n : Nat) : List Nat := (List.range n).filter f
noncomputable def takenN (parts : List Part) (text : List Nat) : List Nat := endsN (fun e => rowR parts text e parts.length) (text.length + 1)
noncomputable def natsD (l : List Nat) : List D := l.map fun (n : Nat) => D.int n
theorem endsN_succ (f : Nat → Bool) (n : Nat) : endsN f (n + 1) = endsN f n ++ if f n = true then [n] else [] := by
  unfold endsN
  rw [List.range_succ, List.filter_append]
  congr 1
  by_cases h : f n = true
  · rw [if_pos h]; simp [h]
  · rw [if_neg h]; simp [h]
noncomputable def nextR (p : Part) (h r0 r1 : Bool) (c : Nat) : Bool := match p with
  | .star => h || r1
  | .any => r0
  | .br b its => r0 && ((its.any (hasIt c)) != b)
theorem cellR_succ {parts : List Part} {prev : Nat → Bool} {c j : Nat} {p : Part} (hp : parts[j]? = some p) : cellR parts prev c (j + 1) = nextR p (cellR parts prev c j) (prev j) (prev (j + 1)) c := by
  show (match parts[j]? with
    | some .star => cellR parts prev c j || prev (j + 1)
    | some x => prev j && takesP x c
    | none => false) = _
  rw [hp]
  cases p with
  | star => rfl
  | any => simp [nextR, takesP]
  | br b its => rfl
theorem startR_succ {parts : List Part} {j : Nat} {p : Part} (hp : parts[j]? = some p) : startR parts (j + 1) = match (match p with | .star => true | _ => false) with | true => startR parts j | false => false := by
  show (match parts[j]? with
    | some .star => startR parts j
    | _ => false) = _
  rw [hp]
  cases p <;> rfl
theorem endsN_len (f : Nat → Bool) (n : Nat) : (endsN f n).length ≤ n := by
  have := List.length_filter_le f (List.range n)
  simpa [endsN] using this
theorem natsD_append (a b : List Nat) : natsD (a ++ b) = natsD a ++ natsD b := by simp [natsD]
end
theorem flush_27 : True := by first | walk1 | trivial
noncomputable section
/-! The plain side: what is told, item by item. -/
noncomputable def takesPiece : Piece → Nat → Bool
  | .star, _ => false
  | .any, _ => true
  | .br b ts, c => (ts.any fun q => askedN q.1 c) != b
noncomputable def stepT (text : List Nat) (S : Nat → Bool) (p : Piece) : Nat → Bool := match p with
  | .star => fun e => (List.range (e + 1)).any S
  | p => fun e => match e with
    | 0 => false
    | e + 1 => S e && takesPiece p (text.getD e 0)
noncomputable def toldR (ps : List Piece) (text : List Nat) : Nat → Bool := ps.foldl (stepT text) fun e => e == 0
noncomputable def toldN (ps : List Piece) (text : List Nat) : List Nat := endsN (toldR ps text) (text.length + 1)
theorem endsN_zero (f : Nat → Bool) : endsN f 0 = [] := rfl
theorem ends_star (S : Nat → Bool) : ∀ n, (endsN S n = [] ∧ endsN (fun e => (List.range (e + 1)).any S) n = []) ∨
    ∃ x r, endsN S n = x :: r ∧ x < n ∧ endsN (fun e => (List.range (e + 1)).any S) n = (List.range (n - x)).map fun k => x + k := by
  intro n
  have sub : ∀ n x, x ∈ endsN S n → x < n ∧ S x = true := by
    intro n x hx
    unfold endsN at hx
    have := List.mem_filter.mp hx
    exact ⟨List.mem_range.mp this.1, this.2⟩
  induction n with
  | zero => exact .inl ⟨rfl, rfl⟩
  | succ n ih =>
    rw [endsN_succ, endsN_succ]
    rcases ih with ⟨h1, h2⟩ | ⟨x, r, h1, h2, h3⟩
    · rw [h1, h2]
      have hno : ∀ k, k < n → S k = false := by
        intro k hk
        cases hs : S k with
        | false => rfl
        | true =>
          have : k ∈ endsN S n := List.mem_filter.mpr ⟨List.mem_range.mpr hk, hs⟩
          rw [h1] at this; cases this
      have hany : (List.range (n + 1)).any S = S n := by
        rw [Bool.eq_iff_iff, List.any_eq_true]
        constructor
        · rintro ⟨k, hk, hs⟩
          have hk := List.mem_range.mp hk
          rcases Nat.lt_or_ge k n with h | h
          · rw [hno k h] at hs; cases hs
          · have : k = n := by omega
            rw [← this]; exact hs
        · intro h; exact ⟨n, List.mem_range.mpr (Nat.lt_succ_self n), h⟩
      rw [hany]
      cases hs : S n with
      | false => exact .inl ⟨rfl, rfl⟩
      | true => exact .inr ⟨n, [], rfl, Nat.lt_succ_self n, by simp⟩
    · right
      refine ⟨x, r ++ if S n = true then [n] else [], by rw [h1]; rfl, by omega, ?_⟩
      have hx := sub n x (by rw [h1]; exact .head _)
      have hany : (List.range (n + 1)).any S = true := List.any_eq_true.mpr ⟨x, List.mem_range.mpr (by omega), hx.2⟩
      rw [h3, if_pos hany, show n + 1 - x = (n - x) + 1 by omega, List.range_succ, List.map_append]
      congr 1
      simp; omega
theorem ends_less (S : Nat → Bool) (n : Nat) : (endsN S (n + 1)).filter (fun e => decide (e < n)) = endsN S n := by
  have h1 : (endsN S n).filter (fun e => decide (e < n)) = endsN S n := by
    rw [List.filter_eq_self]
    intro x hx
    have := List.mem_range.mp (List.mem_filter.mp hx).1
    simpa using this
  rw [endsN_succ, List.filter_append, h1]
  split <;> simp
theorem ends_next (S c : Nat → Bool) (n : Nat) : endsN (fun e => match e with | 0 => false | e + 1 => S e && c e) (n + 1) = ((endsN S n).filter c).map (· + 1) := by
  induction n with
  | zero => rfl
  | succ n ih =>
    rw [endsN_succ, ih, endsN_succ S, List.filter_append, List.map_append]
    congr 1
    cases h1 : S n <;> cases h2 : c n <;> simp [h1, h2]
theorem ends_first (n : Nat) : endsN (fun e => e == 0) (n + 1) = [0] := by
  induction n with
  | zero => rfl
  | succ n ih => rw [endsN_succ, ih]; simp
theorem toldR_snoc (ps : List Piece) (p : Piece) (text : List Nat) : toldR (ps ++ [p]) text = stepT text (toldR ps text) p := by
  unfold toldR
  rw [List.foldl_append]
  rfl
theorem ends_step {text : List Nat} {S : Nat → Bool} {p : Piece} {c : Nat → Bool} (hp : p ≠ .star) (hc : ∀ e, c e = takesPiece p (text.getD e 0)) :
    endsN (stepT text S p) (text.length + 1) = ((endsN S text.length).filter c).map (· + 1) := by
  have : stepT text S p = fun e => match e with | 0 => false | e + 1 => S e && c e := by
    funext e
    cases p with
    | star => exact absurd rfl hp
    | any => cases e with
      | zero => rfl
      | succ e => show (S e && takesPiece .any (text.getD e 0)) = _; rw [← hc]
    | br b ts => cases e with
      | zero => rfl
      | succ e => show (S e && takesPiece (.br b ts) (text.getD e 0)) = _; rw [← hc]
  rw [this, ends_next]
end
theorem flush_28 : True := by first | walk1 | trivial
noncomputable section
/-! The plain law: what the parts take is what the items tell. -/
noncomputable def runIts (rest : Nat) (r : Nat × Nat) : List It :=
  if r.1 = r.2 then [.one r.1]
  else if rest / 7 % 3 = 1 then [.rng r.1 (r.1 + rest / 21 % (r.2 - r.1)), .rng (r.1 + rest / 21 % (r.2 - r.1) + 1) r.2]
  else .rng r.1 r.2 :: if rest / 7 % 3 = 2 then [.rng r.2 r.1] else []
noncomputable def tabIts (t rest : Nat) : List It := ((turned t rest).map (runIts rest)).flatten
noncomputable def brIts (ts : List (Nat × Nat)) : List It := (ts.map fun p => tabIts p.1 p.2).flatten
theorem runIts_text (rest : Nat) (r : Nat × Nat) : itsText (runIts rest r) = writeRun rest r := by
  unfold runIts writeRun
  split
  · rfl
  · split
    · rfl
    · split <;> rfl
theorem itsText_flatten (l : List (List It)) : itsText l.flatten = (l.map itsText).flatten := by
  induction l with
  | nil => rfl
  | cons a r ih => rw [List.flatten_cons, itsText_append, ih]; rfl
theorem tabIts_text (t rest : Nat) : itsText (tabIts t rest) = writtenN t rest := by
  unfold tabIts writtenN
  rw [itsText_flatten, List.map_map]
  congr 1
  exact List.map_congr_left fun r _ => runIts_text rest r
theorem brIts_text (ts : List (Nat × Nat)) : itsText (brIts ts) = bodyText ts := by
  unfold brIts bodyText
  rw [itsText_flatten, List.map_map]
  congr 1
  exact List.map_congr_left fun p _ => tabIts_text p.1 p.2
theorem runIts_takes {rest : Nat} {r : Nat × Nat} (h : r.1 ≤ r.2) (c : Nat) : ((runIts rest r).filter fwd).any (hasIt c) = inRun c r := by
  unfold runIts inRun
  by_cases h1 : r.1 = r.2
  · rw [if_pos h1]
    simp [fwd, hasIt, h1]
  · rw [if_neg h1]
    have hm := Nat.mod_lt (rest / 21) (show r.2 - r.1 > 0 by omega)
    by_cases h2 : rest / 7 % 3 = 1
    · rw [if_pos h2]
      generalize rest / 21 % (r.2 - r.1) = d at hm
      have e1 : fwd (.rng r.1 (r.1 + d)) = true := by simp [fwd]
      have e2 : fwd (.rng (r.1 + d + 1) r.2) = true := by simp [fwd]; omega
      rw [List.filter_cons_of_pos e1, List.filter_cons_of_pos e2]
      simp only [List.filter_nil, List.any_cons, List.any_nil, Bool.or_false, hasIt]
      rw [Bool.eq_iff_iff]
      simp only [Bool.or_eq_true, Bool.and_eq_true, decide_eq_true_eq]
      omega
    · rw [if_neg h2]
      have e1 : fwd (.rng r.1 r.2) = true := by simp [fwd, h]
      have e2 : ¬ fwd (.rng r.2 r.1) = true := by simp [fwd]; omega
      rw [List.filter_cons_of_pos e1]
      by_cases h3 : rest / 7 % 3 = 2
      · rw [if_pos h3, List.filter_cons_of_neg e2]
        simp [hasIt]
      · rw [if_neg h3]
        simp [hasIt]
theorem tabIts_takes {t rest : Nat} (ht : t ≤ 6) (c : Nat) : ((tabIts t rest).filter fwd).any (hasIt c) = askedN t c := by
  have gen : ∀ rs : List (Nat × Nat), (∀ r ∈ rs, r.1 ≤ r.2) → (((rs.map (runIts rest)).flatten).filter fwd).any (hasIt c) = rs.any (inRun c) := by
    intro rs
    induction rs with
    | nil => intro _; rfl
    | cons r rs ih =>
      intro h
      rw [List.map_cons, List.flatten_cons, List.filter_append, List.any_append, runIts_takes (h r (.head _)), ih fun q hq => h q (.tail _ hq), List.any_cons]
  unfold tabIts askedN
  rw [gen _ fun r hr => (runs_ok ht r (turned_mem hr)).1]
  unfold turned
  rw [List.any_append, Bool.or_comm, ← List.any_append, List.take_append_drop]
theorem brIts_takes {ts : List (Nat × Nat)} (h : ∀ p ∈ ts, p.1 ≤ 6) (c : Nat) : ((brIts ts).filter fwd).any (hasIt c) = ts.any fun q => askedN q.1 c := by
  induction ts with
  | nil => rfl
  | cons p r ih =>
    have e : brIts (p :: r) = tabIts p.1 p.2 ++ brIts r := rfl
    rw [e, List.filter_append, List.any_append, tabIts_takes (h p (.head _)), ih fun q hq => h q (.tail _ hq), List.any_cons]
noncomputable def partOf : Piece → Part
  | .star => .star
  | .any => .any
  | .br b ts => .br b ((brIts ts).filter fwd)
noncomputable def isStarP : Part → Bool
  | .star => true
  | _ => false
noncomputable def lastStar (ps : List Part) : Bool := match ps.getLast? with
  | some p => isStarP p
  | none => false
noncomputable def addPart (acc : List Part) (p : Piece) : List Part := match p with
  | .star => if lastStar acc = true then acc else acc ++ [.star]
  | p => acc ++ [partOf p]
noncomputable def partsOf (ps : List Piece) : List Part := ps.foldl addPart []
theorem partOf_takes {p : Piece} (h : OkP p) (c : Nat) : takesP (partOf p) c = takesPiece p c := by
  cases p with
  | star => rfl
  | any => rfl
  | br b ts =>
    show ((((brIts ts).filter fwd).any (hasIt c)) != b) = _
    rw [brIts_takes h.2]
    rfl
/-- the parts, item by item -/
noncomputable def stepR (text : List Nat) (S : Nat → Bool) (p : Part) : Nat → Bool := match p with
  | .star => fun e => (List.range (e + 1)).any S
  | p => fun e => match e with
    | 0 => false
    | e + 1 => S e && takesP p (text.getD e 0)
noncomputable def partR (ps : List Part) (text : List Nat) : Nat → Bool := ps.foldl (stepR text) fun e => e == 0
theorem partR_snoc (ps : List Part) (p : Part) (text : List Nat) : partR (ps ++ [p]) text = stepR text (partR ps text) p := by
  unfold partR
  rw [List.foldl_append]
  rfl
theorem row_part (parts : List Part) (text : List Nat) : ∀ e p, p ≤ parts.length → rowR parts text e p = partR (parts.take p) text e := by
  intro e
  induction e with
  | zero =>
    intro p
    induction p with
    | zero => intro _; rfl
    | succ p ih =>
      intro hp
      have hq : parts[p]? = some (parts[p]'hp) := List.getElem?_eq_getElem hp
      have h1 := ih (by omega)
      rw [List.take_add_one, hq]
      show startR parts (p + 1) = partR (parts.take p ++ [parts[p]]) text 0
      rw [partR_snoc, startR_succ hq]
      have h1' : startR parts p = partR (parts.take p) text 0 := h1
      cases parts[p] with
      | star => rw [h1']; simp [stepR]
      | any => rfl
      | br b its => rfl
  | succ e ihe =>
    intro p
    induction p with
    | zero => intro _; rfl
    | succ p ih =>
      intro hp
      have hq : parts[p]? = some (parts[p]'hp) := List.getElem?_eq_getElem hp
      have h1 := ih (by omega)
      have h2 := ihe p (by omega)
      have h3 := ihe (p + 1) hp
      rw [List.take_add_one, hq] at h3 ⊢
      have e3 : (some parts[p]).toList = [parts[p]] := rfl
      rw [e3, partR_snoc] at h3 ⊢
      show cellR parts (rowR parts text e) (text.getD e 0) (p + 1) = _
      rw [cellR_succ hq]
      have h1' : cellR parts (rowR parts text e) (text.getD e 0) p = partR (parts.take p) text (e + 1) := h1
      rw [h1', h2, h3]
      cases parts[p] with
      | star =>
        simp only [nextR, stepR]
        rw [List.range_succ (n := e + 1), List.any_append, Bool.or_comm]
        simp
      | any => simp [nextR, stepR, takesP]
      | br b its => rfl
theorem step_star_twice (S : Nat → Bool) : (fun e => (List.range (e + 1)).any fun e => (List.range (e + 1)).any S) = fun e => (List.range (e + 1)).any S := by
  funext e
  rw [Bool.eq_iff_iff]
  simp only [List.any_eq_true, List.mem_range]
  constructor
  · rintro ⟨a, ha, b, hb, h⟩; exact ⟨b, by omega, h⟩
  · rintro ⟨b, hb, h⟩; exact ⟨b, hb, b, by omega, h⟩
theorem part_told (text : List Nat) : ∀ ps : List Piece, (∀ p ∈ ps, OkP p) → partR (partsOf ps) text = toldR ps text := by
  intro ps
  have gen : ∀ (qs : List Piece) (acc : List Part) (S : Nat → Bool), (∀ p ∈ qs, OkP p) → partR acc text = S → partR (qs.foldl addPart acc) text = qs.foldl (stepT text) S := by
    intro qs
    induction qs with
    | nil => intro acc S _ h; exact h
    | cons q qs ih =>
      intro acc S hq h
      rw [List.foldl_cons, List.foldl_cons]
      refine ih _ _ (fun p hp => hq p (.tail _ hp)) ?_
      have ho := hq q (.head _)
      cases q with
      | star =>
        show partR (if lastStar acc = true then acc else acc ++ [.star]) text = stepT text S .star
        by_cases hl : lastStar acc = true
        · rw [if_pos hl]
          have : ∃ b, acc = b ++ [.star] := by
            unfold lastStar at hl
            split at hl
            · rename_i p hp
              obtain ⟨b, rfl⟩ := List.getLast?_eq_some_iff.mp hp
              cases p with
              | star => exact ⟨b, rfl⟩
              | any => cases hl
              | br b its => cases hl
            · cases hl
          obtain ⟨b, rfl⟩ := this
          rw [partR_snoc] at h
          rw [partR_snoc, ← h]
          show _ = fun e => (List.range (e + 1)).any fun e => (List.range (e + 1)).any (partR b text)
          rw [step_star_twice]
          rfl
        · rw [if_neg hl, partR_snoc, h]
          rfl
      | any =>
        show partR (acc ++ [.any]) text = _
        rw [partR_snoc, h]
        rfl
      | br b ts =>
        show partR (acc ++ [partOf (.br b ts)]) text = _
        rw [partR_snoc, h]
        funext e
        cases e with
        | zero => rfl
        | succ e =>
          show (S e && takesP (partOf (.br b ts)) (text.getD e 0)) = (S e && takesPiece (.br b ts) (text.getD e 0))
          rw [partOf_takes ho]
  intro h
  exact gen ps [] _ h rfl
/-- the law -/
theorem plain_law (ps : List Piece) (text : List Nat) (h : ∀ p ∈ ps, OkP p) : takenN (partsOf ps) text = toldN ps text := by
  unfold takenN toldN
  congr 1
  funext e
  rw [row_part _ _ _ _ (Nat.le_refl _), List.take_length, part_told text ps h]
end
theorem flush_29 : True := by first | walk1 | trivial
noncomputable section
section
variable {w : World} {A : Around} {s : Shared} {E : Value → Shared → Prop} {Q : Value → Shared → Prop} {x : Nat} {t u : Tok} {k : Nat}
local macro_rules | `(tactic| walk_at "call ref") => `(tactic| (refine' Mine.spec_runs (by assumption) (Mine.Base.ext (by assumption) (Mine.St.keep (by assumption))) (by assumption) ?_))
theorem spec_written {tb rest : Nat} (htb : tb ≤ 6) (hrest : rest < 1000000000) (B : Base w s.heap) (r : Room A (k + 3)) (hQ : ∀ h' tk t, Ext s.heap h' → Q (.str (strN (writtenN tb rest)) t) { s with heap := h', toks := tk }) :
    wpAny (MM w) A (call (.ref 172) [.int (tb : Int) u, .int (rest : Int) t]) Q E s := by
  obtain ⟨o, ho, hd⟩ := fn_written B
  refine call_def B r ho hd (cd_written B) (body := bodyP 23) (binds := [("table", .int (tb : Int) u), ("rest", .int (rest : Int) t)]) rfl rfl cl_written (locs (by rfl)) ?_ rfl rfl rfl
  intro h₀ S
  have e : EnvOk (callEnv fd_written s.heap.objs.size 172) s.heap.objs.size := ⟨rfl, rfl, rfl, rfl⟩
  have r' : Room (A.deeper (callEnv fd_written s.heap.objs.size 172)) (1 + 1) := (r.deeper (callEnv fd_written s.heap.objs.size 172)).le (by omega)
  conv => arg 3; arg 1; whnf
  walk_at "B go"
  rename_i h1 tk1 v1 x1 rp1
  obtain ⟨imm1, y1, S1, z1⟩ := S.called x1
  have B1 : Base w imm1 := B.ext y1
  have rp := Rep.ext z1 _ _ rp1
  simp only [runsD, Rep] at rp
  obtain ⟨ra, vs, n, rfl, g, hv⟩ := rp
  clear rp1 z1 x1
  walk_at "B go"
  have hlen : vs.length = (runsN tb).length := by have := hv.length; simpa using this
  have hpos : 0 < (runsN tb).length := by
    have cases7 : tb = 0 ∨ tb = 1 ∨ tb = 2 ∨ tb = 3 ∨ tb = 4 ∨ tb = 5 ∨ tb = 6 := by omega
    rcases cases7 with rfl | rfl | rfl | rfl | rfl | rfl | rfl <;> decide
  have hle : (runsN tb).length ≤ 20 := by
    have cases7 : tb = 0 ∨ tb = 1 ∨ tb = 2 ∨ tb = 3 ∨ tb = 4 ∨ tb = 5 ∨ tb = 6 := by omega
    rcases cases7 with rfl | rfl | rfl | rfl | rfl | rfl | rfl <;> decide
  have h20 : 20 ≤ sizeLine := Nat.le_of_ble_eq_true rfl
  refine lenL (vs := vs) (n := n) (by walk_at "B got") (by omega) fun t1 tk1 => ?_
  rw [hlen]
  walk_at "B go"
  refine wpAny_For ?_
  walk_at "B go"
  refine sliceFrom (vs := vs) (n := n) (by with_reducible assumption) (by walk_at "B got") (by omega) (by rfl) ?_
  intro _ _ _ _ _
  walk_at "B go"
  refine sliceUpto (vs := vs) (n := n) (by with_reducible assumption) (by walk_at "B got") (by omega) (by rfl) ?_
  intro _ _ _ _ _
  walk_at "B go"
  refine addL (by with_reducible assumption) (by walk_at "B led") (by walk_at "B led") (by simp; omega) ?_
  intro la ha Sa _ _
  obtain ⟨imm2, y2, S2, g2⟩ := Sa.freeze0
  have hv2 : Reps imm2 ((turned tb rest).map pairD) (vs.drop (rest % (runsN tb).length) ++ vs.take (rest % (runsN tb).length)) := by
    have := Reps.ext y2 _ _ ((hv.drop (rest % (runsN tb).length)).append (hv.take (rest % (runsN tb).length)))
    rwa [← List.map_drop, ← List.map_take, ← List.map_append] at this
  have hr2 : ∀ v ∈ vs.drop (rest % (runsN tb).length) ++ vs.take (rest % (runsN tb).length), ∃ T, v = .ref T := by
    intro v hm
    obtain ⟨i, hi⟩ := List.mem_iff_getElem?.mp hm
    obtain ⟨d, hd, rd⟩ := hv2.get hi
    rw [List.getElem?_map] at hd
    cases hq : (turned tb rest)[i]? with
    | none => rw [hq] at hd; cases hd
    | some q =>
      rw [hq] at hd; cases hd
      simp only [pairD, Rep] at rd
      obtain ⟨a, _, _, e, _⟩ := rd
      exact ⟨a, e⟩
  refine for_listT (fun i imm₁ m₁ mu₁ => mu₁ = [] ∧ (∃ t, m₁ "text" = some (.str (strN (((turned tb rest).take i).map (writeRun rest)).flatten) t)) ∧ m₁ "rest" = some (.int (rest : Int) t))
    r.1 (S2.drop (List.nil_sublist _)) g2 hr2 ⟨rfl, ⟨_, rfl⟩, rfl⟩ ?_ ?_
  · rintro i v imm₁ m₁ mu₁ its h tk hi hiv x₁ ⟨rfl, ⟨tt, hm1⟩, hm2⟩ Sx
    obtain ⟨d, hd, rd⟩ := hv2.get hiv
    rw [List.getElem?_map] at hd
    obtain ⟨⟨f, l⟩, hq⟩ : ∃ q, (turned tb rest)[i]? = some q := by
      cases hq : (turned tb rest)[i]? with
      | none => rw [hq] at hd; cases hd
      | some q => exact ⟨q, rfl⟩
    rw [hq] at hd
    cases hd
    simp only [pairD, Rep] at rd
    obtain ⟨T, ws, nn, rfl, gT, rw2⟩ := rd
    simp only [Reps, Rep] at rw2
    obtain ⟨_, _, rfl, ⟨tf, rfl⟩, _, _, rfl, ⟨tl, rfl⟩, rfl⟩ := rw2
    have B2 : Base w imm₁ := (B1.ext y2).ext x₁
    have hok := runs_ok htb _ (turned_mem (List.mem_of_getElem? hq))
    have hln := text_len rest ((turned tb rest).take i)
    have hl2 : ((turned tb rest).take i).length ≤ 20 := by
      have := turned_len tb rest
      rw [List.length_take]; omega
    have h200 : 200 ≤ sizeLine := Nat.le_of_ble_eq_true rfl
    dsimp only at hok
    refine unpack2 r.1 Sx (Sx.got (x₁ _ _ gT)) rfl rfl fun h' Sx' => ?_
    refine wpAny_assign_Name (st_local Sx' e (by rfl) fun ha Sa => ?_)
    refine wpAny_assign_Name (st_local Sa e (by rfl) fun hb Sb => ?_)
    refine written_turn Sb B2 hok.1 hok.2.1 hrest (by omega) ((look_ne (by decide) (look_ne (by decide) hm1))) ((look_ne (by decide) (look_ne (by decide) hm2))) (look_ne (by decide) (if_pos rfl)) (if_pos rfl) ?_
    intro h2 m2 tk2 S2 ⟨t2, e1⟩ e2
    refine ⟨imm₁, m2, [], h2, tk2, rfl, Ext.refl _, ⟨rfl, ⟨t2, ?_⟩, e2⟩, S2⟩
    rw [e1, List.take_add_one, hq]
    simp
  · rintro imm₁ m₁ mu₁ h tk x₁ ⟨rfl, ⟨tt, hm1⟩, hm2⟩ Sx
    walk_at "B go"
    have hlen2 : (List.drop (rest % (runsN tb).length) vs ++ List.take (rest % (runsN tb).length) vs).length = (turned tb rest).length := by
      have := hv2.length
      simpa using this
    rw [hlen2, List.take_length]
    exact hQ _ _ _ (y1.trans (y2.trans (x₁.trans Sx.keep)))
end
end
theorem flush_30 : True := by first | walk1 | trivial
noncomputable section
theorem runs_pos {tb : Nat} (htb : tb ≤ 6) : 0 < (runsN tb).length := by
  have cases7 : tb = 0 ∨ tb = 1 ∨ tb = 2 ∨ tb = 3 ∨ tb = 4 ∨ tb = 5 ∨ tb = 6 := by omega
  rcases cases7 with rfl | rfl | rfl | rfl | rfl | rfl | rfl <;> decide
theorem runs_len {tb : Nat} (htb : tb ≤ 6) : (runsN tb).length ≤ 20 := by
  have cases7 : tb = 0 ∨ tb = 1 ∨ tb = 2 ∨ tb = 3 ∨ tb = 4 ∨ tb = 5 ∨ tb = 6 := by omega
  rcases cases7 with rfl | rfl | rfl | rfl | rfl | rfl | rfl <;> decide
end
theorem flush_31 : True := by first | walk1 | trivial
noncomputable section
/-- which sign _law_sign gives -/
noncomputable def signOf (q : Nat × Nat) (rest : Nat) : Nat := min (if rest / 11 % 5 = 0 then q.1 - 1 else if rest / 11 % 5 = 1 then q.1 else if rest / 11 % 5 = 2 then q.2 else if rest / 11 % 5 = 3 then q.2 + 1 else q.1 + rest / 13 % (q.2 - q.1 + 1)) 1114111
noncomputable def signN (rest : Nat) : Nat := signOf ((runsN ((rest % 7 + rest / 3 % 2) % 7)).getD (rest / 5 % (runsN ((rest % 7 + rest / 3 % 2) % 7)).length) (0, 0)) rest
theorem signN_le (rest : Nat) : signN rest ≤ 1114111 := Nat.min_le_right _ _
section
variable {w : World} {A : Around} {s : Shared} {E : Value → Shared → Prop} {Q : Value → Shared → Prop} {x : Nat} {t u : Tok} {k : Nat}
local macro_rules | `(tactic| walk_at "call ref") => `(tactic| (refine' Mine.spec_runs (by omega) (Mine.Base.ext (by assumption) (Mine.St.keep (by assumption))) (by assumption) ?_))
theorem spec_signN {rest : Nat} (hrest : rest < 1000000000) (B : Base w s.heap) (r : Room A (k + 3)) (hQ0 : ∀ h' tk t, Ext s.heap h' → Q (.str (strN [signN rest]) t) { s with heap := h', toks := tk }) :
    wpAny (MM w) A (call (.ref 186) [.int (rest : Int) t]) Q E s := by
  have hQ : ∀ h' tk t c, c = signN rest → Ext s.heap h' → Q (.str (strN [c]) t) { s with heap := h', toks := tk } := by
    rintro h' tk t c rfl x
    exact hQ0 h' tk t x
  obtain ⟨o, ho, hd⟩ := fn_sign B
  refine call_def B r ho hd (cd_sign B) (body := bodyP 25) (binds := [("rest", .int (rest : Int) t)]) rfl rfl cl_sign (locs (by rfl)) ?_ rfl rfl rfl
  intro h₀ S
  have e : EnvOk (callEnv fd_sign s.heap.objs.size 186) s.heap.objs.size := ⟨rfl, rfl, rfl, rfl⟩
  have r' : Room (A.deeper (callEnv fd_sign s.heap.objs.size 186)) (1 + 1) := (r.deeper (callEnv fd_sign s.heap.objs.size 186)).le (by omega)
  conv => arg 3; arg 1; whnf
  walk_at "B go"
  rename_i h1 tk1 v1 x1 rp1
  obtain ⟨imm1, y1, S1, z1⟩ := S.called x1
  have B1 : Base w imm1 := B.ext y1
  have rp := Rep.ext z1 _ _ rp1
  generalize htb : (rest % 7 + rest / 3 % 2) % 7 = tb at rp
  have htb' : tb ≤ 6 := by omega
  simp only [runsD, Rep] at rp
  obtain ⟨ra, vs, n, rfl, g, hv⟩ := rp
  clear rp1 z1 x1
  walk_at "B go"
  have hlen : vs.length = (runsN tb).length := by have := hv.length; simpa using this
  have hpos : 0 < (runsN tb).length := runs_pos htb'
  have hle : (runsN tb).length ≤ 20 := runs_len htb'
  have h20 : 20 ≤ sizeLine := Nat.le_of_ble_eq_true rfl
  refine lenL (vs := vs) (n := n) (by walk_at "B got") (by omega) fun t1 tk1 => ?_
  rw [hlen]
  walk_at "B go"
  have hj : rest / 5 % (runsN tb).length < (runsN tb).length := Nat.mod_lt _ hpos
  generalize hjj : rest / 5 % (runsN tb).length = j at hj ⊢
  obtain ⟨⟨f, l⟩, hq⟩ : ∃ q, (runsN tb)[j]? = some q := ⟨_, List.getElem?_eq_getElem hj⟩
  have hd2 : ((runsN tb).map pairD)[j]? = some (pairD (f, l)) := by rw [List.getElem?_map, hq]; rfl
  obtain ⟨vv, hvv, rd⟩ := hv.at hd2
  simp only [pairD, Rep] at rd
  obtain ⟨T, ws, nn, rfl, gT, rw2⟩ := rd
  simp only [Reps, Rep] at rw2
  obtain ⟨_, _, rfl, ⟨tf, rfl⟩, _, _, rfl, ⟨tl, rfl⟩, rfl⟩ := rw2
  have hsg : signN rest = signOf (f, l) rest := by
    unfold signN
    rw [htb, hjj, List.getD_eq_getElem?_getD, hq]
    rfl
  have hok := runs_ok htb' _ (List.mem_of_getElem? hq)
  dsimp only at hok
  obtain ⟨hok1, hok2, hok3⟩ := hok
  refine subL (j := j) (by walk_at "B got") ⟨by omega, .inl rfl⟩ hvv (by omega) ?_
  refine unpack2 (m := _) r.1 (by with_reducible assumption) (by walk_at "B got") rfl rfl fun h' Sx' => ?_
  have hin := Nat.mod_lt (rest / 13) (show l - f + 1 > 0 by omega)
  walk_at "B go"
  have h5 : rest / 11 % 5 = 0 ∨ rest / 11 % 5 = 1 ∨ rest / 11 % 5 = 2 ∨ rest / 11 % 5 = 3 ∨ rest / 11 % 5 = 4 := by omega
  rcases h5 with h5 | h5 | h5 | h5 | h5
  all_goals (unfold signOf at hsg; simp [h5] at hsg)
  all_goals rw [h5]
  all_goals refine subT (by walk_at "B led") rfl (by decide) rfl ?_
  all_goals walk_at "B go"
  all_goals refine min_two_ints r.1 fun h' tk hk => ?_
  all_goals dsimp only at hk
  all_goals have Sf := St.ext (by with_reducible assumption) hk
  all_goals walk_at "B go"
  all_goals split
  all_goals first | refine chrN (c := 1114111) rfl (Nat.le_refl _) fun t' tk' => ?_ | refine chrC (by omega) fun t' tk' => ?_
  all_goals exact hQ _ _ _ _ (by clear hrest htb hjj hin h5 hj hQ hQ0; rw [hsg]; first | exact (Nat.min_eq_left (by omega)).symm | exact (Nat.min_eq_right (by omega)).symm) (y1.trans Sf.keep)
end
end
theorem flush_32 : True := by first | walk1 | trivial
noncomputable section
theorem Reps.setLast {h : Heap} {d d' : D} {v' : Value} (r : Rep h d' v') : ∀ {ds : List D} {vs : List Value}, Reps h (ds ++ [d]) vs → Reps h (ds ++ [d']) (vs.set ds.length v')
  | [], vs, e => by
    simp only [List.nil_append, Reps] at e
    obtain ⟨v, _, rfl, _, rfl⟩ := e
    exact Reps.cons r Reps.nil
  | x :: ds, vs, e => by
    simp only [List.cons_append, Reps] at e
    obtain ⟨v, w, rfl, a, b⟩ := e
    exact Reps.cons a (Reps.setLast r b)
section
variable {w : World} {A : Around} {s : Shared} {E : Value → Shared → Prop} {x : Nat} {t u : Tok} {k : Nat}
local macro_rules | `(tactic| walk_at "call ref") => `(tactic| (refine' Mine.spec_written (by omega) (by omega) (Mine.Base.ext (by assumption) (Mine.St.keep (by assumption))) (by assumption) ?_; intro _ _ _ xx; have S' := Mine.St.ext (by with_reducible assumption) xx; clear xx))
theorem pattern_turn {cell : Nat} {ps : List Piece} {L pa ia : Addr} {pvs ivs : List Value} {k1 k2 : Nat} {imm : Heap} {m : Str → Option Value} {mu : List (Addr × Obj)} {Q : Flow → Shared → Prop} {E : Value → Shared → Prop}
    (S : St imm L m ((pa, lstO pvs k1) :: (ia, lstO ivs k2) :: mu) s.heap) (B : Base w imm) (r : Room A (2 + 1)) (rh : A.handled = none) (hpl : pvs.length ≤ sizeLine) (hil : ivs.length ≤ sizeLine) (hcell : cell < 1000000000)
    (m1 : m "pieces" = some (.ref pa)) (m2 : m "items" = some (.ref ia)) (m3 : m "cell" = some (.int (cell : Int) t)) (hp : Reps imm (textsD ps) pvs) (hi : Reps (above L imm) (itemsD ps) ivs) (ok : ∀ p ∈ ps, OkP p) (wt : weightPs ps ≤ 6) (hl : ps.length ≤ 6)
    (hQ : ∀ imm' h' m' tk pvs' ivs' k1' k2', Ext imm imm' → St imm' L m' ((pa, lstO pvs' k1') :: (ia, lstO ivs' k2') :: mu) h' → m' "pieces" = some (.ref pa) → m' "items" = some (.ref ia) →
      Reps imm' (textsD (stepP ps cell)) pvs' → Reps (above L imm') (itemsD (stepP ps cell)) ivs' → Q .next { s with heap := h', toks := tk }) :
    wpAny (MM w) A (execs (forBody (bodyP 24)[2]?) (callEnv fd_pattern L 179)) Q E s := by
  have e : EnvOk (callEnv fd_pattern L 179) L := ⟨rfl, rfl, rfl, rfl⟩
  conv => arg 3; arg 1; whnf
  have hw := written_len (t := cell / 6 % 7) (rest := cell / 6 / 7) (by omega)
  have h200 : 20000 ≤ sizeLine := Nat.le_of_ble_eq_true rfl
  have add : ∀ (p : Piece) imm' h' m' tk v iv n1 n2, Ext imm imm' → St imm' L m' ((pa, lstO (pvs ++ [v]) n1) :: (ia, lstO (ivs ++ [iv]) n2) :: mu) h' → m' "pieces" = some (.ref pa) → m' "items" = some (.ref ia) →
      stepP ps cell = ps ++ [p] → Rep imm' (.str (strN (pieceText p))) v → Rep (above L imm') (itemD p) iv → Q .next { s with heap := h', toks := tk } := by
    intro p imm' h' m' tk v iv n1 n2 x S' e1 e2 e3 r1 r2
    refine hQ imm' h' m' tk _ _ n1 n2 x S' e1 e2 ?_ ?_
    · rw [e3]; unfold textsD; rw [List.map_append]; exact (Reps.ext x _ _ hp).snoc r1
    · rw [e3]; unfold itemsD; rw [List.map_append]; exact (Reps.ext (above_ext x) _ _ hi).snoc r2
  walk_at "B go"
  · have h0 : cell % 6 = 0 := by omega
    rename St _ _ _ _ _ => Sf
    exact add .star _ _ _ _ _ _ _ _ (Ext.refl _) Sf.drop0 (by walk_at "B look") (by walk_at "B look") (by unfold stepP; rw [if_pos h0]) (Rep.mkStr rfl) Rep.mkNone
  · have h0 : cell % 6 ≠ 0 := by omega
    have h1 : cell % 6 = 1 := by omega
    rename St _ _ _ _ _ => Sf
    obtain ⟨i1, x1, S1, g1⟩ := Sf.freeze0
    obtain ⟨i2, x2, S2, g2⟩ := S1.freeze0
    exact add .any _ _ _ _ _ _ _ _ (x1.trans x2) S2.drop0 (by walk_at "B look") (by walk_at "B look") (by unfold stepP; rw [if_neg h0, if_pos h1]) (Rep.mkStr rfl) (Rep.mkTup (above_get.mpr ⟨x2 _ _ g1, Nat.le_of_lt (by with_reducible assumption)⟩) (Reps.cons (Rep.mkList (above_get.mpr ⟨g2, Nat.le_of_lt (by with_reducible assumption)⟩) Reps.nil) (Reps.cons (Rep.mkBool rfl) Reps.nil)))
  · have h4 : cell % 6 = 4 := by omega
    have fall : lastBr ps = none → stepP ps cell = ps ++ [.br false [(cell / 6 % 7, cell / 6 / 7)]] := by
      intro hb
      unfold stepP
      rw [if_neg (by omega), if_neg (by omega), if_neg (by omega), if_pos h4, hb]
      simp [h4]
    refine truthyL (by walk_at "B led") hpl fun tk => ?_
    rcases List.eq_nil_or_concat ps with hps | ⟨qs, p, hps⟩
    · have hpv : pvs = [] := by subst hps; simpa [textsD, Reps] using hp
      rw [if_neg (by simp [hpv])]
      walk_at "B go"
      all_goals first | (exfalso; omega) | skip
      rename St _ _ _ _ _ => Sf
      obtain ⟨i1, x1, S1, g1⟩ := Sf.freeze0
      obtain ⟨i2, x2, S2, g2⟩ := S1.freeze0
      exact add _ _ _ _ _ _ _ _ _ (x1.trans x2) S2.drop0 (by walk_at "B look") (by walk_at "B look") (fall (by rw [hps]; rfl)) (Rep.mkStr (by simp [pieceText, bangN, bodyText])) (Rep.mkTup (above_get.mpr ⟨x2 _ _ g1, Nat.le_of_lt (by with_reducible assumption)⟩) (Reps.cons (Rep.mkList (above_get.mpr ⟨g2, Nat.le_of_lt (by with_reducible assumption)⟩) (Reps.cons (Rep.mkInt rfl) Reps.nil)) (Reps.cons (Rep.mkBool (by rw [h4]; rfl)) Reps.nil)))
    · rw [List.concat_eq_append] at hps
      have hlen : pvs.length = qs.length + 1 := by have := hp.length; rw [hps] at this; simpa [textsD] using this
      have hlen2 : ivs.length = qs.length + 1 := by have := hi.length; rw [hps] at this; simpa [itemsD] using this
      have hne : pvs ≠ [] := fun e => by rw [e] at hlen; simp at hlen
      obtain ⟨v, hv, rv⟩ := hp.at (i := qs.length) (d := .str (strN (pieceText p))) (by rw [hps]; simp [textsD])
      simp only [Rep] at rv
      obtain ⟨tv, rfl⟩ := rv
      rw [if_pos (by simp [hne])]
      walk_at "B go"
      refine subL (j := qs.length) (by walk_at "B led") ⟨by omega, .inr (by omega)⟩ hv hpl ?_
      walk_at "B go"
      have lastN : (∀ b ts, p ≠ .br b ts) → lastBr ps = none := by
        intro hb
        rw [hps]
        unfold lastBr
        rw [List.getLast?_concat]
        cases p with
        | br b ts => exact absurd rfl (hb b ts)
        | _ => rfl
      cases p with
      | star =>
        refine subS (j := 0) (c := 42) ⟨by decide, .inl rfl⟩ rfl (by show 1 ≤ sizeLine; omega) ?_
        intro _ _
        walk_at "B go"
        all_goals first | (exfalso; omega) | exact absurd (by assumption : [42] = [91]) (by decide) | skip
        rename St _ _ _ _ _ => Sf
        obtain ⟨i1, x1, S1, g1⟩ := Sf.freeze0
        obtain ⟨i2, x2, S2, g2⟩ := S1.freeze0
        exact add _ _ _ _ _ _ _ _ _ (x1.trans x2) S2.drop0 (by walk_at "B look") (by walk_at "B look") (fall (lastN (by simp))) (Rep.mkStr (by simp [pieceText, bangN, bodyText])) (Rep.mkTup (above_get.mpr ⟨x2 _ _ g1, Nat.le_of_lt (by with_reducible assumption)⟩) (Reps.cons (Rep.mkList (above_get.mpr ⟨g2, Nat.le_of_lt (by with_reducible assumption)⟩) (Reps.cons (Rep.mkInt rfl) Reps.nil)) (Reps.cons (Rep.mkBool (by rw [h4]; rfl)) Reps.nil)))
      | any =>
        refine subS (j := 0) (c := 63) ⟨by decide, .inl rfl⟩ rfl (by show 1 ≤ sizeLine; omega) ?_
        intro _ _
        walk_at "B go"
        all_goals first | (exfalso; omega) | exact absurd (by assumption : [63] = [91]) (by decide) | skip
        rename St _ _ _ _ _ => Sf
        obtain ⟨i1, x1, S1, g1⟩ := Sf.freeze0
        obtain ⟨i2, x2, S2, g2⟩ := S1.freeze0
        exact add _ _ _ _ _ _ _ _ _ (x1.trans x2) S2.drop0 (by walk_at "B look") (by walk_at "B look") (fall (lastN (by simp))) (Rep.mkStr (by simp [pieceText, bangN, bodyText])) (Rep.mkTup (above_get.mpr ⟨x2 _ _ g1, Nat.le_of_lt (by with_reducible assumption)⟩) (Reps.cons (Rep.mkList (above_get.mpr ⟨g2, Nat.le_of_lt (by with_reducible assumption)⟩) (Reps.cons (Rep.mkInt rfl) Reps.nil)) (Reps.cons (Rep.mkBool (by rw [h4]; rfl)) Reps.nil)))
      | br b ts =>
        have hok : OkP (.br b ts) := ok _ (by rw [hps]; simp)
        have hpl2 := piece_len hok
        have hw2 : weightP (.br b ts) ≤ 6 := by
          have : weightPs ps = weightPs qs + weightP (.br b ts) := by rw [hps]; simp [weightPs]
          omega
        refine subS (j := 0) (c := 91) ⟨by simp [pieceText], .inl rfl⟩ rfl (by omega) ?_
        intro _ _
        walk_at "B go"
        all_goals first | exact absurd rfl (by assumption : ¬ ([91] : List Nat) = [91]) | skip
        refine subL (j := qs.length) (by walk_at "B led") ⟨by omega, .inr (by omega)⟩ hv hpl ?_
        walk_at "B go"
        refine sliceS_ns (by with_reducible assumption) (by omega) (by rfl) ?_
        intro _ _ _ _
        have hcl : clipN (pieceText (.br b ts)).length (-1) = (pieceText (.br b ts)).length - 1 := by unfold clipN; rw [if_pos (by omega)]; omega
        have htk : (pieceText (.br b ts)).take ((pieceText (.br b ts)).length - 1) = 91 :: (bangN b ++ bodyText ts) := by
          rw [← List.dropLast_eq_take]
          show ((91 :: (bangN b ++ bodyText ts)) ++ [93]).dropLast = _
          exact List.dropLast_concat
        rw [hcl, htk]
        have hbl : (91 :: (bangN b ++ bodyText ts)).length ≤ 1000 := by
          have := congrArg List.length htk
          rw [List.length_take] at this; omega
        simp only [List.length_append, List.length_cons] at hbl
        walk_at "B go"
        refine setA (j := qs.length) (by with_reducible assumption) (by walk_at "B at") ⟨by omega, .inr (by omega)⟩ hpl ?_
        intro _ _ _
        obtain ⟨iv, hiv, ri⟩ := hi.at (i := qs.length) (d := itemD (.br b ts)) (by rw [hps]; simp [itemsD])
        simp only [itemD, Rep] at ri
        obtain ⟨T, ws, nn, rfl, gT, rw2⟩ := ri
        simp only [Reps, Rep] at rw2
        obtain ⟨_, _, rfl, ⟨la, tvs, nl, rfl, gl, rl⟩, _, _, rfl, rfl, rfl⟩ := rw2
        replace gT := (above_get.mp gT).1
        replace gl := (above_get.mp gl).1
        walk_at "B go"
        refine subL (j := qs.length) (by walk_at "B led") ⟨by omega, .inr (by omega)⟩ hiv hil ?_
        walk_at "B go"
        refine subT (j := 0) (by walk_at "B got") rfl (by decide) rfl ?_
        walk_at "B go"
        refine addL (by with_reducible assumption) (by walk_at "B got") (by walk_at "B led") (by have := rl.length; simp at this; simp [weightP] at hw2; simp; omega) ?_
        intro _ _ _ _ _
        walk_at "B go"
        refine subL (j := qs.length) (by walk_at "B led") ⟨by omega, .inr (by omega)⟩ hiv hil ?_
        walk_at "B go"
        refine subT (j := 1) (by walk_at "B got") rfl (by decide) rfl ?_
        walk_at "B go"
        refine setA (j := qs.length) (by with_reducible assumption) (by walk_at "B at") ⟨by omega, .inr (by omega)⟩ hil ?_
        intro _ _ _
        walk_at "B go"
        rename St _ _ _ _ _ => Sf
        obtain ⟨i1, x1, S1, g1⟩ := Sf.freeze0
        obtain ⟨i2, x2, S2, g2⟩ := S1.freeze0
        have e3 : stepP ps cell = qs ++ [.br b (ts ++ [(cell / 6 % 7, cell / 6 / 7)])] := by
          unfold stepP
          have : lastBr ps = some (b, ts) := by rw [hps]; unfold lastBr; rw [List.getLast?_concat]
          rw [if_neg (by omega), if_neg (by omega), if_neg (by omega), if_pos h4, this, hps]
          simp
        have x12 := x1.trans x2
        have hp' : Reps i2 (textsD qs ++ [.str (strN (pieceText (.br b ts)))]) pvs := by
          have := Reps.ext x12 _ _ hp
          rw [hps] at this; simpa [textsD] using this
        have hi' : Reps (above L i2) (itemsD qs ++ [itemD (.br b ts)]) ivs := by
          have := Reps.ext (above_ext x12) _ _ hi
          rw [hps] at this; simpa [itemsD] using this
        refine hQ i2 _ _ _ _ _ _ _ x12 S2.drop0.drop0 (by walk_at "B look") (by walk_at "B look") ?_ ?_
        · have el : qs.length = (textsD qs).length := by simp [textsD]
          rw [e3, el, show textsD (qs ++ [Piece.br b (ts ++ [(cell / 6 % 7, cell / 6 / 7)])]) = textsD qs ++ [.str (strN (pieceText (Piece.br b (ts ++ [(cell / 6 % 7, cell / 6 / 7)]))))] by simp [textsD]]
          exact hp'.setLast (Rep.mkStr (by simp [pieceText, bodyText]))
        · have el : qs.length = (itemsD qs).length := by simp [itemsD]
          rw [e3, el, show itemsD (qs ++ [Piece.br b (ts ++ [(cell / 6 % 7, cell / 6 / 7)])]) = itemsD qs ++ [itemD (Piece.br b (ts ++ [(cell / 6 % 7, cell / 6 / 7)]))] by simp [itemsD]]
          exact hi'.setLast (Rep.mkTup (above_get.mpr ⟨x2 _ _ g1, Nat.le_of_lt (by with_reducible assumption)⟩) (Reps.cons (Rep.mkList (above_get.mpr ⟨g2, Nat.le_of_lt (by with_reducible assumption)⟩) (by rw [List.map_append]; exact (Reps.ext (above_ext x12) _ _ rl).snoc (Rep.mkInt rfl))) (Reps.cons (Rep.mkBool rfl) Reps.nil)))
  · have h3 : cell % 6 = 3 := by omega
    rename St _ _ _ _ _ => Sf
    obtain ⟨i1, x1, S1, g1⟩ := Sf.freeze0
    obtain ⟨i2, x2, S2, g2⟩ := S1.freeze0
    have e3 : stepP ps cell = ps ++ [.br true [(cell / 6 % 7, cell / 6 / 7)]] := by unfold stepP; rw [if_neg (by omega), if_neg (by omega), if_neg (by omega), if_neg (by omega)]; simp [h3]
    exact add _ _ _ _ _ _ _ _ _ (x1.trans x2) S2.drop0 (by walk_at "B look") (by walk_at "B look") e3 (Rep.mkStr (by simp [pieceText, bangN, bodyText])) (Rep.mkTup (above_get.mpr ⟨x2 _ _ g1, Nat.le_of_lt (by with_reducible assumption)⟩) (Reps.cons (Rep.mkList (above_get.mpr ⟨g2, Nat.le_of_lt (by with_reducible assumption)⟩) (Reps.cons (Rep.mkInt rfl) Reps.nil)) (Reps.cons (Rep.mkBool (by rw [h3]; rfl)) Reps.nil)))
  · have h3 : cell % 6 ≠ 3 := by omega
    have h2 : cell % 6 = 2 := by omega
    rename St _ _ _ _ _ => Sf
    obtain ⟨i1, x1, S1, g1⟩ := Sf.freeze0
    obtain ⟨i2, x2, S2, g2⟩ := S1.freeze0
    have e3 : stepP ps cell = ps ++ [.br false [(cell / 6 % 7, cell / 6 / 7)]] := by unfold stepP; rw [if_neg (by omega), if_neg (by omega), if_neg (by omega), if_neg (by omega)]; simp [h2]
    exact add _ _ _ _ _ _ _ _ _ (x1.trans x2) S2.drop0 (by walk_at "B look") (by walk_at "B look") e3 (Rep.mkStr (by simp [pieceText, bangN, bodyText])) (Rep.mkTup (above_get.mpr ⟨x2 _ _ g1, Nat.le_of_lt (by with_reducible assumption)⟩) (Reps.cons (Rep.mkList (above_get.mpr ⟨g2, Nat.le_of_lt (by with_reducible assumption)⟩) (Reps.cons (Rep.mkInt rfl) Reps.nil)) (Reps.cons (Rep.mkBool (by rw [h2]; rfl)) Reps.nil)))
  · have h5 : cell % 6 = 5 := by omega
    rename St _ _ _ _ _ => Sf
    have e3 : stepP ps cell = ps := by unfold stepP; rw [if_neg (by omega), if_neg (by omega), if_pos h5]
    exact hQ _ _ _ _ _ _ _ _ (Ext.refl _) Sf.drop0 (by walk_at "B look") (by walk_at "B look") (by rw [e3]; exact hp) (by rw [e3]; exact hi)
end
end
end
theorem flush_33 : True := by first | walk1 | trivial
noncomputable section
theorem pieces_ok (cells : List Nat) : (∀ p ∈ pcsOfN cells, OkP p) ∧ weightPs (pcsOfN cells) ≤ cells.length ∧ (pcsOfN cells).length ≤ cells.length := by
  have gen : ∀ (cells : List Nat) (ps : List Piece), (∀ p ∈ ps, OkP p) → (∀ p ∈ cells.foldl stepP ps, OkP p) ∧ weightPs (cells.foldl stepP ps) ≤ weightPs ps + cells.length ∧ (cells.foldl stepP ps).length ≤ ps.length + cells.length := by
    intro cells
    induction cells with
    | nil => intro ps h; exact ⟨h, Nat.le_refl _, Nat.le_refl _⟩
    | cons c r ih =>
      intro ps h
      have h1 := step_ok (cell := c) h
      have h2 := ih (stepP ps c) h1.1
      refine ⟨h2.1, ?_, ?_⟩
      · have := h2.2.1; simp only [List.foldl_cons, List.length_cons]; omega
      · have := h2.2.2; simp only [List.foldl_cons, List.length_cons]; omega
  have := gen cells [] (fun _ h => nomatch h)
  simpa [pcsOfN, weightPs] using this
noncomputable def patText (ps : List Piece) : List Nat := (ps.map pieceText).flatten
theorem patText_len {ps : List Piece} (h : ∀ p ∈ ps, OkP p) : (patText ps).length ≤ 123 * weightPs ps := by
  induction ps with
  | nil => simp [patText]
  | cons p r ih =>
    have h1 := piece_len (h p (.head _))
    have h2 := ih fun q hq => h q (.tail _ hq)
    unfold patText weightPs at *
    simp only [List.map_cons, List.flatten_cons, List.length_append, List.sum_cons]
    omega
section
variable {w : World} {A : Around} {s : Shared} {E : Value → Shared → Prop} {Q : Value → Shared → Prop} {t u : Tok} {k : Nat}
theorem spec_pattern {cells : List Nat} {ca : Addr} {cvs : List Value} {n : Nat} (hg : s.heap.get? ca = some (lstO cvs n)) (hc : Reps s.heap (cells.map fun (c : Nat) => D.int c) cvs) (hcs : ∀ c ∈ cells, c < 1000000000) (hlen : cells.length ≤ 6) (B : Base w s.heap) (r : Room A (k + 4))
    (hQ : ∀ h' tk v, Ext s.heap h' → Rep (above s.heap.objs.size h') (.tup [.str (strN (patText (pcsOfN cells))), .list (itemsD (pcsOfN cells))]) v → Q v { s with heap := h', toks := tk }) :
    wpAny (MM w) A (call (.ref 179) [.ref ca]) Q E s := by
  obtain ⟨o, ho, hd⟩ := fn_pattern B
  refine call_def B r ho hd (cd_pattern B) (body := bodyP 24) (binds := [("cells", .ref ca)]) rfl rfl cl_pattern (locs (by rfl)) ?_ rfl rfl rfl
  intro h₀ S
  have e : EnvOk (callEnv fd_pattern s.heap.objs.size 179) s.heap.objs.size := ⟨rfl, rfl, rfl, rfl⟩
  have r' : Room (A.deeper (callEnv fd_pattern s.heap.objs.size 179)) (2 + 1) := (r.deeper (callEnv fd_pattern s.heap.objs.size 179)).le (by omega)
  have h200 : 20000 ≤ sizeLine := Nat.le_of_ble_eq_true rfl
  conv => arg 3; arg 1; whnf
  walk_at "B go"
  rename St _ _ _ _ _ => Sf
  obtain ⟨pa, hpa⟩ : ∃ pa, pa = s.heap.objs.size := ⟨_, rfl⟩
  refine wpAny_For ?_
  walk_at "B go"
  refine for_list (fun i imm₁ m₁ mu₁ => ∃ pvs ivs k1 k2, mu₁ = [(_, lstO pvs k1), (_, lstO ivs k2)] ∧ m₁ "pieces" = some (.ref _) ∧ m₁ "items" = some (.ref _) ∧ Reps imm₁ (textsD (pcsOfN (cells.take i))) pvs ∧ Reps (above s.heap.objs.size imm₁) (itemsD (pcsOfN (cells.take i))) ivs)
    r.1 Sf.swap hg ⟨[], [], 0, 0, rfl, by walk_at "B look", by walk_at "B look", Reps.nil, Reps.nil⟩ ?_ ?_
  · rintro i v imm₁ m₁ mu₁ its h tk hi hiv x₁ ⟨pvs, ivs, k1, k2, rfl, n1, n2, n3, n4⟩ Sx
    obtain ⟨d, hd, rd⟩ := hc.get hiv
    rw [List.getElem?_map] at hd
    obtain ⟨c, hq⟩ : ∃ c, cells[i]? = some c := by
      cases hq : cells[i]? with
      | none => rw [hq] at hd; cases hd
      | some q => exact ⟨q, rfl⟩
    rw [hq] at hd
    cases hd
    simp only [Rep] at rd
    obtain ⟨tc, rfl⟩ := rd
    have hcc := hcs c (List.mem_of_getElem? hq)
    have hil : i < cells.length := (List.getElem?_eq_some_iff.mp hq).1
    obtain ⟨o1, o2, o3⟩ := pieces_ok (cells.take i)
    rw [List.length_take] at o2 o3
    have l1 := n3.length
    have l2 := n4.length
    simp only [textsD, itemsD, List.length_map] at l1 l2
    refine wpAny_assign_Name (st_local Sx e (by rfl) fun hb Sb => ?_)
    refine pattern_turn (ps := pcsOfN (cells.take i)) (cell := c) (t := tc) Sb (B.ext x₁) r' r.1 (by omega) (by omega) hcc (look_ne (by decide) n1) (look_ne (by decide) n2) (if_pos rfl) n3 n4 o1 (by omega) (by omega) ?_
    intro imm' h' m' tk' pvs' ivs' k1' k2' x2 S2 b1 b2 b3 b4
    have e3 : pcsOfN (cells.take (i + 1)) = stepP (pcsOfN (cells.take i)) c := by
      rw [List.take_add_one, hq]
      simp [pcsOfN, List.foldl_append]
    exact ⟨imm', m', _, h', tk', rfl, x2, ⟨pvs', ivs', k1', k2', rfl, b1, b2, by rw [e3]; exact b3, by rw [e3]; exact b4⟩, S2⟩
  · rintro imm₁ m₁ mu₁ h tk x₁ ⟨pvs, ivs, k1, k2, rfl, n1, n2, n3, n4⟩ Sx
    have hcl : cvs.length = cells.length := by have := hc.length; simpa using this
    rw [hcl, List.take_length] at n3 n4
    obtain ⟨o1, o2, o3⟩ := pieces_ok cells
    have hpl := patText_len o1
    walk_at "B go"
    refine joinS (ls := (pcsOfN cells).map pieceText) (sep := []) (by walk_at "B led") (by rw [List.map_map]; exact n3) (by simp) ?_ ?_
    · unfold patText at hpl
      rw [List.length_flatten] at hpl
      rw [List.length_map]
      omega
    intro t' tk'
    rw [joinN_nil]
    walk_at "B go"
    rename St _ _ _ _ _ => Sz
    obtain ⟨i1, y1, S1, g1⟩ := Sz.freezeD (Del.there (Del.there Del.here))
    obtain ⟨i2, y2, S2, g2⟩ := S1.freeze0
    refine hQ _ _ _ (x₁.trans (y1.trans (y2.trans S2.keep))) ?_
    have up : Ext (above s.heap.objs.size imm₁) (above s.heap.objs.size _) := above_ext (y1.trans (y2.trans S2.keep))
    exact Rep.mkTup (above_get.mpr ⟨S2.keep _ _ g2, Nat.le_of_lt (by with_reducible assumption)⟩) (Reps.cons (Rep.mkStr rfl) (Reps.cons (Rep.mkList (above_get.mpr ⟨S2.keep _ _ (y2 _ _ g1), Nat.le_of_lt (by with_reducible assumption)⟩) (Reps.ext up _ _ n4)) Reps.nil))
end
end
section
local macro_rules | `(tactic| omega) => `(tactic| lia)
theorem flush_34 : True := by first | walk1 | trivial
noncomputable section
section
variable {w : World} {A : Around} {s : Shared} {E : Value → Shared → Prop} {Q : Value → Shared → Prop} {t u : Tok} {k : Nat}
noncomputable abbrev told_env (L : Addr) : Env := callEnvC fd_told L 191
local macro_rules | `(tactic| walk_at "eval Name") => `(tactic| (refine' Mine.nm_cell rfl (by rfl) (by rfl) (by walk_at "B led") ?_))
theorem told_star {L ea : Addr} {imm : Heap} {m : Str → Option Value} {mu : List (Addr × Obj)} {text : List Nat} {F : Nat → Bool} {evs : List Value} {ke : Nat} {tx : Tok} {Q : Flow → Shared → Prop} {E : Value → Shared → Prop}
    (S : St imm L m ((L + 2, cellO (some .none)) :: (L + 1, cellO (some (.str (strN text) tx))) :: mu) s.heap) (B : Base w imm) (hh : A.handled = none) (htl : text.length ≤ 100) (m1 : m "ends" = some (.ref ea))
    (ge : imm.get? ea = some (lstO evs ke)) (he : Reps imm (natsD (endsN F (text.length + 1))) evs)
    (hQ : ∀ imm' h' m' tk ea', Ext imm imm' → St imm' L m' ((L + 2, cellO (some .none)) :: (L + 1, cellO (some (.str (strN text) tx))) :: mu) h' → m' "ends" = some (.ref ea') → Rep (above L imm') (.list (natsD (endsN (stepT text F .star) (text.length + 1)))) (.ref ea') →
      (∀ x : Str, x ≠ "ends" → x ≠ "left" → m' x = m x) → Q .next { s with heap := h', toks := tk }) :
    wpAny (MM w) A (execs (forBody (bodyP 26)[1]?) (told_env L)) Q E s := by
  have e : EnvOk (told_env L) L := ⟨rfl, rfl, rfl, rfl⟩
  have h200 : 20000 ≤ sizeLine := Nat.le_of_ble_eq_true rfl
  conv => arg 3; arg 1; whnf
  walk_at "B go"
  have lev := he.length
  have hel := endsN_len F (text.length + 1)
  unfold natsD at lev
  rw [List.length_map] at lev
  refine truthyL (vs := evs) (by walk_at "B got") (by omega) fun tk0 => ?_
  have done : ∀ (l : List Nat) c h' m' vs n tk', l = endsN (stepT text F .star) (text.length + 1) → St imm L m' ((c, lstO vs n) :: (L + 2, cellO (some .none)) :: (L + 1, cellO (some (.str (strN text) tx))) :: mu) h' → L < c → (∀ hp, Reps hp (natsD l) vs) →
      m' "ends" = some (.ref c) → (∀ x : Str, x ≠ "ends" → x ≠ "left" → m' x = m x) → Q .next { s with heap := h', toks := tk' } := by
    rintro l c h' m' vs n tk' rfl S' hc hr e1 e2
    obtain ⟨i2, x2, S2, g2⟩ := S'.freeze0
    exact hQ i2 h' m' tk' c x2 S2 e1 (Rep.mkList (above_get.mpr ⟨g2, Nat.le_of_lt hc⟩) (hr _)) e2
  clear hQ
  rcases ends_star F (text.length + 1) with ⟨h1, h2⟩ | ⟨x, r, h1, h2, h3⟩
  · have hev : evs = [] := by rw [h1] at lev; exact List.length_eq_zero_iff.mp lev
    rw [if_neg (by simp [hev])]
    walk_at "B go"
    exact done [] _ _ _ _ _ _ h2.symm (by with_reducible assumption) (by with_reducible assumption) (fun _ => Reps.nil) (if_pos rfl) (fun y h1 h2 => by simp only [h1, h2, if_false])
  · rw [h1] at he
    simp only [natsD, List.map_cons, Reps, Rep] at he
    obtain ⟨_, vr, rfl, ⟨t0, rfl⟩, _⟩ := he
    rw [if_pos (by simp)]
    walk_at "B go"
    refine subL (j := 0) (by walk_at "B got") ⟨by simp, .inl rfl⟩ rfl (by rw [lev]; omega) ?_
    walk_at "B go"
    refine range2 (by with_reducible assumption) ?_
    intro rg hg t1 t2 t3 tk1 Sg hr xg
    walk_at "B go"
    refine listRange hh Sg hr (by omega) (by omega) ?_
    intro c hc tk2 vs n Sc xc hLc hvs
    walk_at "B go"
    exact done _ _ _ _ _ _ _ h3.symm (by with_reducible assumption) hLc hvs (if_pos rfl) (fun y h1 h2 => by simp only [h1, h2, if_false])
end
end
theorem flush_35 : True := by first | walk1 | trivial
noncomputable section
section
variable {w : World} {A : Around} {s : Shared} {E : Value → Shared → Prop} {Q : Value → Shared → Prop} {t u : Tok} {k : Nat}
local macro_rules | `(tactic| walk_at "eval Name") => `(tactic| (refine' Mine.nm_cell rfl (by rfl) (by rfl) (by walk_at "B got") ?_))
theorem told_item {L ea T la : Addr} {imm : Heap} {m : Str → Option Value} {mu : List (Addr × Obj)} {text tbls : List Nat} {b : Bool} {F : Nat → Bool} {evs tvs : List Value} {ke nT nl : Nat} {tx : Tok} {Q : Flow → Shared → Prop} {E : Value → Shared → Prop}
    (S : St imm L m ((L + 2, cellO (some (.ref T))) :: (L + 1, cellO (some (.str (strN text) tx))) :: mu) s.heap) (B : Base w imm) (r : Room A (k + 1 + 2)) (htl : text.length ≤ 100) (htx : ∀ c ∈ text, c ≤ 1114111) (m1 : m "ends" = some (.ref ea))
    (gT : imm.get? T = some (tupO [.ref la, .bool b] nT)) (gl : imm.get? la = some (lstO tvs nl)) (rl : Reps imm (natsD tbls) tvs) (htb : ∀ q ∈ tbls, q ≤ 6) (htn : tbls.length ≤ 100)
    (ge : imm.get? ea = some (lstO evs ke)) (he : Reps imm (natsD (endsN F (text.length + 1))) evs)
    (hQ : ∀ imm' h' m' tk ea', Ext imm imm' → St imm' L m' ((L + 2, cellO (some (.ref T))) :: (L + 1, cellO (some (.str (strN text) tx))) :: mu) h' → m' "ends" = some (.ref ea') →
      Rep (above L imm') (.list (natsD (((endsN F text.length).filter fun e => ((tbls.any fun q => askedN q (text.getD e 0)) != b)).map (· + 1)))) (.ref ea') →
      (∀ x : Str, x ≠ "ends" → x ≠ "left" → m' x = m x) → Q .next { s with heap := h', toks := tk }) :
    wpAny (MM w) A (execs (forBody (bodyP 26)[1]?) (callEnvC fd_told L 191)) Q E s := by
  have e : EnvOk (callEnvC fd_told L 191) L := ⟨rfl, rfl, rfl, rfl⟩
  have h200 : 20000 ≤ sizeLine := Nat.le_of_ble_eq_true rfl
  have lev := he.length
  have hel := endsN_len F (text.length + 1)
  unfold natsD at lev
  rw [List.length_map] at lev
  conv => arg 3; arg 1; whnf
  walk_at "B go"
  refine comp_assign (cl := [("text", L + 1)]) (by rfl) (by rfl) rfl (by rfl) ?_
  walk_at "B go"
  refine comp_list_as (fun _ ce => ce = []) (fun i => natsD (((endsN F (text.length + 1)).take i).filter fun e => decide (e < text.length))) e rfl r.1 (by with_reducible assumption) ge (by omega) (by rfl) (fun _ => rfl) rfl (fun i _ => by
    unfold natsD
    rw [List.length_map]
    exact Nat.le_trans (List.length_filter_le _ _) (by simp; omega)) ?_ ?_
  · rintro N hN Cc Dd i v immT mT ce its ys kk h tk e' hC hi hiv xT rfl hys ST
    have hc1 : immT.get? (L + 1) = some (cellO (some (.str (strN text) tx))) := xT _ _ (S.at (.tail _ (.head _)))
    have BT : Base w immT := B.ext (S.keep.trans xT)
    obtain ⟨d, hd, rd⟩ := he.get hiv
    unfold natsD at hd
    rw [List.getElem?_map] at hd
    obtain ⟨x, hq⟩ : ∃ x, (endsN F (text.length + 1))[i]? = some x := by
      cases hq : (endsN F (text.length + 1))[i]? with
      | none => rw [hq] at hd; cases hd
      | some q => exact ⟨q, rfl⟩
    rw [hq] at hd
    cases hd
    simp only [Rep] at rd
    obtain ⟨tv, rfl⟩ := rd
    refine wpAny_assign_Name (st_local ST e' (by rfl) fun hb Sb => ?_)
    walk_at "B go"
    · refine ⟨immT, _, [], _, _, .int x, rfl, Ext.refl _, rfl, Sb, Rep.mkInt rfl, ?_⟩
      have hx : x < text.length := by omega
      simp [natsD, List.take_add_one, hq, hx]
    · refine ⟨immT, _, [], _, _, rfl, Ext.refl _, rfl, Sb, ?_⟩
      have hx : ¬ x < text.length := by omega
      simp [natsD, List.take_add_one, hq, hx]
  · intro D h tk imm' ys k' x' S' hys hD
    rw [lev, List.take_length, ends_less] at hys
    clear lev hel he ge
    obtain ⟨imm2, x2, S2, g2⟩ := S'.freeze0
    have hys2 : Reps imm2 (natsD (endsN F text.length)) ys := Reps.ext (fun b o e => x2 _ _ (above_get.mp e).1) _ _ hys
    clear hys S'
    have ly := hys2.length
    have hly := endsN_len F text.length
    unfold natsD at ly
    rw [List.length_map] at ly
    have B2 : Base w imm2 := B.ext (x'.trans x2)
    have gT2 := x2 _ _ (x' _ _ gT)
    have gl2 := x2 _ _ (x' _ _ gl)
    have rl2 : Reps imm2 (natsD tbls) tvs := Reps.ext (x'.trans x2) _ _ rl
    refine wpAny_execs_cons ?_
    refine comp_assign (cl := [("text", L + 1), ("item", L + 2)]) (by rfl) (by rfl) rfl (by rfl) ?_
    walk_at "B go"
    refine comp_list_as (fun c ce => ∃ v, ce = [(c + 1, cellO v)]) (fun i => natsD ((((endsN F text.length).take i).filter fun e => ((tbls.any fun q => askedN q (text.getD e 0)) != b)).map (· + 1))) e rfl r.1 S2 g2 (by omega) (by rfl) (fun _ => ⟨none, rfl⟩) rfl (fun i _ => by
      unfold natsD
      rw [List.length_map, List.length_map]
      exact Nat.le_trans (List.length_filter_le _ _) (by simp; omega)) ?_ ?_
    · rintro N hN Cc Dd i v immT mT ce its ys' kk h' tk' e' hC hi hiv xT ⟨cv, rfl⟩ hys' ST
      have hc1 : immT.get? (L + 1) = some (cellO (some (.str (strN text) tx))) := xT _ _ (S2.at (.tail _ (.head _)))
      have hc2 : immT.get? (L + 2) = some (cellO (some (.ref T))) := xT _ _ (S2.at (.head _))
      have BT : Base w immT := B2.ext (S2.keep.trans xT)
      have gTT := xT _ _ (S2.keep _ _ gT2)
      have glT := xT _ _ (S2.keep _ _ gl2)
      have rlT : Reps immT (natsD tbls) tvs := Reps.ext (S2.keep.trans xT) _ _ rl2
      obtain ⟨d, hd, rd⟩ := hys2.get hiv
      unfold natsD at hd
      rw [List.getElem?_map] at hd
      obtain ⟨x, hq⟩ : ∃ x, (endsN F text.length)[i]? = some x := by
        cases hq : (endsN F text.length)[i]? with
        | none => rw [hq] at hd; cases hd
        | some q => exact ⟨q, rfl⟩
      rw [hq] at hd
      cases hd
      simp only [Rep] at rd
      obtain ⟨tv, rfl⟩ := rd
      have hx : x < text.length := List.mem_range.mp (List.mem_filter.mp (List.mem_of_getElem? hq)).1
      refine wpAny_assign_Name (stC ST rfl (by rfl) (by rfl) At.here fun hb Sb => ?_)
      obtain ⟨c, hcx⟩ : ∃ c, text[x]? = some c := ⟨_, List.getElem?_eq_getElem hx⟩
      have hgx : text.getD x 0 = c := by rw [List.getD_eq_getElem?_getD, hcx]; rfl
      have hcm := htx c (List.mem_of_getElem? hcx)
      walk_at "B go"
      refine comp_eval (cl := [("text", L + 1), ("end", Cc + 1)]) (by rfl) (by rfl) (by rfl) ?_
      walk_at "B go"
      refine subT (j := 0) (by walk_at "B got") rfl (by decide) rfl ?_
      have lt := rlT.length
      unfold natsD at lt
      rw [List.length_map] at lt
      refine comp_list_of (fun _ ce => ce = []) (fun i => ((tbls.take i).map fun q => askedN q c).map Mine.D.bool) e' rfl r.1 Sb glT (by omega) (fun _ => rfl) rfl (fun i _ => by simp; omega) ?_ ?_
      · rintro N2 hN2 C2 D2 i2 v2 immU mU ce2 its2 ys2 kk2 h2 tk2 e2 hC2 hi2 hiv2 xU rfl hys2 SU
        have hd1 : immU.get? (L + 1) = some (cellO (some (.str (strN text) tx))) := xU _ _ (Sb.keep _ _ hc1)
        have hd2 : immU.get? (Cc + 1) = some (cellO (some (.int (x : Int) tv))) := xU _ _ (Sb.at (.head _))
        have BU : Base w immU := BT.ext (Sb.keep.trans xU)
        obtain ⟨d, hd, rd⟩ := rlT.get hiv2
        unfold natsD at hd
        rw [List.getElem?_map] at hd
        obtain ⟨q, hq2⟩ : ∃ q, tbls[i2]? = some q := by
          cases hq : tbls[i2]? with
          | none => rw [hq] at hd; cases hd
          | some q => exact ⟨q, rfl⟩
        rw [hq2] at hd
        cases hd
        simp only [Rep] at rd
        obtain ⟨tq, rfl⟩ := rd
        refine wpAny_assign_Name (st_local SU e2 (by rfl) fun hb2 Sb2 => ?_)
        walk_at "B go"
        refine subS (j := x) (c := c) ⟨hx, .inl rfl⟩ hcx (by omega) ?_
        intro _ _
        walk_at "B go"
        refine spec_asked (tb := q) (x := c) (k := k) (htb q (List.mem_of_getElem? hq2)) hcm (BU.ext (St.keep (by with_reducible assumption))) (r.le (by omega)) ?_
        intro h3 tk3 x3
        exact ⟨immU, _, [], _, _, .bool _, rfl, Ext.refl _, rfl, St.ext (by with_reducible assumption) x3, Rep.mkBool rfl, by simp [List.take_add_one, hq2]⟩
      · intro D2 h2 tk2 immV ysV kV xV SV hysV hDV
        have hv2 := xV _ _ hc2
        have hv3 := xV _ _ gTT
        have BV : Base w immV := BT.ext xV
        rw [lt, List.take_length] at hysV
        refine in_bools SV.get0 hysV ?_
        walk_at "B go"
        refine subT (j := 1) (by walk_at "B got") rfl (by decide) rfl ?_
        walk_at "B go"
        · rename_i hcond _ _
          have hcond' : ((tbls.any fun q => askedN q (text.getD x 0)) != b) = true := by
            rw [hgx]; simpa [List.any_map] using hcond
          obtain ⟨immW, xW, SW, gW⟩ := SV.freeze0
          refine ⟨immW, _, [(Cc + 1, _)], _, _, .int ((x + 1 : Nat) : Int), rfl, xV.trans xW, ⟨_, rfl⟩, SW, Rep.mkInt rfl, ?_⟩
          simp only [List.take_add_one, hq, Option.toList_some, List.filter_append, List.map_append, natsD]
          rw [List.filter_cons_of_pos (by simpa using hcond')]
          rfl
        · rename_i hcond
          have hcond' : ((tbls.any fun q => askedN q (text.getD x 0)) != b) = false := by
            rw [hgx]; simpa [List.any_map] using hcond
          obtain ⟨immW, xW, SW, gW⟩ := SV.freeze0
          refine ⟨immW, _, [(Cc + 1, _)], _, _, rfl, xV.trans xW, ⟨_, rfl⟩, SW, ?_⟩
          simp only [List.take_add_one, hq, Option.toList_some, List.filter_append, List.map_append, natsD]
          rw [List.filter_cons_of_neg (by rw [hcond']; exact Bool.false_ne_true)]
          simp
    · intro D2 h' tk' imm3 ys2 k2 x3 S3 hys3 hD3
      walk_at "B go"
      rw [ly, List.take_length] at hys3
      obtain ⟨imm4, x4, S4, g4⟩ := S3.freeze0
      refine hQ imm4 _ _ _ _ (x'.trans (x2.trans (x3.trans x4))) S4 (if_pos rfl) (Rep.mkList (above_get.mpr ⟨g4, ?_⟩) (Reps.ext (above_mono ?_ x4) _ _ hys3)) (fun y h1 h2 => by simp only [h1, h2, if_false])
      · exact Nat.le_trans (Nat.le_of_lt S2.ns.lt) hD3
      · exact Nat.le_of_lt S2.ns.lt
end
end
theorem flush_36 : True := by first | walk1 | trivial
noncomputable section
theorem le_weight {p : Piece} : ∀ {ps : List Piece}, p ∈ ps → weightP p ≤ weightPs ps
  | q :: r, h => by
    have e : weightPs (q :: r) = weightP q + weightPs r := by simp [weightPs]
    rcases List.mem_cons.mp h with rfl | h
    · omega
    · have := le_weight h; omega
section
variable {w : World} {A : Around} {s : Shared} {E : Value → Shared → Prop} {Q : Value → Shared → Prop} {t u : Tok} {k : Nat}
theorem spec_told {ps : List Piece} {text : List Nat} {ia : Addr} {ivs : List Value} {n : Nat} (hg : s.heap.get? ia = some (lstO ivs n)) (hi : Reps s.heap (itemsD ps) ivs) (hok : ∀ p ∈ ps, OkP p) (hwt : weightPs ps ≤ 50) (hpl : ps.length ≤ 50) (htl : text.length ≤ 100) (htx : ∀ c ∈ text, c ≤ 1114111) (B : Base w s.heap) (r : Room A (k + 1 + 2 + 1))
    (hQ : ∀ h' tk v, Ext s.heap h' → Rep (above s.heap.objs.size h') (.list (natsD (toldN ps text))) v → Q v { s with heap := h', toks := tk }) :
    wpAny (MM w) A (call (.ref 191) [.ref ia, .str (strN text) t]) Q E s := by
  obtain ⟨o, ho, hd⟩ := fn_told B
  refine call_defC B r ho hd (cd_told B) (body := bodyP 26) (binds := [("items", .ref ia), ("text", .str (strN text) t)]) rfl rfl rfl ?_ rfl rfl rfl
  intro h₀ S
  have e : EnvOk (callEnvC fd_told s.heap.objs.size 191) s.heap.objs.size := ⟨rfl, rfl, rfl, rfl⟩
  have r' : Room (A.deeper (callEnvC fd_told s.heap.objs.size 191)) (k + 1 + 2) := r.deeper _
  have S0 : St s.heap s.heap.objs.size (fun _ => none) [(s.heap.objs.size + 2, cellO none), (s.heap.objs.size + 1, cellO none)] h₀ := S
  show wpAny (MM w) A.in1 (storeName _ _ _) (fun _ s' => wpAny (MM w) A.in1 (storeName _ _ _) _ Bot s') Bot _
  refine st_local S0 e (by rfl) fun h1 S1 => ?_
  refine stC S1 rfl (by rfl) (by rfl) (.there .here) fun h2 S2 => ⟨S2.keep, ?_⟩
  conv => arg 3; arg 1; whnf
  walk_at "B go"
  rename St _ _ _ _ _ => Sf
  obtain ⟨imm1, x1, S3, g1⟩ := Sf.freeze0
  clear S S0 S1 S2 Sf
  refine wpAny_For ?_
  walk_at "B go"
  refine for_list (fun i imm₁ m₁ mu₁ => ∃ cv ea, mu₁ = [(s.heap.objs.size + 2, cellO cv), (s.heap.objs.size + 1, cellO (some (.str (strN text) t)))] ∧ m₁ "ends" = some (.ref ea) ∧ Rep (above s.heap.objs.size imm₁) (.list (natsD (endsN (toldR (ps.take i) text) (text.length + 1)))) (.ref ea))
    r.1 S3 (x1 _ _ hg) ⟨none, _, rfl, if_pos rfl, ?_⟩ ?_ ?_
  · rw [show toldR (ps.take 0) text = fun e => e == 0 from rfl, ends_first]
    exact Rep.mkList (above_get.mpr ⟨g1, Nat.le_of_lt (by with_reducible assumption)⟩) (Reps.cons (Rep.mkInt rfl) Reps.nil)
  · rintro i v imm₁ m₁ mu₁ its h tk hix hiv x₁ ⟨cv, ea, rfl, n1, n2⟩ Sx
    obtain ⟨d, hd, rd⟩ := hi.get hiv
    unfold itemsD at hd
    rw [List.getElem?_map] at hd
    obtain ⟨p, hq⟩ : ∃ p, ps[i]? = some p := by
      cases hq : ps[i]? with
      | none => rw [hq] at hd; cases hd
      | some q => exact ⟨q, rfl⟩
    rw [hq] at hd
    cases hd
    have hpo := hok p (List.mem_of_getElem? hq)
    have hwp : weightP p ≤ 50 := by
      have : weightP p ≤ weightPs ps := by
        exact le_weight (List.mem_of_getElem? hq)
      omega
    have B₁ : Base w imm₁ := (B.ext x1).ext x₁
    have rd₁ : Rep imm₁ (itemD p) v := Rep.ext (x1.trans x₁) _ _ rd
    have hsn : toldR (ps.take (i + 1)) text = stepT text (toldR (ps.take i) text) p := by
      rw [List.take_add_one, hq]
      exact toldR_snoc _ _ _
    simp only [Rep] at n2
    obtain ⟨_, evs, ke, e1, ge, he⟩ := n2
    cases e1
    have ge' := (above_get.mp ge).1
    have he' : Reps imm₁ (natsD (endsN (toldR (ps.take i) text) (text.length + 1))) evs := Reps.ext (fun b o e => (above_get.mp e).1) _ _ he
    refine wpAny_assign_Name (stC Sx rfl (by rfl) (by rfl) At.here fun hb Sb => ?_)
    cases p with
    | star =>
      simp only [itemD, Rep] at rd₁
      subst rd₁
      refine told_star Sb B₁ r.1 htl n1 ge' he' ?_
      intro imm' h' m' tk' ea' x2 S2 b1 b2 _
      exact ⟨imm', m', _, h', tk', rfl, x2, ⟨_, ea', rfl, b1, by rw [hsn]; exact b2⟩, S2⟩
    | any =>
      simp only [itemD, Rep, Reps] at rd₁
      obtain ⟨T, ws, nT, rfl, gT, _, _, rfl, ⟨la, tvs, nl, rfl, gl, rfl⟩, _, _, rfl, rfl, rfl⟩ := rd₁
      refine told_item (tbls := []) (b := true) Sb B₁ r' htl htx n1 gT gl Reps.nil (fun q h => nomatch h) (by simp) ge' he' ?_
      intro imm' h' m' tk' ea' x2 S2 b1 b2 _
      refine ⟨imm', m', _, h', tk', rfl, x2, ⟨_, ea', rfl, b1, ?_⟩, S2⟩
      rw [hsn, ends_step (by simp) (c := fun e => (([] : List Nat).any fun q => askedN q (text.getD e 0)) != true) (fun _ => rfl)]
      exact b2
    | br b ts =>
      simp only [itemD, Rep, Reps] at rd₁
      obtain ⟨T, ws, nT, rfl, gT, _, _, rfl, ⟨la, tvs, nl, rfl, gl, rl⟩, _, _, rfl, rfl, rfl⟩ := rd₁
      refine told_item (tbls := ts.map (·.1)) (b := b) Sb B₁ r' htl htx n1 gT gl (by unfold natsD; rw [List.map_map]; exact rl) (fun q h => ?_) (by simp [weightP] at hwp; simp; omega) ge' he' ?_
      · obtain ⟨z, hz, rfl⟩ := List.mem_map.mp h
        exact hpo.2 z hz
      intro imm' h' m' tk' ea' x2 S2 b1 b2 _
      refine ⟨imm', m', _, h', tk', rfl, x2, ⟨_, ea', rfl, b1, ?_⟩, S2⟩
      rw [hsn, ends_step (by simp) (c := fun e => ((ts.map (·.1)).any fun q => askedN q (text.getD e 0)) != b) (fun _ => by simp only [takesPiece, List.any_map]; rfl)]
      exact b2
  · rintro imm₁ m₁ mu₁ h tk x₁ ⟨cv, ea, rfl, n1, n2⟩ Sx
    have hil : ivs.length = ps.length := by have := hi.length; simpa [itemsD] using this
    rw [hil, List.take_length] at n2
    walk_at "B go"
    exact hQ _ _ _ (x1.trans (x₁.trans Sx.keep)) (Rep.ext (above_ext Sx.keep) _ _ n2)
end
end
theorem flush_37 : True := by first | walk1 | trivial
noncomputable section
theorem strN_inj {a b : List Nat} (h : D.str (strN a) = D.str (strN b)) : a = b := by
  injection h with h
  have := congrArg (fun s : Str => s.cps.toList) h
  simpa [strN] using this
section
variable {w : World} {A : Around} {s : Shared} {E : Value → Shared → Prop} {Q : Value → Shared → Prop} {t u : Tok} {k : Nat}
theorem takes_turn {L : Addr} {imm : Heap} {m : Str → Option Value} {mu : List (Addr × Obj)} {Q : Flow → Shared → Prop} {E : Value → Shared → Prop} {done rest : List It} {it : It} {c : Nat} {f : Bool} {t1 t2 t3 : Tok}
    (S : St imm L m mu s.heap) (B : Base w imm) (hit : OkI it) (hfw : fwd it = true) (hrest : ∀ x ∈ rest, OkI x) (hsz : (itsText (done ++ it :: rest)).length ≤ 15000)
    (m1 : m "body" = some (.str (strN (itsText (done ++ it :: rest))) t1)) (m2 : m "at" = some (.int ((itsText done).length : Int) t2)) (m3 : m "sign" = some (.str (strN [c]) t3)) (m4 : m "found" = some (.bool f))
    (hQ : ∀ h' m' tk, St imm L m' mu h' → (∀ x : Str, x ≠ "at" → x ≠ "found" → x ≠ "low" → x ≠ "high" → m' x = m x) → (∃ (n : Nat) (t : Tok), n = (itsText (done ++ [it])).length ∧ m' "at" = some (.int (n : Int) t)) → (∃ g, g = (f || hasIt c it) ∧ m' "found" = some (.bool g)) → Q .next { s with heap := h', toks := tk }) :
    wpAny (MM w) A (execs (forBody (bodyP 27)[6]?) (callEnv fd_takes L 198)) Q E s := by
  have e : EnvOk (callEnv fd_takes L 198) L := ⟨rfl, rfl, rfl, rfl⟩
  have h200 : 20000 ≤ sizeLine := Nat.le_of_ble_eq_true rfl
  conv => arg 3; arg 1; whnf
  have hlen : (itsText (done ++ it :: rest)).length = (itsText done).length + ((itText it).length + (itsText rest).length) := by simp [itsText_append, itsText_cons]
  have hit1 := itText_len it
  have hat : ∀ j, (itsText (done ++ it :: rest))[(itsText done).length + j]? = (itText it ++ itsText rest)[j]? := by
    intro j
    rw [itsText_append, itsText_cons, List.getElem?_append_right (by omega)]
    congr 1; omega
  have hdr : ∀ j, (itsText (done ++ it :: rest)).drop ((itsText done).length + j) = (itText it ++ itsText rest).drop j := by
    intro j
    rw [itsText_append, itsText_cons, List.drop_append]
    simp
  have hnext : (itsText rest).take 1 ≠ [45] := by
    cases rest with
    | nil => simp [itsText]
    | cons y r =>
      obtain ⟨z, hz⟩ := itText_head y
      rw [itsText_cons, hz]
      have := (hrest y (.head _)).head.ne.1
      simp; exact this
  walk_at "B go"
  refine subS (j := (itsText done).length) (c := headIt it) ⟨by omega, .inl rfl⟩ (by
    have := hat 0
    obtain ⟨z, hz⟩ := itText_head it
    rw [hz] at this
    simpa using this) (by omega) ?_
  intro _ _
  walk_at "B go"
  refine sliceS_ss (by with_reducible assumption) (by omega) (by rfl) ?_
  intro _ _ _ _
  rw [cutN, hdr, show (itsText done).length + 2 - ((itsText done).length + 1) = 1 by omega]
  cases it with
  | one x =>
    rw [show (itText (.one x) ++ itsText rest).drop 1 = itsText rest from rfl]
    have hlow : ¬ (headIt (.one x) < headIt (.one x)) := Nat.lt_irrefl _
    walk_at "B go"
    all_goals refine hQ _ _ _ (by with_reducible assumption) (fun y h1 h2 h3 h4 => by simp only [h1, h2, h3, h4, if_false]) ⟨_, _, ?_, by walk_at "B look"⟩ ⟨_, ?_, by walk_at "B look"⟩
    all_goals simp_all [hasIt, headIt, itsText, itText]
    all_goals (intros; exfalso; omega)
  | rng a b =>
    rw [show ((itText (.rng a b) ++ itsText rest).drop 1).take 1 = [45] from rfl]
    have hab : ¬ (b < headIt (.rng a b)) := by simpa [fwd, headIt] using hfw
    walk_at "B go"
    refine subS (j := (itsText done).length + 2) (c := b) ⟨by simp [itText] at hlen; omega, .inl rfl⟩ (hat 2) (by omega) ?_
    intro _ _
    walk_at "B go"
    all_goals refine hQ _ _ _ (by with_reducible assumption) (fun y h1 h2 h3 h4 => by simp only [h1, h2, h3, h4, if_false]) ⟨_, _, ?_, by walk_at "B look"⟩ ⟨_, ?_, by walk_at "B look"⟩
    all_goals simp_all [hasIt, headIt, itsText, itText]
    all_goals (intros; exfalso; omega)
theorem takes_while {L : Addr} {imm : Heap} {m : Str → Option Value} {mu : List (Addr × Obj)} {Q : Flow → Shared → Prop} {E : Value → Shared → Prop} {its : List It} {c : Nat} {t1 t2 t3 : Tok}
    (S : St imm L m mu s.heap) (B : Base w imm) (hits : ∀ it ∈ its, OkI it ∧ fwd it = true) (hsz : (itsText its).length ≤ 15000)
    (m1 : m "body" = some (.str (strN (itsText its)) t1)) (m2 : m "at" = some (.int 0 t2)) (m3 : m "sign" = some (.str (strN [c]) t3)) (m4 : m "found" = some (.bool false))
    (hQ : ∀ h' m' tk imm', Ext imm imm' → St imm' L m' mu h' → m' "barred" = m "barred" → m' "found" = some (.bool (its.any (hasIt c))) → Q .next { s with heap := h', toks := tk }) :
    wpAny (MM w) A (exec ((bodyP 27)[6]?.getD default) (callEnv fd_takes L 198)) Q E s := by
  have e : EnvOk (callEnv fd_takes L 198) L := ⟨rfl, rfl, rfl, rfl⟩
  have h200 : 20000 ≤ sizeLine := Nat.le_of_ble_eq_true rfl
  conv => arg 3; arg 1; whnf
  refine while_at (fun n imm₁ m₁ mu₁ => mu₁ = mu ∧ ∃ (dn rs : List It) (t t' : Tok), its = dn ++ rs ∧ rs.length = n ∧ m₁ "body" = some (.str (strN (itsText its)) t1) ∧ m₁ "at" = some (.int ((itsText dn).length : Int) t) ∧ m₁ "sign" = some (.str (strN [c]) t3) ∧
    m₁ "found" = some (.bool (dn.any (hasIt c))) ∧ m₁ "barred" = m "barred") its.length S ⟨rfl, [], its, t2, t2, rfl, rfl, m1, m2, m3, m4, rfl⟩ ?_
  rintro n imm₁ m₁ mu₁ h tk x ⟨rfl, dn, rs, t, t', rfl, rfl, n1, n2, n3, n4, n5⟩ S₁
  have B₁ : Base w imm₁ := B.ext x
  cases rs with
  | nil =>
    refine wpAny_mono (E := Bot) (Q := fun b s₂ => b = false ∧ ∃ tk', s₂ = { s with heap := h, toks := tk' }) ?_ (fun b s₂ hb => ?_) (fun _ _ f => False.elim f)
    · walk_at "B go"
      all_goals simp
    · obtain ⟨rfl, tk', rfl⟩ := hb
      rw [if_neg Bool.false_ne_true]
      exact hQ _ _ _ _ x S₁ n5 (by simpa using n4)
  | cons it rs =>
    have hd : (itsText dn).length < (itsText (dn ++ it :: rs)).length := by
      have := (itText_len it).2
      rw [itsText_append, itsText_cons]; simp; omega
    refine wpAny_mono (E := Bot) (Q := fun b s₂ => b = true ∧ ∃ tk', s₂ = { s with heap := h, toks := tk' }) ?_ (fun b s₂ hb => ?_) (fun _ _ f => False.elim f)
    · walk_at "B go"
      all_goals simp
    · obtain ⟨rfl, tk', rfl⟩ := hb
      rw [if_pos rfl]
      have hit := hits it (by simp)
      refine takes_turn (rest := rs) S₁ B₁ hit.1 hit.2 (fun y hy => (hits y (by simp [hy])).1) hsz n1 n2 n3 n4 ?_
      rintro h' m' tk2 S2 hk ⟨n, t2, rfl, a1⟩ ⟨g, rfl, a2⟩
      refine ⟨rs.length, imm₁, m', mu₁, h', tk2, rfl, by simp, Ext.refl _, ⟨rfl, dn ++ [it], rs, t2, t2, by simp, rfl, ?_, a1, ?_, ?_, ?_⟩, S2⟩
      · rw [hk _ (by decide) (by decide) (by decide) (by decide)]; exact n1
      · rw [hk _ (by decide) (by decide) (by decide) (by decide)]; exact n3
      · rw [a2]; simp
      · rw [hk _ (by decide) (by decide) (by decide) (by decide)]; exact n5
theorem spec_takes {p : Part} {c : Nat} (hp : OkPart p) (hns : p ≠ .star) {v : Value} (hv : Rep s.heap (partD p) v) (B : Base w s.heap) (r : Room A (k + 1)) (hQ : ∀ h' tk, Ext s.heap h' → Q (.bool (takesP p c)) { s with heap := h', toks := tk }) :
    wpAny (MM w) A (call (.ref 198) [v, .str (strN [c]) t]) Q E s := by
  have h200 : 20000 ≤ sizeLine := Nat.le_of_ble_eq_true rfl
  obtain ⟨pt, l, rfl, hl⟩ : ∃ t l, v = .str (strN l) t ∧ partD p = .str (strN l) := by
    cases p with
    | star => exact absurd rfl hns
    | any => simp only [partD, Rep] at hv; obtain ⟨t, rfl⟩ := hv; exact ⟨t, _, rfl, rfl⟩
    | br b its => simp only [partD, Rep] at hv; obtain ⟨t, rfl⟩ := hv; exact ⟨t, _, rfl, rfl⟩
  obtain ⟨o, ho, hd⟩ := fn_takes B
  refine call_def B r ho hd (cd_takes B) (body := bodyP 27) (binds := [("part", .str (strN l) pt), ("sign", .str (strN [c]) t)]) rfl rfl cl_takes (locs (by rfl)) ?_ rfl rfl rfl
  intro h₀ S
  have e : EnvOk (callEnv fd_takes s.heap.objs.size 198) s.heap.objs.size := ⟨rfl, rfl, rfl, rfl⟩
  conv => arg 3; arg 1; whnf
  clear hv
  cases p with
  | star => exact absurd rfl hns
  | any =>
    have e1 := strN_inj hl
    subst e1
    walk_at "B go"
    exact hQ _ _ S.keep
  | br b its =>
    have e1 := strN_inj hl
    subst e1
    have hne : ¬ (91 :: (hatN b ++ itsText its ++ [93]) = [46]) := by simp
    obtain ⟨p1, p2, p3⟩ := hp
    have hln := itsText_len its
    have hhl : (hatN b).length ≤ 1 := by cases b <;> simp [hatN]
    walk_at "B go"
    refine sliceS_ss (by with_reducible assumption) (by simp; omega) (by rfl) ?_
    intro _ _ _ _
    rw [midN]
    walk_at "B go"
    obtain ⟨i0, ir, rfl⟩ := List.exists_cons_of_ne_nil p1
    have hi0 := (p3 i0 (.head _)).1.head.ne.2.1
    obtain ⟨z, hz⟩ := itText_head i0
    cases b with
    | false =>
      have hbt : hatN false ++ itsText (i0 :: ir) = itsText (i0 :: ir) := rfl
      rw [hbt]
      refine subS (j := 0) (c := headIt i0) ⟨by rw [itsText_cons, hz]; simp, .inl rfl⟩ (by rw [itsText_cons, hz]; rfl) (by omega) ?_
      intro _ _
      have hn : ¬ ([headIt i0] = [94]) := by simpa using hi0
      walk_at "B go"
      refine takes_while (by with_reducible assumption) B (its := i0 :: ir) (c := c) p3 (by omega) (by walk_at "B look") (by walk_at "B look") (by walk_at "B look") (by walk_at "B look") ?_
      intro h' m' tk' imm' x' S' b1 b2
      have b1' := b1.trans (look_ne (v := some (.bool false)) (by decide) (look_ne (by decide) (by rw [if_pos rfl]; simp [hn])))
      walk_at "B go"
      exact hQ _ _ (x'.trans S'.keep)
    | true =>
      refine subS (j := 0) (c := 94) ⟨by simp [hatN], .inl rfl⟩ (by rfl) (by simp; omega) ?_
      intro _ _
      walk_at "B go"
      refine sliceS_sn (by with_reducible assumption) (by simp; omega) (by rfl) ?_
      intro _ _ _ _
      rw [show hatN true ++ itsText (i0 :: ir) = 94 :: itsText (i0 :: ir) from rfl, tailN]
      walk_at "B go"
      refine takes_while (by with_reducible assumption) B (its := i0 :: ir) (c := c) p3 (by omega) (by walk_at "B look") (by walk_at "B look") (by walk_at "B look") (by walk_at "B look") ?_
      intro h' m' tk' imm' x' S' b1 b2
      have b1' := b1.trans (look_ne (v := some (.bool true)) (by decide) (look_ne (by decide) (look_ne (by decide) (by rw [if_pos rfl]; simp))))
      walk_at "B go"
      exact hQ _ _ (x'.trans S'.keep)
end
end
theorem flush_38 : True := by first | walk1 | trivial
noncomputable section
noncomputable def bools (f : Nat → Bool) (n : Nat) : List Value := (List.range n).map fun p => Value.bool (f p)
theorem bools_len (f : Nat → Bool) (n : Nat) : (bools f n).length = n := by simp [bools]
theorem bools_get (f : Nat → Bool) {n j : Nat} (h : j < n) : (bools f n)[j]? = some (.bool (f j)) := by simp [bools, h]
theorem bools_succ (f : Nat → Bool) (n : Nat) : bools f (n + 1) = bools f n ++ [.bool (f n)] := by simp [bools, List.range_succ]
section
variable {w : World} {A : Around} {s : Shared} {E : Value → Shared → Prop} {Q : Value → Shared → Prop} {t u : Tok} {k : Nat}
local macro_rules | `(tactic| walk_at "call ref") => `(tactic| (refine' Mine.spec_takes (by with_reducible assumption) (by simp) (Mine.Rep.ext (Mine.St.keep (by with_reducible assumption)) _ _ (by with_reducible assumption)) (Mine.Base.ext (by with_reducible assumption) (Mine.St.keep (by with_reducible assumption))) (by with_reducible assumption) ?_; walk_at "B sc"))
theorem taken_in {parts : List Part} {j n : Nat} {prev : Nat → Bool} {c : Nat} {p : Part} {L ha ra : Addr} {imm : Heap} {m : Str → Option Value} {mu : List (Addr × Obj)} {pv : Value} {kh kr : Nat} {t1 t2 : Tok} {Q : Flow → Shared → Prop} {E : Value → Shared → Prop}
    (hp : parts[j]? = some p) (hok : OkPart p) (hjn : j < n) (hn : n ≤ 100) (S : St imm L m ((ha, lstO (bools (cellR parts prev c) (j + 1)) kh) :: mu) s.heap) (B : Base w imm) (r : Room A (0 + 1 + 1))
    (gr : imm.get? ra = some (lstO (bools prev (n + 1)) kr)) (m1 : m "heads" = some (.ref ha)) (m2 : m "row" = some (.ref ra)) (m3 : m "place" = some (.int (j : Int) t1)) (m4 : m "part" = some pv) (m5 : m "sign" = some (.str (strN [c]) t2)) (hr : Rep imm (partD p) pv)
    (hQ : ∀ h' tk kh', St imm L m ((ha, lstO (bools (cellR parts prev c) (j + 2)) kh') :: mu) h' → Q .next { s with heap := h', toks := tk }) :
    wpAny (MM w) A (execs (forBody ((forBody (bodyP 28)[3]?)[1]?)) (callEnv fd_taken L 205)) Q E s := by
  have e : EnvOk (callEnv fd_taken L 205) L := ⟨rfl, rfl, rfl, rfl⟩
  have h200 : 20000 ≤ sizeLine := Nat.le_of_ble_eq_true rfl
  conv => arg 3; arg 1; whnf
  have lh := bools_len (cellR parts prev c) (j + 1)
  have lr := bools_len prev (n + 1)
  rw [bools_succ] at hQ
  have hc := cellR_succ (prev := prev) (c := c) hp
  cases p with
  | star =>
    simp only [partD, Rep] at hr
    subst hr
    walk_at "B go"
    refine subL (j := j) (by walk_at "B led") ⟨by omega, .inl rfl⟩ (bools_get _ (by omega)) (by omega) ?_
    cases hb : cellR parts prev c j with
    | true =>
      rw [show cellR parts prev c (j + 1) = true by rw [hc]; simp [nextR, hb]] at hQ
      walk_at "B go"
      exact hQ _ _ _ (by with_reducible assumption)
    | false =>
      rw [show cellR parts prev c (j + 1) = prev (j + 1) by rw [hc]; simp [nextR, hb]] at hQ
      walk_at "B go"
      refine subL (j := j + 1) (by walk_at "B got") ⟨by omega, .inl rfl⟩ (bools_get _ (by omega)) (by omega) ?_
      walk_at "B go"
      exact hQ _ _ _ (by with_reducible assumption)
  | any =>
    have hr' := hr
    simp only [partD, Rep] at hr'
    obtain ⟨tp, rfl⟩ := hr'
    walk_at "B go"
    refine subL (j := j) (by walk_at "B got") ⟨by omega, .inl rfl⟩ (bools_get _ (by omega)) (by omega) ?_
    cases hb : prev j with
    | true =>
      rw [show cellR parts prev c (j + 1) = takesP .any c by rw [hc]; simp [nextR, hb, takesP]] at hQ
      walk_at "B go"
      exact hQ _ _ _ (by with_reducible assumption)
    | false =>
      rw [show cellR parts prev c (j + 1) = false by rw [hc]; simp [nextR, hb]] at hQ
      walk_at "B go"
      exact hQ _ _ _ (by with_reducible assumption)
  | br b its =>
    have hr' := hr
    simp only [partD, Rep] at hr'
    obtain ⟨tp, rfl⟩ := hr'
    walk_at "B go"
    refine subL (j := j) (by walk_at "B got") ⟨by omega, .inl rfl⟩ (bools_get _ (by omega)) (by omega) ?_
    cases hb : prev j with
    | true =>
      rw [show cellR parts prev c (j + 1) = takesP (.br b its) c by rw [hc]; simp [nextR, hb, takesP]] at hQ
      walk_at "B go"
      exact hQ _ _ _ (by with_reducible assumption)
    | false =>
      rw [show cellR parts prev c (j + 1) = false by rw [hc]; simp [nextR, hb]] at hQ
      walk_at "B go"
      exact hQ _ _ _ (by with_reducible assumption)
end
end
theorem flush_39 : True := by first | walk1 | trivial
noncomputable section
section
variable {w : World} {A : Around} {s : Shared} {E : Value → Shared → Prop} {Q : Value → Shared → Prop} {t u : Tok} {k : Nat}
theorem taken_start {parts : List Part} {j : Nat} {p : Part} {L ra : Addr} {imm : Heap} {m : Str → Option Value} {mu : List (Addr × Obj)} {pv : Value} {kr : Nat} {Q : Flow → Shared → Prop} {E : Value → Shared → Prop}
    (hp : parts[j]? = some p) (hjn : j < 100) (S : St imm L m ((ra, lstO (bools (startR parts) (j + 1)) kr) :: mu) s.heap) (B : Base w imm)
    (m2 : m "row" = some (.ref ra)) (m4 : m "part" = some pv) (hr : Rep imm (partD p) pv)
    (hQ : ∀ h' tk kh', St imm L m ((ra, lstO (bools (startR parts) (j + 2)) kh') :: mu) h' → Q .next { s with heap := h', toks := tk }) :
    wpAny (MM w) A (execs (forBody (bodyP 28)[1]?) (callEnv fd_taken L 205)) Q E s := by
  have e : EnvOk (callEnv fd_taken L 205) L := ⟨rfl, rfl, rfl, rfl⟩
  have h200 : 20000 ≤ sizeLine := Nat.le_of_ble_eq_true rfl
  conv => arg 3; arg 1; whnf
  have lr := bools_len (startR parts) (j + 1)
  rw [bools_succ] at hQ
  have hs := startR_succ hp
  cases p with
  | star =>
    simp only [partD, Rep] at hr
    subst hr
    rw [show startR parts (j + 1) = startR parts j from hs] at hQ
    walk_at "B go"
    refine subL (j := j) (by walk_at "B led") ⟨by omega, .inr (by omega)⟩ (bools_get _ (by omega)) (by omega) ?_
    walk_at "B go"
    exact hQ _ _ _ (by with_reducible assumption)
  | any =>
    simp only [partD, Rep] at hr
    obtain ⟨tp, rfl⟩ := hr
    rw [show startR parts (j + 1) = false from hs] at hQ
    walk_at "B go"
    exact hQ _ _ _ (by with_reducible assumption)
  | br b its =>
    simp only [partD, Rep] at hr
    obtain ⟨tp, rfl⟩ := hr
    rw [show startR parts (j + 1) = false from hs] at hQ
    walk_at "B go"
    exact hQ _ _ _ (by with_reducible assumption)
theorem taken_loop {parts : List Part} {text : List Nat} {L pa ea ra : Addr} {pvs evs : List Value} {n ke kr : Nat} {imm : Heap} {m : Str → Option Value} {Q : Flow → Shared → Prop} {E : Value → Shared → Prop}
    (S : St imm L m [(ea, lstO evs ke)] s.heap) (B : Base w imm) (r : Room A (0 + 1 + 1)) (gp : imm.get? pa = some (lstO pvs n)) (hp : Reps imm (parts.map partD) pvs) (hok : ∀ p ∈ parts, OkPart p) (hln : parts.length ≤ 100) (htl : text.length ≤ 100)
    (gr : imm.get? ra = some (lstO (bools (rowR parts text 0) (parts.length + 1)) kr)) (he : Reps (above L imm) (natsD (endsN (fun e => rowR parts text e parts.length) 1)) evs)
    (m1 : m "row" = some (.ref ra)) (m2 : m "parts" = some (.ref pa)) (m3 : m "name" = some (.str (strN text) t)) (m4 : m "ends" = some (.ref ea))
    (hQ : ∀ imm' h' m' tk evs' ke', Ext imm imm' → St imm' L m' [(ea, lstO evs' ke')] h' → m' "ends" = some (.ref ea) → Reps (above L imm') (natsD (takenN parts text)) evs' → Q .next { s with heap := h', toks := tk }) :
    wpAny (MM w) A (exec ((bodyP 28)[3]?.getD default) (callEnv fd_taken L 205)) Q E s := by
  have e : EnvOk (callEnv fd_taken L 205) L := ⟨rfl, rfl, rfl, rfl⟩
  have h200 : 20000 ≤ sizeLine := Nat.le_of_ble_eq_true rfl
  have hpl : pvs.length = parts.length := by have := hp.length; simpa using this
  conv => arg 3; arg 1; whnf
  refine wpAny_For ?_
  walk_at "B go"
  refine for_enumS (fun i imm₁ m₁ mu₁ => ∃ ra kr evs ke, mu₁ = [(ea, lstO evs ke)] ∧ imm₁.get? ra = some (lstO (bools (rowR parts text i) (parts.length + 1)) kr) ∧ Reps (above L imm₁) (natsD (endsN (fun e => rowR parts text e parts.length) (i + 1))) evs ∧
      m₁ "row" = some (.ref ra) ∧ m₁ "parts" = some (.ref pa) ∧ m₁ "ends" = some (.ref ea)) r.1 (by with_reducible assumption) ⟨ra, kr, evs, ke, rfl, gr, he, m1, m2, m4⟩ ?_ ?_
  · rintro i T c t u imm₁ m₁ mu₁ its h tk hi hic hT x₁ ⟨ra, kr, evs, ke, rfl, gr, he, n1, n2, n3⟩ Sx
    have B₁ : Base w imm₁ := B.ext x₁
    have gp₁ := x₁ _ _ gp
    have hp₁ := Reps.ext x₁ _ _ hp
    clear hQ
    refine unpackT r.1 Sx hT rfl rfl fun h' Sx' => ?_
    refine wpAny_assign_Name (st_local Sx' e (by rfl) fun ha Sa => ?_)
    refine wpAny_assign_Name (st_local Sa e (by rfl) fun hb Sb => ?_)
    walk_at "B go"
    rename St _ _ _ _ _ => Sf
    refine wpAny_For ?_
    walk_at "B go"
    refine for_enumL (fun j imm₂ m₂ mu₂ => ∃ kh, mu₂ = (_, lstO (bools (cellR parts (rowR parts text i) c) (j + 1)) kh) :: (ea, lstO evs ke) :: its ∧ m₂ "heads" = some (.ref _) ∧ m₂ "row" = some (.ref ra) ∧ m₂ "parts" = some (.ref pa) ∧ m₂ "ends" = some (.ref ea) ∧
        m₂ "sign" = some (.str (strN [c]) u) ∧ m₂ "end" = some (.int (i : Int) t)) r.1 Sf gp₁ ⟨0, rfl, by walk_at "B look", by walk_at "B look", by walk_at "B look", by walk_at "B look", by walk_at "B look", by walk_at "B look"⟩ ?_ ?_
    · rintro j T y t2 imm₂ m₂ mu₂ its₂ h₂ tk₂ hj hjv hT₂ x₂ ⟨kh, rfl, b1, b2, b3, b4, b5, b6⟩ Sy
      obtain ⟨d, hd, rd⟩ := hp₁.get hjv
      rw [List.getElem?_map] at hd
      obtain ⟨p, hq⟩ : ∃ p, parts[j]? = some p := by
        cases hq : parts[j]? with
        | none => rw [hq] at hd; cases hd
        | some q => exact ⟨q, rfl⟩
      rw [hq] at hd
      cases hd
      refine unpackT r.1 Sy hT₂ rfl rfl fun h' Sy' => ?_
      refine wpAny_assign_Name (st_local Sy' e (by rfl) fun hc Sc => ?_)
      refine wpAny_assign_Name (st_local Sc e (by rfl) fun hd Sd => ?_)
      refine taken_in (n := parts.length) hq (hok _ (List.mem_of_getElem? hq)) (by omega) hln Sd (B₁.ext x₂) r (x₂ _ _ gr) (look_ne (by decide) (look_ne (by decide) b1)) (look_ne (by decide) (look_ne (by decide) b2)) (look_ne (by decide) (if_pos rfl)) (if_pos rfl) (look_ne (by decide) (look_ne (by decide) b5)) (Rep.ext x₂ _ _ rd) ?_
      intro h3 tk3 kh3 S3
      exact ⟨imm₂, _, _, h3, tk3, rfl, Ext.refl _, ⟨kh3, rfl, look_ne (by decide) (look_ne (by decide) b1), look_ne (by decide) (look_ne (by decide) b2), look_ne (by decide) (look_ne (by decide) b3), look_ne (by decide) (look_ne (by decide) b4), look_ne (by decide) (look_ne (by decide) b5), look_ne (by decide) (look_ne (by decide) b6)⟩, S3⟩
    · rintro imm₂ m₂ mu₂ h₂ tk₂ x₂ ⟨kh, rfl, b1, b2, b3, b4, b5, b6⟩ Sy
      rw [hpl] at Sy
      have hrow : (rowR parts text (i + 1)) = cellR parts (rowR parts text i) c := by
        show cellR parts (rowR parts text i) (text.getD i 0) = _
        rw [List.getD_eq_getElem?_getD, hic]
        rfl
      rw [← hrow] at Sy
      have lr := bools_len (rowR parts text (i + 1)) (parts.length + 1)
      have le : evs.length ≤ sizeLine := by
        have h1 := he.length
        have h2 := endsN_len (fun e => rowR parts text e parts.length) (i + 1)
        unfold natsD at h1
        rw [List.length_map] at h1
        omega
      walk_at "B go"
      refine subL (j := parts.length) (by walk_at "B led") ⟨by omega, .inr (by omega)⟩ (bools_get _ (by omega)) (by omega) ?_
      cases hb : rowR parts text (i + 1) parts.length with
      | true =>
        walk_at "B go"
        rename St _ _ _ _ _ => Sz
        obtain ⟨imm₃, x₃, S₃, g₃⟩ := Sz.freeze0
        refine ⟨imm₃, _, _, _, _, rfl, x₂.trans x₃, ⟨_, kh, _, _, rfl, g₃, ?_, if_pos rfl, look_ne (by decide) b3, look_ne (by decide) b4⟩, S₃⟩
        rw [endsN_succ, if_pos hb, natsD_append]
        exact (Reps.ext (above_ext (x₂.trans x₃)) _ _ he).snoc (Rep.mkInt rfl)
      | false =>
        walk_at "B go"
        rename St _ _ _ _ _ => Sz
        obtain ⟨imm₃, x₃, S₃, g₃⟩ := Sz.freeze0
        refine ⟨imm₃, _, _, _, _, rfl, x₂.trans x₃, ⟨_, kh, _, _, rfl, g₃, ?_, if_pos rfl, look_ne (by decide) b3, look_ne (by decide) b4⟩, S₃⟩
        rw [endsN_succ, if_neg (by rw [hb]; exact Bool.false_ne_true), List.append_nil]
        exact Reps.ext (above_ext (x₂.trans x₃)) _ _ he
  · rintro imm₁ m₁ mu₁ h tk x₁ ⟨ra, kr, evs, ke, rfl, gr, he, n1, n2, n3⟩ Sx
    exact hQ _ _ _ _ _ _ x₁ Sx n3 he
theorem spec_taken {parts : List Part} {text : List Nat} {pa : Addr} {pvs : List Value} {n : Nat} (hg : s.heap.get? pa = some (lstO pvs n)) (hp : Reps s.heap (parts.map partD) pvs) (hok : ∀ p ∈ parts, OkPart p) (hln : parts.length ≤ 100) (htl : text.length ≤ 100) (B : Base w s.heap) (r : Room A (k + 3))
    (hQ : ∀ h' tk v, Ext s.heap h' → Rep (above s.heap.objs.size h') (.list (natsD (takenN parts text))) v → Q v { s with heap := h', toks := tk }) :
    wpAny (MM w) A (call (.ref 205) [.ref pa, .str (strN text) t]) Q E s := by
  obtain ⟨o, ho, hd⟩ := fn_taken B
  refine call_def B r ho hd (cd_taken B) (body := bodyP 28) (binds := [("parts", .ref pa), ("name", .str (strN text) t)]) rfl rfl cl_taken (locs (by rfl)) ?_ rfl rfl rfl
  intro h₀ S
  have e : EnvOk (callEnv fd_taken s.heap.objs.size 205) s.heap.objs.size := ⟨rfl, rfl, rfl, rfl⟩
  have r' : Room (A.deeper (callEnv fd_taken s.heap.objs.size 205)) (0 + 1 + 1) := (r.deeper (callEnv fd_taken s.heap.objs.size 205)).le (by omega)
  have h200 : 20000 ≤ sizeLine := Nat.le_of_ble_eq_true rfl
  have hpl : pvs.length = parts.length := by have := hp.length; simpa using this
  conv => arg 3; arg 1; whnf
  walk_at "B go"
  rename St _ _ _ _ _ => Sf
  refine wpAny_For ?_
  walk_at "B go"
  refine for_list (fun i imm₁ m₁ mu₁ => ∃ k1, mu₁ = [(_, lstO (bools (startR parts) (i + 1)) k1)] ∧ m₁ "row" = some (.ref _) ∧ m₁ "parts" = some (.ref pa) ∧ m₁ "name" = some (.str (strN text) t))
    r.1 Sf hg ⟨0, rfl, by walk_at "B look", by walk_at "B look", by walk_at "B look"⟩ ?_ ?_
  · rintro i v imm₁ m₁ mu₁ its h tk hi hiv x₁ ⟨k1, rfl, n1, n2, n3⟩ Sx
    obtain ⟨d, hd, rd⟩ := hp.get hiv
    rw [List.getElem?_map] at hd
    obtain ⟨p, hq⟩ : ∃ p, parts[i]? = some p := by
      cases hq : parts[i]? with
      | none => rw [hq] at hd; cases hd
      | some q => exact ⟨q, rfl⟩
    rw [hq] at hd
    cases hd
    have B₁ : Base w imm₁ := B.ext x₁
    have hil : i < parts.length := (List.getElem?_eq_some_iff.mp hq).1
    refine wpAny_assign_Name (st_local Sx e (by rfl) fun hb Sb => ?_)
    refine taken_start hq (by omega) Sb B₁ (look_ne (by decide) n1) (if_pos rfl) (Rep.ext x₁ _ _ rd) ?_
    intro h' tk' k' S'
    exact ⟨imm₁, _, _, h', tk', rfl, Ext.refl _, ⟨k', rfl, look_ne (by decide) n1, look_ne (by decide) n2, look_ne (by decide) n3⟩, S'⟩
  · rintro imm₁ m₁ mu₁ h tk x₁ ⟨k1, rfl, n1, n2, n3⟩ Sx
    have B₁ : Base w imm₁ := B.ext x₁
    rw [hpl] at Sx
    have lr := bools_len (startR parts) (parts.length + 1)
    walk_at "B go"
    refine subL (j := parts.length) (by walk_at "B led") ⟨by omega, .inr (by omega)⟩ (bools_get _ (by omega)) (by omega) ?_
    cases hb : startR parts parts.length with
    | true =>
      walk_at "B go"
      rename St _ _ _ _ _ => Sz
      obtain ⟨imm₂, x₂, S₂, g₂⟩ := Sz.freezeD (Del.there Del.here)
      refine taken_loop (parts := parts) (text := text) S₂ (B₁.ext x₂) r' (x₂ _ _ (x₁ _ _ hg)) (Reps.ext (x₁.trans x₂) _ _ hp) hok hln htl g₂ ?_ (look_ne (by decide) n1) (look_ne (by decide) n2) (look_ne (by decide) n3) (if_pos rfl) ?_
      · rw [endsN_succ, if_pos (show rowR parts text 0 parts.length = true from hb)]
        exact Reps.cons (Rep.mkInt rfl) Reps.nil
      · intro imm' h' m' tk' evs' ke' x' S' b1 b2
        walk_at "B go"
        have g' := S'.get0
        exact hQ _ _ _ (x₁.trans (x₂.trans (x'.trans S'.keep))) (Rep.mkList (above_get.mpr ⟨g', Nat.le_of_lt (by with_reducible assumption)⟩) (Reps.ext (above_ext S'.keep) _ _ b2))
    | false =>
      walk_at "B go"
      rename St _ _ _ _ _ => Sz
      obtain ⟨imm₂, x₂, S₂, g₂⟩ := Sz.freezeD (Del.there Del.here)
      refine taken_loop (parts := parts) (text := text) S₂ (B₁.ext x₂) r' (x₂ _ _ (x₁ _ _ hg)) (Reps.ext (x₁.trans x₂) _ _ hp) hok hln htl g₂ ?_ (look_ne (by decide) n1) (look_ne (by decide) n2) (look_ne (by decide) n3) (if_pos rfl) ?_
      · rw [endsN_succ, if_neg (show ¬ (rowR parts text 0 parts.length = true) by rw [show rowR parts text 0 parts.length = startR parts parts.length from rfl, hb]; exact Bool.false_ne_true)]
        exact Reps.nil
      · intro imm' h' m' tk' evs' ke' x' S' b1 b2
        walk_at "B go"
        have g' := S'.get0
        exact hQ _ _ _ (x₁.trans (x₂.trans (x'.trans S'.keep))) (Rep.mkList (above_get.mpr ⟨g', Nat.le_of_lt (by with_reducible assumption)⟩) (Reps.ext (above_ext S'.keep) _ _ b2))
end
end
theorem flush_40 : True := by first | walk1 | trivial
noncomputable section
/-! the generator expression over the chunks, joined -/
section
variable {w : World} {A : Around} {s : Shared} {E : Value → Shared → Prop} {imm : Heap} {L : Addr} {m : Str → Option Value} {mu : List (Addr × Obj)} {env : Env}
theorem nm_ns {x : Str} {pos : Pos} {v : Value} {m₂ : Str → Option Value} {Q : Value → Shared → Prop} (hn : s.heap.Ns env.locals m₂) (hv : m₂ x = some v) (hk : env.scope.kind = .function) (hl : env.kindOf x = some .local) (h : Q v s)
    (hd : (x == ("__debug__" : Str)) = false := by decide) : wpAny (MM w) A (eval (.Name x pos) env) Q E s := wpAny_Name (wpAny_loadName_local hk hl hn hv h) hd
theorem gen_join {mu' : Array Value → List (Addr × Obj)} {elt iter : Expr} {x : Str} {px : Pos} {scope : Scope} {pos : Pos} {ca : Addr} {cvs : List Value} {kc : Nat} {ls : List (List Nat)} {ps : Array Value} {tj : Tok} {hp : Heap} {Q : Value → Shared → Prop}
    (hh : A.handled = none) (hroom : A.depth + 20 < 1000) (hc : env.code = .ref 54) (hge : env.globals = mainGlobals) (hcl : closureFor scope env = pure []) (hco : scope.isCoroutine = false) (hcell : ∀ y ∈ scope.names, y.2 ≠ .cell) (h0 : scope.names.lookup (".0" : Str) = some NameKind.local)
    (hx : scope.names.lookup x = some .local) (hkind : scope.kind = .function) (S : St imm L m mu s.heap) (B : Base w imm) (p : ∀ ps', At 50 (tabO ps) (tabO ps') mu (mu' ps')) (ht : TriplesOk ps.toList)
    (hi : ∀ Q' : Value → Shared → Prop, Q' (.ref ca) s → wpAny (MM w) A (eval iter env) Q' E s) (hg : s.heap.get? ca = some (lstO cvs kc)) (hca : ca ≠ 50) (hr : Reps hp (ls.map fun l => .str (strN l)) cvs) (hlen : ls.length ≤ 10000) (hw : (ls.map List.length).sum ≤ 100000)
    (helt : ∀ (A' : Around) (E' : Value → Shared → Prop) (s₂ : Shared) m₂ cenv l t, cenv.scope = scope → s₂.heap.Ns cenv.locals m₂ → m₂ x = some (.str (strN l) t) → l ∈ ls → wpAny (MM w) A' (eval elt cenv) (fun y s₃ => (∃ t', y = .str (strN l) t') ∧ Keeps s₂ s₃) E' s₂)
    (hQ : ∀ h' tk g' t' ps', St imm L m (mu' ps') h' → TriplesOk ps'.toList → (AllBare s.gens → AllBare g') → Q (.str (strN (joinN [45] ls)) t') { s with heap := h', toks := tk, gens := g' })
    (hs : ∀ x, genFold iter env x = pure x := by intro _; rfl) :
    wpAny (MM w) A (eval (.GeneratorExp elt [⟨.Name x px, iter, [], 0⟩] scope pos) env) (fun v s₁ => wpAny (MM w) A (call (.builtin "str.join") [.str (strN [45]) tj, v]) Q E s₁) E s := by
  have h200 : 20000 ≤ sizeLine := Nat.le_of_ble_eq_true rfl
  have hcl' : cvs.length = ls.length := by have := hr.length; simpa using this
  have hl : s.heap.IsList ca cvs.toArray := lst_of hg
  have hlt : ca < s.heap.objs.size := Heap.lt_size hg
  refine wpAny_GeneratorExp_walksQD hh hco hcl hcell h0 hx hkind (by show A.depth < 1000; omega) (hi _ ?_) hs
  refine wpAny_pyIter_list hl ?_
  have S1 := S.push { cls := .type "list_iterator", data := .fields #[.ref ca, .int 0 0] }
  have B1 : Base w (s.heap.push { cls := .type "list_iterator", data := .fields #[.ref ca, .int 0 0] }) := B.ext S1.keep
  refine ⟨B1.lim, ?_⟩
  refine genCode hc S1 B p ht fun cv h' tk ps' S2 ht2 x2 => ?_
  have B2 : Base w h' := B.ext S2.keep
  obtain ⟨ob, b3, b4, b5, b6⟩ := B2.bm
  refine wpAny_builtinsFor (by rw [hge]; exact B2.glob) (gm_builtins _) (by decide) b3 b4 b5 b6 ?_
  have hI50 : s.heap.objs.size ≠ 50 := Nat.ne_of_gt (Heap.lt_size (S.mem _ (p #[]).mem).1)
  have hit : h'.IsListIter s.heap.objs.size ca 0 := ⟨_, x2 _ _ hI50 (Heap.get?_push_size _ rfl), rfl, rfl⟩
  have hl2 : h'.IsList ca cvs.toArray := ⟨_, x2 _ _ hca (Heap.get?_push_of_some _ hg), rfl, _, rfl⟩
  refine ⟨s.heap.objs.size, [s.heap.objs.size, ca], [s.heap.objs.size], cvs.length, fun i v => cvs[i]? = some v, fun i h => h.IsListIter s.heap.objs.size ca i ∧ h.IsList ca cvs.toArray, fun _ => true,
    fun i y => ∃ l t, ls[i]? = some l ∧ y = .str (strN l) t, rfl, fun A' hA => ?_, ⟨hit, hl2⟩, fun b hb => ?_, B2.lim, ?_, ?_, ?_⟩
  · have := Walks.list (prog := PySem.Challenge.pw_ij0078_01) (w := w) hA s.heap.objs.size ca (Nat.ne_of_lt hlt) cvs.toArray
    simpa using this
  · show b < h'.objs.size
    rcases List.mem_cons.mp hb with rfl | hb
    · obtain ⟨o, ho, _⟩ := hit; exact Heap.lt_size ho
    · rw [List.mem_singleton.mp hb]
      obtain ⟨o, ho, _⟩ := hl2; exact Heap.lt_size ho
  · intro hm
    have e := List.mem_singleton.mp hm
    obtain ⟨_, hn, _⟩ := (B.ext S.keep).lim
    have := hn.lt
    rw [e] at this
    exact Nat.lt_irrefl _ this
  · intro href hhref
    refine ⟨fun A' E' i v s₂ m₂ hA _ _ hP hn hm hk => ?_, fun A' E' i v s₂ m₂ hA _ _ hP _ hn hm hk => ?_⟩
    · rw [List.forIn_nil]
      exact wpAny_pure ⟨rfl, s₂.heap, s₂.toks, rfl, fun _ _ e => e⟩
    · obtain ⟨d, hd, rd⟩ := hr.get hP
      rw [List.getElem?_map] at hd
      obtain ⟨l, hq⟩ : ∃ l, ls[i]? = some l := by
        cases hq : ls[i]? with
        | none => rw [hq] at hd; cases hd
        | some q => exact ⟨q, rfl⟩
      rw [hq] at hd
      cases hd
      simp only [Rep] at rd
      obtain ⟨t, rfl⟩ := rd
      refine wpAny_mono (helt A' E' s₂ m₂ _ l t rfl hn hm (List.mem_of_getElem? hq)) (fun y s₃ hy => ?_) fun _ _ e => e
      obtain ⟨⟨t', rfl⟩, hk2⟩ := hy
      exact ⟨⟨l, t', hq, rfl⟩, hk2⟩
  · intro a h₅ tk5 gs hgb hag hsz5 hk5 W hat
    have S5 : St imm L m (mu' ps') h₅ := S2.ext hk5
    have hpass : passing (fun _ => true) cvs.length 0 = List.range cvs.length := by
      unfold passing
      rw [List.drop_zero, List.filter_eq_self.mpr fun _ _ => rfl]
    rw [hpass, List.length_range] at W
    have W := W.in4_2
    refine SC.joinGen W (fun i s' st => st.1.typeIs) hat (fun b hb => ?_) List.mem_cons_self (fun j v hv => ?_) (fun s' lt hm hacc => ?_) (by omega)
    · show b < h₅.objs.size
      rw [hsz5]
      rcases List.mem_cons.mp hb with rfl | hb
      · exact Nat.lt_succ_self _
      · rcases List.mem_cons.mp hb with rfl | hb
        · exact Nat.lt_succ_of_lt hag
        · exact Nat.lt_succ_of_lt (Nat.lt_trans (List.mem_range.mp hb) hag)
    · obtain ⟨i, _, l, t, _, rfl⟩ := hv
      exact ⟨_, _, rfl⟩
    · have hlt : lt.map (·.1) = ls.map strN := by
        apply List.ext_getElem?
        intro j
        have hsz : lt.length = cvs.length := by simpa [strValues] using hacc.1
        by_cases hj : j < cvs.length
        · have hj' : j < lt.length := by omega
          obtain ⟨i, hi, l, t, hl3, hv⟩ := hacc.2 j (.str lt[j].1 lt[j].2) (by simp [strValues, List.getElem?_eq_getElem hj'])
          have hij : i = j := by
            have := List.getElem?_eq_some_iff.mp hi
            obtain ⟨_, e⟩ := this
            simpa using e.symm
          subst hij
          injection hv with h1 _
          simp [List.getElem?_eq_getElem hj', hl3, h1]
        · rw [List.getElem?_eq_none (by simp; omega), List.getElem?_eq_none (by simp; omega)]
      rw [hlt]
      refine ⟨?_, fun t' k => ?_⟩
      · exact joinOk_of_weight (by
          rw [List.map_map, List.length_map]
          have : (Str.length ∘ strN) = List.length := funext fun l => strN_len l
          rw [this]; omega) (by rw [strN_len]; simp)
      · have e : Txt.join (strN [45]) (ls.map strN) = strN (joinN [45] ls) := (StrLaws.glued_eq_join (strN [45]) (ls.map strN)).trans (join_strN [45] ls)
        rw [e]
        have O : Off imm L (mu' ps') [h'.objs.size, s.heap.objs.size] := by
          have big : ∀ a, s.heap.objs.size ≤ a → (∀ o, s.heap.get? a = some o → False) → imm.get? a = none ∧ a ≠ L ∧ a ∉ (mu' ps').map (·.1) := by
            intro a ha hno
            refine ⟨?_, ?_, ?_⟩
            · cases e : imm.get? a with
              | none => rfl
              | some o => exact (hno o (S.keep _ _ e)).elim
            · rintro rfl
              obtain ⟨o, _, _, ho, _⟩ := S.ns
              exact hno o ho
            · intro hmem
              rw [(p ps').keys] at hmem
              obtain ⟨q, hq, rfl⟩ := List.mem_map.mp hmem
              exact hno _ (S.mem q hq).1
          have none_of : ∀ a, s.heap.objs.size ≤ a → ∀ o, s.heap.get? a = some o → False := fun a ha o e => absurd (Heap.lt_size e) (Nat.not_lt.mpr ha)
          have hle : s.heap.objs.size < h'.objs.size := by obtain ⟨o, ho, _⟩ := hit; exact Heap.lt_size ho
          refine ⟨by rw [List.nodup_cons]; exact ⟨fun hm => Nat.ne_of_gt hle (List.mem_singleton.mp hm), by simp⟩, fun b hb => ?_⟩
          rcases List.mem_cons.mp hb with rfl | hb
          · exact big _ (Nat.le_of_lt hle) (none_of _ (Nat.le_of_lt hle))
          · rw [List.mem_singleton.mp hb]
            exact big _ (Nat.le_refl _) (none_of _ (Nat.le_refl _))
        have S6 : St imm L m (mu' ps') s'.heap := S5.extOff O fun b o hb e => hm.heap b o hb e
        have hg' : AllBare s.gens → AllBare s'.gens := fun g => AllBare.movedS (s := { s with heap := h₅, toks := tk5, gens := s.gens.push gs }) (g.push hgb) hm
        have eos : s'.os = s.os := hm.os
        have edr : s'.drawn = s.drawn := hm.drawn
        have := hQ s'.heap k s'.gens t' ps' S6 ht2 hg'
        rw [← eos, ← edr] at this
        exact this
end
end
theorem flush_41 : True := by first | walk1 | trivial
noncomputable section
/-! The walk of _translate: its pieces -/
noncomputable def ifThen (st : Option Stmt) : List Stmt := match st with
  | some (.If _ b _ _) => b
  | _ => []
noncomputable def ifElse (st : Option Stmt) : List Stmt := match st with
  | some (.If _ _ b _) => b
  | _ => []
noncomputable def trMain : List Stmt := forBody (bodyP 6)[3]?
noncomputable def trBR : List Stmt := ifThen (ifElse (ifElse trMain[2]?)[0]?)[0]?
noncomputable def trE1 : List Stmt := ifElse trBR[4]?
noncomputable def trCH : List Stmt := ifElse trE1[1]?
/-! chunks, plainly -/
noncomputable def chunksOf (cur : List Nat) : List It → List (List Nat)
  | [] => [cur]
  | .one c :: r => chunksOf (cur ++ [c]) r
  | .rng a b :: r => (cur ++ [a]) :: chunksOf [b] r
theorem chunksOf_ones (os : List Nat) : ∀ cur, chunksOf cur (os.map .one) = [cur ++ os] := by
  induction os with
  | nil => intro cur; simp [chunksOf]
  | cons o r ih => intro cur; simp only [List.map_cons, chunksOf, ih]; simp
theorem chunksOf_rng (os : List Nat) (a b : Nat) (r : List It) : ∀ cur, chunksOf cur (os.map .one ++ .rng a b :: r) = (cur ++ os ++ [a]) :: chunksOf [b] r := by
  induction os with
  | nil => intro cur; simp [chunksOf]
  | cons o q ih => intro cur; simp only [List.map_cons, List.cons_append, chunksOf, ih]; simp
theorem split_rng : ∀ its : List It, (∃ os : List Nat, its = os.map .one) ∨ ∃ (os : List Nat) (a b : Nat) (r : List It), its = os.map .one ++ .rng a b :: r
  | [] => .inl ⟨[], rfl⟩
  | .rng a b :: r => .inr ⟨[], a, b, r, rfl⟩
  | .one c :: r => by
    rcases split_rng r with ⟨os, rfl⟩ | ⟨os, a, b, q, rfl⟩
    · exact .inl ⟨c :: os, rfl⟩
    · exact .inr ⟨c :: os, a, b, q, rfl⟩
theorem itsText_ones (os : List Nat) : itsText (os.map .one) = os := by
  induction os with
  | nil => rfl
  | cons o r ih => rw [List.map_cons, itsText_cons, ih]; rfl
theorem cut_get {pat x : List Nat} {ii jj q : Nat} (h : (pat.drop ii).take (jj - ii) = x) (hq : q < x.length) : pat[ii + q]? = x[q]? := by
  have hl := congrArg List.length h
  rw [List.length_take, List.length_drop] at hl
  have : ((pat.drop ii).take (jj - ii))[q]? = pat[ii + q]? := by
    rw [List.getElem?_take, if_pos (by omega), List.getElem?_drop]
  rw [← this, h]
theorem cut_take {pat x : List Nat} {ii jj q : Nat} (h : (pat.drop ii).take (jj - ii) = x) (hq : q ≤ jj - ii) : (pat.drop ii).take q = x.take q := by
  rw [← h, List.take_take, Nat.min_eq_left hq]
theorem cut_drop {pat x : List Nat} {ii jj q : Nat} (h : (pat.drop ii).take (jj - ii) = x) : (pat.drop (ii + q)).take (jj - (ii + q)) = x.drop q := by
  rw [← h, List.drop_take, List.drop_drop]
  congr 1; omega
section
variable {w : World} {A : Around} {s : Shared} {E : Value → Shared → Prop} {imm : Heap} {L : Addr} {m : Str → Option Value} {mu : List (Addr × Obj)}
noncomputable abbrev trEnv (L : Addr) : Env := callEnv fd_translate L 55
theorem trE (L : Addr) : EnvOk (trEnv L) L := ⟨rfl, rfl, rfl, rfl⟩
theorem chunk_turn {pat cur : List Nat} {rest : List It} {ii jj : Nat} {ca : Addr} {cvs : List Value} {kc : Nat} {t1 t2 t3 t4 : Tok} {Q : Flow → Shared → Prop}
    (S : St imm L m ((ca, lstO cvs kc) :: mu) s.heap) (B : Base w imm) (m1 : m "pat" = some (.str (strN pat) t1)) (m2 : m "i" = some (.int (ii : Int) t2)) (m3 : m "j" = some (.int (jj : Int) t3)) (m4 : m "k" = some (.int ((ii + cur.length + 1 : Nat) : Int) t4)) (m5 : m "chunks" = some (.ref ca))
    (hcut : (pat.drop ii).take (jj - ii) = cur ++ itsText rest) (hjj : jj ≤ pat.length) (hij : ii ≤ jj) (hrest : ∀ it ∈ rest, OkI it) (hp : pat.length ≤ 10000) (hcv : cvs.length ≤ 10000)
    (hend : ∀ os : List Nat, rest = os.map .one → ∀ h' m' tk, St imm L m' ((ca, lstO cvs kc) :: mu) h' → (∀ x : Str, x ≠ "k" → m' x = m x) → Q .brk { s with heap := h', toks := tk })
    (hgo : ∀ (os : List Nat) (a b : Nat) (r' : List It), rest = os.map .one ++ .rng a b :: r' → ∀ h' m' tk t kc' ii' kk' t' t'', ii' = ii + (cur.length + os.length + 2) → kk' = ii' + 2 → St imm L m' ((ca, lstO (cvs ++ [.str (strN (cur ++ os ++ [a])) t]) kc') :: mu) h' → m' "i" = some (.int ((ii' : Nat) : Int) t') → m' "k" = some (.int ((kk' : Nat) : Int) t'') →
      (∀ x : Str, x ≠ "k" → x ≠ "i" → m' x = m x) → Q .next { s with heap := h', toks := tk }) :
    wpAny (MM w) A (execs (forBody trCH[2]?) (trEnv L)) Q E s := by
  have e := trE L
  have h200 : 20000 ≤ sizeLine := Nat.le_of_ble_eq_true rfl
  have hlen := congrArg List.length hcut
  rw [List.length_take, List.length_drop, List.length_append] at hlen
  conv => arg 3; arg 1; whnf
  walk_at "B go"
  have hget : ∀ q, q < (cur ++ itsText rest).length → pat[ii + q]? = (cur ++ itsText rest)[q]? := fun q hq => cut_get hcut hq
  refine findS hjj (fun hno t0 tk0 => ?_) (fun p hp1 hp2 hpe hpmin t0 tk0 => ?_)
  · rename St _ _ _ _ _ => Sf
    walk_at "B go"
    rename St _ _ _ _ _ => Sf
    rcases split_rng rest with ⟨os, rfl⟩ | ⟨os, a, b, r', rfl⟩
    · refine hend os rfl _ _ _ Sf (fun x hx => if_neg hx)
    · exfalso
      have hg := hget (cur.length + os.length + 1) (by rw [itsText_append, itsText_ones, itsText_cons]; simp [itText]; omega)
      rw [itsText_append, itsText_ones, itsText_cons] at hg
      refine hno (ii + (cur.length + os.length + 1)) (by omega) (by rw [itsText_append, itsText_ones, itsText_cons] at hlen; simp [itText] at hlen; omega) ?_
      rw [hg]
      rw [List.getElem?_append_right (by omega), List.getElem?_append_right (by omega), show cur.length + os.length + 1 - cur.length - os.length = 1 by omega]
      rfl
  · rename St _ _ _ _ _ => Sf
    rcases split_rng rest with ⟨os, rfl⟩ | ⟨os, a, b, r', rfl⟩
    · exfalso
      rw [itsText_ones] at hget hlen
      have hg := hget (p - ii) (by rw [List.length_append]; omega)
      rw [show ii + (p - ii) = p by omega, hpe, List.getElem?_append_right (by omega)] at hg
      have hm := List.mem_of_getElem? hg.symm
      exact (hrest (.one 45) (List.mem_map.mpr ⟨_, hm, rfl⟩)).ne.1 rfl
    · have hpq : p = ii + (cur.length + os.length + 1) := by
        have hg := hget (cur.length + os.length + 1) (by rw [itsText_append, itsText_ones, itsText_cons]; simp [itText]; omega)
        rw [itsText_append, itsText_ones, itsText_cons] at hg
        rw [List.getElem?_append_right (by omega), List.getElem?_append_right (by omega), show cur.length + os.length + 1 - cur.length - os.length = 1 by omega] at hg
        have hg : pat[ii + (cur.length + os.length + 1)]? = some 45 := hg
        rcases Nat.lt_trichotomy p (ii + (cur.length + os.length + 1)) with h | h | h
        · exfalso
          have hg := hget (p - ii) (by rw [itsText_append, itsText_ones, itsText_cons]; simp [itText]; omega)
          rw [show ii + (p - ii) = p by omega, hpe, List.getElem?_append_right (by omega), itsText_append, itsText_ones, itsText_cons] at hg
          rcases Nat.lt_or_ge (p - ii - cur.length) os.length with h2 | h2
          · rw [List.getElem?_append_left h2] at hg
            have hm := List.mem_of_getElem? hg.symm
            exact (hrest (.one 45) (List.mem_append_left _ (List.mem_map.mpr ⟨_, hm, rfl⟩))).ne.1 rfl
          · rw [List.getElem?_append_right h2, show p - ii - cur.length - os.length = 0 by omega] at hg
            have ha : some 45 = some a := hg
            have := hrest (.rng a b) (by simp)
            exact this.1.ne.1 (Option.some.inj ha).symm
        · exact h
        · exact (hpmin _ (by omega) h hg).elim
      walk_at "B go"
      rename St _ _ _ _ _ => Sf
      refine sliceS_ss Sf (by omega) rfl fun h' t' tk S2 => ?_
      rw [cutN, show (pat.drop ii).take (p - ii) = cur ++ os ++ [a] by
        rw [cut_take hcut (by omega), hpq, itsText_append, itsText_ones, itsText_cons, show ii + (cur.length + os.length + 1) - ii = (cur ++ (os ++ [a])).length by simp [Nat.add_assoc], show cur ++ (os ++ (itText (.rng a b) ++ itsText r')) = (cur ++ (os ++ [a])) ++ (45 :: b :: itsText r') by simp [itText], List.take_left]
        simp]
      walk_at "B go"
      rename St _ _ _ _ _ => Sf
      refine hgo os a b r' rfl _ _ _ t' _ (p + 1) (p + 3) _ _ (by omega) (by omega) Sf (by walk_at "B look") (by walk_at "B look") (fun x hx1 hx2 => by rw [if_neg hx1, if_neg hx2, if_neg hx1])
end
end
theorem flush_42 : True := by first | walk1 | trivial
noncomputable section
/-! the chunk loop, whole -/
noncomputable abbrev svs (lt : List (List Nat × Tok)) : List Value := lt.map fun p => .str (strN p.1) p.2
section
variable {w : World} {A : Around} {s : Shared} {E : Value → Shared → Prop} {imm : Heap} {L : Addr} {m : Str → Option Value} {mu : List (Addr × Obj)}
theorem chunk_while {pat cur : List Nat} {its : List It} {ii jj : Nat} {ca : Addr} {kc : Nat} {t1 t2 t3 t4 : Tok} {Q : Flow → Shared → Prop}
    (S : St imm L m ((ca, lstO [] kc) :: mu) s.heap) (B : Base w imm) (m1 : m "pat" = some (.str (strN pat) t1)) (m2 : m "i" = some (.int (ii : Int) t2)) (m3 : m "j" = some (.int (jj : Int) t3)) (m4 : m "k" = some (.int ((ii + cur.length + 1 : Nat) : Int) t4)) (m5 : m "chunks" = some (.ref ca))
    (hcut : (pat.drop ii).take (jj - ii) = cur ++ itsText its) (hjj : jj ≤ pat.length) (hij : ii ≤ jj) (hits : ∀ it ∈ its, OkI it) (hp : pat.length ≤ 10000) (hil : its.length ≤ 10000)
    (hQ : ∀ h' m' tk kc' (ii' : Nat) t' lt last, chunksOf cur its = lt.map (·.1) ++ [last] → (pat.drop ii').take (jj - ii') = last → ii' ≤ jj → lt.length ≤ its.length → St imm L m' ((ca, lstO (svs lt) kc') :: mu) h' → m' "i" = some (.int ((ii' : Nat) : Int) t') →
      (∀ x : Str, x ≠ "k" → x ≠ "i" → m' x = m x) → Q .next { s with heap := h', toks := tk }) :
    wpAny (MM w) A (exec (trCH[2]?.getD default) (trEnv L)) Q E s := by
  have e := trE L
  have h200 : 20000 ≤ sizeLine := Nat.le_of_ble_eq_true rfl
  have hb : (forBody trCH[2]?) = (match trCH[2]?.getD default with | .While _ b _ _ => b | _ => []) := rfl
  conv => arg 3; arg 1; whnf
  refine while_at (fun n imm₁ m₁ mu₁ => imm₁ = imm ∧ ∃ (lt : List (List Nat × Tok)) (cu : List Nat) (rs : List It) (i' kc' : Nat) (t t' : Tok), mu₁ = (ca, lstO (svs lt) kc') :: mu ∧ rs.length = n ∧ lt.length + rs.length ≤ its.length ∧ (∀ it ∈ rs, OkI it) ∧
    chunksOf cur its = lt.map (·.1) ++ chunksOf cu rs ∧ (pat.drop i').take (jj - i') = cu ++ itsText rs ∧ i' ≤ jj ∧ m₁ "i" = some (.int (i' : Int) t) ∧ m₁ "k" = some (.int ((i' + cu.length + 1 : Nat) : Int) t') ∧ (∀ x : Str, x ≠ "k" → x ≠ "i" → m₁ x = m x)) its.length S
    ⟨rfl, [], cur, its, ii, kc, t2, t4, rfl, rfl, by simp, hits, rfl, hcut, hij, m2, m4, fun _ _ _ => rfl⟩ ?_
  rintro n imm₁ m₁ mu₁ h tk x ⟨rfl, lt, cu, rs, i', kc', t, t', rfl, rfl, hle, hok, hch, hct, hi', n2, n4, hk⟩ S₁
  refine wpAny_mono (E := Bot) (Q := fun b s₂ => b = true ∧ ∃ tk', s₂ = { s with heap := h, toks := tk' }) ?_ (fun b s₂ hb => ?_) (fun _ _ f => False.elim f)
  · walk_at "B go"
    all_goals simp
  · obtain ⟨rfl, tk', rfl⟩ := hb
    rw [if_pos rfl]
    refine chunk_turn (s := { s with heap := h, toks := tk' }) (cur := cu) (rest := rs) S₁ B (by rw [hk _ (by decide) (by decide)]; exact m1) n2 (by rw [hk _ (by decide) (by decide)]; exact m3) n4 (by rw [hk _ (by decide) (by decide)]; exact m5) hct hjj hi' hok hp (by simp; omega) ?_ ?_
    · rintro os rfl h' m' tk2 S2 hk2
      refine hQ h' m' tk2 kc' i' t lt (cu ++ os) (by rw [hch, chunksOf_ones]) (by rw [hct, itsText_ones]) hi' (by omega) S2 (by rw [hk2 _ (by decide)]; exact n2) (fun y h1 h2 => by rw [hk2 y h1, hk y h1 h2])
    · rintro os a b r' rfl h' m' tk2 t5 kc2 ii2 kk2 t6 t7 rfl rfl S2 a1 a2 hk2
      have hlen := congrArg List.length hct
      rw [List.length_take, List.length_drop, List.length_append, itsText_append, itsText_ones, itsText_cons] at hlen
      simp [itText] at hlen
      refine ⟨r'.length, imm₁, m', _, h', tk2, rfl, by simp; omega, Ext.refl _, ⟨rfl, lt ++ [(cu ++ os ++ [a], t5)], [b], r', i' + (cu.length + os.length + 2), kc2, t6, t7, by simp [svs], rfl, by simp at hle ⊢; omega, fun it hi => hok it (by simp [hi]), ?_, ?_, by omega, a1, by rw [a2]; rfl, fun y h1 h2 => by rw [hk2 y h1 h2, hk y h1 h2]⟩, S2⟩
      · rw [hch, chunksOf_rng]; simp
      · rw [cut_drop hct, itsText_append, itsText_ones, itsText_cons, show cu ++ (os ++ (itText (.rng a b) ++ itsText r')) = (cu ++ (os ++ [a, 45])) ++ (b :: itsText r') by simp [itText], show cu.length + os.length + 2 = (cu ++ (os ++ [a, 45])).length by simp [Nat.add_assoc], List.drop_left]
        rfl
end
/-! merging, plainly -/
noncomputable def mergeR : List (List Nat) → List (List Nat)
  | [] => []
  | c :: r => match mergeR r with
    | [] => [c]
    | h :: t => if h.headD 0 < c.getLastD 0 then (c.dropLast ++ h.tail) :: t else c :: h :: t
theorem merge_chunks : ∀ (its : List It) (cur : List Nat), ∃ x t, mergeR (chunksOf cur its) = (cur ++ x) :: t ∧ joinN [45] (x :: t) = itsText (its.filter fwd)
  | [], cur => ⟨[], [], by simp [chunksOf, mergeR], rfl⟩
  | .one c :: r, cur => by
    obtain ⟨x, t, e1, e2⟩ := merge_chunks r (cur ++ [c])
    refine ⟨c :: x, t, by rw [chunksOf, e1]; simp, ?_⟩
    rw [List.filter_cons_of_pos (by rfl), itsText_cons, ← e2]
    cases t <;> simp [joinN, itText]
  | .rng a b :: r, cur => by
    obtain ⟨x, t, e1, e2⟩ := merge_chunks r [b]
    rw [chunksOf, mergeR, e1]
    by_cases h : b < a
    · refine ⟨x, t, by simp [h], ?_⟩
      rw [List.filter_cons_of_neg (by simp [fwd]; omega)]; exact e2
    · refine ⟨[a], ([b] ++ x) :: t, by simp [h], ?_⟩
      rw [List.filter_cons_of_pos (by simp [fwd]; omega), itsText_cons, ← e2]
      cases t <;> simp [joinN, itText]
theorem merge_join (its : List It) (cur : List Nat) : joinN [45] (mergeR (chunksOf cur its)) = cur ++ itsText (its.filter fwd) := by
  obtain ⟨x, t, e1, e2⟩ := merge_chunks its cur
  rw [e1, ← e2]
  cases t <;> simp [joinN]
theorem chunks_ne : ∀ (its : List It) (cur : List Nat), chunksOf cur its ≠ []
  | [], _ => by simp [chunksOf]
  | .one c :: r, cur => chunks_ne r _
  | .rng a b :: r, cur => by simp [chunksOf]
/-- at every place after the first -/
theorem chunks_at : ∀ (its : List It) (cur : List Nat) (k : Nat), k + 1 < (chunksOf cur its).length → ∃ c a b its', (chunksOf cur its)[k]? = some (c ++ [a]) ∧ (chunksOf cur its).drop (k + 1) = chunksOf [b] its'
  | [], cur, k, h => by simp [chunksOf] at h
  | .one c :: r, cur, k, h => chunks_at r (cur ++ [c]) k h
  | .rng a b :: r, cur, 0, h => ⟨cur, a, b, r, rfl, rfl⟩
  | .rng a b :: r, cur, k + 1, h => by
    obtain ⟨c, a', b', i', e1, e2⟩ := chunks_at r [b] k (by simpa [chunksOf] using h)
    exact ⟨c, a', b', i', by simpa [chunksOf] using e1, by simpa [chunksOf] using e2⟩
/-- one step -/
theorem merge_step {its : List It} {cur : List Nat} {k : Nat} (h : k + 1 < (chunksOf cur its).length) : ∃ c a b x t, (chunksOf cur its)[k]? = some (c ++ [a]) ∧ mergeR ((chunksOf cur its).drop (k + 1)) = (b :: x) :: t ∧
    mergeR ((chunksOf cur its).drop k) = if b < a then (c ++ x) :: t else (c ++ [a]) :: (b :: x) :: t := by
  obtain ⟨c, a, b, i', e1, e2⟩ := chunks_at its cur k h
  obtain ⟨x, t, e3, _⟩ := merge_chunks i' [b]
  refine ⟨c, a, b, x, t, e1, by rw [e2, e3]; rfl, ?_⟩
  obtain ⟨hk, hk2⟩ := List.getElem?_eq_some_iff.mp e1
  rw [List.drop_eq_getElem_cons hk, hk2, mergeR, e2, e3]
  simp
end
theorem flush_43 : True := by first | walk1 | trivial
noncomputable section
/-! merging: the walk -/
theorem at_mid (l0 : List (List Nat × Tok)) (p q : List Nat × Tok) (lr : List (List Nat × Tok)) : (svs (l0 ++ p :: q :: lr))[l0.length]? = some (.str (strN p.1) p.2) ∧ (svs (l0 ++ p :: q :: lr))[l0.length + 1]? = some (.str (strN q.1) q.2) := by
  constructor
  · simp [svs]
  · rw [show l0 ++ p :: q :: lr = (l0 ++ [p]) ++ q :: lr by simp, show l0.length + 1 = (l0 ++ [p]).length by simp]
    simp [svs]
theorem dropN (c : List Nat) (a : Nat) : (c ++ [a]).take (clipN (c ++ [a]).length (-1)) = c := by
  have h1 : clipN (c ++ [a]).length (-1) = c.length := by unfold clipN; rw [if_pos (by omega)]; simp; omega
  rw [h1]; simp
theorem set_mid (l0 : List (List Nat × Tok)) (p q z : List Nat × Tok) (lr : List (List Nat × Tok)) : ((svs (l0 ++ p :: q :: lr)).set l0.length (.str (strN z.1) z.2)) = svs (l0 ++ z :: q :: lr) := by
  simp only [svs]
  rw [← List.map_set]
  simp
theorem erase_mid (l0 : List (List Nat × Tok)) (p q : List Nat × Tok) (lr : List (List Nat × Tok)) : (svs (l0 ++ p :: q :: lr)).eraseIdx (l0.length + 1) = svs (l0 ++ p :: lr) := by
  simp only [svs, List.map_append, List.map_cons]
  rw [List.eraseIdx_append_of_length_le (by simp)]
  simp
theorem last_at (c : List Nat) (a : Nat) : (c ++ [a])[c.length]? = some a := by simp
section
variable {w : World} {A : Around} {s : Shared} {E : Value → Shared → Prop} {imm : Heap} {L : Addr} {m : Str → Option Value} {mu : List (Addr × Obj)}
theorem delA {mu' : Nat → List (Addr × Obj)} {a : Addr} {vs : List Value} {n : Nat} {i : Int} {t : Tok} {j : Nat} {Q : Unit → Shared → Prop} (S : St imm L m mu s.heap) (p : ∀ n', At a (lstO vs n) (lstO (vs.eraseIdx j) n') mu (mu' n')) (hi : i = (j : Int)) (hj : j < vs.length) (hsz : vs.length ≤ sizeLine)
    (h : ∀ h' n', St imm L m (mu' n') h' → Q () { s with heap := h' }) : wpAny (MM w) A (delItem (.ref a) (.int i t)) Q E s := by
  have hs : (sizeLine : Int) < 2 ^ 62 := by decide +kernel
  have g := (S.mem _ (p 0).mem).1
  subst hi
  have fit : Builtin.List.listFitsIndex (j : Int) = true := by
    unfold Builtin.List.listFitsIndex
    simp only [Bool.and_eq_true, decide_eq_true_eq]
    omega
  have hk : seqIndex? (j : Int) vs.toArray.size = some j := by
    unfold seqIndex?
    simp [hj]
    omega
  refine P.delItem_list (items := vs.toArray) (n := n) g fit hk ?_ (by simpa using hsz)
  have := IsL.update (items := vs.toArray) (n := n) g (fun xs => xs.eraseIdxIfInBounds j)
  have e : (vs.toArray.eraseIdxIfInBounds j) = (vs.eraseIdx j).toArray := by simp
  rw [e] at this
  exact h _ _ (S.updA (p _) (Heap.SameBut.update ..) this)
theorem merge_turn {l0 lr : List (List Nat × Tok)} {c x : List Nat} {a b : Nat} {u1 u2 t1 : Tok} {ca : Addr} {kc : Nat} {Q : Flow → Shared → Prop}
    (S : St imm L m ((ca, lstO (svs (l0 ++ (c ++ [a], u1) :: (b :: x, u2) :: lr)) kc) :: mu) s.heap) (B : Base w imm) (m1 : m "chunks" = some (.ref ca)) (m2 : m "k" = some (.int ((l0.length + 1 : Nat) : Int) t1)) (hlen : (l0 ++ (c ++ [a], u1) :: (b :: x, u2) :: lr).length ≤ 10000) (hc : c.length ≤ 10000) (hx : x.length ≤ 10000)
    (hQ : ∀ h' tk lt' kc', lt'.map (·.1) = l0.map (·.1) ++ (if b < a then (c ++ x) :: lr.map (·.1) else (c ++ [a]) :: (b :: x) :: lr.map (·.1)) → St imm L m ((ca, lstO (svs lt') kc') :: mu) h' → Q .next { s with heap := h', toks := tk }) :
    wpAny (MM w) A (execs (forBody trCH[5]?) (trEnv L)) Q E s := by
  have e := trE L
  have h200 : 20000 ≤ sizeLine := Nat.le_of_ble_eq_true rfl
  have hg : s.heap.get? ca = some (lstO (svs (l0 ++ (c ++ [a], u1) :: (b :: x, u2) :: lr)) kc) := (S.mem _ List.mem_cons_self).1
  have hl : (svs (l0 ++ (c ++ [a], u1) :: (b :: x, u2) :: lr)).length ≤ 10000 := by simpa [svs] using hlen
  have hl2 : l0.length + 1 < (svs (l0 ++ (c ++ [a], u1) :: (b :: x, u2) :: lr)).length := by simp [svs]
  obtain ⟨a1, a2⟩ := at_mid l0 (c ++ [a], u1) (b :: x, u2) lr
  conv => arg 3; arg 1; whnf
  walk_at "B go"
  refine subL (j := l0.length) hg ⟨by omega, .inl (by omega)⟩ a1 (by omega) ?_
  walk_at "B go"
  refine subS (j := c.length) (c := a) ⟨by simp, .inr (by simp; omega)⟩ (last_at c a) (by simp; omega) ?_
  intro _ _
  walk_at "B go"
  refine subL (j := l0.length + 1) hg ⟨by omega, .inl (by omega)⟩ a2 (by omega) ?_
  walk_at "B go"
  refine subS (j := 0) (c := b) ⟨by simp, .inl (by rfl)⟩ (by rfl) (by simp; omega) ?_
  intro _ _
  by_cases hab : b < a
  · walk_at "B go"
    refine subL (j := l0.length) hg ⟨by omega, .inl (by omega)⟩ a1 (by omega) ?_
    walk_at "B go"
    refine sliceS_ns S (by simp; omega) rfl fun h1 t1 tk1 S1 => ?_
    rw [dropN]
    have hg1 := (S1.mem _ List.mem_cons_self).1
    walk_at "B go"
    refine subL (j := l0.length + 1) hg1 ⟨by omega, .inl (by omega)⟩ a2 (by omega) ?_
    walk_at "B go"
    refine sliceS_sn S1 (by simp; omega) rfl fun h2 t2 tk2 S2 => ?_
    rw [tailN]
    walk_at "B go"
    refine setA (j := l0.length) S2 (fun n' => At.here) ⟨by omega, .inl (by omega)⟩ (by omega) fun h3 n3 S3 => ?_
    walk_at "B go"
    rw [set_mid l0 (c ++ [a], u1) (b :: x, u2) (c ++ x, _) lr] at S3
    refine delA (j := l0.length + 1) S3 (fun n' => At.here) rfl (by simp [svs]) (by simp [svs] at hlen ⊢; omega) fun h4 n4 S4 => ?_
    rw [erase_mid] at S4
    walk_at "B go"
    exact hQ _ _ _ _ (by rw [if_pos hab]; simp) S4
  · walk_at "B go"
    exact hQ _ _ _ _ (by rw [if_neg hab]; simp) S
end
end
theorem flush_44 : True := by first | walk1 | trivial
noncomputable section
/-! for k in range(n, 0, -1); merging whole -/
section
variable {w : World} {A : Around} {s : Shared} {E E' : Value → Shared → Prop} {imm : Heap} {L : Addr} {m : Str → Option Value} {mu : List (Addr × Obj)} {env : Env}
theorem for_down {y : Str} {px : Pos} {body : List Stmt} {n : Nat} {t u v : Tok} {Q : Flow → Shared → Prop} (J : Nat → Heap → (Str → Option Value) → List (Addr × Obj) → Prop)
    (hh : A.handled = none) (S : St imm L m mu s.heap) (hn : n ≤ 10000) (j0 : J 0 imm m mu)
    (turn : ∀ i t imm₁ m₁ mu₁ its h tk, i < n → Ext imm imm₁ → J i imm₁ m₁ mu₁ → St imm₁ L m₁ (mu₁ ++ its) h →
      wpAny (MM w) A (assign (.Name y px) env (.int ((n - i : Nat) : Int) t)) (fun _ s₂ => wpAny (MM w) A (execs body env) (fun f s₃ => match f with
        | .next | .cont => LBack s J L imm₁ (i + 1) its s₃
        | .brk => Q .next s₃
        | .ret v => Q (.ret v) s₃) Bot s₂) Bot { s with heap := h, toks := tk })
    (hQ : ∀ imm₁ m₁ mu₁ h tk, Ext imm imm₁ → J n imm₁ m₁ mu₁ → St imm₁ L m₁ mu₁ h → Q .next { s with heap := h, toks := tk }) :
    wpAny (MM w) A (call (.type "range") [.int (n : Int) t, .int 0 u, .int (-1) v]) (fun it₀ s₁ => wpAny (MM w) A (pyIter it₀) (fun it s₂ => codeAny (MM w) A (.forLoop (.Name y px) it body [] env) (fun r s' => match r with | .ok f => Q f s' | .error e => E' e s') s₂) E s₁) E s := by
  have hsz : Builtin.Range.rangeSize (n : Int) 0 (-1) = (n : Int) := by
    unfold Builtin.Range.rangeSize
    rw [if_neg (by omega)]
    by_cases h : (n : Int) > 0
    · rw [if_pos h, show (-(-1) : Int) = 1 by omega, Int.ediv_one]; omega
    · rw [if_neg h]; omega
  have fit : ∀ i : Int, -1000000 ≤ i → i ≤ 1000000 → Builtin.Range.rangeFitsLong i = true := by
    intro i h1 h2
    unfold Builtin.Range.rangeFitsLong
    simp only [Bool.and_eq_true, decide_eq_true_eq]
    constructor <;> omega
  have hsm : Builtin.Range.small (n : Int) 0 (-1) = true := by
    unfold Builtin.Range.small
    rw [hsz, fit _ (by omega) (by omega), fit _ (by omega) (by omega), fit _ (by omega) (by omega), if_neg (by omega), fit _ (by omega) (by omega)]
    simp
  refine call_range_3 (by omega) ?_
  refine wpAny_pyIter_range (Heap.get?_push_size _ rfl) hsm ?_
  rw [hsz]
  have S1 := S.push { cls := .type "range", data := .fields #[.int (n : Int) t, .int 0 u, .int (-1) v] }
  refine loop_for (s := { s with heap := _ }) J (Cur.range (w := w) hh (n : Int) (-1) n y px) (by rw [show (n : Int) + ((0 : Nat) : Int) * -1 = n by omega, show (n : Int) - ((0 : Nat) : Int) = n by omega]; exact Heap.get?_push_size _ rfl) (S1.push _) (off_new S1) j0 ?_ hQ
  rintro i v imm₁ m₁ mu₁ its h tk hi ⟨t, rfl⟩ x j Sx
  have := turn i t imm₁ m₁ mu₁ its h tk hi x j Sx
  rw [show (n : Int) + (i : Int) * -1 = ((n - i : Nat) : Int) by omega]
  exact this
end
section
variable {w : World} {A : Around} {s : Shared} {E : Value → Shared → Prop} {imm : Heap} {L : Addr} {m : Str → Option Value} {mu : List (Addr × Obj)}
theorem merge_while {cur : List Nat} {its : List It} {lt : List (List Nat × Tok)} {ca : Addr} {kc : Nat} {Q : Flow → Shared → Prop} (hh : A.handled = none)
    (S : St imm L m ((ca, lstO (svs lt) kc) :: mu) s.heap) (B : Base w imm) (m1 : m "chunks" = some (.ref ca)) (hlt : lt.map (·.1) = chunksOf cur its) (hlen : lt.length ≤ 10000) (hsz : ((lt.map (·.1)).map List.length).sum ≤ 10000)
    (hQ : ∀ imm' h' m' tk lt' kc', Ext imm imm' → lt'.map (·.1) = mergeR (chunksOf cur its) → St imm' L m' ((ca, lstO (svs lt') kc') :: mu) h' → (∀ x : Str, x ≠ "k" → m' x = m x) → Q .next { s with heap := h', toks := tk }) :
    wpAny (MM w) A (exec (trCH[5]?.getD default) (trEnv L)) Q E s := by
  have e := trE L
  have h200 : 20000 ≤ sizeLine := Nat.le_of_ble_eq_true rfl
  have hg : s.heap.get? ca = some (lstO (svs lt) kc) := (S.mem _ List.mem_cons_self).1
  have hl : (svs lt).length = lt.length := by simp [svs]
  have hpos : 1 ≤ lt.length := by
    have := chunks_ne its cur
    rw [← hlt] at this
    cases lt with
    | nil => simp at this
    | cons _ _ => simp
  conv => arg 3; arg 1; whnf
  refine wpAny_For ?_
  walk_at "B go"
  refine lenL hg (by omega) ?_
  intro _ _
  walk_at "B go"
  have hcl : (chunksOf cur its).length = lt.length := by rw [← hlt]; simp
  refine for_down (n := (svs lt).length - 1) (fun i imm₁ m₁ mu₁ => ∃ lt' kc', mu₁ = (ca, lstO (svs lt') kc') :: mu ∧ lt'.map (·.1) = (chunksOf cur its).take ((svs lt).length - 1 - i) ++ mergeR ((chunksOf cur its).drop ((svs lt).length - 1 - i)) ∧ ((lt'.map (·.1)).map List.length).sum ≤ 10000 ∧ lt'.length ≤ 10000 ∧ (∀ x : Str, x ≠ "k" → m₁ x = m x))
    hh S (by omega) ⟨lt, kc, rfl, ?_, hsz, hlen, fun _ _ => rfl⟩ ?_ ?_
  · have hlast : (chunksOf cur its).drop ((svs lt).length - 1 - 0) = [(chunksOf cur its)[(svs lt).length - 1]'(by omega)] := by
      rw [Nat.sub_zero, List.drop_eq_getElem_cons (by omega), List.drop_eq_nil_of_le (by omega)]
    rw [hlast]
    show _ = _ ++ [_]
    rw [← hlast, List.take_append_drop]; exact hlt
  · rintro i t imm₁ m₁ mu₁ its2 h tk hi x ⟨lt1, kc1, rfl, h1, h2, h3, h4⟩ Sx
    obtain ⟨k, hk⟩ : ∃ k, (svs lt).length - 1 - i = k + 1 := ⟨(svs lt).length - 1 - i - 1, by omega⟩
    obtain ⟨c, a, b, xs, tl, q1, q2, q3⟩ := merge_step (its := its) (cur := cur) (k := k) (by omega)
    rw [hk] at h1 ⊢
    rw [q2, List.take_add_one, q1, List.append_assoc] at h1
    obtain ⟨l0, r1, rfl, e1, e2⟩ := List.map_eq_append_iff.mp h1
    obtain ⟨p1, r2, rfl, e3, e4⟩ := List.map_eq_cons_iff.mp e2
    obtain ⟨p2, lr, rfl, e5, e6⟩ := List.map_eq_cons_iff.mp e4
    obtain ⟨p1, u1⟩ := p1
    obtain ⟨p2, u2⟩ := p2
    dsimp only at e3 e5
    subst e3 e5 e6
    have hl0 : l0.length = k := by
      have := congrArg List.length e1
      rw [List.length_map, List.length_take] at this
      omega
    simp only [List.map_append, List.map_cons, List.sum_append, List.sum_cons, List.length_append, List.length_cons, List.length_nil] at h2 h3
    refine wpAny_assign_Name (st_local Sx e (by rfl) fun hb Sb => ?_)
    refine merge_turn (l0 := l0) (lr := lr) (c := c) (x := xs) (a := a) (b := b) (u1 := u1) (u2 := u2) Sb (B.ext x) (look_ne (by decide) (by rw [h4 _ (by decide)]; exact m1)) (by rw [hl0]; exact if_pos rfl) (by simp; omega) (by omega) (by omega) ?_
    intro h' tk' lt' kc' g1 S2
    refine ⟨imm₁, _, _, h', tk', rfl, Ext.refl _, ⟨lt', kc', rfl, ?_, ?_, ?_, fun y hy => by rw [if_neg hy]; exact h4 y hy⟩, S2⟩
    · rw [g1, show (svs lt).length - 1 - (i + 1) = k by omega, q3, e1]
    · rw [g1]
      by_cases hab : b < a
      · rw [if_pos hab]; simp only [List.map_append, List.map_cons, List.sum_append, List.sum_cons, List.length_append, List.length_cons, List.length_nil]; omega
      · rw [if_neg hab]; simp only [List.map_append, List.map_cons, List.sum_append, List.sum_cons, List.length_append, List.length_cons, List.length_nil]; omega
    · have := congrArg List.length g1
      rw [List.length_map] at this
      rw [this]
      by_cases hab : b < a
      · rw [if_pos hab]; simp; omega
      · rw [if_neg hab]; simp; omega
  · rintro imm₁ m₁ mu₁ h tk x ⟨lt1, kc1, rfl, h1, h2, h3, h4⟩ Sx
    exact hQ _ _ _ _ _ _ x (by rw [h1, Nat.sub_self]; simp) Sx h4
end
end
end
theorem flush_45 : True := by first | walk1 | trivial
noncomputable section
/-! the chunk branch: plain facts -/
theorem merge_len : ∀ ls : List (List Nat), (mergeR ls).length ≤ ls.length ∧ ((mergeR ls).map List.length).sum ≤ (ls.map List.length).sum ∧ ∀ l ∈ mergeR ls, ∀ c ∈ l, ∃ l' ∈ ls, c ∈ l'
  | [] => ⟨Nat.le_refl _, Nat.le_refl _, by simp [mergeR]⟩
  | c :: r => by
    obtain ⟨h1, h2, h3⟩ := merge_len r
    rw [mergeR]
    cases e : mergeR r with
    | nil => exact ⟨by simp, by simp, fun l hl x hx => ⟨l, by rw [List.mem_singleton.mp hl]; simp, hx⟩⟩
    | cons h t =>
      rw [e] at h1 h2 h3
      simp only [List.length_cons, List.map_cons, List.sum_cons] at h1 h2
      dsimp only
      by_cases q : h.headD 0 < c.getLastD 0
      · rw [if_pos q]
        refine ⟨by simp only [List.length_cons]; omega, by simp only [List.map_cons, List.sum_cons, List.length_append, List.length_dropLast, List.length_tail]; omega, fun l hl x hx => ?_⟩
        rcases List.mem_cons.mp hl with rfl | hl
        · rcases List.mem_append.mp hx with hx | hx
          · exact ⟨c, by simp, (List.dropLast_sublist c).subset hx⟩
          · obtain ⟨l', a1, a2⟩ := h3 h (by simp) x (List.mem_of_mem_tail hx)
            exact ⟨l', by simp [a1], a2⟩
        · obtain ⟨l', a1, a2⟩ := h3 l (by simp [hl]) x hx
          exact ⟨l', by simp [a1], a2⟩
      · rw [if_neg q]
        refine ⟨by simp only [List.length_cons]; omega, by simp only [List.map_cons, List.sum_cons]; omega, fun l hl x hx => ?_⟩
        rcases List.mem_cons.mp hl with rfl | hl
        · exact ⟨l, by simp, hx⟩
        · obtain ⟨l', a1, a2⟩ := h3 l hl x hx
          exact ⟨l', by simp [a1], a2⟩
theorem chunks_mem (P : Nat → Prop) : ∀ (its : List It) (cur : List Nat), (∀ c ∈ cur, P c) → (∀ c ∈ itsText its, c = 45 ∨ P c) → (∀ it ∈ its, OkI it) → ∀ l ∈ chunksOf cur its, ∀ c ∈ l, P c
  | [], cur, h, _, _ => fun l hl c hc => by rw [chunksOf, List.mem_singleton] at hl; subst hl; exact h c hc
  | .one x :: r, cur, h, h2, h3 => chunks_mem P r (cur ++ [x]) (fun c hc => by
      rcases List.mem_append.mp hc with hc | hc
      · exact h c hc
      · rw [List.mem_singleton] at hc; subst hc
        rcases h2 c (by simp [itsText_cons, itText]) with q | q
        · exact absurd q (OkC.ne (h3 _ List.mem_cons_self)).1
        · exact q) (fun c hc => h2 c (by simp [itsText_cons, hc])) (fun it hi => h3 it (by simp [hi]))
  | .rng a b :: r, cur, h, h2, h3 => fun l hl => by
    have hab : OkC a ∧ OkC b := h3 _ List.mem_cons_self
    have pa : P a := by
      rcases h2 a (by simp [itsText_cons, itText]) with q | q
      · exact absurd q hab.1.ne.1
      · exact q
    have pb : P b := by
      rcases h2 b (by simp [itsText_cons, itText]) with q | q
      · exact absurd q hab.2.ne.1
      · exact q
    rcases List.mem_cons.mp hl with rfl | hl
    · intro c hc
      rcases List.mem_append.mp hc with hc | hc
      · exact h c hc
      · rw [List.mem_singleton.mp hc]; exact pa
    · exact chunks_mem P r [b] (fun c hc => by rw [List.mem_singleton.mp hc]; exact pb) (fun c hc => h2 c (by simp [itsText_cons, hc])) (fun it hi => h3 it (by simp [hi])) l hl
theorem chunks_sum : ∀ (its : List It) (cur : List Nat), ((chunksOf cur its).map List.length).sum ≤ cur.length + (itsText its).length
  | [], cur => by simp [chunksOf]
  | .one x :: r, cur => by
    have := chunks_sum r (cur ++ [x])
    rw [chunksOf, itsText_cons]
    simp [itText] at this ⊢
    omega
  | .rng a b :: r, cur => by
    have := chunks_sum r [b]
    rw [chunksOf, itsText_cons]
    simp [itText] at this ⊢
    omega
theorem chunks_last : ∀ (its : List It) (cur : List Nat) (i : List (List Nat)) (last : List Nat), chunksOf cur its = i ++ [last] → (cur ≠ [] ∨ its ≠ []) → last ≠ []
  | [], cur, i, last, h, hn => by
    rw [chunksOf] at h
    have := congrArg List.getLast? h
    simp at this
    subst this
    simpa using hn
  | .one x :: r, cur, i, last, h, _ => chunks_last r (cur ++ [x]) i last h (.inl (by simp))
  | .rng a b :: r, cur, i, last, h, _ => by
    rw [chunksOf] at h
    cases i with
    | nil => exact absurd (List.cons.inj h).2 (chunks_ne r [b])
    | cons y i => exact chunks_last r [b] i last (List.cons.inj h).2 (.inl (by simp))
theorem its_signs : ∀ its : List It, (∀ it ∈ its, OkI it) → ∀ c ∈ itsText its, c = 45 ∨ (c ≠ 45 ∧ c ≠ 92)
  | [], _ => by simp [itsText]
  | .one x :: r, h => fun c hc => by
    have hx : OkC x := h _ List.mem_cons_self
    rw [itsText_cons] at hc
    rcases List.mem_append.mp hc with hc | hc
    · rw [List.mem_singleton.mp hc]; exact .inr ⟨hx.ne.1, hx.ne.2.2.2.2.2⟩
    · exact its_signs r (fun it hi => h it (by simp [hi])) c hc
  | .rng a b :: r, h => fun c hc => by
    have hx : OkC a ∧ OkC b := h _ List.mem_cons_self
    rw [itsText_cons] at hc
    rcases List.mem_append.mp hc with hc | hc
    · simp only [itText, List.mem_cons, List.not_mem_nil, or_false] at hc
      rcases hc with rfl | rfl | rfl
      · exact .inr ⟨hx.1.ne.1, hx.1.ne.2.2.2.2.2⟩
      · exact .inl rfl
      · exact .inr ⟨hx.2.ne.1, hx.2.ne.2.2.2.2.2⟩
    · exact its_signs r (fun it hi => h it (by simp [hi])) c hc
/-! the element -/
noncomputable def trElt : Option Stmt → Expr
  | some (.Assign _ (.Call _ [.GeneratorExp e _ _ _] _ _) _) => e
  | _ => default
noncomputable def trScope : Option Stmt → Scope
  | some (.Assign _ (.Call _ [.GeneratorExp _ _ sc _] _ _) _) => sc
  | _ => default
section
variable {w : World} {A : Around} {s : Shared} {E : Value → Shared → Prop} {imm : Heap} {L : Addr} {m : Str → Option Value} {mu : List (Addr × Obj)}
theorem svs_snoc (lt : List (List Nat × Tok)) (l : List Nat) (t : Tok) : svs lt ++ [.str (strN l) t] = svs (lt ++ [(l, t)]) := by simp [svs]
theorem svs_reps (h : Heap) : ∀ lt : List (List Nat × Tok), Reps h ((lt.map (·.1)).map fun l => .str (strN l)) (svs lt)
  | [] => Reps.nil
  | p :: r => Reps.cons (by simp only [Rep]; exact ⟨_, rfl⟩) (svs_reps h r)
theorem len_mem_sum {l : List Nat} : ∀ {ls : List (List Nat)}, l ∈ ls → l.length ≤ (ls.map List.length).sum
  | x :: r, h => by
    rcases List.mem_cons.mp h with rfl | h
    · simp
    · have := len_mem_sum h
      simp; omega
theorem elt_same {cenv : Env} {m₂ : Str → Option Value} {l : List Nat} {t : Tok} (hsc : cenv.scope = trScope trCH[6]?) (hn : s.heap.Ns cenv.locals m₂) (hv : m₂ "s" = some (.str (strN l) t)) (hl : ∀ c ∈ l, c ≠ 45 ∧ c ≠ 92) (hsz : l.length ≤ 10000) :
    wpAny (MM w) A (eval (trElt trCH[6]?) cenv) (fun y s₃ => (∃ t', y = .str (strN l) t') ∧ Keeps s s₃) E s := by
  have h200 : 20000 ≤ sizeLine := Nat.le_of_ble_eq_true rfl
  have h1 : cenv.scope.kind = .function := by rw [hsc]; rfl
  have h2 : cenv.kindOf "s" = some .local := by unfold Env.kindOf; rw [hsc]; rfl
  conv => arg 3; arg 1; whnf
  walk_at "B go"
  refine nm_ns hn hv h1 h2 ?_
  walk_at "B go"
  refine replS (fun h => (hl _ h).2 rfl) ?_
  walk_at "B go"
  refine replS (fun h => (hl _ h).1 rfl) ?_
  walk_at "B go"
  unfold Keeps
  exact ⟨s.heap, _, rfl, fun _ _ e => e⟩
theorem chunk_rest {mu' : Array Value → List (Addr × Obj)} {pat cur : List Nat} {its : List It} {ii jj : Nat} {ca : Addr} {kc : Nat} {ps : Array Value} {t1 t2 t3 t4 : Tok} {Q : Flow → Shared → Prop} (hh : A.handled = none) (hroom : A.depth + 20 < 1000)
    (S : St imm L m ((ca, lstO [] kc) :: mu) s.heap) (B : Base w imm) (p : ∀ ps', At 50 (tabO ps) (tabO ps') mu (mu' ps')) (ht : TriplesOk ps.toList)
    (m1 : m "pat" = some (.str (strN pat) t1)) (m2 : m "i" = some (.int (ii : Int) t2)) (m3 : m "j" = some (.int (jj : Int) t3)) (m4 : m "k" = some (.int ((ii + cur.length + 1 : Nat) : Int) t4)) (m5 : m "chunks" = some (.ref ca))
    (hcut : (pat.drop ii).take (jj - ii) = cur ++ itsText its) (hjj : jj ≤ pat.length) (hij : ii ≤ jj) (hits : ∀ it ∈ its, OkI it) (hne : cur ≠ [] ∨ its ≠ []) (hp : pat.length ≤ 10000) (hil : its.length ≤ 5000) (hcur : ∀ c ∈ cur, c ≠ 45 ∧ c ≠ 92)
    (hit2 : ∀ c ∈ itsText its, c = 45 ∨ (c ≠ 45 ∧ c ≠ 92))
    (hQ : ∀ imm' h' m' tk g' ps' t', Ext imm imm' → St imm' L m' (mu' ps') h' → TriplesOk ps'.toList → (AllBare s.gens → AllBare g') → m' "stuff" = some (.str (strN (cur ++ itsText (its.filter fwd))) t') →
      (∀ x : Str, x ≠ "k" → x ≠ "i" → x ≠ "chunk" → x ≠ "stuff" → m' x = m x) → Q .next { s with heap := h', toks := tk, gens := g' }) :
    wpAny (MM w) A (exec (trCH[2]?.getD default) (trEnv L)) (fun f s' => match f with | .next => wpAny (MM w) A (execs (trCH.drop 3) (trEnv L)) Q E s' | f => Q f s') E s := by
  have e := trE L
  have h200 : 20000 ≤ sizeLine := Nat.le_of_ble_eq_true rfl
  have hlen := congrArg List.length hcut
  rw [List.length_take, List.length_drop, List.length_append] at hlen
  have hca : ca ≠ 50 := by
    have := S.nodup
    simp only [List.map_cons, List.nodup_cons] at this
    rintro rfl
    exact this.1 (List.mem_map.mpr ⟨_, (p #[]).mem, rfl⟩)
  refine chunk_while S B m1 m2 m3 m4 m5 hcut hjj hij hits hp (by omega) ?_
  intro h1 n1 tk1 kc1 i1 u1 lt last q1 q2 q3 q4 S1 q5 q6
  have hlast := chunks_last its cur _ _ q1 hne
  have hsum := chunks_sum its cur
  have hll := congrArg List.length q2
  rw [List.length_take, List.length_drop] at hll
  have p1 : n1 "pat" = some (.str (strN pat) t1) := by rw [q6 _ (by decide) (by decide)]; exact m1
  dsimp only
  conv => arg 3; arg 1; whnf
  have p3 : n1 "j" = some (.int (jj : Int) t3) := by rw [q6 _ (by decide) (by decide)]; exact m3
  have p5 : n1 "chunks" = some (.ref ca) := by rw [q6 _ (by decide) (by decide)]; exact m5
  walk_at "B go"
  refine sliceS_ss S1 (by omega) rfl fun h2 t5 tk2 S2 => ?_
  rw [cutN, q2]
  have hl5 : (svs lt).length ≤ 10000 := by simp [svs]; omega
  walk_at "B go"
  rename St _ _ _ _ _ => S3
  rw [svs_snoc] at S3
  refine merge_while (lt := lt ++ [(last, t5)]) (cur := cur) (its := its) hh S3 B (by walk_at "B look") (by rw [q1]; simp) (by simp; omega) (by rw [List.map_append, show [(last, t5)].map (·.1) = [last] from rfl, ← q1]; omega) ?_
  intro imm' h4 n4 tk4 lt4 kc4 x4 r1 S4 r2
  have hml := merge_len (chunksOf cur its)
  have hcl := congrArg List.length q1
  rw [List.length_append, List.length_map] at hcl
  simp only [List.length_cons, List.length_nil] at hcl
  have p5' : n4 "chunks" = some (.ref ca) := by rw [r2 _ (by decide)]; exact p5
  walk_at "B go"
  rename_i tj tkj
  refine wpAny_mono (E := E) (Q := fun v s₁ => wpAny (MM w) A (call (.builtin "str.join") [.str (strN [45]) tj, v]) (fun v s₁ =>
              wpAny (MM w) A (storeName (trEnv L) (Str.ofString "stuff") v)
                (fun x s' => wpAny (MM w) A (execs [] (trEnv L)) Q E s') E s₁) E s₁) ?_ (fun v s₁ hv => ?_) (fun _ _ e => e)
  · refine gen_join (ls := mergeR (chunksOf cur its)) (mu' := mu') (hp := h4) hh hroom rfl rfl rfl rfl (by decide) rfl rfl rfl (S4.drop (List.sublist_cons_self ..)) (B.ext x4) p ht (fun Q' hq => ?_) ((S4.mem _ List.mem_cons_self).1) hca (by rw [← r1]; exact svs_reps _ _) (by omega) (by omega) ?_ ?_
    · exact nm_local S4 e (by rfl) p5' hq
    · intro A' E' s₂ m₂ cenv l t hsc hn hv hl
      refine elt_same (by rw [hsc]; rfl) hn hv ?_ ?_
      · intro c hc
        obtain ⟨l', a1, a2⟩ := hml.2.2 l hl c hc
        exact chunks_mem (fun c => c ≠ 45 ∧ c ≠ 92) its cur hcur hit2 hits l' a1 c a2
      · have := len_mem_sum hl
        omega
    · intro h5 tk5 g5 t5' ps5 S5 ht5 hg5
      walk_at "B go"
      rename St _ _ _ _ _ => S6
      refine hQ imm' _ _ _ g5 ps5 t5' x4 S6 ht5 hg5 (by rw [← merge_join]; exact if_pos rfl) (fun x a1 a2 a3 a4 => ?_)
      rw [if_neg a4, r2 x a1, if_neg a3, q6 x a1 a2]
  · refine Calls.spliced_nil ?_
    exact hv
theorem chunk_branch {mu' : Array Value → List (Addr × Obj)} {pat : List Nat} {b : Bool} {its : List It} {ii jj : Nat} {ps : Array Value} {t1 t2 t3 : Tok} {Q : Flow → Shared → Prop} (hh : A.handled = none) (hroom : A.depth + 20 < 1000)
    (S : St imm L m mu s.heap) (B : Base w imm) (p : ∀ ps', At 50 (tabO ps) (tabO ps') mu (mu' ps')) (ht : TriplesOk ps.toList)
    (m1 : m "pat" = some (.str (strN pat) t1)) (m2 : m "i" = some (.int (ii : Int) t2)) (m3 : m "j" = some (.int (jj : Int) t3))
    (hcut : (pat.drop ii).take (jj - ii) = bangN b ++ itsText its) (hjj : jj ≤ pat.length) (hij : ii ≤ jj) (hits : ∀ it ∈ its, OkI it) (hne : its ≠ []) (hp : pat.length ≤ 10000) (hil : its.length ≤ 5000)
    (hQ : ∀ imm' h' m' tk g' ps' t', Ext imm imm' → St imm' L m' (mu' ps') h' → TriplesOk ps'.toList → (AllBare s.gens → AllBare g') → m' "stuff" = some (.str (strN (bangN b ++ itsText (its.filter fwd))) t') →
      (∀ x : Str, x ≠ "k" → x ≠ "i" → x ≠ "chunks" → x ≠ "chunk" → x ≠ "stuff" → m' x = m x) → Q .next { s with heap := h', toks := tk, gens := g' }) :
    wpAny (MM w) A (execs trCH (trEnv L)) Q E s := by
  have e := trE L
  have h200 : 20000 ≤ sizeLine := Nat.le_of_ble_eq_true rfl
  have hlen := congrArg List.length hcut
  rw [List.length_take, List.length_drop, List.length_append] at hlen
  have hit2 : ∀ c ∈ itsText its, c = 45 ∨ (c ≠ 45 ∧ c ≠ 92) := its_signs its hits
  have hcur : ∀ c ∈ bangN b, c ≠ 45 ∧ c ≠ 92 := by
    intro c hc
    cases b with
    | true => rw [List.mem_singleton.mp hc]; decide
    | false => cases hc
  obtain ⟨c0, hc0, hg0⟩ : ∃ c0, (c0 = 33 ↔ b = true) ∧ pat[ii]? = some c0 := by
    obtain ⟨it0, its', rfl⟩ : ∃ it0 its', its = it0 :: its' := by
      cases its with
      | nil => exact absurd rfl hne
      | cons a r => exact ⟨a, r, rfl⟩
    have h0 := hits it0 List.mem_cons_self
    obtain ⟨r0, hr0⟩ := itText_head it0
    have hg := cut_get (q := 0) hcut (by rw [List.length_append, itsText_cons, hr0]; simp; omega)
    cases b with
    | true => exact ⟨33, by simp, hg⟩
    | false =>
      refine ⟨headIt it0, ?_, ?_⟩
      · have := h0.head.ne
        simp [this]
      · rw [Nat.add_zero] at hg; rw [hg, itsText_cons, hr0]; rfl
  have hlt : ii < pat.length := (List.getElem?_eq_some_iff.mp hg0).1
  conv => arg 3; arg 1; whnf
  walk_at "B go"
  rename St _ _ _ _ _ => S1
  refine subS (j := ii) (c := c0) ⟨hlt, .inl rfl⟩ hg0 (by omega) ?_
  intro _ _
  by_cases hb : b = true
  · have hc33 := hc0.mpr hb
    subst hb hc33
    walk_at "B go"
    rename St _ _ _ _ _ => S2
    refine chunk_rest (mu' := mu') (cur := [33]) (its := its) hh hroom S2 B p ht (by walk_at "B look") (by walk_at "B look") (by walk_at "B look") (by walk_at "B look") (by walk_at "B look") hcut hjj hij hits (.inl (by simp)) hp hil hcur hit2 ?_
    intro imm' h' m' tk g' ps' t' x1 S3 ht3 hg3 e1 e2
    refine hQ imm' h' m' tk g' ps' t' x1 S3 ht3 hg3 e1 (fun x a1 a2 a3 a4 a5 => ?_)
    rw [e2 x a1 a2 a4 a5, if_neg a1, if_neg a3]
  · have hc33 : c0 ≠ 33 := fun h => hb (hc0.mp h)
    have hb' : b = false := by simpa using hb
    subst hb'
    walk_at "B go"
    · exfalso
      have : [c0] = [33] := by assumption
      simp at this
      exact hc33 this
    · rename St _ _ _ _ _ => S2
      refine chunk_rest (mu' := mu') (cur := []) (its := its) hh hroom S2 B p ht (by walk_at "B look") (by walk_at "B look") (by walk_at "B look") (by walk_at "B look") (by walk_at "B look") hcut hjj hij hits (.inr hne) hp hil hcur hit2 ?_
      intro imm' h' m' tk g' ps' t' x1 S3 ht3 hg3 e1 e2
      refine hQ imm' h' m' tk g' ps' t' x1 S3 ht3 hg3 e1 (fun x a1 a2 a3 a4 a5 => ?_)
      rw [e2 x a1 a2 a4 a5, if_neg a1, if_neg a3]
end
end
section
local macro_rules | `(tactic| omega) => `(tactic| lia)
theorem flush_46 : True := by first | walk1 | trivial
noncomputable section
/-! the bracket's end -/
section
variable {w : World} {A : Around} {s : Shared} {E : Value → Shared → Prop} {imm : Heap} {L : Addr} {m : Str → Option Value} {mu : List (Addr × Obj)}
theorem no_bs {its : List It} (b : Bool) (hits : ∀ it ∈ its, OkI it) : 92 ∉ bangN b ++ itsText its := by
  intro h
  rcases List.mem_append.mp h with h | h
  · cases b with
    | true => simp [bangN] at h
    | false => cases h
  · rcases its_signs its hits _ h with q | q
    · cases q
    · exact q.2 rfl
theorem dash_in : ∀ {its : List It}, 45 ∉ itsText its → its.filter fwd = its
  | [], _ => rfl
  | .one c :: r, h => by
    rw [List.filter_cons_of_pos (by rfl), dash_in (fun q => h (by rw [itsText_cons]; exact List.mem_append_right _ q))]
  | .rng a b :: r, h => absurd (by rw [itsText_cons]; simp [itText]) h
theorem At.same {a : Addr} {o : Obj} {mu mu' : List (Addr × Obj)} (p : At a o o mu mu') : mu = mu' := by
  have gen : ∀ {o' : Obj} {mu mu' : List (Addr × Obj)}, At a o o' mu mu' → o = o' → mu = mu' := by
    intro o' mu mu' p
    induction p with
    | here => rintro rfl; rfl
    | there q ih => intro h; rw [ih h]
  exact gen p rfl
theorem end_turn {mu' : Array Value → List (Addr × Obj)} {pat : List Nat} {b : Bool} {its : List It} {ii jj : Nat} {ps : Array Value} {t1 t2 t3 : Tok} {Q : Flow → Shared → Prop} {ba : Addr} (hh : A.handled = none) (hroom : A.depth + 20 < 1000)
    (S : St imm L m mu s.heap) (B : Base w imm) (p : ∀ ps', At 50 (tabO ps) (tabO ps') mu (mu' ps')) (ht : TriplesOk ps.toList)
    (m1 : m "pat" = some (.str (strN pat) t1)) (m2 : m "i" = some (.int (ii : Int) t2)) (m3 : m "j" = some (.int (jj : Int) t3))
    (hcut : (pat.drop ii).take (jj - ii) = bangN b ++ itsText its) (hjj : jj ≤ pat.length) (hij : ii ≤ jj) (hits : ∀ it ∈ its, OkI it) (hne : its ≠ []) (hp : pat.length ≤ 10000) (hil : its.length ≤ 5000)
    (hQ : ∀ imm' h' m' tk g' ps' t', Ext imm imm' → St imm' L m' (mu' ps') h' → TriplesOk ps'.toList → (AllBare s.gens → AllBare g') → m' "stuff" = some (.str (strN (bangN b ++ itsText (its.filter fwd))) t') →
      (∀ x : Str, x ≠ "k" → x ≠ "i" → x ≠ "chunks" → x ≠ "chunk" → x ≠ "stuff" → m' x = m x) → wpAny (MM w) A (execs (trE1.drop 2) (trEnv L)) Q E { s with heap := h', toks := tk, gens := g' }) :
    wpAny (MM w) A (execs trE1 (trEnv L)) Q E s := by
  have e := trE L
  have h200 : 20000 ≤ sizeLine := Nat.le_of_ble_eq_true rfl
  conv => arg 3; arg 1; whnf
  change wpAny _ _ (execs (_ :: .If _ _ trCH _ :: trE1.drop 2) _) _ _ _
  obtain ⟨CH, hCH⟩ : ∃ x, x = trCH := ⟨_, rfl⟩
  obtain ⟨RS, hRS⟩ : ∃ x, x = trE1.drop 2 := ⟨_, rfl⟩
  rw [← hCH, ← hRS]
  walk_at "B go"
  refine sliceS_ss S (by omega) rfl fun h2 t5 tk2 S2 => ?_
  rw [cutN, hcut]
  walk_at "B go"
  · have hnd : 45 ∉ bangN b ++ itsText its := by assumption
    refine replS (no_bs b hits) ?_
    walk_at "B go"
    rename St _ _ _ _ _ => S3
    subst hRS
    have hd := dash_in (its := its) (fun q => hnd (List.mem_append_right _ q))
    refine hQ imm _ _ _ s.gens ps _ (Ext.refl _) (by rw [← (p ps).same]; exact S3) ht (fun g => g) (by rw [hd]; exact if_pos rfl) (fun x a1 a2 a3 a4 a5 => by rw [if_neg a5, if_neg a5])
  · rename St _ _ _ _ _ => S3
    subst hCH
    refine chunk_branch (mu' := mu') (b := b) (its := its) hh hroom S3 B p ht (by walk_at "B look") (by walk_at "B look") (by walk_at "B look") hcut hjj hij hits hne hp hil ?_
    intro imm' h' m' tk g' ps' t' x1 S4 ht4 hg4 e1 e2
    subst hRS
    refine hQ imm' h' m' tk g' ps' t' x1 S4 ht4 hg4 e1 (fun x a1 a2 a3 a4 a5 => ?_)
    rw [e2 x a1 a2 a3 a4 a5, if_neg a5]
end
end
theorem flush_47 : True := by first | walk1 | trivial
noncomputable section
/-! the bracket's end: the part is made -/
section
variable {w : World} {A : Around} {s : Shared} {E : Value → Shared → Prop} {imm : Heap} {L : Addr} {m : Str → Option Value} {mu : List (Addr × Obj)}
local macro_rules | `(tactic| walk_at "B stop") => `(tactic| first | (with_reducible show wpAny _ _ (callWith _ (Value.ref _) _ _ _) _ _ _) | (with_reducible show wpAny _ _ (getMethod _ _ _) _ _ _))
theorem its_signs2 : ∀ its : List It, (∀ it ∈ its, OkI it) → ∀ c ∈ itsText its, c = 45 ∨ OkC c
  | [], _ => by simp [itsText]
  | .one x :: r, h => fun c hc => by
    have hx : OkC x := h _ List.mem_cons_self
    rw [itsText_cons] at hc
    rcases List.mem_append.mp hc with hc | hc
    · rw [List.mem_singleton.mp hc]; exact .inr hx
    · exact its_signs2 r (fun it hi => h it (by simp [hi])) c hc
  | .rng a b :: r, h => fun c hc => by
    have hx : OkC a ∧ OkC b := h _ List.mem_cons_self
    rw [itsText_cons] at hc
    rcases List.mem_append.mp hc with hc | hc
    · simp only [itText, List.mem_cons, List.not_mem_nil, or_false] at hc
      rcases hc with rfl | rfl | rfl
      · exact .inr hx.1
      · exact .inl rfl
      · exact .inr hx.2
    · exact its_signs2 r (fun it hi => h it (by simp [hi])) c hc
theorem strN_injT {a b : List Nat} (h : strN a = strN b) : a = b := by
  have := congrArg (fun x : Str => x.cps.toList) h
  simpa [strN] using this
theorem add_part {l : List Nat} {t : Tok} {pos p1 p2 p3 p4 p5 : Pos} {Q : Value → Shared → Prop} {ba ra : Addr} {rvs : List Value} {kr : Nat}
    (S : St imm L m ((ra, lstO rvs kr) :: mu) s.heap) (B : Base w imm) (gb : imm.get? ba = some (boundO (.builtin "list.append") (.ref ra))) (m1 : m "stuff" = some (.str (strN l) t)) (hl : l.length ≤ 10000) (hrl : rvs.length ≤ 1000)
    (hQ : ∀ h' tk t' kr', St imm L m ((ra, lstO (rvs ++ [.str (strN (91 :: (l ++ [93]))) t']) kr') :: mu) h' → Q .none { s with heap := h', toks := tk }) :
    wpAny (MM w) A (callWith pos (.ref ba) [] (backTo pos (starEach [.JoinedStr [.Constant (.str "[") 0 p1, .FormattedValue (.Name "stuff" p2) (-1) none p3, .Constant (.str "]") 0 p4] p5] (trEnv L))) []) Q E s := by
  have e := trE L
  have h200 : 20000 ≤ sizeLine := Nat.le_of_ble_eq_true rfl
  refine cw_bound (f := .builtin "list.append") (x := .ref ra) ?_
  walk_at "B go"
  refine formatField_str (fun t' tk => ?_) (by rw [strN_len]; omega)
  have e0 : Str.empty ++ strN [91] ++ strN l = strN (91 :: l) := by
    rw [show Str.empty ++ strN [91] = strN [91] from rfl, strN_add]; rfl
  dsimp only
  rw [e0]
  refine ⟨by rw [strN_len]; simp; omega, ?_⟩
  have e1 : ∀ n : Nat, strN (91 :: l) ++ strN [93] = strN (91 :: (l ++ [93])) := fun _ => by rw [strN_add]; rfl
  refine joinParts_cons ?_
  walk_at "B go"
  · rw [e1 0, strN_len]
    simp only [List.length_cons, List.length_append, List.length_nil]
    omega
  · rw [e1 0]
    show wpAny _ _ (joinParts _ []) _ _ _
    refine joinParts_nil ?_ (by rw [strN_len]; simp only [List.length_cons, List.length_append, List.length_nil]; omega)
    refine Calls.spliced_nil ?_
    exact ⟨S.keep _ _ gb, addA S (S.keep _ _ gb) (fun n' => At.here) (by omega) fun h' n' S' => hQ _ _ _ _ S'⟩
theorem made_turn {b : Bool} {its : List It} {jj : Nat} {ps : Array Value} {t2 t3 : Tok} {Q : Flow → Shared → Prop} {ba ra : Addr} {rvs : List Value} {kr : Nat} (hh : A.handled = none)
    (S : St imm L m [(ra, lstO rvs kr), (50, tabO ps)] s.heap) (B : Base w imm) (ht : TriplesOk ps.toList) (gb : imm.get? ba = some (boundO (.builtin "list.append") (.ref ra)))
    (m1 : m "stuff" = some (.str (strN (bangN b ++ itsText its)) t2)) (m3 : m "j" = some (.int (jj : Int) t3)) (m4 : m "add" = some (.ref ba))
    (hits : ∀ it ∈ its, OkI it) (hne : its ≠ []) (hil : its.length ≤ 3000) (hrl : rvs.length ≤ 1000)
    (hQ : ∀ h' m' tk ps' t' t'' kr', St imm L m' [(ra, lstO (rvs ++ [.str (strN (91 :: (hatN b ++ itsText its ++ [93]))) t']) kr'), (50, tabO ps')] h' → TriplesOk ps'.toList → m' "i" = some (.int ((jj + 1 : Nat) : Int) t'') →
      (∀ x : Str, x ≠ "i" → x ≠ "stuff" → m' x = m x) → Q .next { s with heap := h', toks := tk }) :
    wpAny (MM w) A (execs (trE1.drop 2) (trEnv L)) Q E s := by
  have e := trE L
  have h200 : 20000 ≤ sizeLine := Nat.le_of_ble_eq_true rfl
  have hlen := itsText_len its
  obtain ⟨it0, r0, hr0, h0⟩ : ∃ c0 r0, itsText its = c0 :: r0 ∧ OkC c0 := by
    cases its with
    | nil => exact absurd rfl hne
    | cons a r =>
      obtain ⟨r0, hr0⟩ := itText_head a
      exact ⟨headIt a, r0 ++ itsText r, by rw [itsText_cons, hr0]; rfl, (hits a List.mem_cons_self).head⟩
  have hl : (bangN b ++ itsText its).length ≤ 9001 := by
    rw [List.length_append]
    have : (bangN b).length ≤ 1 := by cases b <;> simp [bangN]
    omega
  have hsig : ∀ c ∈ bangN b ++ itsText its, c ≠ 38 ∧ c ≠ 124 ∧ c ≠ 126 := by
    intro c hc
    rcases List.mem_append.mp hc with hc | hc
    · cases b with
      | true => rw [List.mem_singleton.mp hc]; decide
      | false => cases hc
    · have := its_signs2 its hits c hc
      unfold OkC at this
      omega
  conv => arg 3; arg 1; whnf
  walk_at "B go"
  refine gm_sub (B.ext S.keep) ?_
  walk_at "B go"
  refine lamMake (mu' := fun ps' => [(ra, lstO rvs kr), (50, tabO ps')]) (by rfl) rfl rfl (by rfl) S B (fun ps' => At.there At.here) ht ?_
  intro f fd h2 tk2 ps2 S2 ht2
  walk_at "B go"
  refine call_sub (B.ext S2.keep) (S2.mem _ List.mem_cons_self).1 (by rw [hr0]; simp) (by omega) hsig ?_
  intro h3 t5 tk3 x3
  have S3 := (S2.ext x3).drop (List.sublist_cons_self ..)
  have hne1 : bangN b ++ itsText its ≠ [] := by rw [hr0]; simp
  have hne2 : bangN b ++ itsText its ≠ [33] := by
    rw [hr0]
    have := h0.ne.2.2.2.2.1
    cases b <;> simp [bangN, this]
  walk_at "B go"
  rename St _ _ _ _ _ => S4
  cases b with
  | true =>
    refine subS (j := 0) (c := 33) ⟨by simp [bangN], .inl rfl⟩ rfl (by omega) ?_
    intro _ _
    walk_at "B go"
    refine sliceS_sn S4 (by omega) rfl fun h5 t7 tk5 S5 => ?_
    rw [show (bangN true ++ itsText its) = 33 :: itsText its from rfl, tailN]
    walk_at "B go"
    rename St _ _ _ _ _ => S6
    refine add_part S6 B gb (by walk_at "B look") (by simp; omega) hrl ?_
    intro h8 tk8 t8 kr8 S8
    walk_at "B go"
    refine hQ _ _ _ ps2 t8 _ kr8 S8 ht2 (by walk_at "B look") (fun x a1 a2 => by rw [if_neg a2, if_neg a1, if_neg a2])
  | false =>
    refine subS (j := 0) (c := it0) ⟨by simp [bangN, hr0], .inl rfl⟩ (by simp [bangN, hr0]) (by omega) ?_
    intro _ _
    walk_at "B go"
    · exfalso
      have : [it0] = [33] := by assumption
      simp at this
      exact h0.ne.2.2.2.2.1 this
    · refine subS (j := 0) (c := it0) ⟨by simp [bangN, hr0], .inl rfl⟩ (by simp [bangN, hr0]) (by omega) ?_
      intro _ _
      walk_at "B go"
      rename St _ _ _ _ _ => S6
      refine in_tuple_strs (tup_of (S6.mem _ List.mem_cons_self).1) (.cons _ _ (.cons _ _ .nil)) ?_
      have hf : ([strN [94], strN [91]].any (· == strN [it0])) = false := by
        have e1 : (strN [94] == strN [it0]) = false := by rw [beq_eq_false_iff_ne]; intro q; have := strN_injT q; simp at this; exact h0.ne.2.1 this.symm
        have e2 : (strN [91] == strN [it0]) = false := by rw [beq_eq_false_iff_ne]; intro q; have := strN_injT q; simp at this; exact h0.ne.2.2.2.1 this.symm
        simp [e1, e2]
      rw [hf]
      walk_at "B go"
      refine add_part (l := itsText its) (S6.drop (List.sublist_cons_self ..)) B gb (by walk_at "B look") (by omega) hrl ?_
      intro h8 tk8 t8 kr8 S8
      walk_at "B go"
      refine hQ _ _ _ ps2 t8 _ kr8 S8 ht2 (by walk_at "B look") (fun x a1 a2 => by rw [if_neg a1, if_neg a2])
end
end
theorem flush_48 : True := by first | walk1 | trivial
noncomputable section
/-! the bracket: from its opening on -/
section
variable {w : World} {A : Around} {s : Shared} {E : Value → Shared → Prop} {imm : Heap} {L : Addr} {m : Str → Option Value} {mu : List (Addr × Obj)}
/-- the look-out for the closing sign -/
theorem scan_while {pat : List Nat} {jj ee : Nat} {t1 t2 t3 : Tok} {Q : Flow → Shared → Prop} (S : St imm L m mu s.heap) (B : Base w imm)
    (m1 : m "pat" = some (.str (strN pat) t1)) (m2 : m "n" = some (.int (pat.length : Int) t2)) (m3 : m "j" = some (.int (jj : Int) t3))
    (hje : jj ≤ ee) (hee : pat[ee]? = some 93) (hno : ∀ q, jj ≤ q → q < ee → pat[q]? ≠ some 93) (hp : pat.length ≤ 10000)
    (hQ : ∀ h' m' tk t', St imm L m' mu h' → m' "j" = some (.int (ee : Int) t') → (∀ x : Str, x ≠ "j" → m' x = m x) → Q .next { s with heap := h', toks := tk }) :
    wpAny (MM w) A (exec (trBR[3]?.getD default) (trEnv L)) Q E s := by
  have e := trE L
  have h200 : 20000 ≤ sizeLine := Nat.le_of_ble_eq_true rfl
  have hlt : ee < pat.length := (List.getElem?_eq_some_iff.mp hee).1
  conv => arg 3; arg 1; whnf
  refine while_at (fun n imm₁ m₁ mu₁ => imm₁ = imm ∧ mu₁ = mu ∧ ∃ (j : Nat) (t : Tok), j ≤ ee ∧ jj ≤ j ∧ n = ee - j ∧ m₁ "j" = some (.int (j : Int) t) ∧ (∀ x : Str, x ≠ "j" → m₁ x = m x)) (ee - jj) S ⟨rfl, rfl, jj, t3, hje, Nat.le_refl _, rfl, m3, fun _ _ => rfl⟩ ?_
  rintro n imm₁ m₁ mu₁ h tk x ⟨rfl, rfl, j, t, h1, h2, rfl, n3, hk⟩ S₁
  have n1 : m₁ "pat" = some (.str (strN pat) t1) := by rw [hk _ (by decide)]; exact m1
  have n2 : m₁ "n" = some (.int (pat.length : Int) t2) := by rw [hk _ (by decide)]; exact m2
  have hjl : j < pat.length := by omega
  obtain ⟨c, hc⟩ : ∃ c, pat[j]? = some c := ⟨_, List.getElem?_eq_getElem hjl⟩
  by_cases hj : j = ee
  · subst hj
    refine wpAny_mono (E := Bot) (Q := fun b s₂ => b = false ∧ ∃ tk', s₂ = { s with heap := h, toks := tk' }) ?_ (fun b s₂ hb => ?_) (fun _ _ f => False.elim f)
    · walk_at "B go"
      refine subS (j := j) (c := 93) ⟨hjl, .inl rfl⟩ hee (by omega) ?_
      intro _ _
      walk_at "B go"
      all_goals simp
    · obtain ⟨rfl, tk', rfl⟩ := hb
      rw [if_neg Bool.false_ne_true]
      exact hQ _ _ _ _ S₁ n3 hk
  · have hne : c ≠ 93 := by
      rintro rfl
      exact hno j h2 (by omega) hc
    refine wpAny_mono (E := Bot) (Q := fun b s₂ => b = true ∧ ∃ tk', s₂ = { s with heap := h, toks := tk' }) ?_ (fun b s₂ hb => ?_) (fun _ _ f => False.elim f)
    · walk_at "B go"
      refine subS (j := j) (c := c) ⟨hjl, .inl rfl⟩ hc (by omega) ?_
      intro _ _
      walk_at "B go"
      all_goals first | (exfalso; rename_i q; exact q (by simp [hne])) | simp [hne]
    · obtain ⟨rfl, tk', rfl⟩ := hb
      rw [if_pos rfl]
      walk_at "B go"
      rename St _ _ _ _ _ => S2
      refine ⟨ee - (j + 1), imm₁, _, mu₁, _, _, rfl, by omega, Ext.refl _, ⟨rfl, rfl, j + 1, _, by omega, by omega, rfl, by walk_at "B look", fun y hy => by rw [if_neg hy]; exact hk y hy⟩, S2⟩
theorem drop_get {pat x : List Nat} {i q : Nat} (h : pat.drop i = x) : pat[i + q]? = x[q]? := by rw [← h, List.getElem?_drop]
theorem bracket_turn {pat tl : List Nat} {b : Bool} {its : List It} {ii : Nat} {ps : Array Value} {t1 t2 t3 : Tok} {Q : Flow → Shared → Prop} {ba ra : Addr} {rvs : List Value} {kr : Nat} (hh : A.handled = none) (hroom : A.depth + 20 < 1000)
    (S : St imm L m [(ra, lstO rvs kr), (50, tabO ps)] s.heap) (B : Base w imm) (ht : TriplesOk ps.toList) (gb : imm.get? ba = some (boundO (.builtin "list.append") (.ref ra)))
    (m1 : m "pat" = some (.str (strN pat) t1)) (m2 : m "i" = some (.int (ii : Int) t2)) (m3 : m "n" = some (.int (pat.length : Int) t3)) (m4 : m "add" = some (.ref ba))
    (hcut : pat.drop ii = bangN b ++ itsText its ++ 93 :: tl) (hits : ∀ it ∈ its, OkI it) (hne : its ≠ []) (hnf : its.filter fwd ≠ []) (hp : pat.length ≤ 10000) (hil : its.length ≤ 3000) (hrl : rvs.length ≤ 1000)
    (hQ : ∀ imm' h' m' tk g' ps' t' t'' kr', Ext imm imm' → St imm' L m' [(ra, lstO (rvs ++ [.str (strN (91 :: (hatN b ++ itsText (its.filter fwd) ++ [93]))) t']) kr'), (50, tabO ps')] h' → TriplesOk ps'.toList → (AllBare s.gens → AllBare g') →
      m' "i" = some (.int ((ii + (bangN b).length + (itsText its).length + 1 : Nat) : Int) t'') → (∀ x : Str, x ≠ "k" → x ≠ "i" → x ≠ "chunks" → x ≠ "chunk" → x ≠ "stuff" → x ≠ "j" → m' x = m x) → Q .next { s with heap := h', toks := tk, gens := g' }) :
    wpAny (MM w) A (execs trBR (trEnv L)) Q E s := by
  have e := trE L
  have h200 : 20000 ≤ sizeLine := Nat.le_of_ble_eq_true rfl
  have hlen := congrArg List.length hcut
  rw [List.length_drop, List.length_append, List.length_append, List.length_cons] at hlen
  obtain ⟨c0, r0, hr0, h0⟩ : ∃ c0 r0, itsText its = c0 :: r0 ∧ OkC c0 := by
    cases its with
    | nil => exact absurd rfl hne
    | cons a r =>
      obtain ⟨r0, hr0⟩ := itText_head a
      exact ⟨headIt a, r0 ++ itsText r, by rw [itsText_cons, hr0]; rfl, (hits a List.mem_cons_self).head⟩
  have hg : ∀ q, pat[ii + q]? = (bangN b ++ itsText its ++ 93 :: tl)[q]? := fun q => drop_get hcut
  have hlast : pat[ii + (bangN b).length + (itsText its).length]? = some 93 := by
    rw [Nat.add_assoc, hg, ← List.length_append, List.getElem?_append_right (Nat.le_refl _), Nat.sub_self]; rfl
  have hmid : ∀ q, ii + (bangN b).length ≤ q → q < ii + (bangN b).length + (itsText its).length → pat[q]? ≠ some 93 := by
    intro q h1 h2 h3
    obtain ⟨z, rfl⟩ := Nat.exists_eq_add_of_le h1
    rw [Nat.add_assoc, hg, List.append_assoc, List.getElem?_append_right (by omega), List.getElem?_append_left (by omega)] at h3
    have hm := List.mem_of_getElem? h3
    rcases its_signs2 its hits _ hm with q | q
    · cases q
    · exact q.ne.2.2.1 rfl
  have hfst : pat[ii + (bangN b).length]? = some c0 := by
    rw [hg, List.append_assoc, List.getElem?_append_right (Nat.le_refl _), Nat.sub_self, hr0]; rfl
  have hne93 := h0.ne.2.2.1
  have hne33 := h0.ne.2.2.2.2.1
  have hcut2 : (pat.drop ii).take (ii + (bangN b).length + (itsText its).length - ii) = bangN b ++ itsText its := by
    rw [hcut, show ii + (bangN b).length + (itsText its).length - ii = (bangN b ++ itsText its).length by rw [List.length_append]; omega, List.take_left]
  have fin : ∀ m₁ h₁ tk₁ t₁, St imm L m₁ [(ra, lstO rvs kr), (50, tabO ps)] h₁ → m₁ "j" = some (.int ((ii + (bangN b).length : Nat) : Int) t₁) → (∀ x : Str, x ≠ "j" → m₁ x = m x) → wpAny (MM w) A (exec (trBR[3]?.getD default) (trEnv L)) (fun f s' => match f with | .next => wpAny (MM w) A (execs (trBR.drop 4) (trEnv L)) Q E s' | f => Q f s') E { s with heap := h₁, toks := tk₁ } := by
    intro m₁ h₁ tk₁ t₁ S₁ n1 hk
    refine scan_while (s := { s with heap := h₁, toks := tk₁ }) (pat := pat) (ee := ii + (bangN b).length + (itsText its).length) S₁ B (by rw [hk _ (by decide)]; exact m1) (by rw [hk _ (by decide)]; exact m3) n1 (by omega) hlast hmid hp ?_
    intro h2 n2 tk2 t4 S2 q1 q2
    have p1 : n2 "pat" = some (.str (strN pat) t1) := by rw [q2 _ (by decide), hk _ (by decide)]; exact m1
    have p2 : n2 "i" = some (.int (ii : Int) t2) := by rw [q2 _ (by decide), hk _ (by decide)]; exact m2
    have p3 : n2 "n" = some (.int (pat.length : Int) t3) := by rw [q2 _ (by decide), hk _ (by decide)]; exact m3
    have p4 : n2 "add" = some (.ref ba) := by rw [q2 _ (by decide), hk _ (by decide)]; exact m4
    dsimp only
    conv => arg 3; arg 1; whnf
    change wpAny _ _ (execs [.If _ _ trE1 _] _) _ _ _
    obtain ⟨CH, hCH⟩ : ∃ x, x = trE1 := ⟨_, rfl⟩
    rw [← hCH]
    walk_at "B go"
    subst hCH
    refine end_turn (ba := ba) (mu' := fun ps' => [(ra, lstO rvs kr), (50, tabO ps')]) (b := b) (its := its) hh hroom S2 B (fun ps' => At.there At.here) ht p1 p2 q1 hcut2 (by omega) (by omega) hits hne hp (by omega) ?_
    intro imm' h5 m5 tk5 g5 ps5 t5 x5 S5 ht5 hg5 e5 k5
    refine made_turn (s := { s with heap := h5, toks := tk5, gens := g5 }) (b := b) (its := its.filter fwd) (jj := ii + (bangN b).length + (itsText its).length) hh S5 (B.ext x5) ht5 (x5 _ _ gb) e5 (by rw [k5 _ (by decide) (by decide) (by decide) (by decide) (by decide)]; exact q1) (by rw [k5 _ (by decide) (by decide) (by decide) (by decide) (by decide)]; exact p4)
      (fun it hi => hits it (List.mem_filter.mp hi).1) hnf (Nat.le_trans (List.length_filter_le ..) hil) hrl ?_
    intro h6 m6 tk6 ps6 t6 t7 kr6 S6 ht6 e6 k6
    walk_at "B go"
    refine hQ imm' h6 m6 tk6 g5 ps6 t6 t7 kr6 x5 S6 ht6 hg5 e6 (fun x a1 a2 a3 a4 a5 a6 => ?_)
    rw [k6 x a2 a5, k5 x a1 a2 a3 a4 a5, q2 x a6, hk x a6]
  have hlt : ii + (bangN b).length < pat.length := (List.getElem?_eq_some_iff.mp hfst).1
  have h33 : ¬ [c0] = [33] := by simpa using hne33
  have h93 : ¬ [c0] = [93] := by simpa using hne93
  conv => arg 3; arg 1; whnf
  walk_at "B go"
  cases b with
  | true =>
    have hb0 : pat[ii]? = some 33 := hg 0
    have hfst1 : pat[ii + 1]? = some c0 := hfst
    have hlt1 : ii + 1 < pat.length := hlt
    refine subS (j := ii) (c := 33) ⟨by omega, .inl rfl⟩ hb0 (by omega) ?_
    intro _ _
    walk_at "B go"
    refine subS (j := ii + 1) (c := c0) ⟨hlt1, .inl rfl⟩ hfst1 (by omega) ?_
    intro _ _
    walk_at "B go"
    all_goals first
      | (exfalso; exact h93 (by assumption))
      | (rename St _ _ _ _ _ => S3
         exact fin _ _ _ _ S3 (by walk_at "B look") (fun x hx => by rw [if_neg hx, if_neg hx]))
  | false =>
    have hfst1 : pat[ii]? = some c0 := hfst
    have hlt1 : ii < pat.length := hlt
    refine subS (j := ii) (c := c0) ⟨hlt1, .inl rfl⟩ hfst1 (by omega) ?_
    intro _ _
    walk_at "B go"
    all_goals first
      | (exfalso; exact h33 (by assumption))
      | skip
    refine subS (j := ii) (c := c0) ⟨hlt1, .inl rfl⟩ hfst1 (by omega) ?_
    intro _ _
    walk_at "B go"
    all_goals first
      | (exfalso; exact h93 (by assumption))
      | (rename St _ _ _ _ _ => S3
         exact fin _ _ _ _ S3 (by walk_at "B look") (fun x hx => by rw [if_neg hx]))
end
end
theorem flush_49 : True := by first | walk1 | trivial
noncomputable section
/-! the main loop's turn -/
section
variable {w : World} {A : Around} {s : Shared} {E : Value → Shared → Prop} {imm : Heap} {L : Addr} {m : Str → Option Value} {mu : List (Addr × Obj)}
local macro_rules | `(tactic| walk_at "B stop") => `(tactic| (with_reducible show wpAny _ _ (callWith _ _ _ _ _) _ _ _))
theorem brIts_mem {ts : List (Nat × Nat)} {it : It} (h : it ∈ brIts ts) : ∃ q ∈ ts, ∃ r ∈ turned q.1 q.2, it ∈ runIts q.2 r := by
  unfold brIts at h
  rw [List.mem_flatten] at h
  obtain ⟨l, hl, hi⟩ := h
  obtain ⟨q, hq, rfl⟩ := List.mem_map.mp hl
  unfold tabIts at hi
  rw [List.mem_flatten] at hi
  obtain ⟨l2, hl2, hi2⟩ := hi
  obtain ⟨r, hr, rfl⟩ := List.mem_map.mp hl2
  exact ⟨q, hq, r, hr, hi2⟩
theorem runs_okC {t : Nat} (ht : t ≤ 6) : ∀ r ∈ runsN t, (r.1 = 32 ∧ r.2 = 32) ∨ (173 ≤ r.1 ∧ r.1 ≤ r.2) := by
  have cases7 : t = 0 ∨ t = 1 ∨ t = 2 ∨ t = 3 ∨ t = 4 ∨ t = 5 ∨ t = 6 := by omega
  rcases cases7 with rfl | rfl | rfl | rfl | rfl | rfl | rfl <;> decide +kernel
theorem runs_lenT {t : Nat} (ht : t ≤ 6) : (runsN t).length ≤ 20 ∧ runsN t ≠ [] := by
  have cases7 : t = 0 ∨ t = 1 ∨ t = 2 ∨ t = 3 ∨ t = 4 ∨ t = 5 ∨ t = 6 := by omega
  rcases cases7 with rfl | rfl | rfl | rfl | rfl | rfl | rfl <;> decide +kernel
theorem runIts_ok {rest : Nat} {r : Nat × Nat} (h : (r.1 = 32 ∧ r.2 = 32) ∨ (173 ≤ r.1 ∧ r.1 ≤ r.2)) : (∀ it ∈ runIts rest r, OkI it) ∧ (runIts rest r).length ≤ 2 ∧ (runIts rest r).filter fwd ≠ [] := by
  unfold runIts
  by_cases h1 : r.1 = r.2
  · rw [if_pos h1]
    refine ⟨fun it hi => ?_, by simp, by simp [fwd]⟩
    rw [List.mem_singleton.mp hi]
    show OkC _
    unfold OkC; omega
  · rw [if_neg h1]
    by_cases h2 : rest / 7 % 3 = 1
    · rw [if_pos h2]
      refine ⟨fun it hi => ?_, by simp, by simp [fwd]⟩
      simp only [List.mem_cons, List.not_mem_nil, or_false] at hi
      rcases hi with rfl | rfl <;> refine ⟨?_, ?_⟩ <;> unfold OkC <;> omega
    · rw [if_neg h2]
      have hle : r.1 ≤ r.2 := by omega
      refine ⟨fun it hi => ?_, by split <;> simp, by simp [fwd, hle]⟩
      have : it = .rng r.1 r.2 ∨ it = .rng r.2 r.1 := by
        rcases List.mem_cons.mp hi with h | h
        · exact .inl h
        · split at h
          · exact .inr (List.mem_singleton.mp h)
          · cases h
      rcases this with rfl | rfl <;> refine ⟨?_, ?_⟩ <;> unfold OkC <;> omega
theorem flat_len {α β : Type} (f : α → List β) (k : Nat) : ∀ l : List α, (∀ a ∈ l, (f a).length ≤ k) → ((l.map f).flatten).length ≤ k * l.length
  | [], _ => by simp
  | a :: r, h => by
    have h1 := h a (.head _)
    have h2 := flat_len f k r fun b hb => h b (.tail _ hb)
    simp only [List.map_cons, List.flatten_cons, List.length_append, List.length_cons, Nat.mul_add, Nat.mul_one]
    omega
theorem br_ok {ts : List (Nat × Nat)} (hne : ts ≠ []) (h : ∀ p ∈ ts, p.1 ≤ 6) : (∀ it ∈ brIts ts, OkI it) ∧ (brIts ts).length ≤ 40 * ts.length ∧ (brIts ts).filter fwd ≠ [] := by
  refine ⟨fun it hi => ?_, ?_, ?_⟩
  · obtain ⟨q, hq, r, hr, hi⟩ := brIts_mem hi
    exact (runIts_ok (runs_okC (h q hq) r (turned_mem hr))).1 it hi
  · refine flat_len _ 40 ts fun q hq => ?_
    have h1 := flat_len (runIts q.2) 2 (turned q.1 q.2) fun r hr => (runIts_ok (runs_okC (h q hq) r (turned_mem hr))).2.1
    have h2 := (runs_lenT (h q hq)).1
    rw [turned_len] at h1
    unfold tabIts
    omega
  · obtain ⟨q, r, rfl⟩ := List.exists_cons_of_ne_nil hne
    have hq := h q (.head _)
    have hne2 : turned q.1 q.2 ≠ [] := by
      intro e
      have := turned_len q.1 q.2
      rw [e] at this
      exact (runs_lenT hq).2 (List.length_eq_zero_iff.mp this.symm)
    obtain ⟨a, l, hal⟩ := List.exists_cons_of_ne_nil hne2
    have ha : a ∈ turned q.1 q.2 := by rw [hal]; exact .head _
    have := (runIts_ok (rest := q.2) (runs_okC hq a (turned_mem ha))).2.2
    unfold brIts tabIts
    rw [List.map_cons, List.flatten_cons, hal, List.map_cons, List.flatten_cons, List.filter_append, List.filter_append]
    intro q
    simp only [List.append_eq_nil_iff] at q
    exact this q.1.1
theorem piece_br (b : Bool) (ts : List (Nat × Nat)) : pieceText (.br b ts) = 91 :: (bangN b ++ itsText (brIts ts) ++ [93]) := by rw [brIts_text]; rfl
theorem rep_any {h h' : Heap} : ∀ {l : List Part} {vs : List Value}, Reps h (l.map partD) vs → Reps h' (l.map partD) vs
  | [], vs, e => by simp only [List.map_nil, Reps] at e ⊢; exact e
  | p :: r, vs, e => by
    simp only [List.map_cons, Reps] at e ⊢
    obtain ⟨v, vs', rfl, a, b⟩ := e
    refine ⟨v, vs', rfl, ?_, rep_any b⟩
    cases p <;> simpa only [partD, Rep] using a
theorem reps_snoc {h : Heap} {d : D} {v : Value} : ∀ {ds : List D} {vs : List Value}, Reps h ds vs → Rep h d v → Reps h (ds ++ [d]) (vs ++ [v])
  | [], vs, e, r => by simp only [Reps] at e; subst e; exact Reps.cons r Reps.nil
  | x :: ds, vs, e, r => by
    simp only [Reps] at e
    obtain ⟨v', vs', rfl, a, b⟩ := e
    exact Reps.cons a (reps_snoc b r)
theorem trMain_turn {pat tl : List Nat} {p : Piece} {acc : List Part} {hp : Heap} {ii : Nat} {ps : Array Value} {t1 t2 t3 t4 : Tok} {Q : Flow → Shared → Prop} {ba ra : Addr} {rvs : List Value} {kr : Nat} (hh : A.handled = none) (hroom : A.depth + 20 < 1000)
    (S : St imm L m [(ra, lstO rvs kr), (50, tabO ps)] s.heap) (B : Base w imm) (ht : TriplesOk ps.toList) (gb : imm.get? ba = some (boundO (.builtin "list.append") (.ref ra)))
    (m1 : m "pat" = some (.str (strN pat) t1)) (m2 : m "i" = some (.int (ii : Int) t2)) (m3 : m "n" = some (.int (pat.length : Int) t3)) (m4 : m "add" = some (.ref ba)) (m5 : m "res" = some (.ref ra)) (m6 : m "STAR" = some .none) (m7 : m "QUESTION_MARK" = some (.str (strN [46]) t4))
    (hcut : pat.drop ii = pieceText p ++ tl) (hok : OkP p) (hw : weightP p ≤ 20) (hpl : pat.length ≤ 10000) (hr : Reps hp (acc.map partD) rvs) (hacc : acc.length ≤ 100)
    (hQ : ∀ imm' h' m' tk g' ps' rvs' t'' kr', Ext imm imm' → St imm' L m' [(ra, lstO rvs' kr'), (50, tabO ps')] h' → TriplesOk ps'.toList → (AllBare s.gens → AllBare g') → Reps hp ((addPart acc p).map partD) rvs' →
      m' "i" = some (.int ((ii + (pieceText p).length : Nat) : Int) t'') → (∀ x : Str, x ≠ "k" → x ≠ "i" → x ≠ "chunks" → x ≠ "chunk" → x ≠ "stuff" → x ≠ "j" → x ≠ "c" → m' x = m x) → Q .next { s with heap := h', toks := tk, gens := g' }) :
    wpAny (MM w) A (execs trMain (trEnv L)) Q E s := by
  have e := trE L
  have h200 : 20000 ≤ sizeLine := Nat.le_of_ble_eq_true rfl
  have hrl : rvs.length = acc.length := by have := hr.length; simpa using this
  conv => arg 3; arg 1; whnf
  change wpAny _ _ (execs [_, _, .If _ _ [.If _ _ [.If _ trBR _ _] _] _] _) _ _ _
  obtain ⟨CH, hCH⟩ : ∃ x, x = trBR := ⟨_, rfl⟩
  rw [← hCH]
  walk_at "B go"
  cases p with
  | star =>
    have hg : pat[ii]? = some 42 := drop_get (q := 0) hcut
    have hlt : ii < pat.length := (List.getElem?_eq_some_iff.mp hg).1
    refine subS (j := ii) (c := 42) ⟨hlt, .inl rfl⟩ hg (by omega) ?_
    intro _ _
    walk_at "B go"
    rename St _ _ _ _ _ => S1
    have hg1 := (S1.mem _ List.mem_cons_self).1
    refine truthyL hg1 (by omega) ?_
    intro _
    have finish : ∀ h1 tk1 n1 t1', St imm L n1 [(ra, lstO rvs kr), (50, tabO ps)] h1 → n1 "i" = some (.int ((ii + 1 : Nat) : Int) t1') → (∀ x : Str, x ≠ "i" → x ≠ "c" → n1 x = m x) → lastStar acc = true → Q .next { s with heap := h1, toks := tk1 } := by
      intro h1 tk1 n1 t1' S2 q1 q2 q3
      refine hQ imm h1 n1 tk1 s.gens ps rvs t1' kr (Ext.refl _) S2 ht (fun g => g) (by rw [addPart, if_pos q3]; exact hr) q1 (fun x a1 a2 a3 a4 a5 a6 a7 => q2 x a2 a7)
    have finish2 : ∀ h1 tk1 n1 t1' kr1, St imm L n1 [(ra, lstO (rvs ++ [.none]) kr1), (50, tabO ps)] h1 → n1 "i" = some (.int ((ii + 1 : Nat) : Int) t1') → (∀ x : Str, x ≠ "i" → x ≠ "c" → n1 x = m x) → lastStar acc = false → Q .next { s with heap := h1, toks := tk1 } := by
      intro h1 tk1 n1 t1' kr1 S2 q1 q2 q3
      refine hQ imm h1 n1 tk1 s.gens ps (rvs ++ [.none]) t1' kr1 (Ext.refl _) S2 ht (fun g => g) (by rw [addPart, if_neg (by rw [q3]; exact Bool.false_ne_true), List.map_append]; exact hr.snoc Rep.mkNone) q1 (fun x a1 a2 a3 a4 a5 a6 a7 => q2 x a2 a7)
    rcases List.eq_nil_or_concat acc with hnil | ⟨acc', q, hcc⟩
    · have hr0 : rvs = [] := List.length_eq_zero_iff.mp (by rw [hrl, hnil]; rfl)
      have hls : lastStar acc = false := by rw [hnil]; rfl
      rw [show decide (rvs ≠ []) = false by simp [hr0]]
      walk_at "B go"
      refine cw_bound (f := .builtin "list.append") (x := .ref ra) ?_
      walk_at "B go"
      all_goals first | refine ⟨S1.keep _ _ gb, ?_⟩ | exact S1.keep _ _ gb | skip
      refine addA S1 (S1.keep _ _ gb) (fun n' => At.here) (by omega) fun h' n' S' => ?_
      walk_at "B go"
      exact finish2 _ _ _ _ _ S' (by walk_at "B look") (fun x a1 a2 => by rw [if_neg a1, if_neg a2]) hls
    · have hlen : rvs.length = acc'.length + 1 := by rw [hrl, hcc]; simp
      obtain ⟨v, hv, rv⟩ := hr.at (i := acc'.length) (d := partD q) (by rw [hcc]; simp)
      have hls : lastStar acc = isStarP q := by rw [hcc]; simp [lastStar]
      rw [show decide (rvs ≠ []) = true by rw [decide_eq_true_eq]; rintro rfl; simp at hlen]
      walk_at "B go"
      refine subL (j := acc'.length) (x := v) hg1 ⟨by omega, .inr (by omega)⟩ hv (by omega) ?_
      cases q with
      | star =>
        simp only [partD, Rep] at rv
        subst rv
        walk_at "B go"
        exact finish _ _ _ _ S1 (by walk_at "B look") (fun x a1 a2 => by rw [if_neg a1, if_neg a2]) hls
      | any =>
        simp only [partD, Rep] at rv
        obtain ⟨_, rfl⟩ := rv
        walk_at "B go"
        refine cw_bound (f := .builtin "list.append") (x := .ref ra) ?_
        walk_at "B go"
        all_goals first | refine ⟨S1.keep _ _ gb, ?_⟩ | exact S1.keep _ _ gb | skip
        refine addA S1 (S1.keep _ _ gb) (fun n' => At.here) (by omega) fun h' n' S' => ?_
        walk_at "B go"
        exact finish2 _ _ _ _ _ S' (by walk_at "B look") (fun x a1 a2 => by rw [if_neg a1, if_neg a2]) hls
      | br b its =>
        simp only [partD, Rep] at rv
        obtain ⟨_, rfl⟩ := rv
        walk_at "B go"
        refine cw_bound (f := .builtin "list.append") (x := .ref ra) ?_
        walk_at "B go"
        all_goals first | refine ⟨S1.keep _ _ gb, ?_⟩ | exact S1.keep _ _ gb | skip
        refine addA S1 (S1.keep _ _ gb) (fun n' => At.here) (by omega) fun h' n' S' => ?_
        walk_at "B go"
        exact finish2 _ _ _ _ _ S' (by walk_at "B look") (fun x a1 a2 => by rw [if_neg a1, if_neg a2]) hls
  | any =>
    have hg : pat[ii]? = some 63 := drop_get (q := 0) hcut
    have hlt : ii < pat.length := (List.getElem?_eq_some_iff.mp hg).1
    refine subS (j := ii) (c := 63) ⟨hlt, .inl rfl⟩ hg (by omega) ?_
    intro _ _
    walk_at "B go"
    rename St _ _ _ _ _ => S1
    refine cw_bound (f := .builtin "list.append") (x := .ref ra) ?_
    walk_at "B go"
    all_goals first | refine ⟨S1.keep _ _ gb, ?_⟩ | exact S1.keep _ _ gb | skip
    refine addA S1 (S1.keep _ _ gb) (fun n' => At.here) (by omega) fun h' n' S' => ?_
    walk_at "B go"
    refine hQ imm _ _ _ s.gens ps (rvs ++ [.str (strN [46]) t4]) _ n' (Ext.refl _) S' ht (fun g => g) (by rw [addPart, List.map_append]; exact hr.snoc (by simp only [partOf, partD, Rep]; exact ⟨_, rfl⟩); intro q; cases q) (by walk_at "B look") (fun x a1 a2 a3 a4 a5 a6 a7 => by rw [if_neg a2, if_neg a7])
  | br b ts =>
    have hg : pat[ii]? = some 91 := drop_get (q := 0) hcut
    have hlt : ii < pat.length := (List.getElem?_eq_some_iff.mp hg).1
    refine subS (j := ii) (c := 91) ⟨hlt, .inl rfl⟩ hg (by omega) ?_
    intro _ _
    walk_at "B go"
    rename St _ _ _ _ _ => S1
    subst hCH
    obtain ⟨o1, o2, o3⟩ := br_ok hok.1 hok.2
    have hne0 : brIts ts ≠ [] := by intro q; rw [q] at o3; exact o3 rfl
    have hw' : ts.length ≤ 20 := hw
    rw [piece_br] at hcut
    have hcut' : pat.drop (ii + 1) = bangN b ++ itsText (brIts ts) ++ 93 :: tl := by
      rw [← List.drop_drop, hcut]; simp
    refine bracket_turn (b := b) (its := brIts ts) (tl := tl) hh hroom S1 B ht gb (by walk_at "B look") (by walk_at "B look") (by walk_at "B look") (by walk_at "B look") hcut' o1 hne0 o3 hpl (by omega) (by omega) ?_
    intro imm' h' m' tk g' ps' t' t'' kr' x1 S2 ht2 hg2 e2 k2
    walk_at "B go"
    refine hQ imm' h' m' tk g' ps' _ t'' kr' x1 S2 ht2 hg2 (by rw [addPart, List.map_append]; exact hr.snoc (by simp only [partOf, partD, Rep]; exact ⟨_, rfl⟩); intro q; cases q) (by rw [e2, piece_br]; congr 3; simp; omega) (fun x a1 a2 a3 a4 a5 a6 a7 => by rw [k2 x a1 a2 a3 a4 a5 a6, if_neg a2, if_neg a7])
end
end
theorem flush_50 : True := by first | walk1 | trivial
noncomputable section
/-! the main loop and the contract of _translate -/
section
variable {w : World} {A : Around} {s : Shared} {E : Value → Shared → Prop} {imm : Heap} {L : Addr} {m : Str → Option Value} {mu : List (Addr × Obj)} {env : Env}
noncomputable def WBackG (s : Shared) (J : Nat → Heap → (Str → Option Value) → List (Addr × Obj) → Prop) (L : Addr) (imm₁ : Heap) (i : Nat) (s₃ : Shared) : Prop :=
  ∃ j imm₂ m₂ mu₂ h₂ tk₂ g₂, s₃ = { s with heap := h₂, toks := tk₂, gens := g₂ } ∧ (AllBare s.gens → AllBare g₂) ∧ j < i ∧ Ext imm₁ imm₂ ∧ J j imm₂ m₂ mu₂ ∧ St imm₂ L m₂ mu₂ h₂
theorem while_atG {test : Expr} {body : List Stmt} {pos : Pos} {Q : Flow → Shared → Prop} (J : Nat → Heap → (Str → Option Value) → List (Addr × Obj) → Prop) (n : Nat) (S : St imm L m mu s.heap) (j0 : J n imm m mu)
    (turn : ∀ i imm₁ m₁ mu₁ h tk g, (AllBare s.gens → AllBare g) → Ext imm imm₁ → J i imm₁ m₁ mu₁ → St imm₁ L m₁ mu₁ h →
      wpAny (MM w) A (isTrue test env (eval test env)) (fun b s₂ => if b = true then wpAny (MM w) A (execs body env) (fun f s₃ => match f with
        | .next | .cont => WBackG s J L imm₁ i s₃
        | .brk => Q .next s₃
        | .ret v => Q (.ret v) s₃) Bot s₂ else Q .next s₂) Bot { s with heap := h, toks := tk, gens := g }) :
    wpAny (MM w) A (exec (.While test body [] pos) env) Q E s := by
  refine wpAny_While (codeAny_whileLoop (fun k s' => ∃ imm₁ m₁ mu₁ h tk g, s' = { s with heap := h, toks := tk, gens := g } ∧ (AllBare s.gens → AllBare g) ∧ Ext imm imm₁ ∧ J k imm₁ m₁ mu₁ ∧ St imm₁ L m₁ mu₁ h) ?_ n ⟨imm, m, mu, s.heap, s.toks, s.gens, rfl, fun g => g, Ext.refl _, j0, S⟩)
  rintro k s' ⟨imm₁, m₁, mu₁, h, tk, g, rfl, hg, x, j, S⟩
  refine wpAny_mono (turn k imm₁ m₁ mu₁ h tk g hg x j S) (fun b s₂ h₂ => ?_) fun _ _ f => f.elim
  cases b with
  | true =>
    simp only [if_true] at h₂ ⊢
    refine wpAny_mono h₂ (fun f s₃ h₃ => ?_) fun _ _ f => f.elim
    have back : WBackG s J L imm₁ k s₃ → ∃ m, m < k ∧ ∃ imm₁ m₁ mu₁ h tk g, s₃ = { s with heap := h, toks := tk, gens := g } ∧ (AllBare s.gens → AllBare g) ∧ Ext imm imm₁ ∧ J m imm₁ m₁ mu₁ ∧ St imm₁ L m₁ mu₁ h := by
      rintro ⟨j, imm₂, m₂, mu₂, h₂, tk₂, g₂, rfl, hg2, hj, x₂, j₂, S₂⟩
      exact ⟨j, hj, imm₂, m₂, mu₂, h₂, tk₂, g₂, rfl, hg2, x.trans x₂, j₂, S₂⟩
    cases f with
    | next => exact back h₃
    | cont => exact back h₃
    | brk => exact h₃
    | ret v => exact h₃
  | false =>
    simp only [Bool.false_eq_true, if_false] at h₂ ⊢
    exact wpAny_execs_nil h₂
theorem parts_len (ps : List Piece) : (partsOf ps).length ≤ ps.length := by
  have gen : ∀ (ps : List Piece) (acc : List Part), (ps.foldl addPart acc).length ≤ acc.length + ps.length := by
    intro ps
    induction ps with
    | nil => intro acc; simp
    | cons p r ih =>
      intro acc
      have h1 := ih (addPart acc p)
      have h2 : (addPart acc p).length ≤ acc.length + 1 := by
        cases p with
        | star => simp only [addPart]; split <;> simp
        | any => simp [addPart]
        | br b ts => simp [addPart]
      simp only [List.foldl_cons, List.length_cons]
      omega
  simpa [partsOf] using gen ps []
noncomputable def pcText (ps : List Piece) : List Nat := (ps.map pieceText).flatten
theorem pcText_snoc (ps : List Piece) (p : Piece) : pcText (ps ++ [p]) = pcText ps ++ pieceText p := by simp [pcText]
theorem pcText_app (ps qs : List Piece) : pcText (ps ++ qs) = pcText ps ++ pcText qs := by simp [pcText]
theorem main_while {ps : List Piece} {hp : Heap} {tab : Array Value} {t1 t2 t3 t4 : Tok} {Q : Flow → Shared → Prop} {ba ra : Addr} {kr : Nat} (hh : A.handled = none) (hroom : A.depth + 20 < 1000)
    (S : St imm L m [(ra, lstO [] kr), (50, tabO tab)] s.heap) (B : Base w imm) (ht : TriplesOk tab.toList) (gb : imm.get? ba = some (boundO (.builtin "list.append") (.ref ra)))
    (m1 : m "pat" = some (.str (strN (pcText ps)) t1)) (m2 : m "i" = some (.int 0 t2)) (m3 : m "n" = some (.int ((pcText ps).length : Int) t3)) (m4 : m "add" = some (.ref ba)) (m5 : m "res" = some (.ref ra)) (m6 : m "STAR" = some .none) (m7 : m "QUESTION_MARK" = some (.str (strN [46]) t4))
    (hok : ∀ p ∈ ps, OkP p ∧ weightP p ≤ 20) (hpl : (pcText ps).length ≤ 10000) (hps : ps.length ≤ 100)
    (hQ : ∀ imm' h' m' tk g' tab' rvs' t'' kr', Ext imm imm' → St imm' L m' [(ra, lstO rvs' kr'), (50, tabO tab')] h' → TriplesOk tab'.toList → (AllBare s.gens → AllBare g') → Reps hp ((partsOf ps).map partD) rvs' →
      m' "i" = some (.int ((pcText ps).length : Int) t'') → m' "n" = some (.int ((pcText ps).length : Int) t3) → m' "res" = some (.ref ra) → Q .next { s with heap := h', toks := tk, gens := g' }) :
    wpAny (MM w) A (exec ((bodyP 6)[3]?.getD default) (trEnv L)) Q E s := by
  have e := trE L
  have h200 : 20000 ≤ sizeLine := Nat.le_of_ble_eq_true rfl
  conv => arg 3; arg 1; whnf
  refine while_atG (fun n imm₁ m₁ mu₁ => Ext imm imm₁ ∧ ∃ (dn rs : List Piece) (rvs : List Value) (k : Nat) (tb : Array Value) (t : Tok), mu₁ = [(ra, lstO rvs k), (50, tabO tb)] ∧ ps = dn ++ rs ∧ n = rs.length ∧ TriplesOk tb.toList ∧ Reps hp ((partsOf dn).map partD) rvs ∧
    m₁ "i" = some (.int ((pcText dn).length : Int) t) ∧ (∀ x : Str, x ≠ "k" → x ≠ "i" → x ≠ "chunks" → x ≠ "chunk" → x ≠ "stuff" → x ≠ "j" → x ≠ "c" → m₁ x = m x)) ps.length S
    ⟨Ext.refl _, [], ps, [], kr, tab, t2, rfl, rfl, rfl, ht, Reps.nil, m2, fun _ _ _ _ _ _ _ _ => rfl⟩ ?_
  rintro n imm₁ m₁ mu₁ h tk g hg x ⟨_, dn, rs, rvs, k, tb, t, rfl, hsplit, rfl, htb, hr, n2, hk⟩ S₁
  have B₁ : Base w imm₁ := B.ext x
  have n1 : m₁ "pat" = some (.str (strN (pcText ps)) t1) := by rw [hk _ (by decide) (by decide) (by decide) (by decide) (by decide) (by decide) (by decide)]; exact m1
  have n3 : m₁ "n" = some (.int ((pcText ps).length : Int) t3) := by rw [hk _ (by decide) (by decide) (by decide) (by decide) (by decide) (by decide) (by decide)]; exact m3
  have n4 : m₁ "add" = some (.ref ba) := by rw [hk _ (by decide) (by decide) (by decide) (by decide) (by decide) (by decide) (by decide)]; exact m4
  have n5 : m₁ "res" = some (.ref ra) := by rw [hk _ (by decide) (by decide) (by decide) (by decide) (by decide) (by decide) (by decide)]; exact m5
  have n6 : m₁ "STAR" = some .none := by rw [hk _ (by decide) (by decide) (by decide) (by decide) (by decide) (by decide) (by decide)]; exact m6
  have n7 : m₁ "QUESTION_MARK" = some (.str (strN [46]) t4) := by rw [hk _ (by decide) (by decide) (by decide) (by decide) (by decide) (by decide) (by decide)]; exact m7
  cases rs with
  | nil =>
    have hdn : dn = ps := by simpa using hsplit.symm
    subst hdn
    refine wpAny_mono (E := Bot) (Q := fun b s₂ => b = false ∧ ∃ tk', s₂ = { s with heap := h, toks := tk', gens := g }) ?_ (fun b s₂ hb => ?_) (fun _ _ f => False.elim f)
    · walk_at "B go"
      all_goals simp
    · obtain ⟨rfl, tk', rfl⟩ := hb
      rw [if_neg Bool.false_ne_true]
      exact hQ _ _ _ _ _ _ _ _ _ x S₁ htb hg hr n2 n3 n5
  | cons p rs =>
    have hptx : pcText ps = pcText dn ++ (pieceText p ++ pcText rs) := by rw [hsplit, pcText_app]; simp [pcText]
    have hpp : 1 ≤ (pieceText p).length := by cases p <;> simp [pieceText]
    have hlt : (pcText dn).length < (pcText ps).length := by rw [hptx]; simp; omega
    refine wpAny_mono (E := Bot) (Q := fun b s₂ => b = true ∧ ∃ tk', s₂ = { s with heap := h, toks := tk', gens := g }) ?_ (fun b s₂ hb => ?_) (fun _ _ f => False.elim f)
    · walk_at "B go"
      all_goals simp
      all_goals omega
    · obtain ⟨rfl, tk', rfl⟩ := hb
      rw [if_pos rfl]
      have hpk := hok p (by rw [hsplit]; simp)
      have hdl : (partsOf dn).length ≤ 100 := by
        have := parts_len dn
        have h2 := congrArg List.length hsplit
        rw [List.length_append] at h2
        omega
      refine trMain_turn (s := { s with heap := h, toks := tk', gens := g }) (p := p) (acc := partsOf dn) (hp := hp) (tl := pcText rs) hh hroom S₁ B₁ htb (x _ _ gb) n1 n2 n3 n4 n5 n6 n7 (by rw [hptx, List.drop_left]) hpk.1 hpk.2 hpl hr hdl ?_
      intro imm' h' m' tk2 g' tb' rvs' t'' kr' x1 S2 ht2 hg2 hr2 e2 k2
      refine ⟨rs.length, imm', m', _, h', tk2, g', rfl, fun q => hg2 (hg q), by simp, x1, ⟨x.trans x1, dn ++ [p], rs, rvs', kr', tb', t'', rfl, by rw [hsplit]; simp, rfl, ht2, ?_, ?_, fun y a1 a2 a3 a4 a5 a6 a7 => by rw [k2 y a1 a2 a3 a4 a5 a6 a7, hk y a1 a2 a3 a4 a5 a6 a7]⟩, S2⟩
      · rw [show partsOf (dn ++ [p]) = addPart (partsOf dn) p by simp [partsOf]]; exact hr2
      · rw [e2, pcText_snoc, List.length_append]
end
end
theorem flush_51 : True := by first | walk1 | trivial
noncomputable section
/-! the contract of _translate -/
section
variable {w : World} {A : Around} {s : Shared} {E : Value → Shared → Prop} {Q : Value → Shared → Prop} {k : Nat}
theorem kb_50 (P : Params) : (Kb P).lookup 50 = none := by
  have gen : ∀ l : Frag, (l.filter fun p => p.1 != 50).lookup 50 = none := by
    intro l
    induction l with
    | nil => rfl
    | cons p r ih =>
      rw [List.filter_cons]
      split
      · rename_i h
        obtain ⟨a, o⟩ := p
        have : (50 == a) = false := by
          have : a ≠ 50 := by simpa using h
          rw [beq_eq_false_iff_ne]; exact fun q => this q.symm
        rw [List.lookup_cons, this]; exact ih
      · exact ih
  exact gen _
theorem base_hide {h : Heap} (B : Base w h) : Base w (hideAll h [50]) := by
  have hid : ∀ a o, a ≠ 50 → h.get? a = some o → (hideAll h [50]).get? a = some o := fun a o ha e => hideAll_get _ e (fun q => ha (List.mem_singleton.mp q))
  refine ⟨fun a o e => hid a o ?_ (B.k a o e), ?_, ?_, ?_⟩
  · rintro rfl; rw [kb_50] at e; cases e
  · obtain ⟨mb, ⟨o, es, ep, g, r⟩, h2⟩ := B.mb
    exact ⟨mb, ⟨o, es, ep, hid _ _ (by decide) g, r⟩, h2⟩
  · obtain ⟨mc, ⟨o, es, ep, g, r⟩, h2⟩ := B.lim
    exact ⟨mc, ⟨o, es, ep, hid _ _ (by decide) g, r⟩, h2⟩
  · obtain ⟨o, g, r⟩ := B.bm
    exact ⟨o, hid _ _ (by decide) g, r⟩
theorem spec_translate {ps : List Piece} {tab : Array Value} {t t' : Tok} (hok : ∀ p ∈ ps, OkP p ∧ weightP p ≤ 20) (hpl : (pcText ps).length ≤ 10000) (hps : ps.length ≤ 100) (h50 : s.heap.get? 50 = some (tabO tab)) (ht : TriplesOk tab.toList) (B : Base w s.heap) (r : Room A (k + 30))
    (hQ : ∀ h' tk g' v tab', (∀ b o, b ≠ 50 → s.heap.get? b = some o → h'.get? b = some o) → h'.get? 50 = some (tabO tab') → TriplesOk tab'.toList → (AllBare s.gens → AllBare g') → Rep (above s.heap.objs.size h') (.list ((partsOf ps).map partD)) v → Q v { s with heap := h', toks := tk, gens := g' }) :
    wpAny (MM w) A (call (.ref 55) [.str (strN (pcText ps)) t, .none, .str (strN [46]) t']) Q E s := by
  have h200 : 20000 ≤ sizeLine := Nat.le_of_ble_eq_true rfl
  obtain ⟨o, ho, hd⟩ := fn_translate B
  refine call_def B (r.le (by omega) : Room A (0 + 1)) ho hd (cd_translate B) (body := bodyP 6) (binds := [("pat", .str (strN (pcText ps)) t), ("STAR", .none), ("QUESTION_MARK", .str (strN [46]) t')]) rfl rfl cl_translate (locs (by rfl)) ?_ rfl rfl rfl
  intro h₀ S0
  have hroom : (A.deeper (callEnv fd_translate s.heap.objs.size 55)).depth + 20 < 1000 := by have := r.2.1; show A.depth + 1 + 20 < 1000; omega
  have hh : (A.deeper (callEnv fd_translate s.heap.objs.size 55)).handled = none := r.1
  have e := trE s.heap.objs.size
  have h50lt := Heap.lt_size h50
  have S : St (hideAll s.heap [50]) s.heap.objs.size _ [(50, tabO tab)] h₀ :=
    ⟨S0.ns, fun b o e => S0.keep _ _ (of_hideAll _ e), by
      cases q : (hideAll s.heap [50]).get? s.heap.objs.size with
      | none => rfl
      | some o => exact absurd (Heap.lt_size (of_hideAll _ q)) (Nat.lt_irrefl _), fun p hp => by
      rw [List.mem_singleton.mp hp]
      exact ⟨S0.keep _ _ h50, Nat.ne_of_lt h50lt, hideAll_none _ (.head _)⟩, by simp⟩
  have B' := base_hide B
  conv => arg 3; arg 1; whnf
  walk_at "B go"
  rename St _ _ _ _ _ => S1
  refine bindA S1 (S1.mem _ List.mem_cons_self).1 ?_
  intro ba h2 tk2 S2 hLb
  obtain ⟨imm2, x2, S3, gb⟩ := S2.freeze0
  have B2 : Base w imm2 := B'.ext x2
  walk_at "B go"
  rename St _ _ _ _ _ => S5
  have S6 := S5.drop0
  refine main_while (hp := imm2) hh hroom S6 B2 ht gb (by walk_at "B look") (by walk_at "B look") (by walk_at "B look") (by walk_at "B look") (by walk_at "B look") (by walk_at "B look") (by walk_at "B look") hok hpl hps ?_
  intro imm3 h3 m3 tk3 g3 tab3 rvs3 t3 kr3 x3 S7 ht3 hg3 hr3 e1 e2 e3
  walk_at "B go"
  refine hQ _ _ _ _ tab3 (fun b o hb e => S7.keep _ _ (x3 _ _ (x2 _ _ (hideAll_get _ e (fun q => hb (List.mem_singleton.mp q)))))) (S7.mem _ (.tail _ (.head _))).1 ht3 hg3 (Rep.mkList (above_get.mpr ⟨(S7.mem _ (.head _)).1, Nat.le_of_lt (by with_reducible assumption)⟩) (rep_any hr3))
end
section
variable {imm h h' : Heap} {L : Addr} {m : Str → Option Value} {mu mu' : List (Addr × Obj)}
theorem St.called50 {o o' : Obj} (S : St imm L m mu h) (p : At 50 o o' mu mu') (hx : ∀ b o, b ≠ 50 → h.get? b = some o → h'.get? b = some o) (h50 : h'.get? 50 = some o') :
    ∃ imm', Ext imm imm' ∧ St imm' L m mu' h' ∧ Ext (above h.objs.size h') imm' := by
  obtain ⟨imm', y, S', hk⟩ := (S.updE p hx h50).freeze
  refine ⟨imm', y, S', fun b o e => ?_⟩
  obtain ⟨e, hb⟩ := above_get.mp e
  refine hk b o e ?_ fun q hq hp => ?_
  · rintro rfl; exact absurd S.ns.lt (Nat.not_lt.mpr hb)
  · have hmem : q.1 ∈ mu.map (·.1) := by rw [← p.keys]; exact List.mem_map.mpr ⟨q, hq, rfl⟩
    obtain ⟨q', hq', e'⟩ := List.mem_map.mp hmem
    have := Heap.lt_size (S.mem q' hq').1
    rw [e', hp] at this
    exact absurd this (Nat.not_lt.mpr hb)
end
end
theorem flush_52 : True := by first | walk1 | trivial
noncomputable section
/-! the parts that _translate makes are such as are read -/
theorem partsOf_ok (ps : List Piece) (h : ∀ p ∈ ps, OkP p ∧ weightP p ≤ 20) : ∀ q ∈ partsOf ps, OkPart q := by
  have gen : ∀ (ps : List Piece) (acc : List Part), (∀ p ∈ ps, OkP p ∧ weightP p ≤ 20) → (∀ q ∈ acc, OkPart q) → ∀ q ∈ ps.foldl addPart acc, OkPart q := by
    intro ps
    induction ps with
    | nil => intro acc _ h; exact h
    | cons p r ih =>
      intro acc h1 h2
      refine ih (addPart acc p) (fun q hq => h1 q (.tail _ hq)) fun q hq => ?_
      have hp := h1 p (.head _)
      cases p with
      | star =>
        simp only [addPart] at hq
        split at hq
        · exact h2 q hq
        · rcases List.mem_append.mp hq with hq | hq
          · exact h2 q hq
          · rw [List.mem_singleton.mp hq]; trivial
      | any =>
        simp only [addPart] at hq
        rcases List.mem_append.mp hq with hq | hq
        · exact h2 q hq
        · rw [List.mem_singleton.mp hq]; trivial
      | br b ts =>
        simp only [addPart] at hq
        rcases List.mem_append.mp hq with hq | hq
        · exact h2 q hq
        · rw [List.mem_singleton.mp hq]
          obtain ⟨o1, o2, o3⟩ := br_ok hp.1.1 hp.1.2
          have hw : ts.length ≤ 20 := hp.2
          refine ⟨o3, ?_, fun it hi => ⟨o1 it (List.mem_filter.mp hi).1, (List.mem_filter.mp hi).2⟩⟩
          have := List.length_filter_le fwd (brIts ts)
          omega
  exact gen ps [] h (fun _ h => nomatch h)
end
theorem flush_53 : True := by first | walk1 | trivial
noncomputable section
/-! law: its cells -/
noncomputable abbrev lawEnv (f : Addr) (cd : Value) (L : Addr) : Env := callEnvC (fdP 29 3 .none cd) L f
noncomputable def cmElt : Option Stmt → Expr
  | some (.Assign _ (.ListComp e _ _ _) _) => e
  | _ => default
noncomputable def cmIter : Option Stmt → Expr
  | some (.Assign _ (.ListComp _ [⟨_, i, _, _⟩] _ _) _) => i
  | _ => default
noncomputable def cmNamePos : Option Stmt → Pos
  | some (.Assign _ (.ListComp _ [⟨.Name _ p, _, _, _⟩] _ _) _) => p
  | _ => default
noncomputable def cmScope : Option Stmt → Scope
  | some (.Assign _ (.ListComp _ _ sc _) _) => sc
  | _ => default
noncomputable def cmPos : Option Stmt → Pos
  | some (.Assign _ (.ListComp _ _ _ p) _) => p
  | _ => default
section
variable {w : World} {A : Around} {s : Shared} {E : Value → Shared → Prop} {imm : Heap} {L : Addr} {m : Str → Option Value} {mu : List (Addr × Obj)} {k : Nat}
theorem lawE (f : Addr) (cd : Value) (L : Addr) : EnvOk (lawEnv f cd L) L := ⟨rfl, rfl, rfl, rfl⟩
theorem modZ {a b : Int} {bn : Nat} {t u : Tok} {Q : Value → Shared → Prop} (hb : b = (bn : Int)) (h0 : 0 < bn) (h : ∀ t tk, Q (.int (a % (bn : Int)) t) { s with toks := tk }) :
    wpAny (MM w) A (binaryOp .Mod (.int a t) (.int b u)) Q E s := by
  subst hb
  refine mod_int (by omega) ?_
  have := h s.toks (s.toks + 1)
  simpa [Int.fmod_eq_emod_of_nonneg] using this
theorem cells_comp {f : Addr} {cd : Value} {ax : Addr} {ns : List Int} {vs : List Value} {n : Nat} {Q : Value → Shared → Prop} (hh : A.handled = none)
    (S : St imm L m mu s.heap) (B : Base w imm) (hg : imm.get? ax = some (lstO vs n)) (hr : Reps imm (ns.map Mine.D.int) vs) (hl : ns.length ≤ 63)
    (hQ : ∀ c h tk imm' ys k, Ext imm imm' → St imm' L m ((c, lstO ys k) :: mu) h → Reps (above s.heap.objs.size imm') (ns.map fun z => Mine.D.int (z % 1000000000)) ys → s.heap.objs.size ≤ c → Q (.ref c) { s with heap := h, toks := tk }) :
    CompAt w A E (cmElt (bodyP 29)[0]?) (.Name "cell" (cmNamePos (bodyP 29)[0]?)) (cmIter (bodyP 29)[0]?) [] (cmScope (bodyP 29)[0]?) [] (cmPos (bodyP 29)[0]?) (lawEnv f cd L) none Q (.ref ax) s := by
  have e := lawE f cd L
  have h200 : 20000 ≤ sizeLine := Nat.le_of_ble_eq_true rfl
  have lv : vs.length = ns.length := by have := hr.length; simpa using this
  refine comp_list_of (fun _ ce => ce = []) (fun i => (ns.take i).map fun z => Mine.D.int (z % 1000000000)) e rfl hh S hg (by omega) (fun _ => rfl) rfl (fun i _ => by simp; omega) ?_ ?_
  · rintro N hN Cc Dd i v immT mT ce its ys kk h tk e' hC hi hiv xT rfl hys ST
    have BT : Base w immT := B.ext (S.keep.trans xT)
    obtain ⟨d, hd, rd⟩ := hr.get hiv
    rw [List.getElem?_map] at hd
    obtain ⟨z, hq⟩ : ∃ z, ns[i]? = some z := by
      cases hq : ns[i]? with
      | none => rw [hq] at hd; cases hd
      | some q => exact ⟨q, rfl⟩
    rw [hq] at hd
    cases hd
    simp only [Rep] at rd
    obtain ⟨tv, rfl⟩ := rd
    refine wpAny_assign_Name (st_local ST e' (by rfl) fun hb Sb => ?_)
    walk_at "B go"
    conv => arg 3; arg 1; whnf
    walk_at "B go"
    have hz : z.fmod (10 ^ Int.toNat 9) = z % 1000000000 := by
      rw [show (10 : Int) ^ Int.toNat 9 = 1000000000 by decide]
      exact Int.fmod_eq_emod_of_nonneg z (by omega)
    rw [hz]
    exact ⟨immT, _, [], _, _, .int (z % 1000000000), rfl, Ext.refl _, rfl, Sb, Rep.mkInt rfl, by simp [List.take_add_one, hq]⟩
  · intro c h tk imm' ys k' x' S' hys hD
    rw [lv, List.take_length] at hys
    exact hQ c h tk imm' ys k' x' S' hys hD
theorem law_cells {f : Addr} {cd : Value} {sa : Addr} {is : List Int} {svs : List Value} {ks : Nat} {tab : Array Value} {Q : Flow → Shared → Prop} (hh : A.handled = none)
    (S : St imm L m [(L + 1, cellO none), (50, tabO tab)] s.heap) (B : Base w imm) (m1 : m "script" = some (.ref sa)) (hs : imm.get? sa = some (lstO svs ks)) (hr : Reps imm (is.map D.int) svs) (hl : is.length ≤ 63)
    (hQ : ∀ imm' h' m' tk (cells : List Nat) ca cvs kc, Ext imm imm' → (∀ c ∈ cells, c < 1000000000) → cells.length ≤ 6 → cells ≠ [] → St imm' L m' [(L + 1, cellO (some (.ref ca))), (50, tabO tab)] h' → imm'.get? ca = some (lstO cvs kc) → Reps imm' (cells.map fun (c : Nat) => D.int c) cvs → Q .next { s with heap := h', toks := tk }) :
    wpAny (MM w) A (exec ((bodyP 29)[0]?.getD default) (lawEnv f cd L)) Q E s := by
  have e := lawE f cd L
  have h200 : 20000 ≤ sizeLine := Nat.le_of_ble_eq_true rfl
  conv => arg 3; arg 1; whnf
  refine wpAny_Assign_Name ?_
  refine comp_eval (cl := []) (by rfl) (by rfl) (by rfl) ?_
  walk_at "B go"
  have lsv : svs.length = is.length := by have := hr.length; simpa using this
  refine sliceUpto (a := 6) S (S.got hs) (by omega) rfl ?_
  intro c1 h1 S1 x1 hc1
  have gc1 := (S1.mem _ List.mem_cons_self).1
  refine truthyL gc1 (by simp; omega) ?_
  intro tk1
  have fin : ∀ (imm2 : Heap) (h2 : Heap) (tk2 : Nat) (ax : Addr) (ns : List Int) (vs : List Value) (n : Nat), Ext imm imm2 → St imm2 L m [(L + 1, cellO none), (50, tabO tab)] h2 → imm2.get? ax = some (lstO vs n) → Reps imm2 (ns.map Mine.D.int) vs → ns.length ≤ 6 → ns ≠ [] →
      CompAt w A E (cmElt (bodyP 29)[0]?) (.Name "cell" (cmNamePos (bodyP 29)[0]?)) (cmIter (bodyP 29)[0]?) [] (cmScope (bodyP 29)[0]?) [] (cmPos (bodyP 29)[0]?) (lawEnv f cd L) none (fun v s₁ => wpAny (MM w) A (storeName (lawEnv f cd L) (Str.ofString "cells") v) (fun x => Q Flow.next) E s₁) (.ref ax) { s with heap := h2, toks := tk2 } := by
    intro imm2 h2 tk2 ax ns vs n x2 S2 g2 r2 l2 ne2
    refine cells_comp (s := { s with heap := h2, toks := tk2 }) hh S2 (B.ext x2) g2 r2 (by omega) ?_
    intro c h3 tk3 imm3 ys k3 x3 S3 hys hc
    refine stC S3 rfl (by rfl) (by rfl) (.there .here) fun h4 S4 => ?_
    obtain ⟨imm4, x4, S5, g4⟩ := S4.freeze0
    have hys2 : Reps imm4 (ns.map fun z => Mine.D.int (z % 1000000000)) ys := Reps.ext (fun b o e => x4 _ _ (above_get.mp e).1) _ _ hys
    refine hQ imm4 _ _ _ (ns.map fun z => (z % 1000000000).toNat) c ys k3 (x2.trans (x3.trans x4)) ?_ (by simpa using l2) (by simpa using ne2) S5 g4 ?_
    · intro c hc
      obtain ⟨z, _, rfl⟩ := List.mem_map.mp hc
      omega
    · have : (List.map (fun (c : Nat) => Mine.D.int (c : Int)) (ns.map fun z => (z % 1000000000).toNat)) = ns.map fun z => Mine.D.int (z % 1000000000) := by
        rw [List.map_map]
        apply List.map_congr_left
        intro z _
        show Mine.D.int (((z % 1000000000).toNat : Nat) : Int) = _
        congr 1
        omega
      rw [this]; exact hys2
  by_cases hnil : svs.take 6 = []
  · rw [show decide (svs.take 6 ≠ []) = false by simp [hnil]]
    rw [if_neg Bool.false_ne_true]
    walk_at "B go"
    rename St _ _ _ _ _ => S2
    obtain ⟨imm2, x2, S3, g3⟩ := S2.freeze0
    exact fin imm2 _ _ _ [830, 0] _ _ x2 S3.drop0 g3 (Reps.cons (Rep.mkInt rfl) (Reps.cons (Rep.mkInt rfl) Reps.nil)) (by simp) (by simp)
  · rw [show decide (svs.take 6 ≠ []) = true by simpa using hnil]
    rw [if_pos rfl]
    obtain ⟨imm2, x2, S3, g3⟩ := S1.freeze0
    refine fin imm2 _ _ _ (is.take 6) _ _ x2 S3 g3 (by rw [List.map_take]; exact Reps.take 6 (Reps.ext x2 _ _ hr)) (by simp; omega) ?_
    intro q
    refine hnil (List.length_eq_zero_iff.mp ?_)
    have := congrArg List.length q
    simp only [List.length_take, List.length_nil] at this ⊢
    omega
end
end
theorem flush_54 : True := by first | walk1 | trivial
noncomputable section
/-! law: its text -/
theorem ones_sum (g : Nat → Nat) : ∀ l : List Nat, (l.map (List.length ∘ fun c => [g c])).sum = l.length
  | [] => rfl
  | a :: r => by have := ones_sum g r; simp only [List.map_cons, List.sum_cons, List.length_cons]; rw [this]; show 1 + _ = _; omega
theorem ones_flat (g : Nat → Nat) : ∀ l : List Nat, (l.map fun c => [g c]).flatten = l.map g
  | [] => rfl
  | a :: r => by have := ones_flat g r; simp only [List.map_cons, List.flatten_cons]; rw [this]; rfl
section
variable {w : World} {A : Around} {s : Shared} {E : Value → Shared → Prop} {imm : Heap} {L : Addr} {m : Str → Option Value} {mu : List (Addr × Obj)} {k : Nat}
local macro_rules | `(tactic| walk_at "eval Name") => `(tactic| (refine' Mine.nm_cell rfl (by rfl) (by rfl) (by walk_at "B got") ?_))
local macro_rules | `(tactic| walk_at "eval ListComp") => `(tactic| (with_unfolding_all refine Mine.comp_eval (cl := []) (by with_unfolding_all rfl) (by with_unfolding_all rfl) (by with_unfolding_all rfl) ?_ (by intro _; with_unfolding_all rfl)))
theorem law_text {f : Addr} {cd : Value} {ca : Addr} {cells : List Nat} {cvs : List Value} {kc : Nat} {tab : Array Value} {Q : Flow → Shared → Prop} (r : Room A (k + 4))
    (S : St imm L m [(50, tabO tab)] s.heap) (B : Base w imm) (hc : imm.get? (L + 1) = some (cellO (some (.ref ca)))) (gc : imm.get? ca = some (lstO cvs kc)) (hr : Reps imm (cells.map fun (c : Nat) => Mine.D.int c) cvs) (hcs : ∀ c ∈ cells, c < 1000000000) (hl : cells.length ≤ 6)
    (hQ : ∀ imm' h' m' tk t, Ext imm imm' → St imm' L m' [(50, tabO tab)] h' → m' "text" = some (.str (strN (cells.map fun c => signN (c / 6))) t) → (∀ x : Str, x ≠ "text" → m' x = m x) → Q .next { s with heap := h', toks := tk }) :
    wpAny (MM w) A (exec ((bodyP 29)[1]?.getD default) (lawEnv f cd L)) Q E s := by
  have e := lawE f cd L
  have h200 : 20000 ≤ sizeLine := Nat.le_of_ble_eq_true rfl
  have lv : cvs.length = cells.length := by have := hr.length; simpa using this
  conv => arg 3; arg 1; whnf
  walk_at "B go"
  have h2 : ∀ i : Nat, ((cells.take i).map fun c => Mine.D.str (strN [signN (c / 6)])).length ≤ i := fun i => by simp; omega
  refine comp_list_of (fun _ ce => ce = []) (fun i => (cells.take i).map fun c => Mine.D.str (strN [signN (c / 6)])) e rfl r.1 S gc (by omega) (fun _ => rfl) rfl (fun i _ => h2 i) ?_ ?_
  · rintro N hN Cc Dd i v immT mT ce its ys kk h tk e' hC hi hiv xT rfl hys ST
    have BT : Base w immT := B.ext (S.keep.trans xT)
    obtain ⟨d, hd, rd⟩ := hr.get hiv
    rw [List.getElem?_map] at hd
    obtain ⟨c, hq⟩ : ∃ c, cells[i]? = some c := by
      cases hq : cells[i]? with
      | none => rw [hq] at hd; cases hd
      | some q => exact ⟨q, rfl⟩
    rw [hq] at hd
    cases hd
    simp only [Rep] at rd
    obtain ⟨tv, rfl⟩ := rd
    have hcc := hcs c (List.mem_of_getElem? hq)
    refine wpAny_assign_Name (st_local ST e' (by rfl) fun hb Sb => ?_)
    walk_at "B go"
    refine spec_signN (rest := c / 6) (k := k + 1) (by omega) (BT.ext (St.keep (by with_reducible assumption))) r ?_
    intro h3 tk3 t3 x3
    exact ⟨immT, _, [], _, _, .str (strN [signN (c / 6)]), rfl, Ext.refl _, rfl, St.ext (by with_reducible assumption) x3, by simp only [Rep]; exact ⟨_, rfl⟩, by simp [List.take_add_one, hq]⟩
  · intro c h tk imm' ys k' x' S' hys hD
    rw [lv, List.take_length] at hys
    rename_i tj tkj
    obtain ⟨imm2, x2, S2, g2⟩ := S'.freeze0
    refine Calls.spliced_nil ?_
    refine joinS (ls := cells.map fun c => [signN (c / 6)]) (sep := []) (S2.got g2) (by rw [List.map_map]; exact hys) (by simp) ?_ ?_
    · rw [List.map_map, ones_sum, List.length_map]; omega
    · intro t5 tk5
      have hj : joinN [] (cells.map fun c => [signN (c / 6)]) = cells.map fun c => signN (c / 6) := by rw [joinN_nil, ones_flat]
      rw [hj]
      walk_at "B go"
      rename St _ _ _ _ _ => S3
      exact hQ imm2 _ _ _ t5 (x'.trans x2) S3 (if_pos rfl) (fun x hx => if_neg hx)
end
end
end
theorem flush_55 : True := by first | walk1 | trivial
noncomputable section
/-! law: the first comparison -/
theorem ints_are {h : Heap} : ∀ {l : List Nat} {vs : List Value}, Reps h (natsD l) vs → IntsAre vs (l.map fun (n : Nat) => (n : Int))
  | [], vs, e => by simp only [natsD, List.map_nil, Reps] at e; subst e; exact .nil
  | a :: r, vs, e => by
    simp only [natsD, List.map_cons, Reps, Rep] at e
    obtain ⟨_, r', rfl, ⟨t, rfl⟩, b⟩ := e
    exact .cons _ t (ints_are b)
theorem ints_inj {a b : List Nat} (h : a = b) : (a.map fun (n : Nat) => (n : Int)) = b.map fun (n : Nat) => (n : Int) := by rw [h]
section
variable {w : World} {A : Around} {s : Shared} {E : Value → Shared → Prop} {imm : Heap} {L : Addr} {m : Str → Option Value} {mu : List (Addr × Obj)} {k : Nat}
local macro_rules | `(tactic| walk_at "eval Name") => `(tactic| (refine' Mine.nm_cell rfl (by rfl) (by rfl) (by walk_at "B got") ?_))
theorem law_first {f : Addr} {cd : Value} {ca : Addr} {cells : List Nat} {text : List Nat} {cvs : List Value} {kc : Nat} {tab : Array Value} {t1 : Tok} {Q : Flow → Shared → Prop} (r : Room A (k + 40))
    (S : St imm L m [(50, tabO tab)] s.heap) (B : Base w imm) (ht : TriplesOk tab.toList) (hc : imm.get? (L + 1) = some (cellO (some (.ref ca)))) (gc : imm.get? ca = some (lstO cvs kc)) (hr : Reps imm (cells.map fun (c : Nat) => Mine.D.int c) cvs) (hcs : ∀ c ∈ cells, c < 1000000000) (hl : cells.length ≤ 6)
    (m1 : m "text" = some (.str (strN text) t1)) (htl : text.length ≤ 6) (htx : ∀ c ∈ text, c ≤ 1114111)
    (hQ : ∀ imm' h' m' tk g' tab', Ext imm imm' → St imm' L m' [(50, tabO tab')] h' → TriplesOk tab'.toList → (AllBare s.gens → AllBare g') → (∀ x : Str, x ≠ "drawn" → m' x = m x) → wpAny (MM w) A (execs ((bodyP 29).drop 4) (lawEnv f cd L)) Q E { s with heap := h', toks := tk, gens := g' }) :
    wpAny (MM w) A (execs ((bodyP 29).drop 2) (lawEnv f cd L)) Q E s := by
  have e := lawE f cd L
  have h200 : 20000 ≤ sizeLine := Nat.le_of_ble_eq_true rfl
  conv => arg 3; arg 1; whnf
  obtain ⟨RS, hRS⟩ : ∃ x, x = (bodyP 29).drop 4 := ⟨_, rfl⟩
  change wpAny _ _ (execs (_ :: _ :: (bodyP 29).drop 4) _) _ _ _
  rw [← hRS] at hQ ⊢
  walk_at "B go"
  refine spec_pattern (k := k + 36) (S.got gc) (Reps.ext S.keep _ _ hr) hcs hl (B.ext S.keep) (r.le (by omega)) ?_
  intro h1 tk1 v1 x1 rp1
  obtain ⟨imm1, y1, S1, z1⟩ := S.called x1
  have B1 : Base w imm1 := B.ext y1
  have rp := Rep.ext z1 _ _ rp1
  simp only [Rep] at rp
  obtain ⟨T, vs, n, rfl, gT, hv⟩ := rp
  simp only [Reps, Rep] at hv
  obtain ⟨_, _, rfl, ⟨tp, rfl⟩, _, _, rfl, ⟨ia, ivs, ni, rfl, gi, hi⟩, rfl⟩ := hv
  clear rp1 z1 x1
  obtain ⟨o1, o2, o3⟩ := pieces_ok cells
  have hpl := patText_len o1
  have hw : ∀ p ∈ pcsOfN cells, OkP p ∧ weightP p ≤ 20 := fun p hp => ⟨o1 p hp, Nat.le_trans (le_weight hp) (by omega)⟩
  clear B
  walk_at "B go"
  rename St _ _ _ _ _ => S2
  refine subT (j := 0) (S2.got gT) rfl (by decide) rfl ?_
  walk_at "B go"
  refine spec_translate (k := k + 10) (ps := pcsOfN cells) hw (by show (patText _).length ≤ _; omega) (by omega) (S2.mem _ (.head _)).1 ht (B1.ext S2.keep) (r.le (by omega)) ?_
  intro h3 tk3 g3 v3 tab3 hx3 h50 ht3 hg3 rp3
  obtain ⟨imm3, y3, S3, z3⟩ := S2.called50 At.here hx3 h50
  have B3 : Base w imm3 := B1.ext y3
  have rp := Rep.ext z3 _ _ rp3
  simp only [Rep] at rp
  obtain ⟨pa, pvs, np, rfl, gp, hp⟩ := rp
  have gi3 := y3 _ _ gi
  have gT3 := y3 _ _ gT
  have hi3 := Reps.ext y3 _ _ hi
  have x13 : Ext imm1 h3 := y3.trans S3.keep
  clear rp3 z3 S1 S2 hx3 B1
  walk_at "B go"
  refine ⟨x13, ?_⟩
  have hok3 := partsOf_ok _ hw
  have hpn := parts_len (pcsOfN cells)
  refine spec_taken (k := k + 30) (parts := partsOf (pcsOfN cells)) (S3.got gp) (Reps.ext S3.keep _ _ hp) hok3 (by omega) (by omega) (B3.ext S3.keep) (r.le (by omega)) ?_
  intro h4 tk4 v4 x4 rp4
  obtain ⟨imm4, y4, S4, z4⟩ := S3.called x4
  have B4 : Base w imm4 := B3.ext y4
  have rp := Rep.ext z4 _ _ rp4
  simp only [Rep] at rp
  obtain ⟨la, lvs, nl, rfl, gl, hl4⟩ := rp
  have gi4 := y4 _ _ gi3
  have gT4 := y4 _ _ gT3
  have hi4 := Reps.ext y4 _ _ hi3
  have x34 : Ext imm3 h4 := y4.trans S4.keep
  clear rp4 z4 S3 x4 B3
  walk_at "B go"
  refine subT (j := 1) (S4.got gT4) rfl (by decide) rfl ?_
  walk_at "B go"
  refine spec_told (k := k + 30) (ps := pcsOfN cells) (S4.got gi4) (Reps.ext S4.keep _ _ hi4) o1 (by omega) (by omega) (by omega) htx (B4.ext S4.keep) (r.le (by omega)) ?_
  intro h5 tk5 v5 x5 rp5
  obtain ⟨imm5, y5, S5, z5⟩ := S4.called x5
  have rp := Rep.ext z5 _ _ rp5
  simp only [Rep] at rp
  obtain ⟨lb, lws, nb, rfl, gl5, hl5⟩ := rp
  clear rp5 z5 S4 x5 B4
  refine ke_ne_ints (lst_of (S5.got (y5 _ _ gl))) (lst_of (S5.got gl5)) (ints_are (Reps.ext y5 _ _ hl4)) (ints_are hl5) (by have := r.2.2; show A.units + 64 < 9900; omega) ?_
  rw [show decide (((takenN (partsOf (pcsOfN cells)) text).map fun (n : Nat) => (n : Int)) = (toldN (pcsOfN cells) text).map fun (n : Nat) => (n : Int)) = true by rw [decide_eq_true_eq]; exact ints_inj (plain_law _ _ o1)]
  walk_at "B go"
  exact hQ imm5 _ _ _ g3 tab3 (y1.trans (y3.trans (y4.trans y5))) S5 ht3 hg3 (fun x hx => if_neg hx)
end
end
section
local macro_rules | `(tactic| omega) => `(tactic| lia)
theorem flush_56 : True := by first | walk1 | trivial
noncomputable section
/-! law: the second comparison -/
section
variable {w : World} {A : Around} {s : Shared} {E : Value → Shared → Prop} {imm : Heap} {L : Addr} {m : Str → Option Value} {mu : List (Addr × Obj)} {k : Nat}
local macro_rules | `(tactic| walk_at "eval Name") => `(tactic| (refine' Mine.nm_cell rfl (by rfl) (by rfl) (by walk_at "B got") ?_))
noncomputable def judgeL : List Nat := [2, 3, 4, 5, 6]
theorem law_judge {f : Addr} {cd : Value} {ca : Addr} {c0 : Nat} {cvs : List Value} {kc : Nat} {tab : Array Value} {t0 : Tok} {Q : Flow → Shared → Prop} (r : Room A (k + 40))
    (S : St imm L m [(50, tabO tab)] s.heap) (B : Base w imm) (hc : imm.get? (L + 1) = some (cellO (some (.ref ca)))) (gc : imm.get? ca = some (lstO (.int (c0 : Int) t0 :: cvs) kc)) (hcs : c0 < 1000000000) (hl : cvs.length ≤ 6)
    (hQ : ∀ imm' h' m' tk fa fvs kf t, Ext imm imm' → St imm' L m' [(50, tabO tab)] h' → m' "forbidden" = some (.ref fa) → imm'.get? fa = some (lstO fvs kf) → Reps imm' (natsD judgeL) fvs →
      m' "judge" = some (.str (strN ([42, 91] ++ (judgeL.map fun t => writtenN t (c0 % 7)).flatten ++ [93, 42])) t) → (∀ x : Str, x ≠ "forbidden" → x ≠ "judge" → m' x = m x) → wpAny (MM w) A (execs ((bodyP 29).drop 6) (lawEnv f cd L)) Q E { s with heap := h', toks := tk }) :
    wpAny (MM w) A (execs ((bodyP 29).drop 4) (lawEnv f cd L)) Q E s := by
  have e := lawE f cd L
  have h200 : 20000 ≤ sizeLine := Nat.le_of_ble_eq_true rfl
  conv => arg 3; arg 1; whnf
  obtain ⟨RS, hRS⟩ : ∃ x, x = (bodyP 29).drop 6 := ⟨_, rfl⟩
  change wpAny _ _ (execs (_ :: _ :: (bodyP 29).drop 6) _) _ _ _
  rw [← hRS] at hQ ⊢
  walk_at "B go"
  rename St _ _ _ _ _ => S0
  obtain ⟨imm1, x1, S1, g1⟩ := S0.freeze0
  have hc1 := x1 _ _ hc
  have gc1 := x1 _ _ gc
  have B1 : Base w imm1 := B.ext x1
  clear S0 B S
  refine comp_eval (cl := [("cells", L + 1)]) (by rfl) (by rfl) (by rfl) ?_
  walk_at "B go"
  have hr : Reps imm1 (natsD judgeL) _ := Reps.cons (Rep.mkInt (t := s.toks) rfl) (Reps.cons (Rep.mkInt (t := s.toks + 1) rfl) (Reps.cons (Rep.mkInt (t := s.toks + 1 + 1) rfl) (Reps.cons (Rep.mkInt (t := s.toks + 1 + 1 + 1) rfl) (Reps.cons (Rep.mkInt (t := s.toks + 1 + 1 + 1 + 1) rfl) Reps.nil))))
  refine comp_list_of (fun _ ce => ce = []) (fun i => (judgeL.take i).map fun t => Mine.D.str (strN (writtenN t (c0 % 7)))) e rfl r.1 S1 g1 (by simp; omega) (fun _ => rfl) rfl (fun i _ => by simp; omega) ?_ ?_
  · rintro N hN Cc Dd i v immT mT ce its ys kk h tk e' hC hi hiv xT rfl hys ST
    have BT : Base w immT := B1.ext (S1.keep.trans xT)
    have hcT := xT _ _ (S1.keep _ _ hc1)
    have gcT := xT _ _ (S1.keep _ _ gc1)
    obtain ⟨d, hd, rd⟩ := hr.get hiv
    unfold natsD at hd
    rw [List.getElem?_map] at hd
    obtain ⟨c, hq⟩ : ∃ c, judgeL[i]? = some c := by
      cases hq : judgeL[i]? with
      | none => rw [hq] at hd; cases hd
      | some q => exact ⟨q, rfl⟩
    rw [hq] at hd
    cases hd
    simp only [Rep] at rd
    obtain ⟨tv, rfl⟩ := rd
    have hcm : c ≤ 6 := by
      have := List.mem_of_getElem? hq
      simp only [judgeL, List.mem_cons, List.not_mem_nil, or_false] at this
      omega
    refine wpAny_assign_Name (st_local ST e' (by rfl) fun hb Sb => ?_)
    walk_at "B go"
    refine subL (j := 0) (x := .int (c0 : Int) t0) (by walk_at "B got") ⟨by simp, .inl rfl⟩ rfl (by simp; omega) ?_
    walk_at "B go"
    refine spec_written (tb := c) (rest := c0 % 7) (k := k + 30) hcm (by omega) (BT.ext (St.keep (by with_reducible assumption))) (r.le (by omega)) ?_
    intro h3 tk3 t3 x3
    exact ⟨immT, _, [], _, _, .str (strN (writtenN c (c0 % 7))), rfl, Ext.refl _, rfl, St.ext (by with_reducible assumption) x3, by simp only [Rep]; exact ⟨_, rfl⟩, by simp [List.take_add_one, hq]⟩
  · intro c h tk imm' ys k' x' S' hys hD
    obtain ⟨imm2, x2, S2, g2⟩ := S'.freeze0
    refine Calls.spliced_nil ?_
    have hys2 : Reps imm' (judgeL.map fun t => Mine.D.str (strN (writtenN t (c0 % 7)))) ys := Reps.ext (fun b o e => (above_get.mp e).1) _ _ hys
    refine joinS (ls := judgeL.map fun t => writtenN t (c0 % 7)) (sep := []) (S2.got g2) (by rw [List.map_map]; exact hys2) (by simp) ?_ ?_
    · have w2 := written_len (t := 2) (rest := c0 % 7) (by decide)
      have w3 := written_len (t := 3) (rest := c0 % 7) (by decide)
      have w4 := written_len (t := 4) (rest := c0 % 7) (by decide)
      have w5 := written_len (t := 5) (rest := c0 % 7) (by decide)
      have w6 := written_len (t := 6) (rest := c0 % 7) (by decide)
      simp only [judgeL, List.map_cons, List.map_nil, List.sum_cons, List.sum_nil, List.length_cons, List.length_nil]
      omega
    · intro t5 tk5
      have hfl : ((judgeL.map fun t => writtenN t (c0 % 7)).flatten).length ≤ 600 := by
        have w2 := written_len (t := 2) (rest := c0 % 7) (by decide)
        have w3 := written_len (t := 3) (rest := c0 % 7) (by decide)
        have w4 := written_len (t := 4) (rest := c0 % 7) (by decide)
        have w5 := written_len (t := 5) (rest := c0 % 7) (by decide)
        have w6 := written_len (t := 6) (rest := c0 % 7) (by decide)
        simp only [judgeL, List.map_cons, List.map_nil, List.flatten_cons, List.flatten_nil, List.length_append, List.length_nil]
        omega
      rw [joinN_nil, show Str.ofString "*[" = strN [42, 91] from rfl]
      generalize hfs : (judgeL.map fun t => writtenN t (c0 % 7)).flatten = fl at hfl hQ ⊢
      walk_at "B go"
      rw [show Str.ofString "]*" = strN [93, 42] from rfl]
      walk_at "B go"
      rename St _ _ _ _ _ => S3
      exact hQ imm2 _ _ _ _ _ _ _ (x1.trans (x'.trans x2)) S3 (by walk_at "B look") (x2 _ _ (x' _ _ g1)) (Reps.ext (x'.trans x2) _ _ hr) (by walk_at "B look") (fun x a1 a2 => by rw [if_neg a2, if_neg a1])
end
end
theorem flush_57 : True := by first | walk1 | trivial
noncomputable section
/-! law: the end -/
section
variable {w : World} {A : Around} {s : Shared} {E : Value → Shared → Prop} {imm : Heap} {L : Addr} {m : Str → Option Value} {mu : List (Addr × Obj)} {k : Nat}
noncomputable def judgeP (r : Nat) : List Piece := [.star, .br false (judgeL.map fun t => (t, r)), .star]
theorem judge_text (r : Nat) : [42, 91] ++ (judgeL.map fun t => writtenN t r).flatten ++ [93, 42] = pcText (judgeP r) := by
  simp [pcText, judgeP, pieceText, bodyText, bangN, List.map_map, Function.comp_def]
theorem judge_ok (r : Nat) : ∀ p ∈ judgeP r, OkP p ∧ weightP p ≤ 20 := by
  intro p hp
  simp only [judgeP, List.mem_cons, List.not_mem_nil, or_false] at hp
  rcases hp with rfl | rfl | rfl
  · exact ⟨trivial, by simp [weightP]⟩
  · refine ⟨⟨by simp [judgeL], fun q hq => ?_⟩, by simp [weightP, judgeL]⟩
    obtain ⟨t, ht, rfl⟩ := List.mem_map.mp hq
    simp only [judgeL, List.mem_cons, List.not_mem_nil, or_false] at ht
    show t ≤ 6
    omega
  · exact ⟨trivial, by simp [weightP]⟩
theorem law_last {f : Addr} {cd : Value} {fa : Addr} {fvs : List Value} {kf c0 : Nat} {text : List Nat} {tab : Array Value} {t1 t2 : Tok} {Q : Flow → Shared → Prop} (r : Room A (k + 40))
    (S : St imm L m [(50, tabO tab)] s.heap) (B : Base w imm) (ht : TriplesOk tab.toList) (m1 : m "text" = some (.str (strN text) t1)) (m2 : m "forbidden" = some (.ref fa)) (gf : imm.get? fa = some (lstO fvs kf)) (hf : Reps imm (natsD judgeL) fvs)
    (m3 : m "judge" = some (.str (strN (pcText (judgeP (c0 % 7)))) t2)) (hpl : (pcText (judgeP (c0 % 7))).length ≤ 10000) (htl : text.length ≤ 6) (htx : ∀ c ∈ text, c ≤ 1114111)
    (hQ : ∀ imm' h' m' tk g' tab', Ext imm imm' → St imm' L m' [(50, tabO tab')] h' → TriplesOk tab'.toList → (AllBare s.gens → AllBare g') → Q (.ret (.bool true)) { s with heap := h', toks := tk, gens := g' }) :
    wpAny (MM w) A (execs ((bodyP 29).drop 6) (lawEnv f cd L)) Q E s := by
  have e := lawE f cd L
  have h200 : 20000 ≤ sizeLine := Nat.le_of_ble_eq_true rfl
  have hw := judge_ok (c0 % 7)
  have o1 : ∀ p ∈ judgeP (c0 % 7), OkP p := fun p hp => (hw p hp).1
  conv => arg 3; arg 1; whnf
  walk_at "B go"
  refine spec_translate (k := k + 10) (ps := judgeP (c0 % 7)) hw hpl (by simp [judgeP]) (S.mem _ (.head _)).1 ht (B.ext S.keep) (r.le (by omega)) ?_
  intro h3 tk3 g3 v3 tab3 hx3 h50 ht3 hg3 rp3
  obtain ⟨imm3, y3, S3, z3⟩ := S.called50 At.here hx3 h50
  have B3 : Base w imm3 := B.ext y3
  have rp := Rep.ext z3 _ _ rp3
  simp only [Rep] at rp
  obtain ⟨pa, pvs, np, rfl, gp, hp⟩ := rp
  have x13 : Ext imm h3 := y3.trans S3.keep
  clear rp3 z3 hx3
  walk_at "B go"
  all_goals first | refine ⟨x13, ?_⟩ | skip
  have hok3 := partsOf_ok _ hw
  have hpn := parts_len (judgeP (c0 % 7))
  have hjl : (judgeP (c0 % 7)).length = 3 := rfl
  clear S B
  refine spec_taken (k := k + 30) (parts := partsOf (judgeP (c0 % 7))) (S3.got gp) (Reps.ext S3.keep _ _ hp) hok3 (by omega) (by omega) (B3.ext S3.keep) (r.le (by omega)) ?_
  intro h4 tk4 v4 x4 rp4
  obtain ⟨imm4, y4, S4, z4⟩ := S3.called x4
  have B4 : Base w imm4 := B3.ext y4
  have rp := Rep.ext z4 _ _ rp4
  simp only [Rep] at rp
  obtain ⟨la, lvs, nl, rfl, gl, hl4⟩ := rp
  have x34 : Ext imm3 h4 := y4.trans S4.keep
  clear rp4 z4 S3 x4 B3
  walk_at "B go"
  rename St _ _ _ _ _ => S5
  obtain ⟨imm5, x5, S6, g5⟩ := S5.freeze0
  obtain ⟨imm6, x6, S7, g6⟩ := S6.freeze0
  have B6 : Base w imm6 := B4.ext (x5.trans x6)
  have gf6 := x6 _ _ (x5 _ _ (y4 _ _ (y3 _ _ gf)))
  have hf6 : Reps imm6 (natsD judgeL) fvs := Reps.ext (y3.trans (y4.trans (x5.trans x6))) _ _ hf
  have hitems : Reps imm6 (itemsD (judgeP (c0 % 7))) [Value.none, Value.ref _, Value.none] := Reps.cons Rep.mkNone (Reps.cons (Rep.mkTup g6 (Reps.cons (Rep.mkList gf6 hf6) (Reps.cons (Rep.mkBool rfl) Reps.nil))) (Reps.cons Rep.mkNone Reps.nil))
  clear S4 B4 S5 S6
  refine spec_told (k := k + 30) (ps := judgeP (c0 % 7)) (S7.got (x6 _ _ g5)) (Reps.ext S7.keep _ _ hitems) o1 (by simp [judgeP, weightPs, weightP, judgeL]) (by omega) (by omega) htx (B6.ext S7.keep) (r.le (by omega)) ?_
  intro h8 tk8 v8 x8 rp8
  obtain ⟨imm8, y8, S8, z8⟩ := S7.called x8
  have rp := Rep.ext z8 _ _ rp8
  simp only [Rep] at rp
  obtain ⟨lb, lws, nb, rfl, gl8, hl8⟩ := rp
  have y48 : Ext imm4 imm8 := x5.trans (x6.trans y8)
  refine ke_eq_ints (lst_of (S8.got (y48 _ _ gl))) (lst_of (S8.got gl8)) (ints_are (Reps.ext y48 _ _ hl4)) (ints_are hl8) (by have := r.2.2; show A.units + 64 < 9900; omega) ?_
  rw [show decide (((takenN (partsOf (judgeP (c0 % 7))) text).map fun (n : Nat) => (n : Int)) = (toldN (judgeP (c0 % 7)) text).map fun (n : Nat) => (n : Int)) = true by rw [decide_eq_true_eq]; exact ints_inj (plain_law _ _ o1)]
  exact hQ imm8 _ _ _ g3 tab3 (y3.trans (y4.trans y48)) S8 ht3 hg3
end
end
theorem flush_58 : True := by first | walk1 | trivial
noncomputable section
/-! law: its body -/
section
variable {w : World} {A : Around} {s : Shared} {E : Value → Shared → Prop} {imm : Heap} {L : Addr} {m : Str → Option Value} {mu : List (Addr × Obj)} {k : Nat}
theorem law_body {f : Addr} {cd : Value} {sa : Addr} {is : List Int} {svs : List Value} {ks : Nat} {tab : Array Value} {Q : Flow → Shared → Prop} (r : Room A (k + 40))
    (S : St imm L m [(L + 1, cellO none), (50, tabO tab)] s.heap) (B : Base w imm) (ht : TriplesOk tab.toList) (m1 : m "script" = some (.ref sa)) (hs : imm.get? sa = some (lstO svs ks)) (hr : Reps imm (is.map Mine.D.int) svs) (hl : is.length ≤ 63)
    (hQ : ∀ imm' h' m' tk g' tab', Ext imm imm' → St imm' L m' [(50, tabO tab')] h' → TriplesOk tab'.toList → (AllBare s.gens → AllBare g') → Q (.ret (.bool true)) { s with heap := h', toks := tk, gens := g' }) :
    wpAny (MM w) A (execs (bodyP 29) (lawEnv f cd L)) Q E s := by
  have h200 : 20000 ≤ sizeLine := Nat.le_of_ble_eq_true rfl
  conv => arg 3; arg 1; whnf
  obtain ⟨X0, h0⟩ : ∃ x, x = (bodyP 29)[0]?.getD default := ⟨_, rfl⟩
  obtain ⟨X1, h1⟩ : ∃ x, x = (bodyP 29)[1]?.getD default := ⟨_, rfl⟩
  obtain ⟨RS, h2⟩ : ∃ x, x = (bodyP 29).drop 2 := ⟨_, rfl⟩
  change wpAny _ _ (execs ((bodyP 29)[0]?.getD default :: (bodyP 29)[1]?.getD default :: (bodyP 29).drop 2) _) _ _ _
  rw [← h0, ← h1, ← h2]
  walk_at "B go"
  subst h0
  refine law_cells r.1 S B m1 hs hr hl ?_
  intro imm1 g1 m1' tk1 cells ca cvs kc x1 c1 c2 c3 S1 gc rc
  obtain ⟨imm2, x2, S2, gcell⟩ := S1.freeze0
  have B2 : Base w imm2 := B.ext (x1.trans x2)
  have gc2 := x2 _ _ gc
  have rc2 := Reps.ext x2 _ _ rc
  walk_at "B go"
  subst h1
  refine law_text (s := { s with heap := g1, toks := tk1 }) (k := k + 36) (r.le (by omega)) S2 B2 gcell gc2 rc2 c1 c2 ?_
  intro imm3 g3 m3 tk3 t3 x3 S3 e3 k3
  have B3 : Base w imm3 := B2.ext x3
  have gc3 := x3 _ _ gc2
  have rc3 := Reps.ext x3 _ _ rc2
  have hcell3 := x3 _ _ gcell
  walk_at "B go"
  subst h2
  have htl : (cells.map fun c => signN (c / 6)).length ≤ 6 := by simpa using c2
  have htx : ∀ c ∈ cells.map fun c => signN (c / 6), c ≤ 1114111 := by
    intro c hc
    obtain ⟨z, _, rfl⟩ := List.mem_map.mp hc
    exact signN_le _
  refine law_first (s := { s with heap := g3, toks := tk3 }) (k := k) r S3 B3 ht hcell3 gc3 rc3 c1 c2 e3 htl htx ?_
  intro imm4 g4 m4 tk4 gn4 tab4 x4 S4 ht4 hg4 k4
  have B4 : Base w imm4 := B3.ext x4
  obtain ⟨c0, cr, rfl⟩ := List.exists_cons_of_ne_nil c3
  simp only [List.map_cons, Reps, Rep] at rc3
  obtain ⟨_, cvr, rfl, ⟨t0, rfl⟩, rcr⟩ := rc3
  have hcr : cvr.length ≤ 6 := by have := rcr.length; simp at this c2; omega
  refine law_judge (s := { s with heap := g4, toks := tk4, gens := gn4 }) (k := k) r S4 B4 (x4 _ _ hcell3) (x4 _ _ gc3) (c1 c0 (.head _)) hcr ?_
  intro imm5 g5 m5 tk5 fa fvs kf t5 x5 S5 e5 gf rf e6 k5
  refine law_last (s := { s with heap := g5, toks := tk5, gens := gn4 }) (k := k) (c0 := c0) r S5 (B4.ext x5) ht4 (by rw [k5 _ (by decide) (by decide), k4 _ (by decide)]; exact e3) e5 gf rf (by rw [← judge_text]; exact e6) ?_ htl htx ?_
  · have hp := patText_len (ps := judgeP (c0 % 7)) (fun p hp => (judge_ok _ p hp).1)
    have hw : weightPs (judgeP (c0 % 7)) = 7 := by simp [judgeP, weightPs, weightP, judgeL]
    show (patText _).length ≤ 10000
    omega
  · intro imm6 g6 m6 tk6 gn6 tab6 x6 S6 ht6 hg6
    exact hQ imm6 _ _ _ gn6 tab6 (x1.trans (x2.trans (x3.trans (x4.trans (x5.trans x6))))) S6 ht6 (fun q => hg6 (hg4 q))
end
end
theorem flush_59 : True := by first | walk1 | trivial
noncomputable section
/-! the call of law -/
section
variable {w : World} {A : Around} {s : Shared} {E : Value → Shared → Prop} {Q : Value → Shared → Prop} {k : Nat}
noncomputable def fdLaw (pm cd doc : Value) : FuncData := { docDef dLaw.name dLaw.params dLaw.body dLaw.scope pm cd doc with defaults := .none, kwdefaults := .none }
theorem spec_law {a sa : Addr} {o : Obj} {pm cd doc : Value} {is : List Int} {svs : List Value} {ks : Nat} {tab : Array Value} (ho : s.heap.get? a = some o) (hd : o.data = .func (fdLaw pm cd doc)) (hcd : s.heap.CodeRec cd dLaw.name)
    (h50 : s.heap.get? 50 = some (tabO tab)) (ht : TriplesOk tab.toList) (hs : s.heap.get? sa = some (lstO svs ks)) (hsa : sa ≠ 50) (hr : Reps (hideAll s.heap [50]) (is.map Mine.D.int) svs) (hl : is.length ≤ 63) (B : Base w s.heap) (r : Room A (k + 41))
    (hQ : ∀ h' tk g' tab', (∀ b o, b ≠ 50 → s.heap.get? b = some o → h'.get? b = some o) → h'.get? 50 = some (tabO tab') → TriplesOk tab'.toList → (AllBare s.gens → AllBare g') → Q (.bool true) { s with heap := h', toks := tk, gens := g' }) :
    wpAny (MM w) A (call (.ref a) [.ref sa]) Q E s := by
  refine call_defC B (r.le (by omega) : Room A (k + 40 + 1)) ho hd hcd (body := bodyP 29) (binds := [("script", .ref sa)]) rfl rfl rfl ?_ rfl rfl rfl
  intro h₀ S
  have S0 : St s.heap s.heap.objs.size (fun _ => none) [(s.heap.objs.size + 1, cellO none)] h₀ := S
  have e : EnvOk (callEnvC (fdLaw pm cd doc) s.heap.objs.size a) s.heap.objs.size := ⟨rfl, rfl, rfl, rfl⟩
  have h50lt := Heap.lt_size h50
  show wpAny (MM w) A.in1 (storeName _ _ _) _ Bot _
  refine st_local S0 e (by rfl) fun h1 S1 => ⟨S1.keep, ?_⟩
  have hcell := S1.mem _ (.head _)
  have S2 : St (hideAll s.heap [50]) s.heap.objs.size _ [(s.heap.objs.size + 1, cellO none), (50, tabO tab)] h1 :=
    ⟨S1.ns, fun b o e => S1.keep _ _ (of_hideAll _ e), by
      cases q : (hideAll s.heap [50]).get? s.heap.objs.size with
      | none => rfl
      | some o => exact absurd (Heap.lt_size (of_hideAll _ q)) (Nat.lt_irrefl _), fun p hp => by
      rcases List.mem_cons.mp hp with rfl | hp
      · refine ⟨hcell.1, hcell.2.1, ?_⟩
        cases q : (hideAll s.heap [50]).get? (s.heap.objs.size + 1) with
        | none => rfl
        | some o => exact absurd (Heap.lt_size (of_hideAll _ q)) (Nat.not_lt.mpr (Nat.le_succ _))
      · rw [List.mem_singleton.mp hp]
        exact ⟨S1.keep _ _ h50, Nat.ne_of_lt h50lt, hideAll_none _ (.head _)⟩, by
      have : s.heap.objs.size + 1 ≠ 50 := Nat.ne_of_gt (Nat.lt_succ_of_lt h50lt)
      simpa using this⟩
  show wpAny _ _ (execs (bodyP 29) (lawEnv a cd s.heap.objs.size)) _ _ _
  refine law_body (k := k) (s := { s with heap := h1, toks := _ }) (r.deeper _) S2 (base_hide B) ht (if_pos rfl) (hideAll_get _ hs (fun q => hsa (List.mem_singleton.mp q))) hr hl ?_
  intro imm' h' m' tk g' tab' x S3 ht3 hg3
  exact hQ h' tk g' tab' (fun b o hb e => S3.keep _ _ (x _ _ (hideAll_get _ e (fun q => hb (List.mem_singleton.mp q))))) (S3.mem _ (.head _)).1 ht3 hg3
end
end
theorem flush_60 : True := by first | walk1 | trivial
noncomputable section
/-! the premise of head: what the top gives -/
section
variable {w : World}
theorem lookup_filter {a : Addr} {o : Obj} : ∀ l : Frag, (l.filter fun p => p.1 != 50).lookup a = some o → l.lookup a = some o
  | [], h => by cases h
  | (b, x) :: r, h => by
    rw [List.filter_cons] at h
    by_cases hab : a = b
    · subst hab
      by_cases hb : a = 50
      · subst hb
        have : ∀ l : Frag, (l.filter fun p => p.1 != 50).lookup 50 = none := fun l => by
          induction l with
          | nil => rfl
          | cons p r ih =>
            rw [List.filter_cons]
            split
            · rename_i h
              obtain ⟨c, y⟩ := p
              have hc : (50 == c) = false := by
                have : c ≠ 50 := by simpa using h
                rw [beq_eq_false_iff_ne]; exact fun q => this q.symm
              rw [List.lookup_cons, hc]; exact ih
            · exact ih
        rw [if_neg (by simp), this] at h; cases h
      · rw [if_pos (by simpa using hb)] at h
        simpa [List.lookup_cons] using h
    · have hne : (a == b) = false := by rw [beq_eq_false_iff_ne]; exact hab
      rw [List.lookup_cons, hne]
      split at h
      · rw [List.lookup_cons, hne] at h; exact lookup_filter r h
      · exact lookup_filter r h
theorem base_of {h : Heap} {mg mb : Str → Option Value} {s₀ : Shared} (G : Ground qv looseV rowP.records (XL qv []) w s₀ mg mb h) (K : InK Kf w h) : Base w h := by
  have hb4 : mg "__builtins__" = some (.ref 4) := by
    obtain ⟨o, es, ep, g, hd, _, hf⟩ := G.T.g
    have hk : (Kb w.params).lookup 3 = some _ := rfl
    have g3 := K 3 _ (lookup_filter _ hk)
    have e := g.symm.trans g3
    cases e
    cases hd
    rw [← hf]
    exact gm_builtins w.params
  refine ⟨fun a o e => K a o (lookup_filter _ e), ⟨mb, G.T.b, G.T.builtins⟩, G.T.nolimit, ?_⟩
  obtain ⟨bm, ob, e1, _, e2, e3, e4, e5⟩ := G.T.bmain
  have : bm = 4 := by
    have := e1.symm.trans hb4
    injection this with this
    injection this
  subst this
  exact ⟨ob, e2, e3, e4, e5⟩
theorem table_of {h : Heap} (K : InK Kf w h) : h.get? 50 = some (tabO #[]) := K 50 _ (by rfl)
end
end
theorem flush_61 : True := by first | walk1 | trivial
noncomputable section
/-! the premise of head -/
theorem reps_ints {P : Params} {h h' : Heap} : ∀ {is : List Int} {vs : List Value}, WellAll P h' vs (ofPys (is.map PyData.int)) → Reps h (is.map Mine.D.int) vs
  | [], _, e => by
    simp only [List.map_nil, ofPys] at e
    cases e; exact Reps.nil
  | i :: is, _, e => by
    simp only [List.map_cons, ofPys, ofPy] at e
    cases e with
    | cons a b =>
      cases a
      exact Reps.cons (by simp only [Rep]; exact ⟨_, rfl⟩) (reps_ints b)
theorem old_of {w : World} {h h' : Heap} {tab' : Array Value} (K : InK Kf w h) (x : ∀ b o, b ≠ 50 → h.get? b = some o → h'.get? b = some o) (x50 : h'.get? 50 = some (tabO tab')) : OldK h h' := by
  have h50 := table_of K
  refine ⟨fun b o e => ?_, fun b o e => ?_⟩
  · by_cases hb : b = 50
    · subst hb
      rw [h50] at e; cases e
      have h54 := K 54 (o54_0 w.params) (by rfl)
      exact .inr (.inl ⟨⟨54, _, _, h54, rfl, rfl, rfl⟩, rfl, #[], tab', rfl, by rw [x50]; simp [tabO]⟩)
    · exact .inl (x b o hb e)
  · by_cases hb : b = 50
    · subst hb; exact ⟨_, x50⟩
    · exact ⟨_, x b o hb e⟩
theorem hc_law : WalkO qv looseV (XL qv []) hookF.says rowP dLaw kLaw (fun f vs => PySem.call f vs) := by
  intro w s₀ s₁ mg mb G Y a o pm cd doc dV kV ho hd hcd hD hmg hg args vals as hpre hlay hrd hwl hlo
  have K : InK Kf w s₁.heap := Y
  have B := base_of G K
  have h50 := table_of K
  have hdV : dV = .none := by
    rcases hD.pos with h | h
    · exact h.2
    · exact absurd (by rfl) h.1
  have hkV : kV = .none := by
    rcases hD.kw with h | h
    · exact h.2
    · exact absurd rfl h.1
  subst hdV hkV
  wrow_args hpre hlay hrd hwl hlo
  rename_i is hs1 hlay0 hL1 hr1 hl2 as4 as3 sa svs as0 hL ra w1 r0 hI hr hc1 hc2
  have w2 : Well w.params s₁.heap (Value.ref sa) (.list (ofPys (is.map PyData.int))) := by simpa [ofPy] using w1
  cases w2 with
  | @list _ vs _ hget hall =>
    have hsa : sa ≠ 50 := by
      rintro rfl
      rw [h50] at hget
      have := congrArg (fun o : Option Obj => o.map Obj.cls) hget
      simp at this
    have hl : is.length ≤ 63 := by
      have : ¬ (63 : Int) < is.length := by first | exact hc1 | simpa using hc1
      omega
    have r : Room callerA (0 + 41) := ⟨rfl, by decide +kernel, by decide +kernel⟩
    refine spec_law (s := s₁) ho hd hcd h50 trivial hget hsa (reps_ints hall) hl B r ?_
    intro h' tk g' tab' x x50 ht hbare
    refine ⟨.inl ⟨.bool true, .bool true, [], rfl, ?_, .bool _, ?_, fun _ => ⟨List.nodup_nil, fun _ h => by cases h⟩⟩, old_of K x x50, rfl, hbare (AllBare.of_eq hg)⟩
    · intro cls; rfl
    · wrow_post
end
end
end
noncomputable section
noncomputable section
set_option maxRecDepth 1000000
set_option maxHeartbeats 0
theorem head (hc : WalkO qv looseV (XL qv []) hookF.says rowP dLaw kLaw (fun f vs => PySem.call f vs)) : PySem.Challenge.rw_ij0078_01.Holds := by
  w_on
  o_law
  refine holds_open (q := qv) (loose := looseV) (Xt := XtV) (XP := XL qv []) (Yf := hookF.obs) (Ya := hookF.val) (YP := hookF.says) (d := dLaw) (kwd := kLaw) (N := 20000) ?hl hookF.of hookF.keeps (fun s e => xl_of s (Bool.and_eq_true_iff.mp e).1) XL.keeps ?h1 ?h2 ?h3 (fun s e => recFacts_of (Bool.and_eq_true_iff.mp e).2) (by rfl) (by first | assumption | decide +kernel) ?h4 ⟨rfl, rfl, rfl, rfl, rfl, by decide +kernel⟩ ?hw ?hc
  case hl => exact leftP
  case h1 => exact dLaw_eq
  case h2 => kernel_rfl
  case h3 => kernel_rfl
  case h4 => decide +kernel
  case hw => w_witness2
  case hc => exact hc
end
end
end Mine
theorem PySem.Challenge.cw_ij0078_01_holds : PySem.Challenge.rw_ij0078_01.Holds :=
  Mine.head Mine.hc_law
