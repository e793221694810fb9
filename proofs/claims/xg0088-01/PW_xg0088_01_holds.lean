import PyProof.Rows.All
import Wide.All
import OpenK.AllK
import Wide.FinOn
import Lean
import PySem.Challenge.RW_xg0088_01
set_option Elab.async false
set_option maxRecDepth 100000
set_option maxHeartbeats 4000000
set_option linter.all false
set_option tactic.hygienic false
open PySem PySem.Spec PySem.Calls PyProof.Rows PySem.W PySem.W.X
namespace Mine
open _root_.Int renaming ofNat→U
open PySem renaming Shared→aa,Params→ae,wpAny_bind→af,World→ag,Around→ai
open _root_.Nat renaming le_add_left→ab,le_trans→ad,lt_of_lt_of_le→ah,le_refl→al,le_of_lt→au,le_add_right→aw,ne_of_lt→ay,lt_trans→aC,lt_of_le_of_lt→aH,ne_of_gt→aJ,le_succ→aK,lt_succ_self→aO,succ_ne_zero→aQ
open _root_.List renaming length_map→ak,length_append→aA,mem_append_left→aB,nodup_nil→aD,mem_append_right→aE,getElem?_eq_getElem→aG,getElem?_map→aI,mem_of_getElem?→aM
open PySem.Heap renaming lt_size→an
theorem and_t{a b:Bool}(h:a=true)(k:b=true):(a&&b)=true:=by rw [h,k];rfl
open PySem.W.Fast in
theorem said:OpenLaw.wellSaid PySem.Challenge.rw_xg0088_01=true:=by
  unfold OpenLaw.wellSaid OpenRow.wellSaid OpenRow.partSaid looksOpen
  rw [te10501279942588096481,te10792542408131684335,te11788848310118352699,te12749700546528644094,te12862048085361865435,te12879404354523853263,te13343964577679436407,te13582783067957832011,te14412699480532031325,te16286561074155671207,te17095254045102204799,te17119622794617984870,te17691160309236699985,te17868728402115742887,te18344453789297297638,te2357444279172408678,te3471404346716756564,te4274047373036748609,te482687673346738481,te4857012375875476094,te5318747976498570220,te5923862056798008813,te6984425678791042302,te7723801398212525404,te797321630700447069,te8179353310426384613,te8326940854005059898,te8377067652309620493,te9558739934217749035,te9572597257264208301,te9706382859710513879,te9807087744658564304,R.allR_eq,R.mapR_eq,R.filterR_eq,named_eq]
  repeat' (with_reducible apply and_t)
  all_goals decide+kernel
noncomputable abbrev pw:Program:=PySem.Challenge.pw_xg0088_01
noncomputable def pb:List Stmt:=pw.main.body
noncomputable def S(x:String):Str:=Str.ofString x
noncomputable def en(P:ae)(x:Str)(t:Nat)(v:Value):DictEntry:=⟨PyData.keyHash P x,.str x t,v⟩
noncomputable def aF:List Stmt→Nat→Stmt
  |[],_=> .Pass ⟨0,0,0,0⟩
  |s::r,i=>match Nat.beq i 0 with
    |true=>s
    |false=>aF r (Nat.sub i 1)
noncomputable def e0:Expr:= .Constant .none 0 ⟨0,0,0,0⟩
noncomputable def sP:Stmt→Expr×List Stmt×List Stmt×Str×Arguments×Scope
  | .If t b o _=>(t,b,o,default)
  | .While t b o _=>(t,b,o,default)
  | .For t _ b o _=>(t,b,o,default)
  | .Assign _ v _=>(v,[],[],default)
  | .ClassDef _ _ _ b ..=>(e0,b,[],default)
  | .FunctionDef n a b _ _ _ s ..=>(e0,b,[],n,a,s)
  |_=>(e0,[],[],default)
noncomputable def sT(s:Stmt):Expr:=(sP s).1
noncomputable def sB(s:Stmt):List Stmt:=(sP s).2.1
noncomputable def sO(s:Stmt):List Stmt:=(sP s).2.2.1
noncomputable def xP:Expr→Expr×List Expr×List Comprehension×Scope
  | .ListComp e g s _=>(e,[],g,s)
  | .Compare l _ r _=>(l,r,[],default)
  | .Call f a _ _=>(f,a,[],default)
  |e=>(e,[],[],default)
noncomputable def fnD(st:Stmt)(qual:Str)(globals:Addr)(closure:List (Str×Addr))(defaults kwdefaults doc pyModule:Value)(annotations:Option Addr)(code closureTuple:Value)(builtins:Addr):FuncData:=
  {name:=(sP st).2.2.2.1,qualname:=qual,params:=(sP st).2.2.2.2.1,body:= .stmts (sB st),scope:=(sP st).2.2.2.2.2,globals,closure,defaults,kwdefaults,doc,pyModule,annotations,code,closureTuple,builtins}
noncomputable def tK(a:Array Value):Obj:=⟨.type "tuple",none,.seq a 0,#[]⟩
noncomputable def cK(a:Array Value):Obj:=⟨.type "code",none,.fields a,#[]⟩
noncomputable def sK(x:String)(t:Nat):Value:= .str (S x) t
noncomputable def iK(n:Int):Value:= .int n 0
noncomputable def o2(P:ae):Obj:=⟨.none,none,(.dict #[] 0),#[]⟩
noncomputable def o3(P:ae):Obj:=⟨(.type "dict"),none,(.dict #[en P (S "__name__") 165 (sK "law_xg0088_01" 546),en P (S "__doc__") 166 .none,en P (S "__package__") 167 .none,en P (S "__loader__") 168 (.builtin "__main__.__loader__#opaque"),en P (S "__spec__") 169 .none,en P (S "__annotations__") 170 (.ref 6),en P (S "__builtins__") 171 (.ref 4),en P (S "__file__") 173 (sK "/claim/cut.py" 172),en P (S "__cached__") 174 .none,en P (S "_wall") 193 (.ref 21),en P (S "NL") 197 (sK "\n" 196),en P (S "EMPTYSTRING") 199 (sK "" 198),en P (S "_ValueFormatter") 307 (.ref 94),en P (S "_Accumulator") 403 (.ref 178),en P (S "add") 413 (.ref 189),en P (S "floordiv") 421 (.ref 196),en P (S "mul") 429 (.ref 203),en P (S "sub") 437 (.ref 210),en P (S "countOf") 447 (.ref 217),en P (S "Whitespace") 545 (.ref 279),en P (S "_law_ranks") 563 (.ref 290),en P (S "_law_line") 578 (.ref 297),en P (S "_law_times") 586 (.ref 304),en P (S "_law_common") 594 (.ref 311),en P (S "_law_fold") 600 (.ref 316),en P (S "law") 606 (.ref 321)] 26),#[]⟩
noncomputable def o4(P:ae):Obj:=⟨(.type "module"),(some 0),.plain,#[]⟩
noncomputable def o5(P:ae):Obj:=⟨(.type "module"),(some 3),.plain,#[]⟩
noncomputable def o6(P:ae):Obj:=⟨(.type "dict"),none,(.dict #[] 0),#[]⟩
noncomputable def o7(P:ae):Obj:=tK #[]
noncomputable def o8(P:ae):Obj:=⟨.none,none,(.fields #[]),#[]⟩
noncomputable def o9(P:ae):Obj:=cK #[(sK "<module>" 176),(sK "<module>" 177),(sK "/claim/cut.py" 178),(iK 1),(iK 0),(iK 0),(iK 0),(iK 0),(.ref 7),(.bool false),(iK 175),(.ref 8),.none,.none,.none,.none,(iK 179),(iK 1),(sK "/claim/cut.py" 180)]
noncomputable def o10(P:ae):Obj:=⟨(.type "frame"),none,.plain,#[(some (.ref 9)),(some (.ref 3)),(some (.ref 3)),none,(some (sK "__main__" 164)),none,(some (.ref 0))]⟩
noncomputable def o11(P:ae):Obj:=tK #[]
noncomputable def o12(P:ae):Obj:=⟨.none,none,(.fields #[(iK 1),(iK 0),(.ref 20),(iK 7),(iK 0),(.ref 27),(iK 73),(iK 0),(.ref 105),(iK 110),(iK 0),(.ref 188),(iK 112),(iK 0),(.ref 195),(iK 114),(iK 0),(.ref 202),(iK 116),(iK 0),(.ref 209),(iK 118),(iK 0),(.ref 216),(iK 125),(iK 0),(.ref 223),(iK 173),(iK 0),(.ref 289),(iK 181),(iK 0),(.ref 296),(iK 188),(iK 0),(.ref 303),(iK 190),(iK 0),(.ref 310),(iK 194),(iK 0),(.ref 315),(iK 229),(iK 0),(.ref 320)]),#[]⟩
noncomputable def o13(P:ae):Obj:=cK #[(sK "<module>" 182),(sK "<module>" 183),(sK "/claim/cut.py" 184),(iK 1),(iK 0),(iK 0),(iK 0),(iK 0),(.ref 11),(.bool false),(iK 181),(.ref 12),.none,.none,.none,.none,(iK 185),(iK 1),(sK "/claim/cut.py" 186)]
noncomputable def o14(P:ae):Obj:=⟨(.type "frame"),none,.plain,#[(some (.ref 13)),(some (.ref 3)),(some (.ref 3)),none,(some (sK "__main__" 164)),none,(some (.ref 0))]⟩
noncomputable def o15(P:ae):Obj:=tK #[]
noncomputable def o16(P:ae):Obj:=⟨.none,none,(.fields #[]),#[]⟩
noncomputable def o17(P:ae):Obj:=tK #[(sK "k" 190)]
noncomputable def o18(P:ae):Obj:=tK #[]
noncomputable def o19(P:ae):Obj:=⟨.none,none,(.func (fnD (aF pb 0) (S "_wall") 0 [] .none .none .none .none none .none .none 0)),#[]⟩
noncomputable def o20(P:ae):Obj:=cK #[(sK "_wall" 187),(sK "_wall" 188),(sK "/claim/cut.py" 189),(iK 1),(iK 1),(iK 0),(iK 0),(iK 3),(.ref 15),(.bool true),(iK 181),(.ref 16),.none,(.ref 17),(.ref 18),(.ref 19),(iK 191),(iK 1),(sK "/claim/cut.py" 192)]
noncomputable def o21(P:ae):Obj:=⟨(.type "function"),none,(.func (fnD (aF pb 0) (S "_wall") 3 [] .none .none .none (sK "__main__" 164) none (.ref 20) .none 0)),#[]⟩
noncomputable def o22(P:ae):Obj:=tK #[]
noncomputable def o23(P:ae):Obj:=⟨(.type "builtin_function_or_method"),none,(.fields #[(.builtin "type.__prepare__"),(.type "type")]),#[]⟩
noncomputable def o24(P:ae):Obj:=⟨(.type "dict"),none,(.dict #[en P (S "__module__") 207 (sK "cpy313.email.header" 194),en P (S "__qualname__") 209 (sK "_ValueFormatter" 208),en P (S "__firstlineno__") 211 (.int 7 210),en P (S "__init__") 222 (.ref 35),en P (S "_str") 230 (.ref 42),en P (S "__str__") 237 (.ref 49),en P (S "newline") 245 (.ref 56),en P (S "add_transition") 252 (.ref 63),en P (S "feed") 262 (.ref 70),en P (S "_maxlengths") 269 (.ref 77),en P (S "_ascii_split") 279 (.ref 84),en P (S "_append_chunk") 293 (.ref 91),en P (S "__static_attributes__") 300 (.ref 92)] 13),#[]⟩
noncomputable def o25(P:ae):Obj:=tK #[]
noncomputable def o26(P:ae):Obj:=⟨.none,none,(.fields #[(iK 9),(iK 4),(.ref 34),(iK 17),(iK 4),(.ref 41),(iK 21),(iK 4),(.ref 48),(iK 24),(iK 4),(.ref 55),(iK 35),(iK 4),(.ref 62),(iK 38),(iK 4),(.ref 69),(iK 41),(iK 4),(.ref 76),(iK 44),(iK 4),(.ref 83),(iK 47),(iK 4),(.ref 90)]),#[]⟩
noncomputable def o27(P:ae):Obj:=cK #[(sK "_ValueFormatter" 202),(sK "_ValueFormatter" 203),(sK "/claim/cut.py" 204),(iK 7),(iK 0),(iK 0),(iK 0),(iK 0),(.ref 25),(.bool false),(iK 181),(.ref 26),.none,.none,.none,.none,(iK 205),(iK 7),(sK "/claim/cut.py" 206)]
noncomputable def o28(P:ae):Obj:=⟨(.type "frame"),none,.plain,#[(some (.ref 27)),(some (.ref 3)),(some (.ref 24)),none,(some (sK "cpy313.email.header" 194)),none,(some (.ref 0))]⟩
noncomputable def o29(P:ae):Obj:=tK #[]
noncomputable def o30(P:ae):Obj:=⟨.none,none,(.fields #[]),#[]⟩
noncomputable def o31(P:ae):Obj:=tK #[(sK "self" 215),(sK "headerlen" 216),(sK "maxlen" 217),(sK "continuation_ws" 218),(sK "splitchars" 219)]
noncomputable def o32(P:ae):Obj:=tK #[]
noncomputable def o33(P:ae):Obj:=⟨.none,none,(.func (fnD (aF (sB (aF pb 4)) 0) (S "_ValueFormatter.__init__") 0 [] .none .none .none .none none .none .none 0)),#[]⟩
noncomputable def o34(P:ae):Obj:=cK #[(sK "__init__" 212),(sK "_ValueFormatter.__init__" 213),(sK "/claim/cut.py" 214),(iK 9),(iK 5),(iK 0),(iK 0),(iK 3),(.ref 29),(.bool true),(iK 181),(.ref 30),.none,(.ref 31),(.ref 32),(.ref 33),(iK 220),(iK 9),(sK "/claim/cut.py" 221)]
noncomputable def o35(P:ae):Obj:=⟨(.type "function"),none,(.func (fnD (aF (sB (aF pb 4)) 0) (S "_ValueFormatter.__init__") 3 [] .none .none .none (sK "cpy313.email.header" 194) none (.ref 34) .none 0)),#[]⟩
noncomputable def o36(P:ae):Obj:=tK #[]
noncomputable def o37(P:ae):Obj:=⟨.none,none,(.fields #[]),#[]⟩
noncomputable def o38(P:ae):Obj:=tK #[(sK "self" 226),(sK "linesep" 227)]
noncomputable def o39(P:ae):Obj:=tK #[]
noncomputable def o40(P:ae):Obj:=⟨.none,none,(.func (fnD (aF (sB (aF pb 4)) 1) (S "_ValueFormatter._str") 0 [] .none .none .none .none none .none .none 0)),#[]⟩
noncomputable def o41(P:ae):Obj:=cK #[(sK "_str" 223),(sK "_ValueFormatter._str" 224),(sK "/claim/cut.py" 225),(iK 17),(iK 2),(iK 0),(iK 0),(iK 3),(.ref 36),(.bool true),(iK 181),(.ref 37),.none,(.ref 38),(.ref 39),(.ref 40),(iK 228),(iK 17),(sK "/claim/cut.py" 229)]
noncomputable def o42(P:ae):Obj:=⟨(.type "function"),none,(.func (fnD (aF (sB (aF pb 4)) 1) (S "_ValueFormatter._str") 3 [] .none .none .none (sK "cpy313.email.header" 194) none (.ref 41) .none 0)),#[]⟩
noncomputable def o43(P:ae):Obj:=tK #[]
noncomputable def o44(P:ae):Obj:=⟨.none,none,(.fields #[]),#[]⟩
noncomputable def o45(P:ae):Obj:=tK #[(sK "self" 234)]
noncomputable def o46(P:ae):Obj:=tK #[]
noncomputable def o47(P:ae):Obj:=⟨.none,none,(.func (fnD (aF (sB (aF pb 4)) 2) (S "_ValueFormatter.__str__") 0 [] .none .none .none .none none .none .none 0)),#[]⟩
noncomputable def o48(P:ae):Obj:=cK #[(sK "__str__" 231),(sK "_ValueFormatter.__str__" 232),(sK "/claim/cut.py" 233),(iK 21),(iK 1),(iK 0),(iK 0),(iK 3),(.ref 43),(.bool true),(iK 181),(.ref 44),.none,(.ref 45),(.ref 46),(.ref 47),(iK 235),(iK 21),(sK "/claim/cut.py" 236)]
noncomputable def o49(P:ae):Obj:=⟨(.type "function"),none,(.func (fnD (aF (sB (aF pb 4)) 2) (S "_ValueFormatter.__str__") 3 [] .none .none .none (sK "cpy313.email.header" 194) none (.ref 48) .none 0)),#[]⟩
noncomputable def o50(P:ae):Obj:=tK #[]
noncomputable def o51(P:ae):Obj:=⟨.none,none,(.fields #[]),#[]⟩
noncomputable def o52(P:ae):Obj:=tK #[(sK "self" 241),(sK "end_of_line" 242)]
noncomputable def o53(P:ae):Obj:=tK #[]
noncomputable def o54(P:ae):Obj:=⟨.none,none,(.func (fnD (aF (sB (aF pb 4)) 3) (S "_ValueFormatter.newline") 0 [] .none .none .none .none none .none .none 0)),#[]⟩
noncomputable def o55(P:ae):Obj:=cK #[(sK "newline" 238),(sK "_ValueFormatter.newline" 239),(sK "/claim/cut.py" 240),(iK 24),(iK 1),(iK 0),(iK 0),(iK 3),(.ref 50),(.bool true),(iK 181),(.ref 51),.none,(.ref 52),(.ref 53),(.ref 54),(iK 243),(iK 24),(sK "/claim/cut.py" 244)]
noncomputable def o56(P:ae):Obj:=⟨(.type "function"),none,(.func (fnD (aF (sB (aF pb 4)) 3) (S "_ValueFormatter.newline") 3 [] .none .none .none (sK "cpy313.email.header" 194) none (.ref 55) .none 0)),#[]⟩
noncomputable def o57(P:ae):Obj:=tK #[]
noncomputable def o58(P:ae):Obj:=⟨.none,none,(.fields #[]),#[]⟩
noncomputable def o59(P:ae):Obj:=tK #[(sK "self" 249)]
noncomputable def o60(P:ae):Obj:=tK #[]
noncomputable def o61(P:ae):Obj:=⟨.none,none,(.func (fnD (aF (sB (aF pb 4)) 4) (S "_ValueFormatter.add_transition") 0 [] .none .none .none .none none .none .none 0)),#[]⟩
noncomputable def o62(P:ae):Obj:=cK #[(sK "add_transition" 246),(sK "_ValueFormatter.add_transition" 247),(sK "/claim/cut.py" 248),(iK 35),(iK 1),(iK 0),(iK 0),(iK 3),(.ref 57),(.bool true),(iK 181),(.ref 58),.none,(.ref 59),(.ref 60),(.ref 61),(iK 250),(iK 35),(sK "/claim/cut.py" 251)]
noncomputable def o63(P:ae):Obj:=⟨(.type "function"),none,(.func (fnD (aF (sB (aF pb 4)) 4) (S "_ValueFormatter.add_transition") 3 [] .none .none .none (sK "cpy313.email.header" 194) none (.ref 62) .none 0)),#[]⟩
noncomputable def o64(P:ae):Obj:=tK #[]
noncomputable def o65(P:ae):Obj:=⟨.none,none,(.fields #[]),#[]⟩
noncomputable def o66(P:ae):Obj:=tK #[(sK "self" 256),(sK "fws" 257),(sK "string" 258),(sK "charset" 259)]
noncomputable def o67(P:ae):Obj:=tK #[]
noncomputable def o68(P:ae):Obj:=⟨.none,none,(.func (fnD (aF (sB (aF pb 4)) 5) (S "_ValueFormatter.feed") 0 [] .none .none .none .none none .none .none 0)),#[]⟩
noncomputable def o69(P:ae):Obj:=cK #[(sK "feed" 253),(sK "_ValueFormatter.feed" 254),(sK "/claim/cut.py" 255),(iK 38),(iK 4),(iK 0),(iK 0),(iK 3),(.ref 64),(.bool true),(iK 181),(.ref 65),.none,(.ref 66),(.ref 67),(.ref 68),(iK 260),(iK 38),(sK "/claim/cut.py" 261)]
noncomputable def o70(P:ae):Obj:=⟨(.type "function"),none,(.func (fnD (aF (sB (aF pb 4)) 5) (S "_ValueFormatter.feed") 3 [] .none .none .none (sK "cpy313.email.header" 194) none (.ref 69) .none 0)),#[]⟩
noncomputable def o71(P:ae):Obj:=tK #[]
noncomputable def o72(P:ae):Obj:=⟨.none,none,(.fields #[]),#[]⟩
noncomputable def o73(P:ae):Obj:=tK #[(sK "self" 266)]
noncomputable def o74(P:ae):Obj:=tK #[]
noncomputable def o75(P:ae):Obj:=⟨.none,none,(.func (fnD (aF (sB (aF pb 4)) 6) (S "_ValueFormatter._maxlengths") 0 [] .none .none .none .none none .none .none 0)),#[]⟩
noncomputable def o76(P:ae):Obj:=cK #[(sK "_maxlengths" 263),(sK "_ValueFormatter._maxlengths" 264),(sK "/claim/cut.py" 265),(iK 41),(iK 1),(iK 0),(iK 0),(iK 3),(.ref 71),(.bool true),(iK 181),(.ref 72),.none,(.ref 73),(.ref 74),(.ref 75),(iK 267),(iK 41),(sK "/claim/cut.py" 268)]
noncomputable def o77(P:ae):Obj:=⟨(.type "function"),none,(.func (fnD (aF (sB (aF pb 4)) 6) (S "_ValueFormatter._maxlengths") 3 [] .none .none .none (sK "cpy313.email.header" 194) none (.ref 76) .none 0)),#[]⟩
noncomputable def o78(P:ae):Obj:=tK #[]
noncomputable def o79(P:ae):Obj:=⟨.none,none,(.fields #[]),#[]⟩
noncomputable def o80(P:ae):Obj:=tK #[(sK "self" 273),(sK "fws" 274),(sK "string" 275),(sK "splitchars" 276)]
noncomputable def o81(P:ae):Obj:=tK #[]
noncomputable def o82(P:ae):Obj:=⟨.none,none,(.func (fnD (aF (sB (aF pb 4)) 7) (S "_ValueFormatter._ascii_split") 0 [] .none .none .none .none none .none .none 0)),#[]⟩
noncomputable def o83(P:ae):Obj:=cK #[(sK "_ascii_split" 270),(sK "_ValueFormatter._ascii_split" 271),(sK "/claim/cut.py" 272),(iK 44),(iK 4),(iK 0),(iK 0),(iK 3),(.ref 78),(.bool true),(iK 181),(.ref 79),.none,(.ref 80),(.ref 81),(.ref 82),(iK 277),(iK 44),(sK "/claim/cut.py" 278)]
noncomputable def o84(P:ae):Obj:=⟨(.type "function"),none,(.func (fnD (aF (sB (aF pb 4)) 7) (S "_ValueFormatter._ascii_split") 3 [] .none .none .none (sK "cpy313.email.header" 194) none (.ref 83) .none 0)),#[]⟩
noncomputable def o85(P:ae):Obj:=tK #[]
noncomputable def o86(P:ae):Obj:=⟨.none,none,(.fields #[]),#[]⟩
noncomputable def o87(P:ae):Obj:=tK #[(sK "self" 283),(sK "fws" 284),(sK "string" 285),(sK "ch" 286),(sK "i" 287),(sK "prevpart" 288),(sK "part" 289),(sK "remainder" 290)]
noncomputable def o88(P:ae):Obj:=tK #[]
noncomputable def o89(P:ae):Obj:=⟨.none,none,(.func (fnD (aF (sB (aF pb 4)) 8) (S "_ValueFormatter._append_chunk") 0 [] .none .none .none .none none .none .none 0)),#[]⟩
noncomputable def o90(P:ae):Obj:=cK #[(sK "_append_chunk" 280),(sK "_ValueFormatter._append_chunk" 281),(sK "/claim/cut.py" 282),(iK 47),(iK 3),(iK 0),(iK 0),(iK 3),(.ref 85),(.bool true),(iK 181),(.ref 86),.none,(.ref 87),(.ref 88),(.ref 89),(iK 291),(iK 47),(sK "/claim/cut.py" 292)]
noncomputable def o91(P:ae):Obj:=⟨(.type "function"),none,(.func (fnD (aF (sB (aF pb 4)) 8) (S "_ValueFormatter._append_chunk") 3 [] .none .none .none (sK "cpy313.email.header" 194) none (.ref 90) .none 0)),#[]⟩
noncomputable def o92(P:ae):Obj:=tK #[(sK "_continuation_ws" 294),(sK "_continuation_ws_len" 295),(sK "_current_line" 296),(sK "_lines" 297),(sK "_maxlen" 298),(sK "_splitchars" 299)]
noncomputable def o93(P:ae):Obj:=⟨(.type "dict"),none,(.dict #[en P (S "__module__") 207 (sK "cpy313.email.header" 194),en P (S "__firstlineno__") 211 (.int 7 210),en P (S "__init__") 222 (.ref 35),en P (S "_str") 230 (.ref 42),en P (S "__str__") 237 (.ref 49),en P (S "newline") 245 (.ref 56),en P (S "add_transition") 252 (.ref 63),en P (S "feed") 262 (.ref 70),en P (S "_maxlengths") 269 (.ref 77),en P (S "_ascii_split") 279 (.ref 84),en P (S "_append_chunk") 293 (.ref 91),en P (S "__static_attributes__") 300 (.ref 92),en P (S "__dict__") 302 (.ref 95),en P (S "__weakref__") 304 (.ref 96),en P (S "__doc__") 305 .none] 4),#[]⟩
noncomputable def o94(P:ae):Obj:=⟨(.type "type"),none,(.cls {name:=(S "_ValueFormatter"),bases:=[(.type "object")],mro:=[(.ref 94),(.type "object")],ns:=93,qualname:=(S "_ValueFormatter"),hasDict:=true,slotNames:=[],subclasses:=[],abstract:=false,collection:=none,hasDel:=false}),#[none,none,(some (sK "_ValueFormatter" 200)),(some (sK "_ValueFormatter" 208)),(some (.builtin "object.__new__")),(some (.bool true))]⟩
noncomputable def o95(P:ae):Obj:=⟨(.type "getset_descriptor"),none,(.fields #[(sK "__dict__" 301),(.ref 94),(.builtin "function.__dict__"),(.builtin "function.__dict__#set")]),#[]⟩
noncomputable def o96(P:ae):Obj:=⟨(.type "getset_descriptor"),none,(.fields #[(sK "__weakref__" 303),(.ref 94),(.builtin "ExceptionGroup.__weakref__"),.none]),#[]⟩
noncomputable def o97(P:ae):Obj:=⟨(.type "super"),none,(.fields #[(.ref 94),(.ref 94),(.ref 94)]),#[]⟩
noncomputable def o98(P:ae):Obj:=⟨(.type "builtin_function_or_method"),none,(.fields #[(.builtin "object.__init_subclass__"),(.ref 94)]),#[]⟩
noncomputable def o99(P:ae):Obj:=tK #[(.type "list")]
noncomputable def o100(P:ae):Obj:=⟨(.type "builtin_function_or_method"),none,(.fields #[(.builtin "type.__prepare__"),(.type "type")]),#[]⟩
noncomputable def o101(P:ae):Obj:=⟨(.type "dict"),none,(.dict #[en P (S "__module__") 315 (sK "cpy313.email.header" 194),en P (S "__qualname__") 317 (sK "_Accumulator" 316),en P (S "__firstlineno__") 319 (.int 73 318),en P (S "__init__") 329 (.ref 115),en P (S "push") 338 (.ref 122),en P (S "pop_from") 348 (.ref 130),en P (S "pop") 356 (.ref 138),en P (S "__len__") 363 (.ref 145),en P (S "__str__") 370 (.ref 152),en P (S "reset") 378 (.ref 160),en P (S "is_onlyws") 385 (.ref 167),en P (S "part_count") 393 (.ref 175),en P (S "__static_attributes__") 395 (.ref 176),en P (S "__classcell__") 396 (.ref 102)] 14),#[]⟩
noncomputable def o102(P:ae):Obj:=⟨(.type "cell"),none,(.cell (some (.ref 178))),#[]⟩
noncomputable def o103(P:ae):Obj:=tK #[]
noncomputable def o104(P:ae):Obj:=⟨.none,none,(.fields #[(iK 75),(iK 4),(.ref 114),(iK 79),(iK 4),(.ref 121),(iK 82),(iK 4),(.ref 129),(iK 87),(iK 4),(.ref 137),(iK 92),(iK 4),(.ref 144),(iK 95),(iK 4),(.ref 151),(iK 98),(iK 4),(.ref 159),(iK 104),(iK 4),(.ref 166),(iK 107),(iK 4),(.ref 174)]),#[]⟩
noncomputable def o105(P:ae):Obj:=cK #[(sK "_Accumulator" 310),(sK "_Accumulator" 311),(sK "/claim/cut.py" 312),(iK 73),(iK 0),(iK 0),(iK 0),(iK 0),(.ref 103),(.bool false),(iK 181),(.ref 104),.none,.none,.none,.none,(iK 313),(iK 73),(sK "/claim/cut.py" 314)]
noncomputable def o106(P:ae):Obj:=⟨(.type "frame"),none,.plain,#[(some (.ref 105)),(some (.ref 3)),(some (.ref 101)),none,(some (sK "cpy313.email.header" 194)),none,(some (.ref 0))]⟩
noncomputable def o107(P:ae):Obj:=tK #[(.int 0 320)]
noncomputable def o108(P:ae):Obj:=tK #[(.ref 102)]
noncomputable def o109(P:ae):Obj:=tK #[(sK "__class__" 324)]
noncomputable def o110(P:ae):Obj:=⟨.none,none,(.fields #[]),#[]⟩
noncomputable def o111(P:ae):Obj:=tK #[(sK "self" 325),(sK "initial_size" 326)]
noncomputable def o112(P:ae):Obj:=tK #[]
noncomputable def o113(P:ae):Obj:=⟨.none,none,(.func (fnD (aF (sB (aF pb 5)) 0) (S "_Accumulator.__init__") 0 [] .none .none .none .none none .none .none 0)),#[]⟩
noncomputable def o114(P:ae):Obj:=cK #[(sK "__init__" 321),(sK "_Accumulator.__init__" 322),(sK "/claim/cut.py" 323),(iK 75),(iK 2),(iK 0),(iK 0),(iK 3),(.ref 109),(.bool true),(iK 181),(.ref 110),.none,(.ref 111),(.ref 112),(.ref 113),(iK 327),(iK 75),(sK "/claim/cut.py" 328)]
noncomputable def o115(P:ae):Obj:=⟨(.type "function"),none,(.func (fnD (aF (sB (aF pb 5)) 0) (S "_Accumulator.__init__") 3 [((S "__class__"),102)] (.ref 107) .none .none (sK "cpy313.email.header" 194) none (.ref 114) (.ref 108) 0)),#[]⟩
noncomputable def o116(P:ae):Obj:=tK #[]
noncomputable def o117(P:ae):Obj:=⟨.none,none,(.fields #[]),#[]⟩
noncomputable def o118(P:ae):Obj:=tK #[(sK "self" 333),(sK "fws" 334),(sK "string" 335)]
noncomputable def o119(P:ae):Obj:=tK #[]
noncomputable def o120(P:ae):Obj:=⟨.none,none,(.func (fnD (aF (sB (aF pb 5)) 1) (S "_Accumulator.push") 0 [] .none .none .none .none none .none .none 0)),#[]⟩
noncomputable def o121(P:ae):Obj:=cK #[(sK "push" 330),(sK "_Accumulator.push" 331),(sK "/claim/cut.py" 332),(iK 79),(iK 3),(iK 0),(iK 0),(iK 3),(.ref 116),(.bool true),(iK 181),(.ref 117),.none,(.ref 118),(.ref 119),(.ref 120),(iK 336),(iK 79),(sK "/claim/cut.py" 337)]
noncomputable def o122(P:ae):Obj:=⟨(.type "function"),none,(.func (fnD (aF (sB (aF pb 5)) 1) (S "_Accumulator.push") 3 [] .none .none .none (sK "cpy313.email.header" 194) none (.ref 121) .none 0)),#[]⟩
noncomputable def o123(P:ae):Obj:=tK #[(.int 0 339)]
noncomputable def o124(P:ae):Obj:=tK #[]
noncomputable def o125(P:ae):Obj:=⟨.none,none,(.fields #[]),#[]⟩
noncomputable def o126(P:ae):Obj:=tK #[(sK "self" 343),(sK "i" 344),(sK "popped" 345)]
noncomputable def o127(P:ae):Obj:=tK #[]
noncomputable def o128(P:ae):Obj:=⟨.none,none,(.func (fnD (aF (sB (aF pb 5)) 2) (S "_Accumulator.pop_from") 0 [] .none .none .none .none none .none .none 0)),#[]⟩
noncomputable def o129(P:ae):Obj:=cK #[(sK "pop_from" 340),(sK "_Accumulator.pop_from" 341),(sK "/claim/cut.py" 342),(iK 82),(iK 2),(iK 0),(iK 0),(iK 3),(.ref 124),(.bool true),(iK 181),(.ref 125),.none,(.ref 126),(.ref 127),(.ref 128),(iK 346),(iK 82),(sK "/claim/cut.py" 347)]
noncomputable def o130(P:ae):Obj:=⟨(.type "function"),none,(.func (fnD (aF (sB (aF pb 5)) 2) (S "_Accumulator.pop_from") 3 [] (.ref 123) .none .none (sK "cpy313.email.header" 194) none (.ref 129) .none 0)),#[]⟩
noncomputable def o131(P:ae):Obj:=tK #[(.ref 102)]
noncomputable def o132(P:ae):Obj:=tK #[(sK "__class__" 352)]
noncomputable def o133(P:ae):Obj:=⟨.none,none,(.fields #[]),#[]⟩
noncomputable def o134(P:ae):Obj:=tK #[(sK "self" 353)]
noncomputable def o135(P:ae):Obj:=tK #[]
noncomputable def o136(P:ae):Obj:=⟨.none,none,(.func (fnD (aF (sB (aF pb 5)) 3) (S "_Accumulator.pop") 0 [] .none .none .none .none none .none .none 0)),#[]⟩
noncomputable def o137(P:ae):Obj:=cK #[(sK "pop" 349),(sK "_Accumulator.pop" 350),(sK "/claim/cut.py" 351),(iK 87),(iK 1),(iK 0),(iK 0),(iK 3),(.ref 132),(.bool true),(iK 181),(.ref 133),.none,(.ref 134),(.ref 135),(.ref 136),(iK 354),(iK 87),(sK "/claim/cut.py" 355)]
noncomputable def o138(P:ae):Obj:=⟨(.type "function"),none,(.func (fnD (aF (sB (aF pb 5)) 3) (S "_Accumulator.pop") 3 [((S "__class__"),102)] .none .none .none (sK "cpy313.email.header" 194) none (.ref 137) (.ref 131) 0)),#[]⟩
noncomputable def o139(P:ae):Obj:=tK #[]
noncomputable def o140(P:ae):Obj:=⟨.none,none,(.fields #[]),#[]⟩
noncomputable def o141(P:ae):Obj:=tK #[(sK "self" 360)]
noncomputable def o142(P:ae):Obj:=tK #[]
noncomputable def o143(P:ae):Obj:=⟨.none,none,(.func (fnD (aF (sB (aF pb 5)) 4) (S "_Accumulator.__len__") 0 [] .none .none .none .none none .none .none 0)),#[]⟩
noncomputable def o144(P:ae):Obj:=cK #[(sK "__len__" 357),(sK "_Accumulator.__len__" 358),(sK "/claim/cut.py" 359),(iK 92),(iK 1),(iK 0),(iK 0),(iK 3),(.ref 139),(.bool true),(iK 181),(.ref 140),.none,(.ref 141),(.ref 142),(.ref 143),(iK 361),(iK 92),(sK "/claim/cut.py" 362)]
noncomputable def o145(P:ae):Obj:=⟨(.type "function"),none,(.func (fnD (aF (sB (aF pb 5)) 4) (S "_Accumulator.__len__") 3 [] .none .none .none (sK "cpy313.email.header" 194) none (.ref 144) .none 0)),#[]⟩
noncomputable def o146(P:ae):Obj:=tK #[]
noncomputable def o147(P:ae):Obj:=⟨.none,none,(.fields #[]),#[]⟩
noncomputable def o148(P:ae):Obj:=tK #[(sK "self" 367)]
noncomputable def o149(P:ae):Obj:=tK #[]
noncomputable def o150(P:ae):Obj:=⟨.none,none,(.func (fnD (aF (sB (aF pb 5)) 5) (S "_Accumulator.__str__") 0 [] .none .none .none .none none .none .none 0)),#[]⟩
noncomputable def o151(P:ae):Obj:=cK #[(sK "__str__" 364),(sK "_Accumulator.__str__" 365),(sK "/claim/cut.py" 366),(iK 95),(iK 1),(iK 0),(iK 0),(iK 3),(.ref 146),(.bool true),(iK 181),(.ref 147),.none,(.ref 148),(.ref 149),(.ref 150),(iK 368),(iK 95),(sK "/claim/cut.py" 369)]
noncomputable def o152(P:ae):Obj:=⟨(.type "function"),none,(.func (fnD (aF (sB (aF pb 5)) 5) (S "_Accumulator.__str__") 3 [] .none .none .none (sK "cpy313.email.header" 194) none (.ref 151) .none 0)),#[]⟩
noncomputable def o153(P:ae):Obj:=tK #[.none]
noncomputable def o154(P:ae):Obj:=tK #[]
noncomputable def o155(P:ae):Obj:=⟨.none,none,(.fields #[]),#[]⟩
noncomputable def o156(P:ae):Obj:=tK #[(sK "self" 374),(sK "startval" 375)]
noncomputable def o157(P:ae):Obj:=tK #[]
noncomputable def o158(P:ae):Obj:=⟨.none,none,(.func (fnD (aF (sB (aF pb 5)) 6) (S "_Accumulator.reset") 0 [] .none .none .none .none none .none .none 0)),#[]⟩
noncomputable def o159(P:ae):Obj:=cK #[(sK "reset" 371),(sK "_Accumulator.reset" 372),(sK "/claim/cut.py" 373),(iK 98),(iK 2),(iK 0),(iK 0),(iK 3),(.ref 154),(.bool true),(iK 181),(.ref 155),.none,(.ref 156),(.ref 157),(.ref 158),(iK 376),(iK 98),(sK "/claim/cut.py" 377)]
noncomputable def o160(P:ae):Obj:=⟨(.type "function"),none,(.func (fnD (aF (sB (aF pb 5)) 6) (S "_Accumulator.reset") 3 [] (.ref 153) .none .none (sK "cpy313.email.header" 194) none (.ref 159) .none 0)),#[]⟩
noncomputable def o161(P:ae):Obj:=tK #[]
noncomputable def o162(P:ae):Obj:=⟨.none,none,(.fields #[]),#[]⟩
noncomputable def o163(P:ae):Obj:=tK #[(sK "self" 382)]
noncomputable def o164(P:ae):Obj:=tK #[]
noncomputable def o165(P:ae):Obj:=⟨.none,none,(.func (fnD (aF (sB (aF pb 5)) 7) (S "_Accumulator.is_onlyws") 0 [] .none .none .none .none none .none .none 0)),#[]⟩
noncomputable def o166(P:ae):Obj:=cK #[(sK "is_onlyws" 379),(sK "_Accumulator.is_onlyws" 380),(sK "/claim/cut.py" 381),(iK 104),(iK 1),(iK 0),(iK 0),(iK 3),(.ref 161),(.bool true),(iK 181),(.ref 162),.none,(.ref 163),(.ref 164),(.ref 165),(iK 383),(iK 104),(sK "/claim/cut.py" 384)]
noncomputable def o167(P:ae):Obj:=⟨(.type "function"),none,(.func (fnD (aF (sB (aF pb 5)) 7) (S "_Accumulator.is_onlyws") 3 [] .none .none .none (sK "cpy313.email.header" 194) none (.ref 166) .none 0)),#[]⟩
noncomputable def o168(P:ae):Obj:=tK #[(.ref 102)]
noncomputable def o169(P:ae):Obj:=tK #[(sK "__class__" 389)]
noncomputable def o170(P:ae):Obj:=⟨.none,none,(.fields #[]),#[]⟩
noncomputable def o171(P:ae):Obj:=tK #[(sK "self" 390)]
noncomputable def o172(P:ae):Obj:=tK #[]
noncomputable def o173(P:ae):Obj:=⟨.none,none,(.func (fnD (aF (sB (aF pb 5)) 8) (S "_Accumulator.part_count") 0 [] .none .none .none .none none .none .none 0)),#[]⟩
noncomputable def o174(P:ae):Obj:=cK #[(sK "part_count" 386),(sK "_Accumulator.part_count" 387),(sK "/claim/cut.py" 388),(iK 107),(iK 1),(iK 0),(iK 0),(iK 3),(.ref 169),(.bool true),(iK 181),(.ref 170),.none,(.ref 171),(.ref 172),(.ref 173),(iK 391),(iK 107),(sK "/claim/cut.py" 392)]
noncomputable def o175(P:ae):Obj:=⟨(.type "function"),none,(.func (fnD (aF (sB (aF pb 5)) 8) (S "_Accumulator.part_count") 3 [((S "__class__"),102)] .none .none .none (sK "cpy313.email.header" 194) none (.ref 174) (.ref 168) 0)),#[]⟩
noncomputable def o176(P:ae):Obj:=tK #[(sK "_initial_size" 394)]
noncomputable def o177(P:ae):Obj:=⟨(.type "dict"),none,(.dict #[en P (S "__module__") 315 (sK "cpy313.email.header" 194),en P (S "__firstlineno__") 319 (.int 73 318),en P (S "__init__") 329 (.ref 115),en P (S "push") 338 (.ref 122),en P (S "pop_from") 348 (.ref 130),en P (S "pop") 356 (.ref 138),en P (S "__len__") 363 (.ref 145),en P (S "__str__") 370 (.ref 152),en P (S "reset") 378 (.ref 160),en P (S "is_onlyws") 385 (.ref 167),en P (S "part_count") 393 (.ref 175),en P (S "__static_attributes__") 395 (.ref 176),en P (S "__dict__") 398 (.ref 179),en P (S "__weakref__") 400 (.ref 180),en P (S "__doc__") 401 .none] 5),#[]⟩
noncomputable def o178(P:ae):Obj:=⟨(.type "type"),none,(.cls {name:=(S "_Accumulator"),bases:=[(.type "list")],mro:=[(.ref 178),(.type "list"),(.type "object")],ns:=177,qualname:=(S "_Accumulator"),hasDict:=true,slotNames:=[],subclasses:=[],abstract:=false,collection:=none,hasDel:=false}),#[(some (.ref 99)),none,(some (sK "_Accumulator" 308)),(some (sK "_Accumulator" 316)),(some (.builtin "list.__new__")),(some (.bool true))]⟩
noncomputable def o179(P:ae):Obj:=⟨(.type "getset_descriptor"),none,(.fields #[(sK "__dict__" 397),(.ref 178),(.builtin "function.__dict__"),(.builtin "function.__dict__#set")]),#[]⟩
noncomputable def o180(P:ae):Obj:=⟨(.type "getset_descriptor"),none,(.fields #[(sK "__weakref__" 399),(.ref 178),(.builtin "ExceptionGroup.__weakref__"),.none]),#[]⟩
noncomputable def o181(P:ae):Obj:=⟨(.type "super"),none,(.fields #[(.ref 178),(.ref 178),(.ref 178)]),#[]⟩
noncomputable def o182(P:ae):Obj:=⟨(.type "builtin_function_or_method"),none,(.fields #[(.builtin "object.__init_subclass__"),(.ref 178)]),#[]⟩
noncomputable def o183(P:ae):Obj:=tK #[]
noncomputable def o184(P:ae):Obj:=⟨.none,none,(.fields #[]),#[]⟩
noncomputable def o185(P:ae):Obj:=tK #[(sK "a" 409),(sK "b" 410)]
noncomputable def o186(P:ae):Obj:=tK #[]
noncomputable def o187(P:ae):Obj:=⟨.none,none,(.func (fnD (aF pb 7) (S "add") 0 [] .none .none .none .none none .none .none 0)),#[]⟩
noncomputable def o188(P:ae):Obj:=cK #[(sK "add" 406),(sK "add" 407),(sK "/claim/cut.py" 408),(iK 110),(iK 2),(iK 0),(iK 0),(iK 3),(.ref 183),(.bool true),(iK 181),(.ref 184),.none,(.ref 185),(.ref 186),(.ref 187),(iK 411),(iK 110),(sK "/claim/cut.py" 412)]
noncomputable def o189(P:ae):Obj:=⟨(.type "function"),none,(.func (fnD (aF pb 7) (S "add") 3 [] .none .none .none (sK "cpy313.operator" 404) none (.ref 188) .none 0)),#[]⟩
noncomputable def o190(P:ae):Obj:=tK #[]
noncomputable def o191(P:ae):Obj:=⟨.none,none,(.fields #[]),#[]⟩
noncomputable def o192(P:ae):Obj:=tK #[(sK "a" 417),(sK "b" 418)]
noncomputable def o193(P:ae):Obj:=tK #[]
noncomputable def o194(P:ae):Obj:=⟨.none,none,(.func (fnD (aF pb 8) (S "floordiv") 0 [] .none .none .none .none none .none .none 0)),#[]⟩
noncomputable def o195(P:ae):Obj:=cK #[(sK "floordiv" 414),(sK "floordiv" 415),(sK "/claim/cut.py" 416),(iK 112),(iK 2),(iK 0),(iK 0),(iK 3),(.ref 190),(.bool true),(iK 181),(.ref 191),.none,(.ref 192),(.ref 193),(.ref 194),(iK 419),(iK 112),(sK "/claim/cut.py" 420)]
noncomputable def o196(P:ae):Obj:=⟨(.type "function"),none,(.func (fnD (aF pb 8) (S "floordiv") 3 [] .none .none .none (sK "cpy313.operator" 404) none (.ref 195) .none 0)),#[]⟩
noncomputable def o197(P:ae):Obj:=tK #[]
noncomputable def o198(P:ae):Obj:=⟨.none,none,(.fields #[]),#[]⟩
noncomputable def o199(P:ae):Obj:=tK #[(sK "a" 425),(sK "b" 426)]
noncomputable def o200(P:ae):Obj:=tK #[]
noncomputable def o201(P:ae):Obj:=⟨.none,none,(.func (fnD (aF pb 9) (S "mul") 0 [] .none .none .none .none none .none .none 0)),#[]⟩
noncomputable def o202(P:ae):Obj:=cK #[(sK "mul" 422),(sK "mul" 423),(sK "/claim/cut.py" 424),(iK 114),(iK 2),(iK 0),(iK 0),(iK 3),(.ref 197),(.bool true),(iK 181),(.ref 198),.none,(.ref 199),(.ref 200),(.ref 201),(iK 427),(iK 114),(sK "/claim/cut.py" 428)]
noncomputable def o203(P:ae):Obj:=⟨(.type "function"),none,(.func (fnD (aF pb 9) (S "mul") 3 [] .none .none .none (sK "cpy313.operator" 404) none (.ref 202) .none 0)),#[]⟩
noncomputable def o204(P:ae):Obj:=tK #[]
noncomputable def o205(P:ae):Obj:=⟨.none,none,(.fields #[]),#[]⟩
noncomputable def o206(P:ae):Obj:=tK #[(sK "a" 433),(sK "b" 434)]
noncomputable def o207(P:ae):Obj:=tK #[]
noncomputable def o208(P:ae):Obj:=⟨.none,none,(.func (fnD (aF pb 10) (S "sub") 0 [] .none .none .none .none none .none .none 0)),#[]⟩
noncomputable def o209(P:ae):Obj:=cK #[(sK "sub" 430),(sK "sub" 431),(sK "/claim/cut.py" 432),(iK 116),(iK 2),(iK 0),(iK 0),(iK 3),(.ref 204),(.bool true),(iK 181),(.ref 205),.none,(.ref 206),(.ref 207),(.ref 208),(iK 435),(iK 116),(sK "/claim/cut.py" 436)]
noncomputable def o210(P:ae):Obj:=⟨(.type "function"),none,(.func (fnD (aF pb 10) (S "sub") 3 [] .none .none .none (sK "cpy313.operator" 404) none (.ref 209) .none 0)),#[]⟩
noncomputable def o211(P:ae):Obj:=tK #[]
noncomputable def o212(P:ae):Obj:=⟨.none,none,(.fields #[]),#[]⟩
noncomputable def o213(P:ae):Obj:=tK #[(sK "a" 441),(sK "b" 442),(sK "count" 443),(sK "i" 444)]
noncomputable def o214(P:ae):Obj:=tK #[]
noncomputable def o215(P:ae):Obj:=⟨.none,none,(.func (fnD (aF pb 11) (S "countOf") 0 [] .none .none .none .none none .none .none 0)),#[]⟩
noncomputable def o216(P:ae):Obj:=cK #[(sK "countOf" 438),(sK "countOf" 439),(sK "/claim/cut.py" 440),(iK 118),(iK 2),(iK 0),(iK 0),(iK 3),(.ref 211),(.bool true),(iK 181),(.ref 212),.none,(.ref 213),(.ref 214),(.ref 215),(iK 445),(iK 118),(sK "/claim/cut.py" 446)]
noncomputable def o217(P:ae):Obj:=⟨(.type "function"),none,(.func (fnD (aF pb 11) (S "countOf") 3 [] .none .none .none (sK "cpy313.operator" 404) none (.ref 216) .none 0)),#[]⟩
noncomputable def o218(P:ae):Obj:=tK #[]
noncomputable def o219(P:ae):Obj:=⟨(.type "builtin_function_or_method"),none,(.fields #[(.builtin "type.__prepare__"),(.type "type")]),#[]⟩
noncomputable def o220(P:ae):Obj:=⟨(.type "dict"),none,(.dict #[en P (S "__module__") 457 (sK "cpy313.tabnanny" 448),en P (S "__qualname__") 459 (sK "Whitespace" 458),en P (S "__firstlineno__") 461 (.int 125 460),en P (S "S") 465 (sK " " 463),en P (S "T") 466 (sK "\t" 464),en P (S "__init__") 481 (.ref 234),en P (S "longest_run_of_spaces") 488 (.ref 241),en P (S "indent_level") 500 (.ref 248),en P (S "equal") 508 (.ref 255),en P (S "not_equal_witness") 516 (.ref 262),en P (S "less") 524 (.ref 269),en P (S "not_less_witness") 532 (.ref 276),en P (S "__static_attributes__") 538 (.ref 277)] 13),#[]⟩
noncomputable def o221(P:ae):Obj:=tK #[]
noncomputable def o222(P:ae):Obj:=⟨.none,none,(.fields #[(iK 128),(iK 4),(.ref 233),(iK 151),(iK 4),(.ref 240),(iK 154),(iK 4),(.ref 247),(iK 161),(iK 4),(.ref 254),(iK 164),(iK 4),(.ref 261),(iK 167),(iK 4),(.ref 268),(iK 170),(iK 4),(.ref 275)]),#[]⟩
noncomputable def o223(P:ae):Obj:=cK #[(sK "Whitespace" 452),(sK "Whitespace" 453),(sK "/claim/cut.py" 454),(iK 125),(iK 0),(iK 0),(iK 0),(iK 0),(.ref 221),(.bool false),(iK 181),(.ref 222),.none,.none,.none,.none,(iK 455),(iK 125),(sK "/claim/cut.py" 456)]
noncomputable def o224(P:ae):Obj:=⟨(.type "frame"),none,.plain,#[(some (.ref 223)),(some (.ref 3)),(some (.ref 220)),none,(some (sK "cpy313.tabnanny" 448)),none,(some (.ref 0))]⟩
noncomputable def o225(P:ae):Obj:=⟨(.type "str_ascii_iterator"),none,(.fields #[.none,(iK 2)]),#[]⟩
noncomputable def o226(P:ae):Obj:=tK #[]
noncomputable def o227(P:ae):Obj:=⟨(.type "StopIteration"),none,(.fields #[(.ref 226),.none,.none,.none,(.bool false),.none]),#[]⟩
noncomputable def o228(P:ae):Obj:=tK #[]
noncomputable def o229(P:ae):Obj:=⟨.none,none,(.fields #[]),#[]⟩
noncomputable def o230(P:ae):Obj:=tK #[(sK "self" 470),(sK "ws" 471),(sK "S" 472),(sK "T" 473),(sK "count" 474),(sK "b" 475),(sK "n" 476),(sK "nt" 477),(sK "ch" 478)]
noncomputable def o231(P:ae):Obj:=tK #[]
noncomputable def o232(P:ae):Obj:=⟨.none,none,(.func (fnD (aF (sB (aF pb 13)) 1) (S "Whitespace.__init__") 0 [] .none .none .none .none none .none .none 0)),#[]⟩
noncomputable def o233(P:ae):Obj:=cK #[(sK "__init__" 467),(sK "Whitespace.__init__" 468),(sK "/claim/cut.py" 469),(iK 128),(iK 2),(iK 0),(iK 0),(iK 3),(.ref 228),(.bool true),(iK 181),(.ref 229),.none,(.ref 230),(.ref 231),(.ref 232),(iK 479),(iK 128),(sK "/claim/cut.py" 480)]
noncomputable def o234(P:ae):Obj:=⟨(.type "function"),none,(.func (fnD (aF (sB (aF pb 13)) 1) (S "Whitespace.__init__") 3 [] .none .none .none (sK "cpy313.tabnanny" 448) none (.ref 233) .none 0)),#[]⟩
noncomputable def o235(P:ae):Obj:=tK #[]
noncomputable def o236(P:ae):Obj:=⟨.none,none,(.fields #[]),#[]⟩
noncomputable def o237(P:ae):Obj:=tK #[(sK "self" 485)]
noncomputable def o238(P:ae):Obj:=tK #[]
noncomputable def o239(P:ae):Obj:=⟨.none,none,(.func (fnD (aF (sB (aF pb 13)) 2) (S "Whitespace.longest_run_of_spaces") 0 [] .none .none .none .none none .none .none 0)),#[]⟩
noncomputable def o240(P:ae):Obj:=cK #[(sK "longest_run_of_spaces" 482),(sK "Whitespace.longest_run_of_spaces" 483),(sK "/claim/cut.py" 484),(iK 151),(iK 1),(iK 0),(iK 0),(iK 3),(.ref 235),(.bool true),(iK 181),(.ref 236),.none,(.ref 237),(.ref 238),(.ref 239),(iK 486),(iK 151),(sK "/claim/cut.py" 487)]
noncomputable def o241(P:ae):Obj:=⟨(.type "function"),none,(.func (fnD (aF (sB (aF pb 13)) 2) (S "Whitespace.longest_run_of_spaces") 3 [] .none .none .none (sK "cpy313.tabnanny" 448) none (.ref 240) .none 0)),#[]⟩
noncomputable def o242(P:ae):Obj:=tK #[]
noncomputable def o243(P:ae):Obj:=⟨.none,none,(.fields #[]),#[]⟩
noncomputable def o244(P:ae):Obj:=tK #[(sK "self" 492),(sK "tabsize" 493),(sK "count" 494),(sK "trailing" 495),(sK "il" 496),(sK "i" 497)]
noncomputable def o245(P:ae):Obj:=tK #[]
noncomputable def o246(P:ae):Obj:=⟨.none,none,(.func (fnD (aF (sB (aF pb 13)) 3) (S "Whitespace.indent_level") 0 [] .none .none .none .none none .none .none 0)),#[]⟩
noncomputable def o247(P:ae):Obj:=cK #[(sK "indent_level" 489),(sK "Whitespace.indent_level" 490),(sK "/claim/cut.py" 491),(iK 154),(iK 2),(iK 0),(iK 0),(iK 3),(.ref 242),(.bool true),(iK 181),(.ref 243),.none,(.ref 244),(.ref 245),(.ref 246),(iK 498),(iK 154),(sK "/claim/cut.py" 499)]
noncomputable def o248(P:ae):Obj:=⟨(.type "function"),none,(.func (fnD (aF (sB (aF pb 13)) 3) (S "Whitespace.indent_level") 3 [] .none .none .none (sK "cpy313.tabnanny" 448) none (.ref 247) .none 0)),#[]⟩
noncomputable def o249(P:ae):Obj:=tK #[]
noncomputable def o250(P:ae):Obj:=⟨.none,none,(.fields #[]),#[]⟩
noncomputable def o251(P:ae):Obj:=tK #[(sK "self" 504),(sK "other" 505)]
noncomputable def o252(P:ae):Obj:=tK #[]
noncomputable def o253(P:ae):Obj:=⟨.none,none,(.func (fnD (aF (sB (aF pb 13)) 4) (S "Whitespace.equal") 0 [] .none .none .none .none none .none .none 0)),#[]⟩
noncomputable def o254(P:ae):Obj:=cK #[(sK "equal" 501),(sK "Whitespace.equal" 502),(sK "/claim/cut.py" 503),(iK 161),(iK 2),(iK 0),(iK 0),(iK 3),(.ref 249),(.bool true),(iK 181),(.ref 250),.none,(.ref 251),(.ref 252),(.ref 253),(iK 506),(iK 161),(sK "/claim/cut.py" 507)]
noncomputable def o255(P:ae):Obj:=⟨(.type "function"),none,(.func (fnD (aF (sB (aF pb 13)) 4) (S "Whitespace.equal") 3 [] .none .none .none (sK "cpy313.tabnanny" 448) none (.ref 254) .none 0)),#[]⟩
noncomputable def o256(P:ae):Obj:=tK #[]
noncomputable def o257(P:ae):Obj:=⟨.none,none,(.fields #[]),#[]⟩
noncomputable def o258(P:ae):Obj:=tK #[(sK "self" 512),(sK "other" 513)]
noncomputable def o259(P:ae):Obj:=tK #[]
noncomputable def o260(P:ae):Obj:=⟨.none,none,(.func (fnD (aF (sB (aF pb 13)) 5) (S "Whitespace.not_equal_witness") 0 [] .none .none .none .none none .none .none 0)),#[]⟩
noncomputable def o261(P:ae):Obj:=cK #[(sK "not_equal_witness" 509),(sK "Whitespace.not_equal_witness" 510),(sK "/claim/cut.py" 511),(iK 164),(iK 2),(iK 0),(iK 0),(iK 3),(.ref 256),(.bool true),(iK 181),(.ref 257),.none,(.ref 258),(.ref 259),(.ref 260),(iK 514),(iK 164),(sK "/claim/cut.py" 515)]
noncomputable def o262(P:ae):Obj:=⟨(.type "function"),none,(.func (fnD (aF (sB (aF pb 13)) 5) (S "Whitespace.not_equal_witness") 3 [] .none .none .none (sK "cpy313.tabnanny" 448) none (.ref 261) .none 0)),#[]⟩
noncomputable def o263(P:ae):Obj:=tK #[]
noncomputable def o264(P:ae):Obj:=⟨.none,none,(.fields #[]),#[]⟩
noncomputable def o265(P:ae):Obj:=tK #[(sK "self" 520),(sK "other" 521)]
noncomputable def o266(P:ae):Obj:=tK #[]
noncomputable def o267(P:ae):Obj:=⟨.none,none,(.func (fnD (aF (sB (aF pb 13)) 6) (S "Whitespace.less") 0 [] .none .none .none .none none .none .none 0)),#[]⟩
noncomputable def o268(P:ae):Obj:=cK #[(sK "less" 517),(sK "Whitespace.less" 518),(sK "/claim/cut.py" 519),(iK 167),(iK 2),(iK 0),(iK 0),(iK 3),(.ref 263),(.bool true),(iK 181),(.ref 264),.none,(.ref 265),(.ref 266),(.ref 267),(iK 522),(iK 167),(sK "/claim/cut.py" 523)]
noncomputable def o269(P:ae):Obj:=⟨(.type "function"),none,(.func (fnD (aF (sB (aF pb 13)) 6) (S "Whitespace.less") 3 [] .none .none .none (sK "cpy313.tabnanny" 448) none (.ref 268) .none 0)),#[]⟩
noncomputable def o270(P:ae):Obj:=tK #[]
noncomputable def o271(P:ae):Obj:=⟨.none,none,(.fields #[]),#[]⟩
noncomputable def o272(P:ae):Obj:=tK #[(sK "self" 528),(sK "other" 529)]
noncomputable def o273(P:ae):Obj:=tK #[]
noncomputable def o274(P:ae):Obj:=⟨.none,none,(.func (fnD (aF (sB (aF pb 13)) 7) (S "Whitespace.not_less_witness") 0 [] .none .none .none .none none .none .none 0)),#[]⟩
noncomputable def o275(P:ae):Obj:=cK #[(sK "not_less_witness" 525),(sK "Whitespace.not_less_witness" 526),(sK "/claim/cut.py" 527),(iK 170),(iK 2),(iK 0),(iK 0),(iK 3),(.ref 270),(.bool true),(iK 181),(.ref 271),.none,(.ref 272),(.ref 273),(.ref 274),(iK 530),(iK 170),(sK "/claim/cut.py" 531)]
noncomputable def o276(P:ae):Obj:=⟨(.type "function"),none,(.func (fnD (aF (sB (aF pb 13)) 7) (S "Whitespace.not_less_witness") 3 [] .none .none .none (sK "cpy313.tabnanny" 448) none (.ref 275) .none 0)),#[]⟩
noncomputable def o277(P:ae):Obj:=tK #[(sK "is_simple" 533),(sK "n" 534),(sK "norm" 535),(sK "nt" 536),(sK "raw" 537)]
noncomputable def o278(P:ae):Obj:=⟨(.type "dict"),none,(.dict #[en P (S "__module__") 457 (sK "cpy313.tabnanny" 448),en P (S "__firstlineno__") 461 (.int 125 460),en P (S "S") 465 (sK " " 463),en P (S "T") 466 (sK "\t" 464),en P (S "__init__") 481 (.ref 234),en P (S "longest_run_of_spaces") 488 (.ref 241),en P (S "indent_level") 500 (.ref 248),en P (S "equal") 508 (.ref 255),en P (S "not_equal_witness") 516 (.ref 262),en P (S "less") 524 (.ref 269),en P (S "not_less_witness") 532 (.ref 276),en P (S "__static_attributes__") 538 (.ref 277),en P (S "__dict__") 540 (.ref 280),en P (S "__weakref__") 542 (.ref 281),en P (S "__doc__") 543 .none] 4),#[]⟩
noncomputable def o279(P:ae):Obj:=⟨(.type "type"),none,(.cls {name:=(S "Whitespace"),bases:=[(.type "object")],mro:=[(.ref 279),(.type "object")],ns:=278,qualname:=(S "Whitespace"),hasDict:=true,slotNames:=[],subclasses:=[],abstract:=false,collection:=none,hasDel:=false}),#[none,none,(some (sK "Whitespace" 450)),(some (sK "Whitespace" 458)),(some (.builtin "object.__new__")),(some (.bool true))]⟩
noncomputable def o280(P:ae):Obj:=⟨(.type "getset_descriptor"),none,(.fields #[(sK "__dict__" 539),(.ref 279),(.builtin "function.__dict__"),(.builtin "function.__dict__#set")]),#[]⟩
noncomputable def o281(P:ae):Obj:=⟨(.type "getset_descriptor"),none,(.fields #[(sK "__weakref__" 541),(.ref 279),(.builtin "ExceptionGroup.__weakref__"),.none]),#[]⟩
noncomputable def o282(P:ae):Obj:=⟨(.type "super"),none,(.fields #[(.ref 279),(.ref 279),(.ref 279)]),#[]⟩
noncomputable def o283(P:ae):Obj:=⟨(.type "builtin_function_or_method"),none,(.fields #[(.builtin "object.__init_subclass__"),(.ref 279)]),#[]⟩
noncomputable def o284(P:ae):Obj:=tK #[]
noncomputable def o285(P:ae):Obj:=⟨.none,none,(.fields #[]),#[]⟩
noncomputable def o286(P:ae):Obj:=tK #[(sK "p" 551),(sK "q" 552),(sK "bare" 553),(sK "runs" 554),(sK "tail" 555),(sK "ranks" 556),(sK "step" 557),(sK "typed" 558),(sK "lead" 559),(sK "stops" 560)]
noncomputable def o287(P:ae):Obj:=tK #[]
noncomputable def o288(P:ae):Obj:=⟨.none,none,(.func (fnD (aF pb 15) (S "_law_ranks") 0 [] .none .none .none .none none .none .none 0)),#[]⟩
noncomputable def o289(P:ae):Obj:=cK #[(sK "_law_ranks" 548),(sK "_law_ranks" 549),(sK "/claim/cut.py" 550),(iK 173),(iK 5),(iK 0),(iK 0),(iK 3),(.ref 284),(.bool true),(iK 181),(.ref 285),.none,(.ref 286),(.ref 287),(.ref 288),(iK 561),(iK 173),(sK "/claim/cut.py" 562)]
noncomputable def o290(P:ae):Obj:=⟨(.type "function"),none,(.func (fnD (aF pb 15) (S "_law_ranks") 3 [] .none .none .none (sK "law_xg0088_01" 546) none (.ref 289) .none 0)),#[]⟩
noncomputable def o291(P:ae):Obj:=tK #[]
noncomputable def o292(P:ae):Obj:=⟨.none,none,(.fields #[]),#[]⟩
noncomputable def o293(P:ae):Obj:=tK #[(sK "ranks" 567),(sK "p" 568),(sK "spot" 569),(sK "whites" 570),(sK "others" 571),(sK "line" 572),(sK "k" 573),(sK "letter" 574),(sK "word" 575)]
noncomputable def o294(P:ae):Obj:=tK #[]
noncomputable def o295(P:ae):Obj:=⟨.none,none,(.func (fnD (aF pb 16) (S "_law_line") 0 [] .none .none .none .none none .none .none 0)),#[]⟩
noncomputable def o296(P:ae):Obj:=cK #[(sK "_law_line" 564),(sK "_law_line" 565),(sK "/claim/cut.py" 566),(iK 181),(iK 5),(iK 0),(iK 0),(iK 3),(.ref 291),(.bool true),(iK 181),(.ref 292),.none,(.ref 293),(.ref 294),(.ref 295),(iK 576),(iK 181),(sK "/claim/cut.py" 577)]
noncomputable def o297(P:ae):Obj:=⟨(.type "function"),none,(.func (fnD (aF pb 16) (S "_law_line") 3 [] .none .none .none (sK "law_xg0088_01" 546) none (.ref 296) .none 0)),#[]⟩
noncomputable def o298(P:ae):Obj:=tK #[]
noncomputable def o299(P:ae):Obj:=⟨.none,none,(.fields #[]),#[]⟩
noncomputable def o300(P:ae):Obj:=tK #[(sK "m" 582),(sK "n" 583)]
noncomputable def o301(P:ae):Obj:=tK #[]
noncomputable def o302(P:ae):Obj:=⟨.none,none,(.func (fnD (aF pb 17) (S "_law_times") 0 [] .none .none .none .none none .none .none 0)),#[]⟩
noncomputable def o303(P:ae):Obj:=cK #[(sK "_law_times" 579),(sK "_law_times" 580),(sK "/claim/cut.py" 581),(iK 188),(iK 2),(iK 0),(iK 0),(iK 3),(.ref 298),(.bool true),(iK 181),(.ref 299),.none,(.ref 300),(.ref 301),(.ref 302),(iK 584),(iK 188),(sK "/claim/cut.py" 585)]
noncomputable def o304(P:ae):Obj:=⟨(.type "function"),none,(.func (fnD (aF pb 17) (S "_law_times") 3 [] .none .none .none (sK "law_xg0088_01" 546) none (.ref 303) .none 0)),#[]⟩
noncomputable def o305(P:ae):Obj:=tK #[]
noncomputable def o306(P:ae):Obj:=⟨.none,none,(.fields #[]),#[]⟩
noncomputable def o307(P:ae):Obj:=tK #[(sK "m" 590),(sK "n" 591)]
noncomputable def o308(P:ae):Obj:=tK #[]
noncomputable def o309(P:ae):Obj:=⟨.none,none,(.func (fnD (aF pb 18) (S "_law_common") 0 [] .none .none .none .none none .none .none 0)),#[]⟩
noncomputable def o310(P:ae):Obj:=cK #[(sK "_law_common" 587),(sK "_law_common" 588),(sK "/claim/cut.py" 589),(iK 190),(iK 2),(iK 0),(iK 0),(iK 3),(.ref 305),(.bool true),(iK 181),(.ref 306),.none,(.ref 307),(.ref 308),(.ref 309),(iK 592),(iK 190),(sK "/claim/cut.py" 593)]
noncomputable def o311(P:ae):Obj:=⟨(.type "function"),none,(.func (fnD (aF pb 18) (S "_law_common") 3 [] .none .none .none (sK "law_xg0088_01" 546) none (.ref 310) .none 0)),#[]⟩
noncomputable def o312(P:ae):Obj:=tK #[]
noncomputable def o313(P:ae):Obj:=⟨.none,none,(.fields #[]),#[]⟩
noncomputable def o314(P:ae):Obj:=⟨.none,none,(.func (fnD (aF pb 19) (S "_law_fold") 0 [] .none .none .none .none none .none .none 0)),#[]⟩
noncomputable def o315(P:ae):Obj:=cK #[(sK "_law_fold" 595),(sK "_law_fold" 596),(sK "/claim/cut.py" 597),(iK 194),(iK 5),(iK 0),(iK 0),(iK 3),(.ref 312),(.bool true),(iK 181),(.ref 313),.none,.none,.none,(.ref 314),(iK 598),(iK 194),(sK "/claim/cut.py" 599)]
noncomputable def o316(P:ae):Obj:=⟨(.type "function"),none,(.func (fnD (aF pb 19) (S "_law_fold") 3 [] .none .none .none (sK "law_xg0088_01" 546) none (.ref 315) .none 0)),#[]⟩
noncomputable def o317(P:ae):Obj:=tK #[]
noncomputable def o318(P:ae):Obj:=⟨.none,none,(.fields #[]),#[]⟩
noncomputable def o319(P:ae):Obj:=⟨.none,none,(.func (fnD (aF pb 20) (S "law") 0 [] .none .none .none .none none .none .none 0)),#[]⟩
noncomputable def o320(P:ae):Obj:=cK #[(sK "law" 601),(sK "law" 602),(sK "/claim/cut.py" 603),(iK 229),(iK 1),(iK 0),(iK 0),(iK 3),(.ref 317),(.bool true),(iK 181),(.ref 318),.none,.none,.none,(.ref 319),(iK 604),(iK 229),(sK "/claim/cut.py" 605)]
noncomputable def o321(P:ae):Obj:=⟨(.type "function"),none,(.func (fnD (aF pb 20) (S "law") 3 [] .none .none .none (sK "law_xg0088_01" 546) none (.ref 320) .none 0)),#[]⟩
noncomputable def K0(P:ae):List (Addr×Obj):=[(0,boot_o_0 P),(2,o2 P),(3,o3 P),(4,o4 P),(5,o5 P),(6,o6 P),(7,o7 P),(8,o8 P),(9,o9 P),(10,o10 P),(11,o11 P),(12,o12 P),(13,o13 P),(14,o14 P),(15,o15 P),(16,o16 P),(17,o17 P),(18,o18 P),(19,o19 P),(20,o20 P),(21,o21 P),(22,o22 P),(23,o23 P),(24,o24 P),(25,o25 P),(26,o26 P),(27,o27 P),(28,o28 P),(29,o29 P),(30,o30 P),(31,o31 P),(32,o32 P),(33,o33 P),(34,o34 P),(35,o35 P),(36,o36 P),(37,o37 P),(38,o38 P),(39,o39 P),(40,o40 P),(41,o41 P),(42,o42 P),(43,o43 P),(44,o44 P),(45,o45 P),(46,o46 P),(47,o47 P),(48,o48 P),(49,o49 P),(50,o50 P),(51,o51 P),(52,o52 P),(53,o53 P),(54,o54 P),(55,o55 P),(56,o56 P),(57,o57 P),(58,o58 P),(59,o59 P),(60,o60 P),(61,o61 P),(62,o62 P),(63,o63 P),(64,o64 P),(65,o65 P),(66,o66 P),(67,o67 P),(68,o68 P),(69,o69 P),(70,o70 P),(71,o71 P),(72,o72 P),(73,o73 P),(74,o74 P),(75,o75 P),(76,o76 P),(77,o77 P),(78,o78 P),(79,o79 P),(80,o80 P),(81,o81 P),(82,o82 P),(83,o83 P),(84,o84 P),(85,o85 P),(86,o86 P),(87,o87 P),(88,o88 P),(89,o89 P),(90,o90 P),(91,o91 P),(92,o92 P),(93,o93 P),(94,o94 P),(95,o95 P),(96,o96 P),(97,o97 P),(98,o98 P),(99,o99 P),(100,o100 P),(101,o101 P),(102,o102 P),(103,o103 P),(104,o104 P),(105,o105 P),(106,o106 P),(107,o107 P),(108,o108 P),(109,o109 P),(110,o110 P),(111,o111 P),(112,o112 P),(113,o113 P),(114,o114 P),(115,o115 P),(116,o116 P),(117,o117 P),(118,o118 P),(119,o119 P),(120,o120 P),(121,o121 P),(122,o122 P),(123,o123 P),(124,o124 P),(125,o125 P),(126,o126 P),(127,o127 P),(128,o128 P),(129,o129 P),(130,o130 P),(131,o131 P),(132,o132 P),(133,o133 P),(134,o134 P),(135,o135 P),(136,o136 P),(137,o137 P),(138,o138 P),(139,o139 P),(140,o140 P),(141,o141 P),(142,o142 P),(143,o143 P),(144,o144 P),(145,o145 P),(146,o146 P),(147,o147 P),(148,o148 P),(149,o149 P),(150,o150 P),(151,o151 P),(152,o152 P),(153,o153 P),(154,o154 P),(155,o155 P),(156,o156 P),(157,o157 P),(158,o158 P),(159,o159 P),(160,o160 P),(161,o161 P),(162,o162 P),(163,o163 P),(164,o164 P),(165,o165 P),(166,o166 P),(167,o167 P),(168,o168 P),(169,o169 P),(170,o170 P),(171,o171 P),(172,o172 P),(173,o173 P),(174,o174 P),(175,o175 P),(176,o176 P),(177,o177 P),(178,o178 P),(179,o179 P),(180,o180 P),(181,o181 P),(182,o182 P),(183,o183 P),(184,o184 P),(185,o185 P),(186,o186 P),(187,o187 P),(188,o188 P),(189,o189 P),(190,o190 P),(191,o191 P),(192,o192 P),(193,o193 P),(194,o194 P),(195,o195 P),(196,o196 P),(197,o197 P),(198,o198 P),(199,o199 P),(200,o200 P),(201,o201 P),(202,o202 P),(203,o203 P),(204,o204 P),(205,o205 P),(206,o206 P),(207,o207 P),(208,o208 P),(209,o209 P),(210,o210 P),(211,o211 P),(212,o212 P),(213,o213 P),(214,o214 P),(215,o215 P),(216,o216 P),(217,o217 P),(218,o218 P),(219,o219 P),(220,o220 P),(221,o221 P),(222,o222 P),(223,o223 P),(224,o224 P),(225,o225 P),(226,o226 P),(227,o227 P),(228,o228 P),(229,o229 P),(230,o230 P),(231,o231 P),(232,o232 P),(233,o233 P),(234,o234 P),(235,o235 P),(236,o236 P),(237,o237 P),(238,o238 P),(239,o239 P),(240,o240 P),(241,o241 P),(242,o242 P),(243,o243 P),(244,o244 P),(245,o245 P),(246,o246 P),(247,o247 P),(248,o248 P),(249,o249 P),(250,o250 P),(251,o251 P),(252,o252 P),(253,o253 P),(254,o254 P),(255,o255 P),(256,o256 P),(257,o257 P),(258,o258 P),(259,o259 P),(260,o260 P),(261,o261 P),(262,o262 P),(263,o263 P),(264,o264 P),(265,o265 P),(266,o266 P),(267,o267 P),(268,o268 P),(269,o269 P),(270,o270 P),(271,o271 P),(272,o272 P),(273,o273 P),(274,o274 P),(275,o275 P),(276,o276 P),(277,o277 P),(278,o278 P),(279,o279 P),(280,o280 P),(281,o281 P),(282,o282 P),(283,o283 P),(284,o284 P),(285,o285 P),(286,o286 P),(287,o287 P),(288,o288 P),(289,o289 P),(290,o290 P),(291,o291 P),(292,o292 P),(293,o293 P),(294,o294 P),(295,o295 P),(296,o296 P),(297,o297 P),(298,o298 P),(299,o299 P),(300,o300 P),(301,o301 P),(302,o302 P),(303,o303 P),(304,o304 P),(305,o305 P),(306,o306 P),(307,o307 P),(308,o308 P),(309,o309 P),(310,o310 P),(311,o311 P),(312,o312 P),(313,o313 P),(314,o314 P),(315,o315 P),(316,o316 P),(317,o317 P),(318,o318 P),(319,o319 P),(320,o320 P),(321,o321 P)]
noncomputable def ks:List Addr:=[0,2,3,4,5,6,7,8,9,10,11,12,13,14,15,16,17,18,19,20,21,22,23,24,25,26,27,28,29,30,31,32,33,34,35,36,37,38,39,40,41,42,43,44,45,46,47,48,49,50,51,52,53,54,55,56,57,58,59,60,61,62,63,64,65,66,67,68,69,70,71,72,73,74,75,76,77,78,79,80,81,82,83,84,85,86,87,88,89,90,91,92,93,94,95,96,97,98,99,100,101,102,103,104,105,106,107,108,109,110,111,112,113,114,115,116,117,118,119,120,121,122,123,124,125,126,127,128,129,130,131,132,133,134,135,136,137,138,139,140,141,142,143,144,145,146,147,148,149,150,151,152,153,154,155,156,157,158,159,160,161,162,163,164,165,166,167,168,169,170,171,172,173,174,175,176,177,178,179,180,181,182,183,184,185,186,187,188,189,190,191,192,193,194,195,196,197,198,199,200,201,202,203,204,205,206,207,208,209,210,211,212,213,214,215,216,217,218,219,220,221,222,223,224,225,226,227,228,229,230,231,232,233,234,235,236,237,238,239,240,241,242,243,244,245,246,247,248,249,250,251,252,253,254,255,256,257,258,259,260,261,262,263,264,265,266,267,268,269,270,271,272,273,274,275,276,277,278,279,280,281,282,283,284,285,286,287,288,289,290,291,292,293,294,295,296,297,298,299,300,301,302,303,304,305,306,307,308,309,310,311,312,313,314,315,316,317,318,319,320,321]
noncomputable def qv:Program:={pw with main:={pw.main with body:=pw.main.body.drop 20}}
noncomputable def lo:List Str:=[S "_wall",S "NL",S "EMPTYSTRING",S "_ValueFormatter",S "_Accumulator",S "add",S "floordiv",S "mul",S "sub",S "countOf",S "Whitespace",S "_law_ranks",S "_law_line",S "_law_times",S "_law_common",S "_law_fold"]
noncomputable def ms:List Str:=importedModules pw.main.body
noncomputable def ran(b:Bool)(w:ag)(os:OsState):Option aa:=
  PySem.W.Fast.tw14082659384304107361 PySem.W.Fast.tw14364793385576792824 pw (w.withFollow "special-get-raises" b) 11 (some (.ref 6)) 2100 ⟨boot_heap w.params,#[],boot_drawn,boot_toks,os⟩ (topStub pw)
theorem seen_f(w:ag)(os:OsState):(ran false w os).map (fun s=>((staticsOk ms (boot_heap w.params) s.heap&&namesBound pw s.heap&&gensDone s&&laidKept (boot_heap w.params) s.heap),
    openSeen qv lo ms (fun _=>true) true s,ks.map s.heap.get?))=some (true,openGood qv lo,(K0 w.params).map fun p=>some p.2):=by
  rw [PySem.W.Fast.te4187177175401517315]
  kernel_rfl
theorem seen_t(w:ag)(os:OsState):(ran true w os).map (fun s=>((staticsOk ms (boot_heap w.params) s.heap&&namesBound pw s.heap&&gensDone s&&laidKept (boot_heap w.params) s.heap),
    openSeen qv lo ms (fun _=>true) true s,ks.map s.heap.get?))=some (true,openGood qv lo,(K0 w.params).map fun p=>some p.2):=by
  rw [PySem.W.Fast.te4187177175401517315]
  kernel_rfl
theorem seen_eq(b:Bool)(w:ag)(os:OsState):(ran b w os).map (fun s=>((staticsOk ms (boot_heap w.params) s.heap&&namesBound pw s.heap&&gensDone s&&laidKept (boot_heap w.params) s.heap),
    openSeen qv lo ms (fun _=>true) true s,ks.map s.heap.get?))=some (true,openGood qv lo,(K0 w.params).map fun p=>some p.2):=by
  cases b
  · exact seen_f w os
  · exact seen_t w os
theorem boot_is:∀w:ag,(fencedOpening treeTable pw w 2100).map (fun s=>(s.heap,s.gens,s.drawn,s.toks))=some (boot_heap w.params,Array.mk [],boot_drawn,boot_toks):=
  boot_open (by kernel_rfl) (by kernel_rfl) (fun s=>by kernel_rfl)
theorem boot_size(w:ag):((boot_heap w.params).isNs mainGlobals&&(Array.mk []:Array GenState).size==0,(boot_heap w.params).objs.size,(boot_heap w.params).nsMap mainGlobals "__annotations__")=(true,11,some (.ref 6)):=by kernel_rfl
theorem left_of{p q:Program}{loose:List Str}{Xt:aa→Bool}{α:Type}{Yf:aa→α}{Ya:ag→α}{N:Nat}{H₀:ae→Heap}{gs₀:Array GenState}{d₀:Drawn}{k₀ m₀:Nat}{ann:Option Value}{row:String}
    {TR:(String→Option Builtin)→Program→ag→Nat→Option Value→Nat→aa→Thread→Option aa} {TT:String→Option Builtin}
    (h1:topRun=TR) (h2:treeTable=TT)
    (open_:∀w:ag,(fencedOpening treeTable p w N).map (fun s=>(s.heap,s.gens,s.drawn,s.toks))=some (H₀ w.params,gs₀,d₀,k₀))
    (size:∀w:ag,((H₀ w.params).isNs mainGlobals&&gs₀.size==0,(H₀ w.params).objs.size,(H₀ w.params).nsMap mainGlobals "__annotations__")=(true,m₀,ann))
    (seen:∀(b:Bool) (w:ag) (os:OsState),(TR TT p (w.withFollow row b) m₀ ann N ⟨H₀ w.params,gs₀,d₀,k₀,os⟩ (topStub p)).map (fun s=>((staticsOk (importedModules p.main.body) (H₀ w.params) s.heap&&namesBound p s.heap&&gensDone s&&laidKept (H₀ w.params) s.heap),
      openSeen q loose (importedModules p.main.body) Xt true s,Yf s))=some (true,openGood q loose,Ya w)):LeftO p q loose Xt Yf Ya N:=fun w=>by
  subst h1 h2
  obtain ⟨⟨h,gs,d,k,os⟩,e,e'⟩:=Option.map_eq_some_iff.mp (open_ w)
  obtain ⟨rfl,rfl,rfl,rfl⟩:h=H₀ w.params∧gs=gs₀∧d=d₀∧k=k₀:=by simpa using e'
  obtain ⟨z1,z2,z3⟩:_∧_∧_:=by simpa only [Prod.mk.injEq] using size w
  have ew:=World.withFollow_self w row
  generalize w.params.followText row=b at ew
  obtain ⟨s,hs,hv⟩:=Option.map_eq_some_iff.mp (seen b w os)
  obtain ⟨l1,l2,l3⟩:_∧_∧_:=by simpa only [Prod.mk.injEq] using hv
  rw [ew] at hs
  have t:topFrom treeTable p w N ⟨H₀ w.params,gs,d,k,os⟩=some s:=by
    unfold topFrom
    dsimp only
    rw [z1,z2,z3,hs]
    show (match staticsOk (importedModules p.main.body) (H₀ w.params) s.heap&&namesBound p s.heap&&gensDone s&&laidKept (H₀ w.params) s.heap with|true=>_|false=>_)=_
    rw [l1]
  unfold openEnds
  rw [e]
  show (topFrom treeTable p w N _).map _=_
  rw [t]
  exact congrArg some (Prod.ext l2 l3)
theorem left:LeftO pw qv lo (fun _=>true) (fun s=>ks.map s.heap.get?) (fun w=>(K0 w.params).map fun p=>some p.2) 2100:=
  left_of PySem.W.Fast.te14082659384304107361 PySem.W.Fast.te14364793385576792824 boot_is boot_size seen_eq
noncomputable def den:Code→Sem Fin:=PySem.W.Fast.tw11892475500146522536 PySem.W.Fast.tw14364793385576792824
theorem den_eq:denote table=den:=by
  unfold den
  rw [table_eq_tree,PySem.W.Fast.te11892475500146522536,PySem.W.Fast.te14364793385576792824]
noncomputable def quiet:Code→Bool:=PySem.W.ZFast.zw17772548960776305114
theorem quiet_eq:Code.quiet=quiet:=PySem.W.ZFast.ze17772548960776305114
inductive KK where
  |base
  |own
  |ret (c:Code) (k:Result→Sem Fin) (d:Nat) (κ:KK)
  |ent (κ:KK)
  |gen (j:Nat) (c:Code) (k:GenResult→Sem Fin) (d:Nat) (κ:KK)
noncomputable def inSeg:KK→Bool
  | .gen _ _ _ _ _=>true
  | .ret _ _ _ κ=>inSeg κ
  |_=>false
inductive GE where
  |fresh (c:Code)
  |susp (k:Resume→Sem Fin) (c:Code)
  |running
  |finished
noncomputable def gset:List GE→Nat→GE→List GE
  |[],_,_=>[]
  |x::l,i,g=>match Nat.beq i 0 with
    |true=>g::l
    |false=>x::gset l (Nat.sub i 1) g
noncomputable def gpush:List GE→GE→List GE
  |[],g=>[g]
  |x::l,g=>x::gpush l g
noncomputable def glen:List GE→Nat
  |[]=>0
  |_::l=>Nat.succ (glen l)
noncomputable def retOf(f:Flow):Value:=match f with
  | .ret v=>v
  |_=> .none
structure Vw where
  prog:Program
  w:ag
  kt:KT
  ro:List (Addr×Obj)
  as:List Nat
  n0:Nat
  base:Nat
  t₀:Nat
  lim:Nat
  g0:Nat
  vals:List Value
structure Sv where
  h₀:Heap
  mods:List Addr
  g:Array GenState
  A₀:ai
  R₀:Result→aa→Prop
  d:Drawn
  os:OsState
  dep:Nat
  c₀:Code
inductive SL where
  |nil
  |node (v:Option Obj) (l r:SL)
namespace SL
noncomputable def get:SL→Nat→Option Obj
  | .nil,_=>none
  | .node v l r,i=>match Nat.beq i 0 with
    |true=>v
    |false=>match Nat.beq (Nat.mod i 2) 1 with
      |true=>l.get (Nat.div i 2)
      |false=>r.get (Nat.sub (Nat.div i 2) 1)
noncomputable def left:SL→SL
  | .nil=> .nil
  | .node _ l _=>l
noncomputable def right:SL→SL
  | .nil=> .nil
  | .node _ _ r=>r
noncomputable def val:SL→Option Obj
  | .nil=>none
  | .node v _ _=>v
noncomputable def put(o:Obj):Nat→SL→Nat→SL
  |0,t,_=>t
  |f+1,t,i=>match Nat.beq i 0 with
    |true=> .node (some o) t.left t.right
    |false=>match Nat.beq (Nat.mod i 2) 1 with
      |true=> .node t.val (put o f t.left (Nat.div i 2)) t.right
      |false=> .node t.val t.left (put o f t.right (Nat.sub (Nat.div i 2) 1))
theorem get_is(t:SL)(i:Nat):t.get i=if i=0 then t.val else if i % 2=1 then t.left.get (i / 2) else t.right.get (i / 2 - 1):=by
  cases t with
  |nil=>simp [get,val,left,right]
  |node v l r=>
    show (match Nat.beq i 0 with|true=>v|false=>match Nat.beq (i % 2) 1 with|true=>l.get (i / 2)|false=>r.get (i / 2 - 1))=_
    rw [BT.beq_eq,BT.beq_eq]
    by_cases h:i=0
    · simp [h,val]
    · by_cases q:i % 2=1<;>simp [h,q,left,right]
theorem put_is(o:Obj)(f:Nat)(t:SL)(i:Nat):put o (f+1) t i=if i=0 then .node (some o) t.left t.right else if i % 2=1 then .node t.val (put o f t.left (i / 2)) t.right else .node t.val t.left (put o f t.right (i / 2 - 1)):=by
  show (match Nat.beq i 0 with|true=>SL.node (some o) t.left t.right|false=>match Nat.beq (i % 2) 1 with|true=>SL.node t.val (put o f t.left (i / 2)) t.right|false=>SL.node t.val t.left (put o f t.right (i / 2 - 1)))=_
  rw [BT.beq_eq,BT.beq_eq]
  by_cases h:i=0
  · simp [h]
  · by_cases q:i % 2=1<;>simp [h,q]
theorem get_put(o:Obj):∀(f:Nat) (t:SL) (i j:Nat),i<2^f→(put o (f+1) t i).get j=if j=i then some o else t.get j
  |f,t,i,j,hi=>by
    rw [put_is,get_is t j]
    by_cases h0:i=0
    · subst h0
      rw [if_pos rfl,get_is]
      by_cases hj:j=0
      · subst hj;simp [val]
      · simp [hj,left,right]
    · rw [if_neg h0]
      cases f with
      |zero=>simp at hi;lia
      |succ f=>
        have hp:(2:Nat)^(f+1)=2 * 2^f:=by rw [Nat.pow_succ];lia
        by_cases p:i % 2=1
        · rw [if_pos p,get_is]
          by_cases hj:j=0
          · subst hj;simp [val,Ne.symm h0]
          · by_cases pj:j % 2=1
            · simp only [hj,pj,if_true,if_false,left]
              rw [get_put o f _ _ _ (by lia)]
              by_cases e:j=i
              · subst e;simp
              · have:j / 2≠i / 2:=by lia
                simp [e,this]
            · have:j≠i:=fun e=>pj (e▸p)
              simp [hj,pj,this,right]
        · rw [if_neg p,get_is]
          by_cases hj:j=0
          · subst hj;simp [val,Ne.symm h0]
          · by_cases pj:j % 2=1
            · have:j≠i:=fun e=>p (e▸pj)
              simp [hj,pj,this,left]
            · simp only [hj,pj,if_false,right]
              rw [get_put o f _ _ _ (by lia)]
              by_cases e:j=i
              · subst e;simp
              · have:j / 2 - 1≠i / 2 - 1:=by lia
                simp [e,this]
@[irreducible] noncomputable def inB (m:Nat):Bool:=Nat.blt m 1099511627776
theorem get_put40(o:Obj)(t:SL)(i j:Nat)(hi:inB i=true):(put o 41 t i).get j=if j=i then some o else t.get j:=
  get_put o 40 t i j (by unfold inB at hi;exact blt_true hi)
theorem inB_of{i:Nat}(h:i<1099511627776):inB i=true:=by unfold inB;exact Nat.ble_eq_true_of_le h
end SL
noncomputable def nth{α:Type}:List α→Nat→Option α
  |[],_=>none
  |x::l,i=>match Nat.beq i 0 with
    |true=>some x
    |false=>nth l (Nat.sub i 1)
theorem nth_mem{α:Type}:∀{l:List α} {i:Nat} {x:α},nth l i=some x→x∈l
  |[],_,_,h=>by cases h
  |y::l,i,x,h=>by
    unfold nth at h
    split at h
    · cases h;exact .head _
    · exact .tail _ (nth_mem h)
noncomputable def adr(V:Vw)(j:Nat):Nat:=match Nat.blt j V.n0 with
  |true=>match nth V.as j with
    |some a=>a
    |none=>0
  |false=>Nat.add V.base (Nat.sub j V.n0)
section
variable {α β:Type}
noncomputable def a2(args:Args)(one:Value→Option α)(two:Value→Value→Option α):Option α:=match args with
  |⟨pos,kw⟩=>match kw with
    |_::_=>none
    |[]=>match pos with
      |[]=>none
      |x::r=>match r with
        |[]=>one x
        |y::r'=>match r' with
          |[]=>two x y
          |_::_=>none
noncomputable def vS(v:Value)(fi:Int→Option α)(fs:Str→Tok→Option α)(fr:Addr→Option α):Option α:=match v with
  | .int a _=>fi a
  | .str a t=>fs a t
  | .ref a=>fr a
  |_=>none
noncomputable def no1{γ:Type}(_:γ):Option α:=none
noncomputable def no2{γ δ:Type}(_:γ)(_:δ):Option α:=none
noncomputable def oV(x:Option β)(f:β→Option α):Option α:=match x with
  |some a=>f a
  |none=>none
noncomputable def bV(b:Bool)(x:Option α):Option α:=match b with
  |true=>x
  |false=>none
noncomputable def bN(b:Bool)(x:Option α):Option α:=match b with
  |true=>none
  |false=>x
noncomputable def idV(id x:String)(r:Option α):Option α:=match PySem.W.S.strDecS id x with
  | .isTrue _=>r
  | .isFalse _=>none
noncomputable def seqV(d:Data)(f:Array Value→Nat→Option α):Option α:=match d with
  | .seq items ep=>f items ep
  |_=>none
noncomputable def funV(d:Data)(f:FuncData→Option α):Option α:=match d with
  | .func fd=>f fd
  |_=>none
variable {C:Prop} {r:α}
theorem nn(h:(none:Option α)=some r):C:=by cases h
theorem a2_i{args:Args}{one:Value→Option α}{two:Value→Value→Option α}(e:a2 args one two=some r)(h1:∀x,args=⟨[x],[]⟩→one x=some r→C)(h2:∀x y,args=⟨[x,y],[]⟩→two x y=some r→C):C:=by
  obtain ⟨pos,kw⟩:=args
  cases kw with
  |cons _ _=>exact nn e
  |nil=>
    cases pos with
    |nil=>exact nn e
    |cons x l=>
      cases l with
      |nil=>exact h1 x rfl e
      |cons y l=>
        cases l with
        |nil=>exact h2 x y rfl e
        |cons _ _=>exact nn e
theorem vS_i{v:Value}{fi:Int→Option α}{fs:Str→Tok→Option α}{fr:Addr→Option α}(e:vS v fi fs fr=some r)(h1:∀a t,v= .int a t→fi a=some r→C)(h2:∀a t,v= .str a t→fs a t=some r→C)(h3:∀a,v= .ref a→fr a=some r→C):C:=by
  cases v with
  |int a t=>exact h1 a t rfl e
  |str a t=>exact h2 a t rfl e
  |ref a=>exact h3 a rfl e
  |_=>exact nn e
theorem iV_i{v:Value}{f:Int→Option α}(e:vS v f no2 no1=some r)(h:∀a t,v= .int a t→f a=some r→C):C:=vS_i e h (fun _ _ _ h=>nn h) fun _ _ h=>nn h
theorem sV_i{v:Value}{f:Str→Tok→Option α}(e:vS v no1 f no1=some r)(h:∀a t,v= .str a t→f a t=some r→C):C:=vS_i e (fun _ _ _ h=>nn h) h fun _ _ h=>nn h
theorem rV_i{v:Value}{f:Addr→Option α}(e:vS v no1 no2 f=some r)(h:∀a,v= .ref a→f a=some r→C):C:=vS_i e (fun _ _ _ h=>nn h) (fun _ _ _ h=>nn h) h
theorem oV_i{x:Option β}{f:β→Option α}(e:oV x f=some r)(h:∀a,x=some a→f a=some r→C):C:=by
  cases x with
  |none=>exact nn e
  |some a=>exact h a rfl e
theorem bV_i{b:Bool}{x:Option α}(e:bV b x=some r)(h:b=true→x=some r→C):C:=by
  cases b with
  |true=>exact h rfl e
  |false=>exact nn e
theorem bN_i{b:Bool}{x:Option α}(e:bN b x=some r)(h:b=false→x=some r→C):C:=by
  cases b with
  |true=>exact nn e
  |false=>exact h rfl e
theorem idV_i{id x:String}{f:Option α}(e:idV id x f=some r)(h:id=x→f=some r→C):C:=by
  unfold idV at e
  cases hd:PySem.W.S.strDecS id x with
  |isTrue q=>rw [hd] at e;exact h q e
  |isFalse q=>rw [hd] at e;exact nn e
theorem funV_i{d:Data}{f:FuncData→Option α}(e:funV d f=some r)(h:∀x,d= .func x→f x=some r→C):C:=by
  cases d with
  |func x=>exact h x rfl e
  |_=>exact nn e
theorem seqV_i{d:Data}{f:Array Value→Nat→Option α}(e:seqV d f=some r)(h:∀x n,d= .seq x n→f x n=some r→C):C:=by
  cases d with
  |seq x n=>exact h x n rfl e
  |_=>exact nn e
end
noncomputable def lk(V:Vw)(T:SL)(x a:Nat):Option (Addr×Obj):=match Nat.beq x 0 with
  |true=>oV (V.kt.get a) fun o=>some (a,o)
  |false=>match Nat.blt x 64 with
    |true=>nth V.ro (Nat.sub x 1)
    |false=>oV (T.get (Nat.sub x 64)) fun o=>some (adr V (Nat.sub x 64),o)
noncomputable abbrev SK:=Pos→List (Code×Pos)→Sem Fin
structure Cf where
  c:Code
  κ:KK
  dp:Nat
  t:Sem Fin
  T:SL
  m:Nat
  i:Nat
  G:List GE
  hs:Nat
  obl:List (Nat×Nat)
  side:List Prop
  stk:List (SK×SK)
noncomputable def wt(c:Code):Nat:=match c with
  | .call _ _=>0
  | .builtin id _=>match PySem.W.S.strDecS id "claim.caller" with
    | .isTrue _=>1000
    | .isFalse _=>5
  |_=>2
noncomputable def up(c:Code)(κ:KK)(dp:Nat):Nat:=match κ with
  | .own=>dp
  |_=>Nat.add dp (wt c)
noncomputable def fnOf?(kt:KT)(f:Addr):Option FuncData:=oV (kt.get f) fun o=>funV o.data fun fd=>bN fd.scope.isGenerator (bN fd.scope.isCoroutine (some fd))
noncomputable def againOf(fd:FuncData)(env:Env):Fin:= .again (match fd.body with
  | .stmts b=> .func b env
  | .expr e=> .expr e env)
noncomputable def callEnv(self:Addr)(fd:FuncData)(args:Args):Sem Env:=do
  let compiled←match fd.code with
    | .none=>pure fd.qualname
    |c=>do match←PySem.W.Fast.tw6609576154772507232 c 1 with
      | .str q _=>pure q
      |_=>pure fd.qualname
  PySem.W.Fast.tw11113344188204177931 fd.scope fd.globals fd.closure (←PySem.W.Fast.tw9782568553167038054 fd args) (compiled++ ".<locals>.") (some self) fd.code none fd.builtins
noncomputable def ci(self:Addr)(fd:FuncData)(args:Args):Sem Fin:=(callEnv self fd args).bind fun env=> .pure (againOf fd env)
noncomputable def bt(b:Nat):Nat:=Nat.mod b 65536
noncomputable def rest(b:Nat):Nat:=Nat.div b 65536
structure Sc where
  v:Nat→Value
  dt:Nat
  ask:Prop
noncomputable def iLit(p:Nat):Nat→Value:=fun t=> .int (U p) t
noncomputable def tabI(p:Nat)(a b:Int):List (String×Sc):=[("int.__mul__",⟨fun t=> .int (a * b) t,1,IntMulOk a b⟩),("int.__add__",⟨fun t=> .int (a+b) t,1,True⟩),("int.__sub__",⟨fun t=> .int (a - b) t,1,True⟩),
  ("int.__mod__",⟨fun t=> .int (Int.fmod a b) t,1,¬(b==0)=true⟩),("int.__floordiv__",⟨fun t=> .int (Int.fdiv a b) t,1,¬(b==0)=true∧¬(PySem.Builtin.divisionGoesByPylong a b)=true⟩),
  ("int.__mul__",⟨iLit p,1,IntMulOk a b∧a * b=U p⟩),("int.__add__",⟨iLit p,1,a+b=U p⟩),("int.__sub__",⟨iLit p,1,a - b=U p⟩),("int.__mod__",⟨iLit p,1,¬(b==0)=true∧Int.fmod a b=U p⟩),
  ("int.__floordiv__",⟨iLit p,1,(¬(b==0)=true∧¬(PySem.Builtin.divisionGoesByPylong a b)=true)∧Int.fdiv a b=U p⟩),
  ("int.__lt__",⟨fun _=> .bool (Nat.beq p 1),0,decide (a<b)=Nat.beq p 1⟩),("int.__le__",⟨fun _=> .bool (Nat.beq p 1),0,decide (a≤b)=Nat.beq p 1⟩),("int.__gt__",⟨fun _=> .bool (Nat.beq p 1),0,decide (b<a)=Nat.beq p 1⟩),
  ("int.__ge__",⟨fun _=> .bool (Nat.beq p 1),0,decide (b≤a)=Nat.beq p 1⟩),("int.__eq__",⟨fun _=> .bool (Nat.beq p 1),0,(a==b)=Nat.beq p 1⟩),("int.__ne__",⟨fun _=> .bool (Nat.beq p 1),0,(a !=b)=Nat.beq p 1⟩)]
noncomputable def tabS(p:Nat)(x:Str)(t₁:Tok)(y:Str)(t₂:Tok):List (String×Sc):=[("str.__add__",⟨fun t=> .str (x++y) (match Nat.beq x.length 0 with|true=>t₂|false=>match Nat.beq y.length 0 with|true=>t₁|false=>t),
      (match Nat.beq x.length 0 with|true=>0|false=>match Nat.beq y.length 0 with|true=>0|false=>1),(x++y).length≤sizeLine⟩),
  ("str.__eq__",⟨fun _=> .bool (Nat.beq p 1),0,(x.cps.toList==y.cps.toList)=Nat.beq p 1⟩),("str.__ne__",⟨fun _=> .bool (Nat.beq p 1),0,(x.cps.toList !=y.cps.toList)=Nat.beq p 1⟩)]
noncomputable def tabL(p:Nat)(x:Str):List (String×Sc):=[("str.__len__",⟨fun t=> .int x.length t,1,True⟩),("str.isspace",⟨fun _=> .bool (Nat.beq p 1),0,(x.length>0&&x.cps.all Unicode.isSpace)=Nat.beq p 1⟩)]
noncomputable def pickT(l:List (String×Sc))(n:Nat)(id:String):Option Sc:=oV (nth l n) fun e=>idV id e.1 (some e.2)
noncomputable def sc(op p:Nat)(id:String)(args:Args):Option Sc:=a2 args (fun x=>vS x no1 (fun a _=>pickT (tabL p a) (Nat.sub op 24) id) no1)
  fun x y=>vS x (fun a=>vS y (fun b=>pickT (tabI p a b) (Nat.sub op 2) id) no2 no1) (fun a t=>vS y no1 (fun b u=>pickT (tabS p a t b u) (Nat.sub op 20) id) no1) no1
noncomputable def room1:Sem Unit:=do
  match←nsGet cStatics "sys.recursionlimit" with
  |none=>pure ()
  |some _=>unsupported ""
noncomputable def dT(a:Addr):Sem Fin:=do
  let n←Builtin.Generator.genNumber (.ref a)
  let st←genState n
  match st with
  | .fresh=>room1
  | .suspended=>room1
  |_=>unsupported ""
  match←resume n (.send .none) with
  | .yielded v=>ret v
  | .returned v=>match v with
    | .none=>do
      raiseNew (α:=PUnit) (←newExc (.type "StopIteration") [])
      unsupported ""
    |_=>unsupported ""
  |_=>unsupported ""
noncomputable def altT(j:Nat)(id:String)(args:Args):Option (Sem Fin):=a2 args (fun x=>vS x no1 no2 fun a=>bV (Nat.beq j 100) (idV id "generator.__next__" (some (dT a)))) no2
structure Hc where
  v:Nat→Value
  dt:Nat
  ask:Prop
  obl:Nat×Nat
  T':SL
noncomputable def apO(V:Vw)(T:SL)(j:Nat)(b:Value)(a:Addr)(o:Obj):Option Hc:=match o with
  |⟨c,d,dt,sl⟩=>seqV dt fun items ep=>some ⟨fun _=> .none,0,items.size≤sizeLine,(a,adr V j),SL.put ⟨c,d,.seq (items.toList++[b]).toArray (Nat.succ ep),sl⟩ 41 T j⟩
noncomputable def apS(V:Vw)(T:SL)(x j:Nat)(id:String)(b:Value)(a:Addr):Option Hc:=idV id "list.append" (bN (Nat.blt x 64) (bV (SL.inB j) (oV (T.get j) (apO V T j b a))))
noncomputable def apOf(V:Vw)(T:SL)(x:Nat)(id:String)(args:Args):Option Hc:=a2 args no1 fun a b=>vS a no1 no2 (apS V T x (Nat.sub x 64) id b)
noncomputable def hcS(T:SL)(i:Int)(s y:Str):Hc:=⟨fun t=> .str y t,1,(decide (i< -(2^63:Int))||decide (i≥2^63))=false∧∃c,(seqIndex? i s.length).bind (s.cps[·]?)=some c∧y=⟨#[c]⟩,(0,0),T⟩
noncomputable def hcI(T:SL)(i:Int)(v:Value)(a b:Addr)(items:Array Value):Hc:=⟨fun _=>v,0,(0≤i∧i<2^63)∧items[i.toNat]? =some v,(a,b),T⟩
noncomputable def hc3(T:SL)(id:String)(i:Int)(v:Value)(s:Str)(_:Tok):Option Hc:=vS v no1 (fun y _=>idV id "str.__getitem__" (some (hcS T i s y))) no1
noncomputable def hc4(V:Vw)(T:SL)(x:Nat)(id:String)(i:Int)(v:Value)(a:Addr):Option Hc:=idV id "list.__getitem__" (oV (lk V T x a) fun q=>seqV q.2.data fun items _=>some (hcI T i v a q.1 items))
noncomputable def hc2(V:Vw)(T:SL)(x p:Nat)(id:String)(a b:Value):Option Hc:=vS b (fun i=>oV (nth V.vals p) fun v=>vS a no1 (hc3 T id i v) (hc4 V T x id i v)) no2 no1
noncomputable def hcOf(V:Vw)(T:SL)(op x p:Nat)(id:String)(args:Args):Option Hc:=bN (Nat.blt op 200) (match Nat.beq op 210 with
  |true=>apOf V T x id args
  |false=>a2 args no1 (hc2 V T x p id))
noncomputable def isEnt:KK→Bool
  | .ent _=>true
  |_=>false
noncomputable def bS(b:Bool)(x y:Cf):Cf:=match b with
  |true=>x
  |false=>y
noncomputable def oS{α:Type}(x:Option α)(f:Cf)(g:α→Cf):Cf:=match x with
  |some a=>g a
  |none=>f
noncomputable def callR(V:Vw)(sg:Bool)(hs:Nat)(x:Value)(args:Args)(f:Cf)(pl ent:Sem Fin→Nat→Cf):Cf:=match x with
  | .ref a=>bS (Nat.beq (bt hs) 0) (bS sg f (oS (fnOf? V.kt a) f fun fd=>ent (ci a fd args) (rest hs))) (bS (Nat.beq (bt hs) 1) (pl (den (.call (.ref a) args)) (rest hs)) f)
  |x=>pl (den (.call x args)) hs
noncomputable def callB(V:Vw)(sg:Bool)(d:Nat)(T:SL)(hs:Nat)(id:String)(args:Args)(f:Cf)(pl:Sem Fin→Nat→Cf)(hc:Hc→Nat→Cf)(sc₁:Sc→Nat→Cf):Cf:=
  bS (Nat.beq (bt hs) 0) (pl (den (.builtin id args)) (rest hs)) (bS sg f (match altT (bt hs) id args with
    |some t'=>bS (Nat.ble (Nat.add d 5) V.lim) (pl t' (rest hs)) f
    |none=>match hcOf V T (bt hs) (bt (rest hs)) (bt (rest (rest hs))) id args with
      |some r=>hc r (rest (rest (rest hs)))
      |none=>oS (sc (bt hs) (bt (rest hs)) id args) f fun r=>sc₁ r (rest (rest hs))))
noncomputable def callS(V:Vw)(sg:Bool)(d:Nat)(T:SL)(hs:Nat)(c:Code)(f:Cf)(pl ent:Sem Fin→Nat→Cf)(hc:Hc→Nat→Cf)(sc₁:Sc→Nat→Cf):Cf:=match c with
  | .call x args=>callR V sg hs x args f pl ent
  | .builtin id args=>callB V sg d T hs id args f pl hc sc₁
  |c=>pl (den c) hs
noncomputable abbrev Go:=Code→KK→Nat→Sem Fin→SL→Nat→Nat→List GE→Nat→List (Nat×Nat)→List Prop→List (SK×SK)→Cf
noncomputable def endS(f:Cf)(r:Result)(gr:GenResult)(go:Code→KK→Nat→Sem Fin→Cf)(gg:Nat→Code→KK→Nat→Sem Fin→Cf)(κ:KK):Cf:=match κ with
  | .ret c k d κ=>go c κ d (k r)
  | .gen j c k d κ=>gg j c κ d (k gr)
  |_=>f
noncomputable def againS(go:Go)(V:Vw)(c₀:Code)(κ:KK)(c:Code)(f:Cf)(dp:Nat)(T:SL)(m i:Nat)(G:List GE)(hs:Nat)(obl:List (Nat×Nat))(side:List Prop)(stk:List (SK×SK)):Cf:=match κ with
  | .ent κ=>bS (Nat.ble (Nat.add dp (wt c₀)) V.lim) (go c κ dp (den c) T m i G hs obl side stk) f
  | .own=>f
  | .base=>go c .base dp (den c) T m i G hs obl side stk
  | .gen j c₁ k d κ=>go c (.gen j c₁ k d κ) dp (den c) T m i G hs obl side stk
  | .ret c₁ k d κ=>callS V (inSeg κ) dp T hs c f (fun t h=>go c (.ret c₁ k d κ) dp t T m i G h obl side stk) (fun t h=>go c (.ent (.ret c₁ k d κ)) dp t T m i G h obl side stk)
    (fun r h=>go c₁ κ d (k (.ok (.ret (r.v (Nat.add V.t₀ i))))) r.T' m (Nat.add i r.dt) G h (r.obl::obl) (r.ask::side) stk)
    (fun r h=>go c₁ κ d (k (.ok (.ret (r.v (Nat.add V.t₀ i))))) T m (Nat.add i r.dt) G h obl (r.ask::side) stk)
noncomputable def seenS(go:Sem Fin→List (SK×SK)→Cf)(k:GenStatus×Option (List (Code×Pos))→Sem Fin)(stk:List (SK×SK))(x:GE):Cf:=match x with
  | .fresh c=>go (k (.fresh,some [(c,default)])) stk
  | .susp _ c=>go (k (.suspended,some [(c,⟨0,0,0,0⟩)])) (((fun p _=>k (.suspended,some [(c,p)])),(fun _ _=>k (.suspended,some [(c,⟨0,0,0,0⟩)])))::stk)
  | .running=>go (k (.running,none)) stk
  | .finished=>go (k (.finished,none)) stk
noncomputable def isNone:Value→Bool
  | .none=>true
  |_=>false
noncomputable def wakeS(f:Cf)(go:Code→Sem Fin→Cf)(r:Resume)(x:GE):Cf:=match x with
  | .fresh c=>match r with
    | .send v=>bS (isNone v) (go c (den c)) f
    | .throw _=>f
  | .susp k c=>go c (k r)
  |_=>f
noncomputable def yieldS(f:Cf)(v:Value)(gd:Bool)(go:Nat→Code→KK→Nat→Sem Fin→Cf)(κ:KK):Cf:=match κ with
  | .gen j c k d κ=>bS gd f (go j c κ d (k (.yielded v)))
  |_=>f
noncomputable def runS(go:Go)(V:Vw)(c:Code)(κ:KK)(dp:Nat)(t:Sem Fin)(T:SL)(m i:Nat)(G:List GE)(hs:Nat)(obl:List (Nat×Nat))(side:List Prop)(stk:List (SK×SK)):Cf:=
    match t with
    | .pure fin=>match fin with
      | .done f=>endS ⟨c,κ,dp,t,T,m,i,G,hs,obl,side,stk⟩ (.ok f) (.returned (retOf f)) (fun c κ d t=>go c κ d t T m i G hs obl side stk) (fun j c κ d t=>go c κ d t T m i (gset G j .finished) hs obl side stk) κ
      | .again c'=>bS (quiet c') (againS go V c κ c' ⟨c,κ,dp,t,T,m,i,G,hs,obl,side,stk⟩ dp T m i G hs obl side stk) ⟨c,κ,dp,t,T,m,i,G,hs,obl,side,stk⟩
    | .raise e=>endS ⟨c,κ,dp,t,T,m,i,G,hs,obl,side,stk⟩ (.error e) (.raised e) (fun c κ d t=>go c κ d t T m i G hs obl side stk) (fun j c κ d t=>go c κ d t T m i (gset G j .finished) hs obl side stk) κ
    | .rule _ k=>go c κ dp (k ()) T m i G hs obl side stk
    | .at _ k=>go c κ dp (k ()) T m i G hs obl side stk
    | .point _ k=>go c κ dp (k ()) T m i G hs obl side stk
    | .ask k=>go c κ dp (k ⟨V.prog,V.w.params⟩) T m i G hs obl side stk
    | .load a _ k=>oS (lk V T (bt hs) a) ⟨c,κ,dp,t,T,m,i,G,hs,obl,side,stk⟩ fun p=>go c κ dp (k p.2) T m i G (rest hs) ((a,p.1)::obl) side stk
    | .loadIfAlive a k=>oS (lk V T (bt hs) a) ⟨c,κ,dp,t,T,m,i,G,hs,obl,side,stk⟩ fun p=>go c κ dp (k (some p.2)) T m i G (rest hs) ((a,p.1)::obl) side stk
    | .alloc o k=>bS o.isFreed ⟨c,κ,dp,t,T,m,i,G,hs,obl,side,stk⟩ (bS (SL.inB m) (go c κ dp (k (adr V m)) (SL.put o 41 T m) (Nat.succ m) i G hs obl side stk) ⟨c,κ,dp,t,T,m,i,G,hs,obl,side,stk⟩)
    | .update a _ f k=>bS (Nat.blt (bt hs) 64) ⟨c,κ,dp,t,T,m,i,G,hs,obl,side,stk⟩ (oS (T.get (Nat.sub (bt hs) 64)) ⟨c,κ,dp,t,T,m,i,G,hs,obl,side,stk⟩ fun o=>bS (f o).isFreed ⟨c,κ,dp,t,T,m,i,G,hs,obl,side,stk⟩
      (bS (SL.inB (Nat.sub (bt hs) 64)) (go c κ dp (k ()) (SL.put (f o) 41 T (Nat.sub (bt hs) 64)) m i G (rest hs) ((a,adr V (Nat.sub (bt hs) 64))::obl) side stk) ⟨c,κ,dp,t,T,m,i,G,hs,obl,side,stk⟩))
    | .fresh k=>go c κ dp (k (Nat.add V.t₀ i)) T m (Nat.succ i) G hs obl side stk
    | .handled own k=>bS own ⟨c,κ,dp,t,T,m,i,G,hs,obl,side,stk⟩ (go c κ dp (k none) T m i G hs obl side stk)
    | .stack k=>go c κ dp (k [(c,⟨0,0,0,0⟩)]) T m i G hs obl side (((fun p b=>k ((c,p)::b)),(fun _ _=>k [(c,⟨0,0,0,0⟩)]))::stk)
    | .call c' hd _ _ k=>match hd with
      |some _=>⟨c,κ,dp,t,T,m,i,G,hs,obl,side,stk⟩
      |none=>bS (isEnt κ) ⟨c,κ,dp,t,T,m,i,G,hs,obl,side,stk⟩ (callS V (inSeg κ) (up c κ dp) T hs c' ⟨c,κ,dp,t,T,m,i,G,hs,obl,side,stk⟩ (fun t h=>go c' (.ret c k dp κ) (up c κ dp) t T m i G h obl side stk) (fun t h=>go c' (.ent (.ret c k dp κ)) (up c κ dp) t T m i G h obl side stk)
        (fun r h=>go c κ dp (k (.ok (.ret (r.v (Nat.add V.t₀ i))))) r.T' m (Nat.add i r.dt) G h (r.obl::obl) (r.ask::side) stk)
        (fun r h=>go c κ dp (k (.ok (.ret (r.v (Nat.add V.t₀ i))))) T m (Nat.add i r.dt) G h obl (r.ask::side) stk))
    | .newGen c' k=>go c κ dp (k (Nat.add V.g0 (glen G))) T m i (gpush G (.fresh c')) hs obl side stk
    | .genState g k=>oS (nth G (bt hs)) ⟨c,κ,dp,t,T,m,i,G,hs,obl,side,stk⟩ fun x=>seenS (fun t stk=>go c κ dp t T m i G (rest hs) ((g,Nat.add V.g0 (bt hs))::obl) side stk) k stk x
    | .resume g r _ k=>bS (inSeg κ) ⟨c,κ,dp,t,T,m,i,G,hs,obl,side,stk⟩ (bS (isEnt κ) ⟨c,κ,dp,t,T,m,i,G,hs,obl,side,stk⟩ (oS (nth G (bt hs)) ⟨c,κ,dp,t,T,m,i,G,hs,obl,side,stk⟩ fun x=>
        wakeS ⟨c,κ,dp,t,T,m,i,G,hs,obl,side,stk⟩ (fun c₀ t=>go c₀ (.gen (bt hs) c k dp κ) dp t T m i (gset G (bt hs) .running) (rest hs) ((g,Nat.add V.g0 (bt hs))::obl) side stk) r x))
    | .yield v gd _ k=>yieldS ⟨c,κ,dp,t,T,m,i,G,hs,obl,side,stk⟩ v gd (fun j c₁ κ d t=>go c₁ κ d t T m i (gset G j (.susp k c)) hs obl side stk) κ
    |_=>⟨c,κ,dp,t,T,m,i,G,hs,obl,side,stk⟩
noncomputable def run(V:Vw):Nat→Code→KK→Nat→Sem Fin→SL→Nat→Nat→List GE→Nat→List (Nat×Nat)→List Prop→List (SK×SK)→Cf
  |0=>fun c κ dp t T m i G hs obl side stk=>⟨c,κ,dp,t,T,m,i,G,hs,obl,side,stk⟩
  |n+1=>runS (run V n) V
theorem run_rule(V:Vw)(n:Nat)(c:Code)(κ:KK)(dp:Nat)(tag:String)(k:Unit→Sem Fin)(T:SL)(m i:Nat)(G:List GE)(hs:Nat)(obl:List (Nat×Nat))(side:List Prop)(stk:List (SK×SK)):
    run V (n+1) c κ dp (.rule tag k) T m i G hs obl side stk=run V n c κ dp (k ()) T m i G hs obl side stk:=rfl
noncomputable def cM(id:String)(args:Args)(r:Sc):Prop:=
  ∀(prog:Program) (w:ag) (A:ai) (R:Result→aa→Prop) (s:aa),R (.ok (.ret (r.v s.toks))) {s with toks:=s.toks+r.dt}→codeAny (model prog w) A (.builtin id args) R s
theorem bj{id:String}{args:Args}{B:Builtin}{m:Made}{r:Sc}(plain:plainId id=true)(entry:entryFor table id=some B)(g:Gives (B args) m)
    (h:∀(Q:Value→aa→Prop) (s:aa),Q (r.v s.toks) {s with toks:=s.toks+r.dt}→m.post Q s):cM id args r:=fun prog w A R s hR=>
  codeAny_builtin entry (by rw [Around.under_plainId plain args];exact g prog w A R s (h (fun v s'=>R (.ok (.ret v)) s') s hR))
theorem cg_lit{id:String}{args:Args}{x:Int}{p:Nat}{P:Prop}(g:cM id args ⟨fun t=> .int x t,1,True⟩)(e:x=U p):cM id args ⟨iLit p,1,P⟩:=by
  subst e;exact g
theorem bR{id:String}{args:Args}{x y:Bool}{P:Prop}(g:cM id args ⟨fun _=> .bool x,0,True⟩)(e:x=y):cM id args ⟨fun _=> .bool y,0,P⟩:=by
  subst e;exact g
noncomputable def TabOk(args:Args):List (String×Sc)→Prop
  |[]=>True
  |(x,r)::l=>(r.ask→cM x args r)∧TabOk args l
theorem dQ{args:Args}{id:String}{r:Sc}:∀{l:List (String×Sc)} {n:Nat},TabOk args l→pickT l n id=some r→r.ask→cM id args r
  |[],_,_,e,_=>nn e
  |(x,_)::l,n,h,e,ha=>by
    unfold pickT nth at e
    cases hn:Nat.beq n 0 with
    |true=>
      rw [hn] at e
      refine idV_i e fun eid e=> ?_
      cases e
      subst eid
      exact h.1 ha
    |false=>
      rw [hn] at e
      exact dQ (n:=Nat.sub n 1) h.2 e ha
theorem tabI_ok(p:Nat)(a b:Int)(t u:Tok):TabOk ⟨[.int a t,.int b u],[]⟩ (tabI p a b):=
  ⟨fun ha=>bj (by decide+kernel) F.entry_int_mul (AutoIntG1.int___mul___int_int_0 a t b u ha) (fun _ _ q=>q),
   fun ha=>bj (by decide+kernel) F.entry_int_add (AutoIntG4.int___add___int_int_0 a t b u) (fun _ _ q=>q),
   fun ha=>bj (by decide+kernel) F.entry_int_sub (AutoIntG9.int___sub___int_int_0 a t b u) (fun _ _ q=>q),
   fun ha=>bj (by decide+kernel) F.entry_int_mod (AutoIntG6.int___mod___int_int_1 a t b u ha) (fun _ _ q=>q),
   fun ha=>bj (by decide+kernel) F.entry_int_floordiv (AutoIntG4.int___floordiv___int_int_1 a t b u ha.1 ha.2) (fun _ _ q=>q),
   fun ha=>cg_lit (bj (by decide+kernel) F.entry_int_mul (AutoIntG1.int___mul___int_int_0 a t b u ha.1) (fun _ _ q=>q)) ha.2,
   fun ha=>cg_lit (bj (by decide+kernel) F.entry_int_add (AutoIntG4.int___add___int_int_0 a t b u) (fun _ _ q=>q)) ha,
   fun ha=>cg_lit (bj (by decide+kernel) F.entry_int_sub (AutoIntG9.int___sub___int_int_0 a t b u) (fun _ _ q=>q)) ha,
   fun ha=>cg_lit (bj (by decide+kernel) F.entry_int_mod (AutoIntG6.int___mod___int_int_1 a t b u ha.1) (fun _ _ q=>q)) ha.2,
   fun ha=>cg_lit (bj (by decide+kernel) F.entry_int_floordiv (AutoIntG4.int___floordiv___int_int_1 a t b u ha.1.1 ha.1.2) (fun _ _ q=>q)) ha.2,
   fun ha=>bR (bj (by decide+kernel) F.entry_int_lt (AutoIntG1.int___lt___int_int_0 a t b u) (fun _ _ q=>q)) ha,
   fun ha=>bR (bj (by decide+kernel) F.entry_int_le (AutoIntG1.int___le___int_int_0 a t b u) (fun _ _ q=>q)) ha,
   fun ha=>bR (bj (by decide+kernel) F.entry_int_gt (AutoIntG4.int___gt___int_int_0 a t b u) (fun _ _ q=>q)) ha,
   fun ha=>bR (bj (by decide+kernel) F.entry_int_ge (AutoIntG9.int___ge___int_int_0 a t b u) (fun _ _ q=>q)) ha,
   fun ha=>bR (bj (by decide+kernel) F.entry_int_eq (AutoIntG7.int___eq___int_int_0 a t b u) (fun _ _ q=>q)) ha,
   fun ha=>bR (bj (by decide+kernel) F.entry_int_ne (AutoIntG6.int___ne___int_int_0 a t b u) (fun _ _ q=>q)) ha,trivial⟩
theorem str_append_nil{x y:Str}(h:x.length=0):x++y=y:=by
  obtain ⟨x⟩:=x
  obtain ⟨y⟩:=y
  have:x= #[]:=Array.eq_empty_of_size_eq_zero h
  subst this
  show Str.mk (#[]++y)=_
  rw [Array.empty_append]
theorem fx{x y:Str}(h:y.length=0):x++y=x:=by
  obtain ⟨x⟩:=x
  obtain ⟨y⟩:=y
  have:y= #[]:=Array.eq_empty_of_size_eq_zero h
  subst this
  show Str.mk (x++ #[])=_
  rw [Array.append_empty]
theorem add_ok(x y:Str)(t u:Tok){r:Sc}(er:r=⟨fun t₀=> .str (x++y) (match Nat.beq x.length 0 with|true=>u|false=>match Nat.beq y.length 0 with|true=>t|false=>t₀),(match Nat.beq x.length 0 with|true=>0|false=>match Nat.beq y.length 0 with|true=>0|false=>1),(x++y).length≤sizeLine⟩)(ha:r.ask):cM "str.__add__" ⟨[.str x t,.str y u],[]⟩ r:=by
  subst er
  refine bj (by decide+kernel) F.entry_str_add (gives_str_add x y t u) (fun Q s q=> ?_)
  dsimp only at q ha
  by_cases h1:x.length=0
  · rw [show Nat.beq x.length 0=true by rw [h1];rfl,str_append_nil h1] at q
    rw [show (x.length==0)=true from beq_iff_eq.mpr h1]
    exact q
  · rw [show Nat.beq x.length 0=false by rw [BT.beq_eq,decide_eq_false h1]] at q
    rw [show (x.length==0)=false from beq_eq_false_iff_ne.mpr h1]
    by_cases h2:y.length=0
    · rw [show Nat.beq y.length 0=true by rw [h2];rfl,fx h2] at q
      rw [show (y.length==0)=true from beq_iff_eq.mpr h2]
      exact q
    · rw [show Nat.beq y.length 0=false by rw [BT.beq_eq,decide_eq_false h2]] at q
      rw [show (y.length==0)=false from beq_eq_false_iff_ne.mpr h2]
      exact ⟨ha,q⟩
theorem tabS_ok(p:Nat)(x y:Str)(t u:Tok):TabOk ⟨[.str x t,.str y u],[]⟩ (tabS p x t y u):=
  ⟨add_ok x y t u rfl,
   fun ha=>bR (bj (by decide+kernel) F.entry_str_eq (gives_str_eq x y t u) (fun _ _ q=>q)) ha,
   fun ha=>bR (bj (by decide+kernel) F.entry_str_ne (gives_str_ne x y t u) (fun _ _ q=>q)) ha,trivial⟩
theorem tabL_ok(p:Nat)(x:Str)(t:Tok):TabOk ⟨[.str x t],[]⟩ (tabL p x):=
  ⟨fun _=>bj (by decide+kernel) F.entry_str_len (gives_str_len x t) (fun _ _ q=>q),
   fun ha=>bR (bj (by decide+kernel) F.entry_str_isspace (gives_str_isspace x t) (fun _ _ q=>q)) ha,trivial⟩
theorem sc_ok{op p:Nat}{id:String}{args:Args}{r:Sc}(h:sc op p id args=some r)(ha:r.ask):cM id args r:=
  a2_i h (fun x ea e => sV_i e fun a t ex e => by subst ea ex; exact dQ (tabL_ok p a t) e ha)
    fun x y ea e => vS_i e (fun a t ex e => iV_i e fun b u ey e => by subst ea ex ey; exact dQ (tabI_ok p a b t u) e ha)
      (fun a t ex e=>sV_i e fun b u ey e=>by subst ea ex ey;exact dQ (tabS_ok p a b t u) e ha) fun _ _ e=>nn e
noncomputable def arK(A₀:ai):KK→ai
  | .base=>A₀
  | .own=>A₀
  | .ret c _ _ κ=>((arK A₀ κ).under c).mark none
  | .ent κ=>arK A₀ κ
  | .gen _ c _ _ κ=>(arK A₀ κ).under c
noncomputable def segA(A₀:ai):KK→ai
  | .gen _ c _ _ κ=>(arK A₀ κ).under c
  | .ret _ _ _ κ=>segA A₀ κ
  |_=>A₀
noncomputable def FrK:KK→List Frame→Prop
  | .gen _ _ _ _ _,fs=>fs=[]
  | .ret c k _ κ,fs=>∃g l p fs',fs= .ret k none g l c p []::fs'∧FrK κ fs'
  |_,_=>False
noncomputable def cy(fin:Fin):Sem Fin:=(enterFrame:Sem Unit).bind fun _=> .pure fin
noncomputable def endK(V:Vw)(S:Sv):KK→Result→aa→Prop
  | .base=>S.R₀
  | .own=>S.R₀
  | .ret c k _ κ=>fun r s=>wpOwn (model V.prog V.w) (arK S.A₀ κ) c (k r) (postC V.prog V.w (arK S.A₀ κ) (endK V S κ)) (postE (endK V S κ)) s
  | .ent κ=>endK V S κ
  | .gen _ _ _ _ _=>fun _ _=>False
noncomputable def wakeK(V:Vw)(S:Sv):KK→End→aa→Prop
  | .gen j c k _ κ=>postG V.prog V.w (arK S.A₀ κ) c (postC V.prog V.w (arK S.A₀ κ) (endK V S κ)) (postE (endK V S κ)) k (V.g0+j)
  | .ret _ _ _ κ=>wakeK V S κ
  |_=>fun _ _=>False
noncomputable def postK(V:Vw)(S:Sv)(c:Code):KK→Fin→aa→Prop
  | .ent κ=>fun fin s=>wpOwn (model V.prog V.w) (arK S.A₀ κ) c (cy fin) (postC V.prog V.w (arK S.A₀ κ) (endK V S κ)) (postE (endK V S κ)) s
  |κ=>postC V.prog V.w (arK S.A₀ κ) (endK V S κ)
noncomputable def Means(V:Vw)(S:Sv)(c:Code)(κ:KK)(t:Sem Fin)(s:aa):Prop:=match inSeg κ with
  |false=>wpOwn (model V.prog V.w) (arK S.A₀ κ) c t (postK V S c κ) (postE (endK V S κ)) s
  |true=>∀fs,FrK κ fs→SegX (model V.prog V.w) (segA S.A₀ κ) c t fs s (wakeK V S κ)
theorem means_own{V:Vw}{S:Sv}{c:Code}{κ:KK}{t:Sem Fin}{s:aa}(h:inSeg κ=false):Means V S c κ t s=wpOwn (model V.prog V.w) (arK S.A₀ κ) c t (postK V S c κ) (postE (endK V S κ)) s:=by
  unfold Means;rw [h]
theorem aP{V:Vw}{S:Sv}{c:Code}{κ:KK}{t:Sem Fin}{s:aa}(h:inSeg κ=true):Means V S c κ t s=∀fs,FrK κ fs→SegX (model V.prog V.w) (segA S.A₀ κ) c t fs s (wakeK V S κ):=by
  unfold Means;rw [h]
noncomputable def KInv(S:Sv):Code→KK→Nat→Prop
  |_,.base,dp=>S.A₀.depth≤S.dep+dp∧S.A₀.handled=none
  |c,.own,dp=>c=S.c₀∧S.A₀.depth+S.c₀.weight≤S.dep+dp∧S.A₀.handled=none
  |_,.ret c k d κ,dp=>(inSeg κ=false→(arK S.A₀ (.ret c k d κ)).depth≤S.dep+dp)∧(∀κ',κ≠.ent κ')∧KInv S c κ d
  |c,.ent κ,dp=>(∀κ',κ≠.ent κ')∧κ≠.own∧inSeg κ=false∧KInv S c κ dp
  |_,.gen _ c _ d κ,_=>(∀κ',κ≠.ent κ')∧inSeg κ=false∧KInv S c κ d
theorem KInv.depth{S:Sv}:∀{c:Code} {κ:KK} {dp:Nat},inSeg κ=false→κ≠.own→(∀κ',κ= .ent κ'→κ'≠.own)→KInv S c κ dp→(arK S.A₀ κ).depth≤S.dep+dp
  |_,.base,_,_,_,_,h=>h.1
  |_,.own,_,_,q,_,_=>absurd rfl q
  |_,.ret _ _ _ _,_,q,_,_,h=>h.1 q
  |_,.ent κ,_,_,_,q,h=>KInv.depth (κ:=κ) h.2.2.1 (q _ rfl) (fun κ' e=>absurd e (h.1 κ')) h.2.2.2
  |_,.gen _ _ _ _ _,_,q,_,_,_=>by cases q
theorem KInv.handled{S:Sv}:∀{c:Code} {κ:KK} {dp:Nat},KInv S c κ dp→(arK S.A₀ κ).handled=none
  |_,.base,_,h=>h.2
  |_,.own,_,h=>h.2.2
  |_,.ret c k d κ,_,h=>by
    show (none:Option Value).or (arK S.A₀ κ).handled=none
    rw [KInv.handled h.2.2];rfl
  |_,.ent κ,_,h=>KInv.handled (κ:=κ) h.2.2.2
  |_,.gen _ _ _ _ κ,_,h=>KInv.handled (κ:=κ) h.2.2
theorem KInv.segHandled{S:Sv}:∀{c:Code} {κ:KK} {dp:Nat},inSeg κ=true→KInv S c κ dp→(segA S.A₀ κ).handled=none
  |_,.base,_,q,_=>by cases q
  |_,.own,_,q,_=>by cases q
  |_,.ent _,_,q,_=>by cases q
  |_,.ret _ _ _ κ,_,q,h=>KInv.segHandled (κ:=κ) q h.2.2
  |_,.gen _ _ _ _ κ,_,_,h=>KInv.handled (κ:=κ) h.2.2
theorem FrK.marks:∀{κ:KK} {fs:List Frame},FrK κ fs→∀x,marksOver fs (x,x)=(x,x)
  | .base,_,h,_=>h.elim
  | .own,_,h,_=>h.elim
  | .ent _,_,h,_=>h.elim
  | .gen _ _ _ _ _,_,h,x=>by
    have h:_=[]:=h
    subst h;rfl
  | .ret _ _ _ κ,_,h,x=>by
    obtain ⟨g,l,p,fs',rfl,h'⟩:=h
    have z:=FrK.marks h' x
    unfold marksOver at z⊢
    rw [List.foldr_cons,z];rfl
theorem KInv.code{S:Sv}{c c':Code}:∀{κ:KK} {dp:Nat},κ≠.own→KInv S c κ dp→KInv S c' κ dp
  | .base,_,_,h=>h
  | .own,_,q,_=>absurd rfl q
  | .ret _ _ _ _,_,_,h=>h
  | .ent κ,_,_,h=>⟨h.1,h.2.1,h.2.2.1,KInv.code h.2.1 h.2.2.2⟩
  | .gen _ _ _ _ _,_,_,h=>h
noncomputable def GM:GE→GenState→Prop
  | .fresh c,gs=>gs= .fresh c
  | .susp k c,gs=>∃l p cl,gs= .suspended k l c p [] cl
  | .running,gs=>gs= .running
  | .finished,gs=>gs= .finished
structure GRep (g₀:Array GenState) (G:List GE) (g:Array GenState):Prop where
  size:g.size=g₀.size+G.length
  old:∀i,i<g₀.size→g[i]? =g₀[i]?
  own:∀j ge,nth G j=some ge→∃gs,g[g₀.size+j]? =some gs∧GM ge gs
theorem glen_eq:∀G:List GE,glen G=G.length
  |[]=>rfl
  |_::l=>by show Nat.succ (glen l)=_;rw [glen_eq l];rfl
theorem gpush_eq:∀(G:List GE) (x:GE),gpush G x=G++[x]
  |[],_=>rfl
  |y::l,x=>by show y::gpush l x=_;rw [gpush_eq l x];rfl
theorem nthG{α:Type}:∀(l:List α) (i:Nat),nth l i=l[i]?
  |[],_=>rfl
  |x::l,i=>by
    unfold nth
    rw [BT.beq_eq]
    cases i with
    |zero=>rfl
    |succ i=>simp only [aQ,decide_false,List.getElem?_cons_succ];exact nthG l i
theorem gset_eq:∀(G:List GE) (i:Nat) (x:GE),gset G i x=G.set i x
  |[],_,_=>rfl
  |y::l,i,x=>by
    unfold gset
    rw [BT.beq_eq]
    cases i with
    |zero=>rfl
    |succ i=>simp only [aQ,decide_false,List.set_cons_succ];exact congrArg (y:: ·) (gset_eq l i x)
theorem GRep.push{g₀ g:Array GenState}{G:List GE}(R:GRep g₀ G g)(c:Code):GRep g₀ (gpush G (.fresh c)) (g.push (.fresh c)):=by
  rw [gpush_eq]
  refine ⟨by rw [Array.size_push,R.size,aA];rfl,fun i hi=> ?_,fun j ge e=> ?_⟩
  · rw [Array.getElem?_push,if_neg (by rw [R.size];lia)]
    exact R.old i hi
  · rw [nthG,List.getElem?_append] at e
    rw [Array.getElem?_push,R.size]
    by_cases hj:j<G.length
    · rw [if_pos hj] at e
      rw [if_neg (by lia)]
      exact R.own j ge (by rw [nthG];exact e)
    · rw [if_neg hj] at e
      by_cases h0:j - G.length=0
      · rw [h0] at e
        cases e
        rw [if_pos (by lia)]
        exact ⟨_,rfl,rfl⟩
      · obtain ⟨q,hq⟩:=Nat.exists_eq_succ_of_ne_zero h0
        rw [hq] at e
        simp at e
theorem GRep.set{g₀ g:Array GenState}{G:List GE}(R:GRep g₀ G g){j:Nat}{x:GE}{y:GenState}(m:GM x y):GRep g₀ (gset G j x) (g.setIfInBounds (g₀.size+j) y):=by
  rw [gset_eq]
  refine ⟨by rw [Array.size_setIfInBounds,R.size,List.length_set],fun i hi=> ?_,fun i ge e=> ?_⟩
  · rw [Array.getElem?_setIfInBounds,if_neg (by lia)]
    exact R.old i hi
  · rw [nthG,List.getElem?_set] at e
    rw [Array.getElem?_setIfInBounds]
    by_cases hj:j=i
    · subst hj
      rw [if_pos rfl] at e
      split at e
      · cases e
        rename_i hl
        refine ⟨y,?_,m⟩
        rw [if_pos rfl,if_pos (by rw [R.size];lia)]
      · cases e
    · rw [if_neg hj] at e
      rw [if_neg (by lia)]
      exact R.own i ge (by rw [nthG];exact e)
theorem GRep.nil{g₀ g:Array GenState}(R:GRep g₀ [] g):g=g₀:=by
  apply Array.ext_getElem?
  intro i
  by_cases hi:i<g₀.size
  · exact R.old i hi
  · have:=R.size
    rw [Array.getElem?_eq_none (by simp at this;lia),Array.getElem?_eq_none (by lia)]
theorem GRep.start(g₀:Array GenState):GRep g₀ [] g₀:=⟨rfl,fun _ _=>rfl,fun _ _ e=>(nomatch e)⟩
structure Rep (V:Vw) (S:Sv) (h:Heap) (T:SL) (m:Nat):Prop where
  size:h.objs.size+V.n0=V.base+m
  le:V.n0≤m
  own:∀j o,T.get j=some o→j<m∧h.get? (adr V j)=some o∧(adr V j∈S.mods∨S.h₀.get? (adr V j)=none)
  keep:∀b o,S.h₀.get? b=some o→b∉S.mods→h.get? b=some o
structure Ok (V:Vw) (S:Sv):Prop where
  kt:V.kt.Holds S.h₀ 1 0
  ktm:∀a o,V.kt.get a=some o→a∉S.mods
  ro:∀p∈V.ro,S.h₀.get? p.1=some p.2∧p.1∉S.mods
  n0:V.n0=V.as.length
  nodup:V.as.Nodup
  lt:∀a∈V.as,a<V.base
  old:S.h₀.objs.size≤V.base
  lim:∃o,S.h₀.get? 2=some o∧2∉S.mods∧∀h:Heap,h.get? 2=some o→h.NoLimit
  room:S.dep+V.lim<recursionLimit
  g0:V.g0=S.g.size
theorem nth_get{α:Type}:∀(l:List α) (i:Nat),nth l i=l[i]?
  |[],_=>rfl
  |x::l,i=>by
    unfold nth
    rw [BT.beq_eq]
    cases i with
    |zero=>rfl
    |succ i=>simp only [aQ,decide_false,List.getElem?_cons_succ];exact nth_get l i
section
variable {V:Vw} {S:Sv}
theorem adr_old(O:Ok V S){j:Nat}(h:j<V.n0):V.as[j]? =some (adr V j):=by
  unfold adr
  rw [show Nat.blt j V.n0=true from Nat.ble_eq_true_of_le h,nth_get]
  have hl:j<V.as.length:=O.n0▸h
  rw [aG hl]
theorem cJ{j:Nat}(h:V.n0≤j):adr V j=V.base+(j - V.n0):=by
  unfold adr
  have:Nat.blt j V.n0=false:=by
    cases q:Nat.blt j V.n0 with
    |false=>rfl
    |true=>exact absurd (blt_true q) (Nat.not_lt.mpr h)
  rw [this];rfl
theorem adr_lt(O:Ok V S){j:Nat}(h:j<V.n0):adr V j<V.base:=O.lt _ (aM (adr_old O h))
theorem sub_inj{a n i j:Nat}(h1:n≤i)(h2:n≤j)(e:a+(i - n)=a+(j - n)):i=j:=by
  rw [←Nat.sub_add_cancel h1,Nat.add_left_cancel e,Nat.sub_add_cancel h2]
theorem adr_inj(O:Ok V S){i j:Nat}(e:adr V i=adr V j):i=j:=by
  by_cases hi:i<V.n0
  · by_cases hj:j<V.n0
    · have ei:=adr_old O hi
      have ej:=adr_old O hj
      rw [←e] at ej
      obtain ⟨li,xi⟩:=List.getElem?_eq_some_iff.mp ei
      obtain ⟨lj,xj⟩:=List.getElem?_eq_some_iff.mp ej
      have nd:=List.pairwise_iff_getElem.mp O.nodup
      rcases Nat.lt_trichotomy i j with q|q|q
      · exact absurd (xi.trans xj.symm) (nd i j li lj q)
      · exact q
      · exact absurd (xj.trans xi.symm) (nd j i lj li q)
    · have q:=adr_lt O hi
      rw [e,cJ (Nat.not_lt.mp hj)] at q
      exact absurd q (Nat.not_lt.mpr (aw _ _))
  · by_cases hj:j<V.n0
    · have q:=adr_lt O hj
      rw [←e,cJ (Nat.not_lt.mp hi)] at q
      exact absurd q (Nat.not_lt.mpr (aw _ _))
    · rw [cJ (Nat.not_lt.mp hi),cJ (Nat.not_lt.mp hj)] at e
      exact sub_inj (Nat.not_lt.mp hi) (Nat.not_lt.mp hj) e
variable {h:Heap} {T:SL} {m:Nat}
theorem Rep.lk(O:Ok V S)(D:Rep V S h T m){x a:Nat}{p:Addr×Obj}(e:lk V T x a=some p)(ha:a=p.1):h.get? a=some p.2:=by
  unfold Mine.lk at e
  cases h1:Nat.beq x 0 with
  |true=>
    rw [h1] at e
    refine oV_i e fun o ho e=> ?_
    cases e
    have z:=KT.Holds.get O.kt ho
    rw [Nat.one_mul,Nat.add_zero] at z
    exact D.keep _ _ z (O.ktm _ _ ho)
  |false=>
    rw [h1] at e
    cases h2:Nat.blt x 64 with
    |true=>
      rw [h2] at e
      have hm:=nth_mem e
      exact ha▸D.keep _ _ (O.ro _ hm).1 (O.ro _ hm).2
    |false=>
      rw [h2] at e
      refine oV_i e fun o ho e=> ?_
      cases e
      exact ha▸(D.own _ _ ho).2.1
theorem Rep.alloc(O:Ok V S)(D:Rep V S h T m){o:Obj}(hf:o.isFreed=false)(hg:SL.inB m=true):Rep V S (h.push o) (SL.put o 41 T m) (m+1):=by
  have hm:=D.le
  have hs:h.objs.size=adr V m:=by rw [cJ hm];have:=D.size;lia
  refine ⟨by rw [Heap.size_push];have:=D.size;lia,Nat.le_succ_of_le hm,fun j o' e=> ?_,fun b o' e q=>Heap.get?_push_of_some _ (D.keep b o' e q)⟩
  rw [SL.get_put40 o T m _ hg] at e
  by_cases hi:j=m
  · subst hi
    rw [if_pos rfl] at e
    cases e
    refine ⟨aO _,?_,.inr ?_⟩
    · rw [←hs];exact Heap.get?_push_size _ hf
    · cases q:S.h₀.get? (adr V j) with
      |none=>rfl
      |some o'=>
        have q2:=an q
        have q3:=O.old
        rw [cJ hm] at q2
        exact absurd (ah q2 q3) (Nat.not_lt.mpr (aw _ _))
  · rw [if_neg hi] at e
    have z:=D.own j o' e
    exact ⟨Nat.lt_succ_of_lt z.1,Heap.get?_push_of_some _ z.2.1,z.2.2⟩
theorem Rep.update(O:Ok V S)(D:Rep V S h T m){j:Nat}{o:Obj}{f:Obj→Obj}(e:T.get j=some o)(hf:(f o).isFreed=false)(hj:SL.inB j=true):Rep V S (h.update (adr V j) f) (SL.put (f o) 41 T j) m:=by
  have z:=D.own _ _ e
  have hs:Heap.SameBut (adr V j) h (h.update (adr V j) f):=Heap.SameBut.update ..
  refine ⟨by rw [hs.1];exact D.size,D.le,fun i o' e'=> ?_,fun b o' e' q=> ?_⟩
  · rw [SL.get_put40 _ T j _ hj] at e'
    by_cases hi:i=j
    · subst hi
      rw [if_pos rfl] at e'
      cases e'
      refine ⟨z.1,?_,z.2.2⟩
      first|exact Heap.get?_update_self f z.2.1 hf|exact Heap.get?_update_self _ z.2.1 hf
    · rw [if_neg hi] at e'
      have y:=D.own i o' e'
      exact ⟨y.1,(hs.2 _ fun q=>hi (adr_inj O q)).trans y.2.1,y.2.2⟩
  · refine (hs.2 b fun w=> ?_).trans (D.keep b o' e' q)
    subst w
    rcases z.2.2 with y|y
    · exact q y
    · rw [y] at e';cases e'
theorem Rep.noLimit(O:Ok V S)(D:Rep V S h T m):h.NoLimit:=by
  obtain ⟨o,h1,h2,h3⟩:=O.lim
  exact h3 h (D.keep _ _ h1 h2)
end
theorem dle{p:Prop}[Decidable p]{a:p→Nat}{b:¬p→Nat}{k:Nat}(h1:∀h,a h≤k)(h2:∀h,b h≤k):dite p a b≤k:=by
  by_cases h:p
  · rw [dif_pos h];exact h1 h
  · rw [dif_neg h];exact h2 h
theorem nds{α:Type}{a b:α}{x k:Nat}(hx:x≤k)(h:b=a): @Eq.ndrec_symm α a (fun _=>Nat) x b h≤k:=by subst h;exact hx
theorem cR{p:Prop}[Decidable p]{n:Nat}:(if p then n else 0)≤n:=dle (fun _=>al _) fun _=>Nat.zero_le _
theorem fc(id:String)(args:Args):(Code.builtin id args).frames≤3:=by
  unfold Code.frames Code.frames.match_1
  exact dle (nds (Nat.le_of_ble_eq_true rfl)) fun _=>dle (nds (Nat.le_of_ble_eq_true rfl)) fun _=>dle (nds (Nat.le_of_ble_eq_true rfl)) fun _=>dle (nds (Nat.le_of_ble_eq_true rfl)) fun _=>dle (nds (Nat.le_of_ble_eq_true rfl)) fun _=>dle (nds (Nat.le_of_ble_eq_true rfl)) fun _=>dle (nds (Nat.le_of_ble_eq_true rfl)) fun _=>dle (nds (Nat.le_of_ble_eq_true rfl)) fun _=>dle (nds (Nat.le_of_ble_eq_true rfl)) fun _=>ad cR (Nat.le_of_ble_eq_true rfl)
theorem frames_le(c:Code):c.frames≤3:=by
  cases c with
  |builtin id args=>exact fc id args
  |_=>first|exact Nat.le_of_ble_eq_true rfl|exact ad cR (Nat.le_of_ble_eq_true rfl)
theorem le4{a b c d:Nat}(h1:a≤3)(h2:b≤1)(h3:c≤1)(h4:d≤300):a+b+c+d≤1000:=by lia
theorem le3{a b c:Nat}(h1:a≤3)(h2:b≤1)(h3:c≤1):a+b+c+0≤5:=by lia
theorem le2{a:Nat}(h1:a≤1):a+0+0+0≤2:=by lia
theorem cW(c:Code):c.weight≤wt c:=by
  cases c with
  |call f args=>exact Nat.le_of_eq rfl
  |builtin id args=>
    show _≤(match PySem.W.S.strDecS id "claim.caller" with| .isTrue _=>1000| .isFalse _=>5)
    cases PySem.W.S.strDecS id "claim.caller" with
    |isTrue h=>exact le4 (fc id args) cR cR cR
    |isFalse h=>
      have h3:(Code.builtin id args).isCaller=false:=by unfold Code.isCaller Code.isCaller.match_1;exact dif_neg h
      unfold Code.weight
      rw [h3]
      exact le3 (fc id args) cR cR
  |_=>first|exact Nat.le_of_ble_eq_true rfl|exact le2 cR
theorem jp_in{α β:Type}{n:Str}{J:Str→Sem α}{L:Str→Sem β}{E:β→Sem α}(H:∀q,J q=L q>>=E)(v:Value):
    (match v with| .str q _=>pure q>>=J|_=>pure n>>=J)=(match v with| .str q _=>pure q>>=L|_=>pure n>>=L)>>=E:=by
  cases v<;>exact H _
theorem jp_eq{α β:Type}{n:Str}{J:Str→Sem α}{L:Str→Sem β}{E:β→Sem α}(H:∀q,J q=L q>>=E)(c:Value):
    (match c with| .none=>pure n>>=J|c=>field c 1>>=fun v=>match v with| .str q _=>pure q>>=J|_=>pure n>>=J)=(match c with| .none=>pure n>>=L|c=>field c 1>>=fun v=>match v with| .str q _=>pure q>>=L|_=>pure n>>=L)>>=E:=by
  have h:∀c,(field c 1>>=fun v=>match v with| .str q _=>pure q>>=J|_=>pure n>>=J)=(field c 1>>=fun v=>match v with| .str q _=>pure q>>=L|_=>pure n>>=L)>>=E:=fun c=>by
    rw [bind_assoc]
    exact congrArg _ (funext fun v=>jp_in H v)
  cases c with
  |none=>exact H _
  |_=>exact h _
theorem fE(f:Addr)(fd:FuncData)(args:Args)(h1:fd.scope.isGenerator=false)(h2:fd.scope.isCoroutine=false):
    callFunction f fd args=(ci f fd args).bind cy:=by
  have e:∀{α β:Type} (m:Sem α) (f:α→Sem β),m.bind f=m>>=f:=fun _ _=>rfl
  unfold ci callEnv
  rw [←PySem.W.Fast.te6609576154772507232,←PySem.W.Fast.te11113344188204177931,←PySem.W.Fast.te9782568553167038054,e,e,bind_assoc]
  refine jp_eq (fun q=> ?_) _
  rw [h1,h2,bind_assoc]
  exact congrArg _ (funext fun b=>congrArg _ (funext fun env=>rfl))
open Sem (wp)
theorem wp_room1{M:Model}{Γ:PySem.Ctx}{A:ai}{p:Pos}{Q:Unit→Pos→aa→Prop}{E:Value→Pos→aa→Prop}{s:aa}(hΓ:Γ.In A)(hd:A.depth<recursionLimit)(h:wp M Γ room1 Q E p s):wp M Γ roomToWake Q E p s:=by
  have hlt':¬((((Γ.code,p)::Γ.below).map (·.1)).map (·.frames)).sum+((((Γ.code,p)::Γ.below).map (·.1)).filter Code.isCreation).length≥recursionLimit:=by
    have hge:=frameCount_ge ((Γ.code,p)::Γ.below)
    rw [frameCount_cons] at hge
    have:=hΓ.2.1
    lia
  unfold room1 at h
  rw [Sem.wp_bind'] at h
  unfold roomToWake currentRecursionLimit
  rw [Sem.wp_bind']
  show wp M Γ ((nsGet cStatics "sys.recursionlimit">>=_)>>=_) _ _ p s
  rw [Sem.wp_bind',Sem.wp_bind']
  refine Sem.wp_mono M Γ _ (fun r p' s' z=> ?_) (fun _ _ _ z=>z) p s h
  cases r with
  |some v=>exact z.elim
  |none=>
    show wp M Γ (if nearTheLimitUnderAClaim (((Γ.code,p)::Γ.below).map (·.1)) (((((Γ.code,p)::Γ.below).map (·.1)).map (·.frames)).sum+((((Γ.code,p)::Γ.below).map (·.1)).filter Code.isCreation).length) recursionLimit=true then _ else _) _ _ p' s'
    rw [if_neg (by rw [not_nearTheLimit hΓ hd];exact Bool.false_ne_true)]
    show wp M Γ (if ((((Γ.code,p)::Γ.below).map (·.1)).map (·.frames)).sum+((((Γ.code,p)::Γ.below).map (·.1)).filter Code.isCreation).length≥recursionLimit then _ else _) _ _ p' s'
    rw [if_neg hlt']
    exact z
theorem next_sim{M:Model}{Γ:PySem.Ctx}{A:ai}{p:Pos}{Q:Fin→Pos→aa→Prop}{E:Value→Pos→aa→Prop}{s:aa}{a:Addr}(hΓ:Γ.In A)(hd:A.depth<recursionLimit)(h:wp M Γ (dT a) Q E p s):
    wp M Γ (Builtin.«generator.__next__» ⟨[.ref a],[]⟩) Q E p s:=by
  have e:Builtin.«generator.__next__» ⟨[.ref a],[]⟩=Builtin.Generator.genWake (.ref a) (.send .none):=by rfl
  rw [e]
  unfold Builtin.Generator.genWake
  unfold dT at h
  rw [Sem.wp_bind'] at h
  rw [Sem.wp_bind',Sem.wp_holding]
  refine Sem.wp_mono M Γ _ (fun n p' s' z=> ?_) (fun _ _ _ z=>z) p s h
  rw [Sem.wp_bind'] at z⊢
  refine Sem.wp_mono M Γ _ (fun st p' s' z=> ?_) (fun _ _ _ z=>z) _ _ z
  cases st with
  |running=>exact z.elim
  |finished=>exact z.elim
  |_=>
    all_goals
      dsimp only at z⊢
      rw [Sem.wp_bind'] at z⊢
      refine Sem.wp_mono M Γ _ (fun _ p' s' z=> ?_) (fun _ _ _ z=>z) _ _ (wp_room1 hΓ hd z)
      rw [Sem.wp_bind'] at z⊢
      refine Sem.wp_mono M Γ _ (fun r p' s' z=> ?_) (fun _ _ _ z=>z) _ _ z
      cases r with
      |yielded v=>exact z
      |returned v=>
        cases v with
        |none=>
          dsimp only at z⊢
          rw [Sem.wp_bind'] at z
          show wp M Γ (newExc (.type "StopIteration") []>>=_) Q E p' s'
          rw [Sem.wp_bind']
          refine Sem.wp_mono M Γ _ (fun e p' s' z=> ?_) (fun _ _ _ z=>z) _ _ z
          rw [Sem.wp_bind'] at z⊢
          exact Sem.wp_mono M Γ _ (fun _ _ _ z=>z.elim) (fun _ _ _ z=>z) _ _ z
        |_=>exact z.elim
      |_=>exact z.elim
theorem den_bi{id:String}{args:Args}{b:Builtin}(hb:entryFor table id=some b):denote table (.builtin id args)=b args:=by
  show (match entryFor table id with|some b=>b args|none=>unsupported ((withoutEnding? id "#data").getD id))=_
  rw [hb]
theorem weight_bi(id:String)(args:Args)(h:wt (.builtin id args)=5):(Code.builtin id args).weight≤5:=h▸cW (.builtin id args)
theorem wt_next(args:Args):wt (.builtin "generator.__next__" args)=5:=by kernel_rfl
theorem next_ok{a:Addr}{prog:Program}{w:ag}{A:ai}{Q:Fin→aa→Prop}{E:Value→aa→Prop}{s:aa}(hd:A.depth+5<recursionLimit)
    (H:wpOwn (model prog w) A (.builtin "generator.__next__" ⟨[.ref a],[]⟩) (dT a) Q E s):wpOwn (model prog w) A (.builtin "generator.__next__" ⟨[.ref a],[]⟩) (denote table (.builtin "generator.__next__" ⟨[.ref a],[]⟩)) Q E s:=by
  intro Γ p hc hΓ
  rw [den_bi PySem.entry_gen_next]
  have hw:=weight_bi _ _ (wt_next ⟨[.ref a],[]⟩)
  refine next_sim (A:=A.under Γ.code) hΓ.in ?_ (H Γ p hc hΓ)
  rw [hc]
  show A.depth+Code.weight _<_
  lia
theorem alt_ok{j:Nat}{id:String}{args:Args}{t:Sem Fin}(h:altT j id args=some t){prog:Program}{w:ag}{A:ai}{Q:Fin→aa→Prop}{E:Value→aa→Prop}{s:aa}(hd:A.depth+5<recursionLimit)
    (H:wpOwn (model prog w) A (.builtin id args) t Q E s):wpOwn (model prog w) A (.builtin id args) (denote table (.builtin id args)) Q E s:=by
  refine a2_i h (fun x ea e=>rV_i e fun a ex e=>bV_i e fun _ e=>idV_i e fun eid e=> ?_) fun _ _ _ e=>nn e
  cases e
  subst ea ex eid
  exact next_ok hd H
section
variable {V:Vw} {S:Sv}
noncomputable def bu(κ:KK):Prop:=∀κ',κ≠.ent κ'
theorem aS{c:Code}:∀{κ:KK},bu κ→postK V S c κ=postC V.prog V.w (arK S.A₀ κ) (endK V S κ)
  | .base,_=>rfl
  | .own,_=>rfl
  | .ret _ _ _ _,_=>rfl
  | .gen _ _ _ _ _,_=>rfl
  | .ent κ,h=>absurd rfl (h κ)
theorem Means.skim1{c:Code}{κ:KK}{t t':Sem Fin}{s:aa}(e:skim ⟨V.prog,V.w.params⟩ 1 t=t')(h:Means V S c κ t' s):Means V S c κ t s:=by
  cases q:inSeg κ with
  |false=>rw [means_own q] at h⊢;exact y_skim _ _ _ _ _ _ _ _ _ 1 (by rw [e];exact h)
  |true=>rw [aP q] at h⊢;exact fun fs hf=>s_skim _ _ _ _ _ _ _ _ 1 (by rw [e];exact h fs hf)
theorem Means.retDone{c c':Code}{κ:KK}{d:Nat}{k:Result→Sem Fin}{f:Flow}{s:aa}(hk:bu κ)(h:Means V S c' κ (k (.ok f)) s):Means V S c (.ret c' k d κ) (.pure (.done f)) s:=by
  cases q:inSeg κ with
  |false=>
    rw [means_own q] at h
    rw [means_own (show inSeg (.ret c' k d κ)=false from q)]
    rw [aS hk] at h
    exact y_pure _ _ _ _ _ _ _ _ _ h
  |true=>
    rw [aP q] at h
    rw [aP (show inSeg (.ret c' k d κ)=true from q)]
    rintro fs ⟨g,l,p,fs',rfl,hf⟩
    exact s_pop _ _ _ _ _ _ _ (.ok f) _ rfl _ _ _ _ _ _ _ (h fs' hf)
theorem Means.retRaise{c c':Code}{κ:KK}{d:Nat}{k:Result→Sem Fin}{e:Value}{s:aa}(hk:bu κ)(h:Means V S c' κ (k (.error e)) s):Means V S c (.ret c' k d κ) (.raise e) s:=by
  cases q:inSeg κ with
  |false=>
    rw [means_own q] at h
    rw [means_own (show inSeg (.ret c' k d κ)=false from q)]
    rw [aS hk] at h
    exact y_raise _ _ _ _ _ _ _ _ _ h
  |true=>
    rw [aP q] at h
    rw [aP (show inSeg (.ret c' k d κ)=true from q)]
    rintro fs ⟨g,l,p,fs',rfl,hf⟩
    exact s_pop _ _ _ _ _ _ _ (.error e) _ rfl _ _ _ _ _ _ _ (h fs' hf)
theorem Means.genEnd{c c₁:Code}{κ:KK}{j d:Nat}{k:GenResult→Sem Fin}{r:Result}{t:Sem Fin}{s:aa}(ht:t=leafOf r)(q:inSeg κ=false)(hk:bu κ)(h:Means V S c₁ κ (k (End.ret r).result) (s.setGen (V.g0+j) .finished)):Means V S c (.gen j c₁ k d κ) t s:=by
  rw [means_own q,aS hk] at h
  rw [aP (show inSeg (.gen j c₁ k d κ)=true from rfl)]
  intro fs hf
  have hf:fs=[]:=hf
  subst hf
  exact s_end _ _ _ _ _ _ r _ ht h
theorem Means.genYield{c c₁:Code}{κ:KK}{j d:Nat}{k:GenResult→Sem Fin}{v:Value}{l:List Value}{k₁:Resume→Sem Fin}{s:aa}(q:inSeg κ=false)(hk:bu κ)(h:∀p,Means V S c₁ κ (k (.yielded v)) (s.setGen (V.g0+j) (.suspended k₁ l c p [] false))):Means V S c (.gen j c₁ k d κ) (.yield v false l k₁) s:=by
  rw [aP (show inSeg (.gen j c₁ k d κ)=true from rfl)]
  intro fs hf
  have hf:fs=[]:=hf
  subst hf
  refine s_yield _ _ _ _ _ _ _ _ _ _ rfl rfl fun p=> ?_
  have z:=h p
  rw [means_own q,aS hk] at z
  exact z
theorem bO{c':Code}{κ:KK}{s:aa}(q:inSeg κ=false)(hk:bu κ)(h:Means V S c' κ (den c') s):codeAny (model V.prog V.w) (arK S.A₀ κ) c' (endK V S κ) s:=by
  refine y_code _ _ _ _ _ _ ?_
  rw [den_eq]
  rw [means_own q,aS hk] at h
  exact h
theorem Means.again{c c':Code}{κ:KK}{s:aa}(hk:bu κ)(hq:c'.quiet=true)(h:Means V S c' κ (den c') s):Means V S c κ (.pure (.again c')) s:=by
  cases q:inSeg κ with
  |false=>
    rw [means_own q,aS hk]
    exact y_pure _ _ _ _ _ _ _ _ _ (y_again _ _ _ _ _ _ hq (bO q hk h))
  |true=>
    rw [aP q] at h⊢
    exact fun fs hf=>s_again _ _ _ _ _ _ _ _ hq (by rw [den_eq];exact h fs hf)
theorem Means.call{c c':Code}{κ:KK}{dp:Nat}{g:Bool}{l:List Value}{k:Result→Sem Fin}{s:aa}(q:inSeg κ=false)(hk:bu κ)
    (h:codeAny (model V.prog V.w) (arK S.A₀ (.ret c k dp κ)) c' (endK V S (.ret c k dp κ)) s):Means V S c κ (.call c' none g l k) s:=by
  rw [means_own q,aS hk]
  exact y_call _ _ _ _ _ _ _ _ _ _ _ _ _ (by intro x;cases x) h
theorem Means.callDen{c c':Code}{κ:KK}{dp:Nat}{g:Bool}{l:List Value}{k:Result→Sem Fin}{s:aa}(hk:bu κ)
    (h:Means V S c' (.ret c k dp κ) (den c') s):Means V S c κ (.call c' none g l k) s:=by
  cases q:inSeg κ with
  |false=>exact Means.call (dp:=dp) q hk (bO (κ:= .ret c k dp κ) q (fun _ x=>by cases x) h)
  |true=>
    rw [aP (show inSeg (.ret c k dp κ)=true from q)] at h
    rw [aP q]
    intro fs hf
    refine s_call _ _ _ _ _ _ _ _ _ _ _ _ fun p=> ?_
    rw [den_eq]
    exact h _ ⟨g,l,p,fs,rfl,hf⟩
theorem Means.load{c:Code}{κ:KK}{a:Addr}{q:Option Value}{k:Obj→Sem Fin}{o:Obj}{h:Heap}{g:Array GenState}{d:Drawn}{t:Nat}{os:OsState}(ho:h.get? a=some o)(H:Means V S c κ (k o) ⟨h,g,d,t,os⟩):Means V S c κ (.load a q k) ⟨h,g,d,t,os⟩:=by
  cases z:inSeg κ with
  |false=>rw [means_own z] at H⊢;exact y_load _ _ _ _ _ _ _ _ _ _ _ _ _ _ _ _ ho H
  |true=>rw [aP z] at H⊢;exact fun fs hf=>s_load _ _ _ _ _ _ _ _ _ _ _ _ _ _ _ ho (H fs hf)
theorem Means.alive{c:Code}{κ:KK}{a:Addr}{k:Option Obj→Sem Fin}{o:Obj}{h:Heap}{g:Array GenState}{d:Drawn}{t:Nat}{os:OsState}(ho:h.get? a=some o)(H:Means V S c κ (k (some o)) ⟨h,g,d,t,os⟩):Means V S c κ (.loadIfAlive a k) ⟨h,g,d,t,os⟩:=by
  cases z:inSeg κ with
  |false=>rw [means_own z] at H⊢;exact y_alive _ _ _ _ _ _ _ _ _ _ _ _ _ _ _ ho H
  |true=>rw [aP z] at H⊢;exact fun fs hf=>s_alive _ _ _ _ _ _ _ _ _ _ _ _ _ _ ho (H fs hf)
theorem Means.alloc{c:Code}{κ:KK}{o:Obj}{k:Addr→Sem Fin}{h:Heap}{g:Array GenState}{d:Drawn}{t:Nat}{os:OsState}(H:Means V S c κ (k h.objs.size) ⟨h.push o,g,d,t,os⟩):Means V S c κ (.alloc o k) ⟨h,g,d,t,os⟩:=by
  cases z:inSeg κ with
  |false=>rw [means_own z] at H⊢;exact wpOwn_bind (m:=PySem.alloc o) (f:=k) (wpOwn_of_wpAny (wpAny_alloc H))
  |true=>rw [aP z] at H⊢;exact fun fs hf=>s_cmd _ _ _ _ _ _ (m:=PySem.alloc o) (k:=k) (wpAny_alloc (H fs hf))
theorem Means.update{c:Code}{κ:KK}{a:Addr}{q:Option Value}{f:Obj→Obj}{k:Unit→Sem Fin}{o:Obj}{h:Heap}{g:Array GenState}{d:Drawn}{t:Nat}{os:OsState}(ho:h.get? a=some o)(H:Means V S c κ (k ()) ⟨h.update a f,g,d,t,os⟩):Means V S c κ (.update a q f k) ⟨h,g,d,t,os⟩:=by
  cases z:inSeg κ with
  |false=>rw [means_own z] at H⊢;exact wpOwn_bind (m:=updatePart a q f) (f:=k) (wpOwn_of_wpAny (wpAny_updatePart ho H))
  |true=>rw [aP z] at H⊢;exact fun fs hf=>s_cmd _ _ _ _ _ _ (m:=updatePart a q f) (k:=k) (wpAny_updatePart ho (H fs hf))
theorem Means.fresh{c:Code}{κ:KK}{k:Tok→Sem Fin}{h:Heap}{g:Array GenState}{d:Drawn}{t:Nat}{os:OsState}(H:Means V S c κ (k t) ⟨h,g,d,t+1,os⟩):Means V S c κ (.fresh k) ⟨h,g,d,t,os⟩:=by
  cases z:inSeg κ with
  |false=>rw [means_own z] at H⊢;exact y_fresh _ _ _ _ _ _ _ _ _ _ _ _ _ H
  |true=>rw [aP z] at H⊢;exact fun fs hf=>s_fresh _ _ _ _ _ _ _ _ _ _ _ _ (H fs hf)
theorem Means.hand{c:Code}{κ:KK}{dp:Nat}{k:Option Value→Sem Fin}{s:aa}(K:KInv S c κ dp)(H:Means V S c κ (k none) s):Means V S c κ (.handled false k) s:=by
  cases z:inSeg κ with
  |false=>rw [means_own z] at H⊢;exact y_handled _ _ _ _ _ _ _ _ _ (by rw [K.handled];exact H)
  |true=>
    rw [aP z] at H⊢
    intro fs hf
    refine s_handled _ _ _ _ _ _ _ _ ?_
    have e:((segA S.A₀ κ).over c fs).handled=none:=by
      show (marksOver fs ((segA S.A₀ κ).handled,(segA S.A₀ κ).handled)).1=none
      rw [hf.marks,K.segHandled z]
    rw [e]
    exact H fs hf
theorem Means.newGen{c c':Code}{κ:KK}{k:Nat→Sem Fin}{h:Heap}{g:Array GenState}{d:Drawn}{t:Nat}{os:OsState}(H:Means V S c κ (k g.size) ⟨h,g.push (.fresh c'),d,t,os⟩):Means V S c κ (.newGen c' k) ⟨h,g,d,t,os⟩:=by
  cases z:inSeg κ with
  |false=>rw [means_own z] at H⊢;exact y_newGen _ _ _ _ _ _ _ _ _ _ _ _ _ _ H
  |true=>rw [aP z] at H⊢;exact fun fs hf=>s_newGen _ _ _ _ _ _ _ _ _ _ _ _ _ (H fs hf)
theorem Means.genState{c:Code}{κ:KK}{g:Nat}{k:GenStatus×Option (List (Code×Pos))→Sem Fin}{gs:GenState}{s:aa}(hg:s.gens[g]? =some gs)(H:Means V S c κ (k gs.seen) s):Means V S c κ (.genState g k) s:=by
  cases z:inSeg κ with
  |false=>rw [means_own z] at H⊢;exact y_genState _ _ _ _ _ _ _ _ _ _ gs hg H
  |true=>rw [aP z] at H⊢;exact fun fs hf=>s_genState _ _ _ _ _ _ _ _ _ gs hg (H fs hf)
theorem Means.stack{c:Code}{κ:KK}{k:List (Code×Pos)→Sem Fin}{t:Sem Fin}{s:aa}(e:∀p below,k ((c,p)::below)=t)(H:Means V S c κ t s):Means V S c κ (.stack k) s:=by
  cases z:inSeg κ with
  |false=>rw [means_own z] at H⊢;exact y_stack _ _ _ _ _ _ _ _ _ fun p below _=>by rw [e];exact H
  |true=>rw [aP z] at H⊢;exact fun fs hf=>s_stack _ _ _ _ _ _ _ _ fun p below _=>by rw [e];exact H fs hf
theorem Means.wakeF{c c₀:Code}{κ:KK}{g j d:Nat}{l:List Value}{k:GenResult→Sem Fin}{s:aa}(q:inSeg κ=false)(hk:bu κ)(eg:g=V.g0+j)(hg:s.gens[g]? =some (.fresh c₀))
    (H:Means V S c₀ (.gen j c k d κ) (den c₀) (s.setGen g .running)):Means V S c κ (.resume g (.send .none) l k) s:=by
  subst eg
  rw [aP (show inSeg (.gen j c k d κ)=true from rfl)] at H
  rw [means_own q,aS hk]
  refine y_resume_f _ _ _ _ _ _ _ _ _ _ _ _ hg ?_
  rw [den_eq]
  exact H [] rfl
theorem Means.wakeS{c c₀:Code}{κ:KK}{g j d:Nat}{r:Resume}{l l₀:List Value}{p₀:Pos}{cl:Bool}{k:GenResult→Sem Fin}{k₀:Resume→Sem Fin}{s:aa}(q:inSeg κ=false)(hk:bu κ)(eg:g=V.g0+j)(hg:s.gens[g]? =some (.suspended k₀ l₀ c₀ p₀ [] cl))
    (H:Means V S c₀ (.gen j c k d κ) (k₀ r) (s.setGen g .running)):Means V S c κ (.resume g r l k) s:=by
  subst eg
  rw [aP (show inSeg (.gen j c k d κ)=true from rfl)] at H
  rw [means_own q,aS hk]
  exact y_resume_s _ _ _ _ _ _ _ _ _ _ _ _ _ _ _ _ _ _ hg (H [] rfl)
theorem map_push{b c:Value}{dd:Option Addr}{items:Array Value}{ep:Nat}{sl:Array (Option Value)}:Obj.mapSeq (·.push b) ⟨c,dd,.seq items ep,sl⟩=⟨c,dd,.seq (items.toList++[b]).toArray (Nat.succ ep),sl⟩:=by
  have e1:items.push b=(items.toList++[b]).toArray:=Array.ext' (by simp)
  have e2:((items.push b).size==items.size)=false:=by
    rw [Array.size_push]
    exact beq_eq_false_iff_ne.mpr (Nat.succ_ne_self _)
  unfold Obj.mapSeq
  dsimp only
  rw [e2,e1]
  rfl
section
variable {x m:Nat} {T:SL} {i:Int} {u:Tok} {a:Addr} {v:Value} {id:String} {args:Args} {r:Hc} {h:Heap} {g:Array GenState} {d:Drawn} {t:Nat} {os:OsState} {A:ai} {R:Result→aa→Prop}
theorem item_ok(O:Ok V S){q:Addr×Obj}{items:Array Value}{ep:Nat}(D:Rep V S h T m)(hq:lk V T x a=some q)(hd:q.2.data= .seq items ep)(ha:(0≤i∧i<2^63)∧items[i.toNat]? =some v)(ho:a=q.1)
    (hR:R (.ok (.ret v)) ⟨h,g,d,t,os⟩):codeAny (model V.prog V.w) A (.builtin "list.__getitem__" ⟨[.ref a,.int i u],[]⟩) R ⟨h,g,d,t,os⟩:=by
  have hg:=D.lk O hq ho
  subst ho
  refine codeAny_builtin entry_list_getitem ?_
  rw [Around.under_plainId slot_list_getitem.plain]
  show wpAny _ _ (Builtin.List.listSubscript? (.int i u)>>=_) _ _ _
  refine af (wpAny_listSubscript_int (fitsIndex_of ha.1.1 ha.1.2) ?_)
  obtain ⟨⟨h0,_⟩,h2⟩:=ha
  obtain ⟨j,rfl⟩:=Int.eq_ofNat_of_zero_le h0
  have hx':items[j]? =some v:=h2
  show wpAny _ _ ((seqItemAt q.1 j>>=fun r=>pure (r.map (j, ·)))>>=_) _ _ _
  refine af (af (wpAny_seqItemAt hg hd (wpAny_pure ?_)))
  rw [hx']
  first
    |exact wpAny_pure hR
    |exact af (wpAny_pure (wpAny_pure hR))
theorem push_ok(O:Ok V S){j:Nat}{b:Value}{c:Value}{dd:Option Addr}{items:Array Value}{ep:Nat}{sl:Array (Option Value)}(D:Rep V S h T m)(hj:SL.inB j=true)(hg:T.get j=some ⟨c,dd,.seq items ep,sl⟩)(hs:items.size≤sizeLine)
    (hR:∀h',Rep V S h' (SL.put ⟨c,dd,.seq (items.toList++[b]).toArray (Nat.succ ep),sl⟩ 41 T j) m→R (.ok (.ret .none)) ⟨h',g,d,t,os⟩):codeAny (model V.prog V.w) A (.builtin "list.append" ⟨[.ref (adr V j),b],[]⟩) R ⟨h,g,d,t,os⟩:=by
  have z:=D.update O (f:=Obj.mapSeq (·.push b)) hg (by rw [map_push];rfl) hj
  rw [map_push] at z
  refine codeAny_builtin F.entry_list_append ?_
  rw [Around.under_plainId F.slot_list_append.plain]
  show wpAny _ _ (updateSeq (adr V j) (·.push b)>>=fun _=>ret .none) _ _ _
  exact af (wpAny_updateSeq (D.own _ _ hg).2.1 rfl (wpAny_pure (hR _ z)) hs (by rw [Array.size_push];exact Nat.succ_le_succ hs))
theorem apO_ok(O:Ok V S){j:Nat}{b:Value}{o:Obj}(e:apO V T j b a o=some r)(hj:SL.inB j=true)(hg:T.get j=some o)(D:Rep V S h T m)(ha:r.ask)(ho:r.obl.1=r.obl.2)
    (hR:∀h',Rep V S h' r.T' m→R (.ok (.ret (r.v t))) ⟨h',g,d,t+r.dt,os⟩):codeAny (model V.prog V.w) A (.builtin "list.append" ⟨[.ref a,b],[]⟩) R ⟨h,g,d,t,os⟩:=by
  obtain ⟨c,dd,dt,sl⟩:=o
  refine seqV_i e fun items ep ed e=> ?_
  cases e
  subst ed
  have ho:a=adr V j:=ho
  subst ho
  exact push_ok O D hj hg ha hR
theorem apS_ok(O:Ok V S){j:Nat}{b:Value}(e:apS V T x j id b a=some r)(D:Rep V S h T m)(ha:r.ask)(ho:r.obl.1=r.obl.2)
    (hR:∀h',Rep V S h' r.T' m→R (.ok (.ret (r.v t))) ⟨h',g,d,t+r.dt,os⟩):codeAny (model V.prog V.w) A (.builtin id ⟨[.ref a,b],[]⟩) R ⟨h,g,d,t,os⟩:=
  idV_i e fun eid e=>bN_i e fun _ e=>bV_i e fun hj e=>oV_i e fun _ hg e=>eid▸apO_ok O e hj hg D ha ho hR
theorem hc3_ok{s:Str}{tk:Tok}(e:hc3 T id i v s tk=some r)(D:Rep V S h T m)(ha:r.ask)
    (hR:∀h',Rep V S h' r.T' m→R (.ok (.ret (r.v t))) ⟨h',g,d,t+r.dt,os⟩):codeAny (model V.prog V.w) A (.builtin id ⟨[.str s tk,.int i u],[]⟩) R ⟨h,g,d,t,os⟩:=by
  refine sV_i e fun y t' ev e=>idV_i e fun eid e=> ?_
  cases e
  subst ev eid
  obtain ⟨h1,c,h2,rfl⟩:=ha
  exact bj (r:=⟨fun t=> .str ⟨#[c]⟩ t,1,True⟩) (by decide+kernel) F.entry_str_getitem (gives_str_getitem s i tk u c h1 h2) (fun Q s q=>⟨by first|exact Nat.le_of_ble_eq_true rfl|(show 1≤sizeLine;decide+kernel),q⟩) _ _ _ _ _ (hR _ D)
theorem hc4_ok(O:Ok V S)(e:hc4 V T x id i v a=some r)(D:Rep V S h T m)(ha:r.ask)(ho:r.obl.1=r.obl.2)
    (hR:∀h',Rep V S h' r.T' m→R (.ok (.ret (r.v t))) ⟨h',g,d,t+r.dt,os⟩):codeAny (model V.prog V.w) A (.builtin id ⟨[.ref a,.int i u],[]⟩) R ⟨h,g,d,t,os⟩:=by
  refine idV_i e fun eid e=>oV_i e fun q hq e=>seqV_i e fun items ep hd e=> ?_
  cases e
  subst eid
  exact item_ok O D hq hd ha ho (hR _ D)
theorem hc_ok(O:Ok V S){op p:Nat}(D:Rep V S h T m)(e:hcOf V T op x p id args=some r)(ha:r.ask)(ho:r.obl.1=r.obl.2)
    (hR:∀h',Rep V S h' r.T' m→R (.ok (.ret (r.v t))) ⟨h',g,d,t+r.dt,os⟩):codeAny (model V.prog V.w) A (.builtin id args) R ⟨h,g,d,t,os⟩:=by
  refine bN_i e fun _ e=> ?_
  cases h2:Nat.beq op 210 with
  |true=>
    rw [h2] at e
    exact a2_i e (fun _ _ e=>nn e) fun x₁ b ea e=>rV_i e fun a ex e9=>by subst ea ex;exact apS_ok O e9 D ha ho hR
  |false=>
    rw [h2] at e
    exact a2_i e (fun _ _ e=>nn e) fun x₁ x₂ ea e=>iV_i e fun i u ex e=>oV_i e fun v hv e=>vS_i e (fun _ _ _ e=>nn e) (fun s tk ey e9=>by subst ea ex ey;exact hc3_ok e9 D ha hR) fun a ey e9=>by subst ea ex ey;exact hc4_ok O e9 D ha ho hR
end
theorem fnOf_is{kt:KT}{f:Addr}{fd:FuncData}(h:fnOf? kt f=some fd):∃o,kt.get f=some o∧o.data= .func fd∧fd.scope.isGenerator=false∧fd.scope.isCoroutine=false:=by
  refine oV_i h fun o ho e=>funV_i e fun fd' hd e=>bN_i e fun h1 e=>bN_i e fun h2 e=> ?_
  cases e
  exact ⟨o,ho,hd,h1,h2⟩
theorem codeAny_fn(O:Ok V S){f:Addr}{fd:FuncData}{args:Args}{κ:KK}{h:Heap}{T:SL}{m:Nat}{g:Array GenState}{d:Drawn}{t:Nat}{os:OsState}(q:inSeg κ=false)(D:Rep V S h T m)(e:fnOf? V.kt f=some fd)
    (H:Means V S (.call (.ref f) args) (.ent κ) (ci f fd args) ⟨h,g,d,t,os⟩):codeAny (model V.prog V.w) (arK S.A₀ κ) (.call (.ref f) args) (endK V S κ) ⟨h,g,d,t,os⟩:=by
  obtain ⟨o,ho,hd,h1,h2⟩:=fnOf_is e
  have z:=KT.Holds.get O.kt ho
  rw [Nat.one_mul,Nat.add_zero] at z
  have hg:h.get? f=some o:=D.keep _ _ z (O.ktm _ _ ho)
  refine y_code _ _ _ _ _ _ ?_
  show wpOwn _ _ _ (callAny (.ref f) args) _ _ _
  refine y_load _ _ _ _ _ _ _ _ _ _ _ _ _ _ _ _ hg ?_
  obtain ⟨oc,od,odt,osl⟩:=o
  dsimp only at hd
  subst hd
  show wpOwn _ _ _ (callFunction f fd args) _ _ _
  rw [fE f fd args h1 h2]
  rw [means_own (show inSeg (.ent κ)=false from rfl)] at H
  exact wpOwn_bind (m:=ci f fd args) (f:=cy) H
end
section
variable {V:Vw} {S:Sv}
noncomputable def Good(V:Vw)(S:Sv)(c:Code)(κ:KK)(dp:Nat)(t:Sem Fin)(T:SL)(m i:Nat)(G:List GE):Prop:=
  KInv S c κ dp→∀h g,Rep V S h T m→GRep S.g G g→Means V S c κ t ⟨h,g,S.d,V.t₀+i,S.os⟩
noncomputable def OblOk(l:List (Nat×Nat)):Prop:=∀p∈l,p.1=p.2
noncomputable def SideOk(l:List Prop):Prop:=∀P∈l,P
noncomputable def StkOk(l:List (SK×SK)):Prop:=∀q∈l,q.1=q.2
noncomputable def Fine(V:Vw)(S:Sv)(f:Cf):Prop:=OblOk f.obl∧SideOk f.side∧StkOk f.stk∧Good V S f.c f.κ f.dp f.t f.T f.m f.i f.G
noncomputable def Stp(V:Vw)(S:Sv)(f f':Cf):Prop:=KInv S f.c f.κ f.dp→∀h g,Rep V S h f.T f.m→GRep S.g f.G g→Good V S f'.c f'.κ f'.dp f'.t f'.T f'.m f'.i f'.G→Means V S f.c f.κ f.t ⟨h,g,S.d,V.t₀+f.i,S.os⟩
theorem obl_tail{x:Nat×Nat}{l:List (Nat×Nat)}(h:OblOk (x::l)):OblOk l:=fun y hy=>h y (.tail _ hy)
theorem side_tail{x:Prop}{l:List Prop}(h:SideOk (x::l)):SideOk l:=fun y hy=>h y (.tail _ hy)
theorem stk_tail{x:SK×SK}{l:List (SK×SK)}(h:StkOk (x::l)):StkOk l:=fun y hy=>h y (.tail _ hy)
theorem obl_head{a b:Nat}{l:List (Nat×Nat)}(h:OblOk ((a,b)::l)):a=b:=h (a,b) (.head _)
theorem side_head{P₀:Prop}{l:List Prop}(h:SideOk (P₀::l)):P₀:=h P₀ (.head _)
theorem KInv.push{κ:KK}{dp:Nat}{c c':Code}{k:Result→Sem Fin}(K:KInv S c κ dp)(hk:bu κ):KInv S c' (.ret c k dp κ) (up c κ dp):=by
  refine ⟨fun q=> ?_,hk,K⟩
  show (arK S.A₀ κ).depth+c.weight≤_
  have hw:=cW c
  cases κ with
  |own=>
    obtain ⟨rfl,h2,_⟩:=K
    exact h2
  |ent κ=>exact absurd rfl (hk κ)
  |base=>
    have h1:S.A₀.depth≤S.dep+dp:=K.1
    show S.A₀.depth+c.weight≤S.dep+(dp+wt c)
    lia
  |ret c₁ k₁ d₁ κ₁=>
    have h1:(arK S.A₀ (.ret c₁ k₁ d₁ κ₁)).depth≤S.dep+dp:=K.1 q
    show (arK S.A₀ (.ret c₁ k₁ d₁ κ₁)).depth+c.weight≤S.dep+(dp+wt c)
    lia
  |gen=>cases q
theorem cY{c₁:Code}{k:Result→Sem Fin}{d:Nat}{κ:KK}:bu (.ret c₁ k d κ):=fun _ x=>by cases x
theorem codeAny_alt{κ:KK}{j:Nat}{id:String}{args:Args}{t:Sem Fin}{s:aa}(q:inSeg κ=false)(hk:bu κ)(ha:altT j id args=some t)(hd:(arK S.A₀ κ).depth+5<recursionLimit)(h:Means V S (.builtin id args) κ t s):
    codeAny (model V.prog V.w) (arK S.A₀ κ) (.builtin id args) (endK V S κ) s:=by
  refine y_code _ _ _ _ _ _ (alt_ok ha hd ?_)
  rw [means_own q,aS hk] at h
  exact h
section
variable {f f':Cf}
theorem Fine.im(F:Fine V S f')(e:f.obl=f'.obl∧f.side=f'.side∧f.stk=f'.stk)(g:Stp V S f f'):Fine V S f:=
  ⟨e.1▸F.1,e.2.1▸F.2.1,e.2.2▸F.2.2.1,fun K h g' D Dg=>g K h g' D Dg F.2.2.2⟩
theorem same{a:List (Nat×Nat)}{b:List Prop}{c:List (SK×SK)}:a=a∧b=b∧c=c:=⟨rfl,rfl,rfl⟩
theorem Fine.obl{a b:Nat}(F:Fine V S f')(e:f'.obl=(a,b)::f.obl∧f.side=f'.side∧f.stk=f'.stk)(g:a=b→Stp V S f f'):Fine V S f:=by
  have F1:=F.1
  rw [e.1] at F1
  exact ⟨fun y hy=>F1 y (.tail _ hy),e.2.1▸F.2.1,e.2.2▸F.2.2.1,fun K h g' D Dg=>g (F1 (a,b) (.head _)) K h g' D Dg F.2.2.2⟩
theorem Fine.ask{P:Prop}(F:Fine V S f')(e:f.obl=f'.obl∧f'.side=P::f.side∧f.stk=f'.stk)(g:P→Stp V S f f'):Fine V S f:=by
  have F1:=F.2.1
  rw [e.2.1] at F1
  exact ⟨e.1▸F.1,fun y hy=>F1 y (.tail _ hy),e.2.2▸F.2.2.1,fun K h g' D Dg=>g (F1 P (.head _)) K h g' D Dg F.2.2.2⟩
theorem Fine.stack{p q:SK}(F:Fine V S f')(e:f.obl=f'.obl∧f.side=f'.side∧f'.stk=(p,q)::f.stk)(g:p=q→Stp V S f f'):Fine V S f:=by
  have F1:=F.2.2.1
  rw [e.2.2] at F1
  exact ⟨e.1▸F.1,e.2.1▸F.2.1,fun y hy=>F1 y (.tail _ hy),fun K h g' D Dg=>g (F1 (p,q) (.head _)) K h g' D Dg F.2.2.2⟩
end
section
variable {b:Bool} {f x y:Cf} {C:Prop}
theorem bS_t(H:Fine V S (bS b x f))(h:Fine V S f→C)(h1:b=true→Fine V S x→C):C:=by
  cases b with
  |true=>exact h1 rfl H
  |false=>exact h H
theorem bS_f(H:Fine V S (bS b f x))(h:Fine V S f→C)(h1:b=false→Fine V S x→C):C:=by
  cases b with
  |true=>exact h H
  |false=>exact h1 rfl H
theorem bS_b(H:Fine V S (bS b x y))(h1:b=true→Fine V S x→C)(h0:b=false→Fine V S y→C):C:=by
  cases b with
  |true=>exact h1 rfl H
  |false=>exact h0 rfl H
theorem oS_i{α:Type}{a:Option α}{g:α→Cf}(H:Fine V S (oS a f g))(h:Fine V S f→C)(h1:∀x,a=some x→Fine V S (g x)→C):C:=by
  cases a with
  |none=>exact h H
  |some x=>exact h1 x rfl H
theorem none_of:∀{v:Value},isNone v=true→v= .none
  | .none,_=>rfl
theorem noEnt_of{κ:KK}(h:isEnt κ=false):bu κ:=fun κ' e=>by rw [e] at h;cases h
end
noncomputable def AltK(V:Vw)(S:Sv)(sg:Bool)(d:Nat)(c:Code)(t:Sem Fin):Prop:=t=den c∨sg=false∧Nat.ble (Nat.add d 5) V.lim=true∧∃j id args,c= .builtin id args∧altT j id args=some t
section
variable {C:Prop} {sg:Bool} {d hs:Nat} {T:SL} {f:Cf} {pl ent:Sem Fin→Nat→Cf} {hc:Hc→Nat→Cf} {sc₁:Sc→Nat→Cf}
noncomputable def HcK(V:Vw)(sg:Bool)(T:SL)(c:Code)(r:Hc):Prop:=sg=false∧∃id args op x p,c= .builtin id args∧hcOf V T op x p id args=some r
noncomputable def ScK(sg:Bool)(c:Code)(r:Sc):Prop:=sg=false∧∃id args op p,c= .builtin id args∧sc op p id args=some r
noncomputable def FnK(V:Vw)(sg:Bool)(c:Code)(t:Sem Fin):Prop:=sg=false∧∃a fd args,c= .call (.ref a) args∧fnOf? V.kt a=some fd∧t=ci a fd args
theorem callR_i{x:Value}{args:Args}(H:Fine V S (callR V sg hs x args f pl ent))(h:Fine V S f→C)(h1:∀t n,AltK V S sg d (.call x args) t→Fine V S (pl t n)→C)(h2:∀t n,FnK V sg (.call x args) t→Fine V S (ent t n)→C):C:=by
  cases x with
  |ref a=>exact bS_b H (fun _ H=>bS_f H h fun h0 H=>oS_i H h fun fd e H=>h2 _ _ ⟨h0,_,_,_,rfl,e,rfl⟩ H) fun _ H=>bS_t H h fun _ H=>h1 _ _ (.inl rfl) H
  |_=>exact h1 _ _ (.inl rfl) H
theorem callB_i{id:String}{args:Args}(H:Fine V S (callB V sg d T hs id args f pl hc sc₁))(h:Fine V S f→C)(h1:∀t n,AltK V S sg d (.builtin id args) t→Fine V S (pl t n)→C)(h3:∀r n,HcK V sg T (.builtin id args) r→Fine V S (hc r n)→C)(h4:∀r n,ScK sg (.builtin id args) r→Fine V S (sc₁ r n)→C):C:=by
  refine bS_b H (fun _ H=>h1 _ _ (.inl rfl) H) fun _ H=>bS_f H h fun h0 H=> ?_
  cases ha:altT (bt hs) id args with
  |some t=>rw [ha] at H;exact bS_t H h fun hd H=>h1 _ _ (.inr ⟨h0,hd,_,_,_,rfl,ha⟩) H
  |none=>
    rw [ha] at H
    cases hr:hcOf V T (bt hs) (bt (rest hs)) (bt (rest (rest hs))) id args with
    |some r=>rw [hr] at H;exact h3 _ _ ⟨h0,_,_,_,_,_,rfl,hr⟩ H
    |none=>rw [hr] at H;exact oS_i H h fun r e H=>h4 _ _ ⟨h0,_,_,_,_,rfl,e⟩ H
theorem callS_i{c:Code}(H:Fine V S (callS V sg d T hs c f pl ent hc sc₁))(h:Fine V S f→C)(h1:∀t n,AltK V S sg d c t→Fine V S (pl t n)→C)(h2:∀t n,FnK V sg c t→Fine V S (ent t n)→C)(h3:∀r n,HcK V sg T c r→Fine V S (hc r n)→C)(h4:∀r n,ScK sg c r→Fine V S (sc₁ r n)→C):C:=by
  cases c with
  |call x args=>exact callR_i H h h1 h2
  |builtin id args=>exact callB_i H h h1 h3 h4
  |_=>exact h1 _ _ (.inl rfl) H
end
section
variable {c₁ c:Code} {κ:KK} {dp d:Nat} {k:Result→Sem Fin} {T:SL} {m i:Nat} {h:Heap} {g:Array GenState} {G:List GE}
theorem ret_alt(O:Ok V S){t:Sem Fin}{s:aa}(a:AltK V S (inSeg κ) dp c t)(q:inSeg κ=false)(K:(arK S.A₀ (.ret c₁ k d κ)).depth≤S.dep+dp)(z:Means V S c (.ret c₁ k d κ) t s):
    codeAny (model V.prog V.w) (arK S.A₀ (.ret c₁ k d κ)) c (endK V S (.ret c₁ k d κ)) s:=by
  rcases a with rfl|⟨_,hb,_,_,_,rfl,ha⟩
  · exact bO (κ:= .ret c₁ k d κ) q cY z
  · refine codeAny_alt (κ:= .ret c₁ k d κ) q cY ha ?_ z
    have h3:=O.room
    have h5:dp+5≤V.lim:=Nat.le_of_ble_eq_true hb
    lia
theorem ret_fn(O:Ok V S){t:Sem Fin}(a:FnK V (inSeg κ) c t)(D:Rep V S h T m)(z:Means V S c (.ent (.ret c₁ k d κ)) t ⟨h,g,S.d,V.t₀+i,S.os⟩):
    codeAny (model V.prog V.w) (arK S.A₀ (.ret c₁ k d κ)) c (endK V S (.ret c₁ k d κ)) ⟨h,g,S.d,V.t₀+i,S.os⟩:=by
  obtain ⟨q,_,_,_,rfl,e,rfl⟩:=a
  exact codeAny_fn (κ:= .ret c₁ k d κ) O q D e z
theorem ret_hc(O:Ok V S){r:Hc}(a:HcK V (inSeg κ) T c r)(hk:bu κ)(D:Rep V S h T m)(ha:r.ask)(ho:r.obl.1=r.obl.2)(z:∀h',Rep V S h' r.T' m→Means V S c₁ κ (k (.ok (.ret (r.v (V.t₀+i))))) ⟨h',g,S.d,V.t₀+(i+r.dt),S.os⟩):
    codeAny (model V.prog V.w) (arK S.A₀ (.ret c₁ k d κ)) c (endK V S (.ret c₁ k d κ)) ⟨h,g,S.d,V.t₀+i,S.os⟩:=by
  obtain ⟨q,_,_,_,_,_,rfl,e⟩:=a
  refine hc_ok O D e ha ho fun h' D'=> ?_
  have z:=z h' D'
  rw [means_own q,aS hk,←Nat.add_assoc] at z
  exact z
theorem ret_sc{r:Sc}(a:ScK (inSeg κ) c r)(hk:bu κ)(ha:r.ask)(z:Means V S c₁ κ (k (.ok (.ret (r.v (V.t₀+i))))) ⟨h,g,S.d,V.t₀+(i+r.dt),S.os⟩):
    codeAny (model V.prog V.w) (arK S.A₀ (.ret c₁ k d κ)) c (endK V S (.ret c₁ k d κ)) ⟨h,g,S.d,V.t₀+i,S.os⟩:=by
  obtain ⟨q,_,_,_,_,rfl,e⟩:=a
  refine sc_ok e ha _ _ _ _ _ ?_
  rw [means_own q,aS hk,←Nat.add_assoc] at z
  exact z
theorem eE{s:aa}(q:inSeg κ=false)(hq:quiet c=true)(z:codeAny (model V.prog V.w) (arK S.A₀ (.ret c₁ k d κ)) c (endK V S (.ret c₁ k d κ)) s){c₀:Code}:Means V S c₀ (.ret c₁ k d κ) (.pure (.again c)) s:=by
  rw [means_own (show inSeg (.ret c₁ k d κ)=false from q),aS cY]
  exact y_pure _ _ _ _ _ _ _ _ _ (y_again _ _ _ _ _ _ (by rw [quiet_eq];exact hq) z)
end
section
variable {n:Nat}
noncomputable abbrev Runs(V:Vw)(S:Sv)(go:Go):Prop:=∀c κ dp t T m i G hs obl side stk,Fine V S (go c κ dp t T m i G hs obl side stk)→Fine V S ⟨c,κ,dp,t,T,m,i,G,hs,obl,side,stk⟩
variable {go:Go} {c c':Code} {κ:KK} {dp:Nat} {t:Sem Fin} {T:SL} {m i:Nat} {G:List GE} {hs:Nat} {obl:List (Nat×Nat)} {side:List Prop} {stk:List (SK×SK)}
theorem ent_room(O:Ok V S)(K:KInv S c (.ent κ) dp)(hb:Nat.ble (Nat.add dp (wt c)) V.lim=true):(arK S.A₀ κ).depth+c.weight<recursionLimit:=by
  have h1:=K.2.2.2.depth K.2.2.1 K.2.1 (fun κ₁ e=>absurd e (K.1 κ₁))
  have h2:=cW c
  have h3:=O.room
  have h5:dp+wt c≤V.lim:=Nat.le_of_ble_eq_true hb
  lia
theorem end_good(O:Ok V S)(ih:Runs V S go){r:Result}{f:Cf}(ht:t=leafOf r)(hF:Fine V S f→Fine V S ⟨c,κ,dp,t,T,m,i,G,hs,obl,side,stk⟩)
    (H:Fine V S (endS f r (End.ret r).result (fun c κ d t=>go c κ d t T m i G hs obl side stk) (fun j c κ d t=>go c κ d t T m i (gset G j .finished) hs obl side stk) κ)):Fine V S ⟨c,κ,dp,t,T,m,i,G,hs,obl,side,stk⟩:=by
  subst ht
  cases κ with
  |base=>exact hF H
  |own=>exact hF H
  |ent κ=>exact hF H
  |ret c' k d κ'=>
    refine (ih _ _ _ _ _ _ _ _ _ _ _ _ H).im same fun K h g D Dg G'=> ?_
    cases r with
    |ok f=>exact Means.retDone K.2.1 (G' K.2.2 h g D Dg)
    |error e=>exact Means.retRaise K.2.1 (G' K.2.2 h g D Dg)
  |gen j c₁ k d κ'=>
    refine (ih _ _ _ _ _ _ _ _ _ _ _ _ H).im same fun K h g D Dg G'=>Means.genEnd rfl K.2.1 K.1 ?_
    have z:=G' K.2.2 h _ D (Dg.set (j:=j) (x:= .finished) (y:= .finished) rfl)
    rw [←O.g0] at z
    exact z
theorem again_good(O:Ok V S)(ih:Runs V S go){f:Cf}(hq:quiet c'=true)(hF:Fine V S f→Fine V S ⟨c,κ,dp,.pure (.again c'),T,m,i,G,hs,obl,side,stk⟩)
    (H:Fine V S (againS go V c κ c' f dp T m i G hs obl side stk)):Fine V S ⟨c,κ,dp,.pure (.again c'),T,m,i,G,hs,obl,side,stk⟩:=by
  have hq':c'.quiet=true:=by rw [quiet_eq];exact hq
  cases κ with
  |own=>exact hF H
  |base=>exact (ih _ _ _ _ _ _ _ _ _ _ _ _ H).im same fun K h g D Dg G'=>Means.again (fun _ x=>by cases x) hq' (G' K h g D Dg)
  |gen j c₁ k d κ'=>exact (ih _ _ _ _ _ _ _ _ _ _ _ _ H).im same fun K h g D Dg G'=>Means.again (fun _ x=>by cases x) hq' (G' K h g D Dg)
  |ent κ'=>
    refine bS_t H hF fun hb H=>(ih _ _ _ _ _ _ _ _ _ _ _ _ H).im same fun K h g D Dg G'=> ?_
    have z:=G' (KInv.code K.2.1 K.2.2.2) h g D Dg
    rw [means_own (show inSeg (.ent κ')=false from rfl)]
    refine y_pure _ _ _ _ _ _ _ _ _ ?_
    show wpOwn _ _ _ (cy (.again c')) _ _ _
    refine wpOwn_bind (m:=(enterFrame:Sem Unit)) (f:=fun _=>(.pure (.again c'):Sem Fin)) (wpOwn_of_wpAny (wpAny_enterFrame (s:=⟨h,g,S.d,V.t₀+i,S.os⟩) (D.noLimit O) ?_ (y_pure _ _ _ _ _ _ _ _ _ (y_again _ _ _ _ _ _ hq' (bO K.2.2.1 K.1 z)))))
    exact ent_room O K hb
  |ret c₁ k d κ'=>
    refine callS_i H hF (fun t n a H=>(ih _ _ _ _ _ _ _ _ _ _ _ _ H).im same fun K h g D Dg G'=> ?_) (fun t n a H=>(ih _ _ _ _ _ _ _ _ _ _ _ _ H).im same fun K h g D Dg G'=> ?_) (fun r n a H=> ?_) (fun r n a H=> ?_)
    · cases q:inSeg κ' with
      |false=>exact eE q hq (ret_alt O a q (K.1 q) (G' K h g D Dg))
      |true=>
        rcases a with rfl|a
        · exact Means.again cY hq' (G' K h g D Dg)
        · rw [q] at a;cases a.1
    · exact eE a.1 hq (ret_fn O a D (G' ⟨cY,(fun x=>by cases x),a.1,K⟩ h g D Dg))
    · have F:=ih _ _ _ _ _ _ _ _ _ _ _ _ H
      have F1:=F.1
      have F2:=F.2.1
      exact ⟨obl_tail F1,side_tail F2,F.2.2.1,fun K h g D Dg=>eE a.1 hq (ret_hc O a K.2.1 D (side_head F2) (F1 _ (.head _)) fun h D=>F.2.2.2 K.2.2 h g D Dg)⟩
    · exact (ih _ _ _ _ _ _ _ _ _ _ _ _ H).ask same fun ha K h g D Dg G'=>eE a.1 hq (ret_sc a K.2.1 ha (G' K.2.2 h g D Dg))
theorem callc_good(O:Ok V S)(ih:Runs V S go){f:Cf}{gd:Bool}{l:List Value}{k:Result→Sem Fin}(hk:bu κ)(hF:Fine V S f→Fine V S ⟨c,κ,dp,.call c' none gd l k,T,m,i,G,hs,obl,side,stk⟩)
    (H : Fine V S (callS V (inSeg κ) (up c κ dp) T hs c' f (fun t h => go c' (.ret c k dp κ) (up c κ dp) t T m i G h obl side stk) (fun t h => go c' (.ent (.ret c k dp κ)) (up c κ dp) t T m i G h obl side stk)
        (fun r h=>go c κ dp (k (.ok (.ret (r.v (Nat.add V.t₀ i))))) r.T' m (Nat.add i r.dt) G h (r.obl::obl) (r.ask::side) stk)
        (fun r h=>go c κ dp (k (.ok (.ret (r.v (Nat.add V.t₀ i))))) T m (Nat.add i r.dt) G h obl (r.ask::side) stk))):Fine V S ⟨c,κ,dp,.call c' none gd l k,T,m,i,G,hs,obl,side,stk⟩:=by
  refine callS_i H hF (fun t n a H=>(ih _ _ _ _ _ _ _ _ _ _ _ _ H).im same fun K h g D Dg G'=> ?_) (fun t n a H=>(ih _ _ _ _ _ _ _ _ _ _ _ _ H).im same fun K h g D Dg G'=> ?_) (fun r n a H=> ?_) (fun r n a H=> ?_)
  · cases q:inSeg κ with
    |false=>exact Means.call (dp:=dp) q hk (ret_alt O a q ((K.push (c':=c) (k:=k) hk).1 q) (G' (K.push hk) h g D Dg))
    |true=>
      rcases a with rfl|a
      · exact Means.callDen (dp:=dp) hk (G' (K.push hk) h g D Dg)
      · rw [q] at a;cases a.1
  · exact Means.call (dp:=dp) a.1 hk (ret_fn O a D (G' ⟨cY,(fun x=>by cases x),a.1,K.push hk⟩ h g D Dg))
  · have F:=ih _ _ _ _ _ _ _ _ _ _ _ _ H
    have F1:=F.1
    have F2:=F.2.1
    exact ⟨obl_tail F1,side_tail F2,F.2.2.1,fun K h g D Dg=>Means.call (dp:=dp) a.1 hk (ret_hc O a hk D (side_head F2) (F1 _ (.head _)) fun h D=>F.2.2.2 K h g D Dg)⟩
  · exact (ih _ _ _ _ _ _ _ _ _ _ _ _ H).ask same fun ha K h g D Dg G'=>Means.call (dp:=dp) a.1 hk (ret_sc a hk ha (G' K h g D Dg))
theorem g0_at(O:Ok V S){a j:Nat}{g:Array GenState}{x:GenState}(e:a=Nat.add V.g0 j)(h:g[S.g.size+j]? =some x):g[a]? =some x:=by
  rw [e,O.g0];exact h
theorem g0_set(O:Ok V S){a j n:Nat}{g:Array GenState}{h:Heap}{x:GenState}(e:a=Nat.add V.g0 j)(z:Means V S c κ t ⟨h,g.setIfInBounds (S.g.size+j) x,S.d,n,S.os⟩):Means V S c κ t (Shared.setGen ⟨h,g,S.d,n,S.os⟩ a x):=by
  rw [e,O.g0];exact z
theorem seen_good(O:Ok V S)(ih:Runs V S go){g:Nat}{k:GenStatus×Option (List (Code×Pos))→Sem Fin}{x:GE}(hx:nth G (bt hs)=some x)
    (H:Fine V S (seenS (fun t stk=>go c κ dp t T m i G (rest hs) ((g,Nat.add V.g0 (bt hs))::obl) side stk) k stk x)):Fine V S ⟨c,κ,dp,.genState g k,T,m,i,G,hs,obl,side,stk⟩:=by
  cases x with
  |susp k₀ c'=>
    have F:=ih _ _ _ _ _ _ _ _ _ _ _ _ H
    refine ⟨obl_tail F.1,F.2.1,stk_tail F.2.2.1,fun K h g' D Dg=> ?_⟩
    have ea:=obl_head F.1
    obtain ⟨gs,h1,l,p,cl,h2⟩:=Dg.own _ _ hx
    subst h2
    refine Means.genState (g0_at O ea h1) ?_
    have e:=congrFun (congrFun (F.2.2.1 _ (.head _)) p) []
    dsimp only at e
    show Means V S c κ (k (.suspended,some [(_,p)])) _
    rw [e]
    exact F.2.2.2 K h g' D Dg
  |_=>
    refine (ih _ _ _ _ _ _ _ _ _ _ _ _ H).obl same fun ea K h g' D Dg G'=> ?_
    obtain ⟨gs,h1,h2⟩:=Dg.own _ _ hx
    refine Means.genState (gs:=gs) (g0_at O ea h1) ?_
    cases h2
    exact G' K h g' D Dg
theorem wake_good(O:Ok V S)(ih:Runs V S go){f:Cf}{g:Nat}{r:Resume}{l:List Value}{k:GenResult→Sem Fin}{x:GE}(q:inSeg κ=false)(hk:bu κ)(hx:nth G (bt hs)=some x)(hF:Fine V S f→Fine V S ⟨c,κ,dp,.resume g r l k,T,m,i,G,hs,obl,side,stk⟩)
    (H:Fine V S (wakeS f (fun c₀ t=>go c₀ (.gen (bt hs) c k dp κ) dp t T m i (gset G (bt hs) .running) (rest hs) ((g,Nat.add V.g0 (bt hs))::obl) side stk) r x)):Fine V S ⟨c,κ,dp,.resume g r l k,T,m,i,G,hs,obl,side,stk⟩:=by
  cases x with
  |fresh c'=>
    cases r with
    |throw _=>exact hF H
    |send v=>
      refine bS_t H hF fun hv H=>(ih _ _ _ _ _ _ _ _ _ _ _ _ H).obl same fun ea K h g' D Dg G'=> ?_
      obtain ⟨gs,h1,h2⟩:=Dg.own _ _ hx
      cases h2
      exact none_of hv▸Means.wakeF (j:=bt hs) (d:=dp) q hk ea (g0_at O ea h1) (g0_set O ea (G' ⟨hk,q,K⟩ h _ D (Dg.set (j:=bt hs) (x:= .running) (y:= .running) rfl)))
  |susp k₀ c'=>
    refine (ih _ _ _ _ _ _ _ _ _ _ _ _ H).obl same fun ea K h g' D Dg G'=> ?_
    obtain ⟨gs,h1,l,p,cl,h2⟩:=Dg.own _ _ hx
    cases h2
    exact Means.wakeS (j:=bt hs) (d:=dp) q hk ea (g0_at O ea h1) (g0_set O ea (G' ⟨hk,q,K⟩ h _ D (Dg.set (j:=bt hs) (x:= .running) (y:= .running) rfl)))
  |running=>exact hF H
  |finished=>exact hF H
theorem step_good(O:Ok V S)(ih:Runs V S go):∀c κ dp t T m i G hs obl side stk,Fine V S (runS go V c κ dp t T m i G hs obl side stk)→Fine V S ⟨c,κ,dp,t,T,m,i,G,hs,obl,side,stk⟩:=by
  intro c κ dp t T m i G hs obl side stk H
  cases t with
  |pure fin=>
    cases fin with
    |done f=>
      refine end_good O ih (r:= .ok f) rfl (fun H=>H) ?_
      have e:(End.ret (.ok f)).result= .returned (retOf f):=by cases f<;>rfl
      rw [e]
      exact H
    |again c'=>exact bS_t H (fun H=>H) fun hq H=>again_good O ih hq (fun H=>H) H
  |raise e=>exact end_good O ih (r:= .error e) rfl (fun H=>H) H
  |rule tag k=>exact (ih _ _ _ _ _ _ _ _ _ _ _ _ H).im same fun K h g D Dg G'=>Means.skim1 rfl (G' K h g D Dg)
  |«at» q k=>exact (ih _ _ _ _ _ _ _ _ _ _ _ _ H).im same fun K h g D Dg G'=>Means.skim1 rfl (G' K h g D Dg)
  |point l k=>exact (ih _ _ _ _ _ _ _ _ _ _ _ _ H).im same fun K h g D Dg G'=>Means.skim1 rfl (G' K h g D Dg)
  |ask k=>exact (ih _ _ _ _ _ _ _ _ _ _ _ _ H).im same fun K h g D Dg G'=>Means.skim1 rfl (G' K h g D Dg)
  |load a q k=>exact oS_i H (fun H=>H) fun p hp H=>(ih _ _ _ _ _ _ _ _ _ _ _ _ H).obl same fun ea K h g D Dg G'=>Means.load (D.lk O hp ea) (G' K h g D Dg)
  |loadIfAlive a k=>exact oS_i H (fun H=>H) fun p hp H=>(ih _ _ _ _ _ _ _ _ _ _ _ _ H).obl same fun ea K h g D Dg G'=>Means.alive (D.lk O hp ea) (G' K h g D Dg)
  |alloc o k=>
    refine bS_f H (fun H=>H) fun hf H=>bS_t H (fun H=>H) fun e H=>(ih _ _ _ _ _ _ _ _ _ _ _ _ H).im same fun K h g D Dg G'=>Means.alloc ?_
    have z:=G' K _ g (D.alloc O hf e) Dg
    have ea:h.objs.size=adr V m:=by rw [cJ D.le];have:=D.size;have:=D.le;lia
    rw [ea];exact z
  |update a q f k=>
    refine bS_f H (fun H=>H) fun hj H=>oS_i H (fun H=>H) fun o e H=>bS_f H (fun H=>H) fun hf H=>bS_t H (fun H=>H) fun hj H=>(ih _ _ _ _ _ _ _ _ _ _ _ _ H).obl same fun ea K h g D Dg G'=> ?_
    subst ea
    exact Means.update (D.own _ _ e).2.1 (G' K _ g (D.update O e hf hj) Dg)
  |fresh k=>exact (ih _ _ _ _ _ _ _ _ _ _ _ _ H).im same fun K h g D Dg G'=>Means.fresh (G' K h g D Dg)
  |handled own k=>
    cases own with
    |true=>exact H
    |false=>exact (ih _ _ _ _ _ _ _ _ _ _ _ _ H).im same fun K h g D Dg G'=>Means.hand K (G' K h g D Dg)
  |newGen c' k=>
    refine (ih _ _ _ _ _ _ _ _ _ _ _ _ H).im same fun K h g D Dg G'=>Means.newGen ?_
    have e:g.size=V.g0+glen G:=by rw [glen_eq,Dg.size,O.g0]
    rw [e]
    exact G' K h _ D (Dg.push c')
  |genState g k=>exact oS_i H (fun H=>H) fun x hx H=>seen_good O ih hx H
  |resume g r l k=>exact bS_f H (fun H=>H) fun q H=>bS_f H (fun H=>H) fun hk H=>oS_i H (fun H=>H) fun x hx H=>wake_good O ih q (noEnt_of hk) hx (fun H=>H) H
  |yield v gd l k=>
    cases κ with
    |gen j c₁ k₁ d κ'=>
      cases gd with
      |true=>exact H
      |false=>
        refine (ih _ _ _ _ _ _ _ _ _ _ _ _ H).im same fun K h g D Dg G'=>Means.genYield K.2.1 K.1 fun p=> ?_
        have z:=G' K.2.2 h _ D (Dg.set (j:=j) (x:= .susp k c) (y:= .suspended k l c p [] false) ⟨l,p,false,rfl⟩)
        rw [←O.g0] at z
        exact z
    |_=>exact H
  |call c' hd g l k=>
    cases hd with
    |some _=>exact H
    |none=>exact bS_f H (fun H=>H) fun hk H=>callc_good O ih (noEnt_of hk) (fun H=>H) H
  |stack k=>exact (ih _ _ _ _ _ _ _ _ _ _ _ _ H).stack same fun e K h g D Dg G'=>Means.stack (fun p below=>congrFun (congrFun e p) below) (G' K h g D Dg)
  |_=>exact H
end
theorem run_good(O:Ok V S):∀n,Runs V S (run V n)
  |0=>fun _ _ _ _ _ _ _ _ _ _ _ _ H=>H
  |n+1=>step_good O (run_good O n)
end
noncomputable def K1(P:ae):Frag:=(K0 P).filter fun p=> !(Nat.beq p.1 140)&& !(Nat.beq p.1 147)
@[irreducible] noncomputable def kt1 (P:ae):KT:=KT.of (K1 P)
noncomputable def keysK:KT→Nat→Nat→List Nat
  | .nil,_,_=>[]
  | .node v l r,s,b=>(match v with|some _=>[b]|none=>[])++(keysK l (2 * s) (s+b)++keysK r (2 * s) (2 * s+b))
theorem eZ:∀{t:KT} {s b j:Nat} {o:Obj},t.get j=some o→s * j+b∈keysK t s b
  | .nil,_,_,_,_,e=>by cases e
  | .node v l r,s,b,j,o,e=>by
    rw [KT.get_node] at e
    unfold keysK
    by_cases h0:j=0
    · subst h0
      rw [if_pos rfl] at e
      subst e
      rw [Nat.mul_zero,Nat.zero_add]
      exact aB _ (.head _)
    · rw [if_neg h0] at e
      by_cases p:j % 2=1
      · rw [if_pos p] at e
        have z:=eZ (s:=2 * s) (b:=s+b) e
        have:2 * s * (j / 2)+(s+b)=s * j+b:=by
          have hj:j=2 * (j / 2)+1:=by lia
          generalize j / 2=q at hj
          subst hj
          rw [Nat.mul_add,Nat.mul_one,←Nat.mul_assoc,Nat.mul_comm s 2];lia
        rw [this] at z
        exact aE _ (aB _ z)
      · rw [if_neg p] at e
        have z:=eZ (s:=2 * s) (b:=2 * s+b) e
        have:2 * s * (j / 2 - 1)+(2 * s+b)=s * j+b:=by
          have hj:j=2 * (j / 2 - 1)+2:=by lia
          generalize j / 2 - 1=q at hj
          subst hj
          rw [Nat.mul_add,←Nat.mul_assoc,Nat.mul_comm s 2];lia
        rw [this] at z
        exact aE _ (aE _ z)
noncomputable def lowNot(l:List Nat):Bool:=l.all fun a=>Nat.blt a 322&&(!(Nat.beq a 140)&& !(Nat.beq a 147))
theorem dE{l:List Nat}(h:lowNot l=true){a:Nat}(ha:a∈l):a<322∧a≠140∧a≠147:=by
  have q:=List.all_eq_true.mp h a ha
  obtain ⟨q1,q2⟩:=Bool.and_eq_true_iff.mp q
  obtain ⟨q2,q3⟩:=Bool.and_eq_true_iff.mp q2
  refine ⟨blt_true q1,fun e=> ?_,fun e=> ?_⟩
  · subst e;cases q2
  · subst e;cases q3
theorem kt1_keys(P:ae):lowNot (keysK (kt1 P) 1 0)=true:=by kernel_rfl
theorem kt1_low{P:ae}{a:Addr}{o:Obj}(e:(kt1 P).get a=some o):a<322∧a≠140∧a≠147:=by
  have z:=eZ (s:=1) (b:=0) e
  rw [Nat.one_mul,Nat.add_zero] at z
  exact dE (kt1_keys P) z
theorem dC{h:Heap}{P:ae}(e:h.get? 2=some (o2 P)):h.NoLimit:=
  ⟨fun _=>none,⟨_,_,_,e,rfl,fun e he=>by simp at he,fun name=>rfl⟩,rfl⟩
noncomputable def KTH(w:ag)(h:Heap):Prop:=KT.Holds h 1 0 (kt1 w.params)∧322≤h.objs.size
theorem kt1_two(P:ae):(kt1 P).get 2=some (o2 P):=by kernel_rfl
theorem KTH.two{w:ag}{h:Heap}(H:KTH w h):h.get? 2=some (o2 w.params):=by
  have z:=KT.Holds.get H.1 (kt1_two w.params)
  rw [Nat.one_mul,Nat.add_zero] at z
  exact z
structure Ext (mods:List Nat) (h h':Heap):Prop where
  keep:∀b o,h.get? b=some o→b∉mods→h'.get? b=some o
  size:h.objs.size≤h'.objs.size
theorem Ext.refl(mods:List Nat)(h:Heap):Ext mods h h:=⟨fun _ _ e _=>e,al _⟩
theorem Ext.trans{mods:List Nat}{h h' h'':Heap}(a:Ext mods h h')(b:Ext mods h' h''):Ext mods h h'':=⟨fun c o e q=>b.keep c o (a.keep c o e q) q,ad a.size b.size⟩
theorem Ext.weak{mods mods':List Nat}{h h':Heap}(a:Ext mods h h')(l:∀x∈mods,x∈mods'):Ext mods' h h':=⟨fun c o e q=>a.keep c o e fun y=>q (l _ y),a.size⟩
theorem fb{mods:List Nat}{h h':Heap}(a:Ext mods h h'):∀{t:KT} {s b:Nat},(∀x∈keysK t s b,x∉mods)→KT.Holds h s b t→KT.Holds h' s b t
  | .nil,_,_,_,_=>trivial
  | .node v l r,s,b,q,H=>⟨fun o e=>a.keep _ _ (H.1 o e) (q _ (by unfold keysK;rw [e];exact aB _ (.head _))),
      fb a (fun x hx=>q x (by unfold keysK;exact aE _ (aB _ hx))) H.2.1,
      fb a (fun x hx=>q x (by unfold keysK;exact aE _ (aE _ hx))) H.2.2⟩
noncomputable def High(mods:List Nat):Prop:=∀x∈mods,322≤x∨x=140∨x=147
theorem KTH.ext{w:ag}{mods:List Nat}{h h':Heap}(H:KTH w h)(a:Ext mods h h')(hm:High mods):KTH w h':=by
  refine ⟨fb a (fun x hx hq=> ?_) H.1,ad H.2 a.size⟩
  obtain ⟨q1,q2,q3⟩:=dE (kt1_keys w.params) hx
  rcases hm x hq with h|h|h
  · exact absurd q1 (Nat.not_lt.mpr h)
  · exact q2 h
  · exact q3 h
noncomputable def vw(w:ag)(s:aa)(ro:List (Addr×Obj))(as:List Nat)(lim:Nat)(vals:List Value:=[]):Vw:=⟨pw,w,kt1 w.params,ro,as,as.length,s.heap.objs.size,s.toks,lim,s.gens.size,vals⟩
noncomputable def svOf(s:aa)(mods:List Nat)(A:ai)(R:Result→aa→Prop)(dep:Nat)(c₀:Code):Sv:=⟨s.heap,mods,s.gens,A,R,s.drawn,s.os,dep,c₀⟩
theorem ok_of{w:ag}{s:aa}{ro:List (Addr×Obj)}{as mods:List Nat}{A:ai}{R:Result→aa→Prop}{dep lim:Nat}{c₀:Code}(H:KTH w s.heap)(hm:High mods)(hro:∀p∈ro,s.heap.get? p.1=some p.2∧p.1∉mods)
    (nd:as.Nodup) (lt:∀a∈as,a<s.heap.objs.size) (room:dep+lim<recursionLimit) (vals:List Value:=[]):Ok (vw w s ro as lim vals) (svOf s mods A R dep c₀):=by
  have km:∀a o,(kt1 w.params).get a=some o→a∉mods:=fun a o e q=>by
    obtain ⟨q1,q2,q3⟩:=kt1_low e
    rcases hm a q with h|h|h
    · exact absurd q1 (Nat.not_lt.mpr h)
    · exact q2 h
    · exact q3 h
  exact ⟨H.1,km,hro,rfl,nd,lt,al _,⟨_,H.two,km _ _ (kt1_two _),fun h e=>dC e⟩,room,rfl⟩
noncomputable def slots:List Obj→Nat→SL→SL
  |[],_,T=>T
  |o::l,i,T=>slots l (Nat.succ i) (SL.put o 41 T i)
theorem slots_get:∀(l:List Obj) (i:Nat) (T:SL) (j:Nat),i+l.length<1099511627776→(slots l i T).get j=if j<i then T.get j else match l[j - i]? with|some o=>some o|none=>T.get j
  |[],i,T,j,_=>by
    show T.get j=_
    by_cases h:j<i<;>simp [h]
  |o::l,i,T,j,hb=>by
    show (slots l (i+1) (SL.put o 41 T i)).get j=_
    have hb':i+1+l.length<1099511627776:=by simpa [Nat.add_assoc,Nat.add_comm 1] using hb
    rw [slots_get l (i+1) _ j hb',SL.get_put40 o T i j (SL.inB_of (by rw [List.length_cons] at hb;lia))]
    by_cases h:j<i
    · have h1:j<i+1:=Nat.lt_succ_of_lt h
      have h2:j≠i:=ay h
      simp [h,h1,h2]
    · by_cases e:j=i
      · subst e;simp
      · have h1:¬j<i+1:=by lia
        have h3:j - i=(j - (i+1))+1:=by lia
        rw [if_neg h1,if_neg h,h3,List.getElem?_cons_succ,if_neg e]
inductive Fl where
  |no
  |fin (f:Flow)
  |stop (c:Code) (d u:Nat)
  |body (c:Code)
noncomputable def klen:KK→Nat
  | .ret _ _ _ κ=>Nat.succ (klen κ)
  | .ent κ=>klen κ
  | .base=>0
  | .own=>0
  | .gen _ _ _ _ κ=>Nat.succ (klen κ)
noncomputable def fins:List GE→Bool
  |[]=>true
  |x::l=>match x with
    | .finished=>fins l
    |_=>false
noncomputable def flOf(cf:Cf):Fl:=match cf.t with
  | .pure fin=>match fin with
    | .done f=>match cf.κ with
      | .base=> .fin f
      | .own=> .fin f
      |_=> .no
    | .again c=>match cf.κ with
      | .ent κ=>match κ with
        | .base=>match Nat.ble (Nat.add cf.dp (wt cf.c)) 60 with
          |true=> .body c
          |false=> .no
        |_=> .no
      |_=> .no
  | .call c hd _ _ _=>match hd with
    |none=>match isEnt cf.κ||inSeg cf.κ with
      |false=> .stop c (up cf.c cf.κ cf.dp) (Nat.mul 10 (Nat.succ (klen cf.κ)))
      |true=> .no
    |some _=> .no
  |_=> .no
noncomputable def contOf(cf:Cf):Result→Sem Fin:=match cf.t with
  | .call _ _ _ _ k=>k
  |_=>fun _=> .unsupported ""
noncomputable def FlOk(cf:Cf):Fl→Prop
  | .no=>True
  | .fin f=>(cf.κ= .base∨cf.κ= .own)∧cf.t= .pure (.done f)
  | .stop c d u=>bu cf.κ∧inSeg cf.κ=false∧d=up cf.c cf.κ cf.dp∧u=10 * (klen cf.κ+1)∧∃g l,cf.t= .call c none g l (contOf cf)
  | .body c=>cf.κ= .ent .base∧cf.t= .pure (.again c)∧cf.dp+wt cf.c≤60
theorem flOf_ok(cf:Cf):FlOk cf (flOf cf):=by
  obtain ⟨c₀,κ,dp,t,_,_,_,_,_,_,_,_⟩:=cf
  cases t with
  |pure fin=>
    cases fin with
    |done f=>
      cases κ with
      |base=>exact ⟨.inl rfl,rfl⟩
      |own=>exact ⟨.inr rfl,rfl⟩
      |_=>trivial
    |again c=>
      cases κ with
      |ent κ=>
        cases κ with
        |base=>
          show FlOk _ (match Nat.ble (Nat.add dp (wt c₀)) 60 with|true=> .body c|false=> .no)
          cases h:Nat.ble (Nat.add dp (wt c₀)) 60 with
          |true=>exact ⟨rfl,rfl,Nat.le_of_ble_eq_true h⟩
          |false=>trivial
        |_=>trivial
      |_=>trivial
  |call c hd g l k=>
    cases hd with
    |none=>
      show FlOk _ (match isEnt κ||inSeg κ with|false=> .stop c (up c₀ κ dp) (Nat.mul 10 (Nat.succ (klen κ)))|true=> .no)
      cases h:isEnt κ||inSeg κ with
      |true=>trivial
      |false=>exact ⟨noEnt_of (Bool.or_eq_false_iff.mp h).1,(Bool.or_eq_false_iff.mp h).2,rfl,rfl,g,l,rfl⟩
    |some _=>trivial
  |_=>trivial
noncomputable def gets(T:SL):List Nat→List (Option Obj)
  |[]=>[]
  |j::l=>T.get j::gets T l
noncomputable def sumUp(cf:Cf)(js:List Nat):Fl×List Prop×List (Option Obj)×Nat×Nat×Bool:=(flOf cf,cf.side,gets cf.T js,cf.m,cf.i,fins cf.G)
theorem obl_of{α:Type}{l:List (α×α)}(h:l.map (·.1)=l.map (·.2)):∀p∈l,p.1=p.2:=by
  induction l with
  |nil=>intro p hp;cases hp
  |cons x l ih=>
    rw [List.map_cons,List.map_cons] at h
    injection h with h1 h2
    intro p hp
    rcases List.mem_cons.mp hp with rfl|hp
    · exact h1
    · exact ih h2 p hp
theorem prod5{α β γ δ ε ζ:Type}{a a':α}{b b':β}{c c':γ}{d d':δ}{e e':ε}{f f':ζ}(h:(a,b,c,d,e,f)=(a',b',c',d',e',f')):a=a'∧b=b'∧c=c'∧d=d'∧e=e'∧f=f':=by
  cases h;exact ⟨rfl,rfl,rfl,rfl,rfl,rfl⟩
theorem dH{V V':Vw}{S S':Sv}(h1:V.prog=V'.prog)(h2:V.w=V'.w)(h3:S.A₀=S'.A₀)(h4:S.R₀=S'.R₀):∀κ,endK V S κ=endK V' S' κ
  | .base=>h4
  | .own=>h4
  | .ret c k d κ=>by unfold endK;rw [dH h1 h2 h3 h4 κ,h1,h2,h3]
  | .ent κ=>dH h1 h2 h3 h4 κ
  | .gen _ _ _ _ _=>rfl
theorem Means.swap{V V':Vw}{S S':Sv}{c:Code}{κ:KK}{t:Sem Fin}{s:aa}(h1:V.prog=V'.prog)(h2:V.w=V'.w)(h3:S.A₀=S'.A₀)(h4:S.R₀=S'.R₀)(q:inSeg κ=false)(hk:bu κ)(h:Means V' S' c κ t s):Means V S c κ t s:=by
  rw [means_own q,aS hk] at h⊢
  rw [dH h1 h2 h3 h4,h1,h2,h3]
  exact h
theorem KInv.swap{S S':Sv}(h3:S.A₀=S'.A₀)(h4:S.dep=S'.dep)(h5:S.c₀=S'.c₀){c:Code}:∀{κ:KK} {dp:Nat},KInv S c κ dp→KInv S' c κ dp
  | .base,_,h=>⟨h3▸h4▸h.1,h3▸h.2⟩
  | .own,_,h=>⟨h5▸h.1,by rw [←h3,←h4,←h5];exact h.2.1,h3▸h.2.2⟩
  | .ret c k d κ,_,h=>⟨fun q=>by rw [←h3,←h4];exact h.1 q,h.2.1,KInv.swap h3 h4 h5 h.2.2⟩
  | .ent κ,_,h=>⟨h.1,h.2.1,h.2.2.1,KInv.swap h3 h4 h5 h.2.2.2⟩
  | .gen _ _ _ _ κ,_,h=>⟨h.1,h.2.1,KInv.swap h3 h4 h5 h.2.2⟩
structure GX (g g':Array GenState):Prop where
  size:g.size≤g'.size
  old:∀i,i<g.size→g'[i]? =g[i]?
  new:∀i,g.size≤i→∀x,g'[i]? =some x→x.bare=true
theorem GX.refl(g:Array GenState):GX g g:=⟨al _,fun _ _=>rfl,fun i hi x e=>by rw [Array.getElem?_eq_none hi] at e;cases e⟩
theorem GX.trans{a b c:Array GenState}(x:GX a b)(y:GX b c):GX a c:=by
  refine ⟨ad x.size y.size,fun i hi=>(y.old i (ah hi x.size)).trans (x.old i hi),fun i hi z e=> ?_⟩
  by_cases h:i<b.size
  · exact x.new i hi z ((y.old i h).symm.trans e)
  · exact y.new i (Nat.not_lt.mp h) z e
theorem fins_all:∀{G:List GE},fins G=true→∀x∈G,x= .finished
  |[],_,_,h=>by cases h
  |y::l,e,x,h=>by
    unfold fins at e
    split at e
    · rcases List.mem_cons.mp h with rfl|h
      · rfl
      · exact fins_all e x h
    · cases e
theorem GRep.gx{g₀ g:Array GenState}{G:List GE}(R:GRep g₀ G g)(f:fins G=true):GX g₀ g:=by
  refine ⟨by rw [R.size];lia,R.old,fun i hi x e=> ?_⟩
  have hl:i - g₀.size<G.length:=by
    have:=(Array.getElem?_eq_some_iff.mp e).1
    rw [R.size] at this
    lia
  obtain ⟨gs,h1,h2⟩:=R.own (i - g₀.size) (G[i - g₀.size]) (by rw [nthG,aG hl])
  rw [fins_all f _ (List.getElem_mem hl)] at h2
  have h2:gs= .finished:=h2
  rw [show g₀.size+(i - g₀.size)=i by lia,e] at h1
  rw [Option.some.inj h1,h2];rfl
theorem cUnits_le(c:Code):c.cUnits≤10:=by
  have h:=frames_le c
  unfold Code.cUnits
  split<;>lia
theorem di(A₀:ai):∀κ,(arK A₀ κ).units≤A₀.units+10 * klen κ
  | .base=>al _
  | .own=>al _
  | .ret c k d κ=>by
    have h:=di A₀ κ
    have h2:=cUnits_le c
    show (arK A₀ κ).units+c.cUnits≤A₀.units+10 * (klen κ+1)
    lia
  | .ent κ=>di A₀ κ
  | .gen _ c _ _ κ=>by
    have h:=di A₀ κ
    have h2:=cUnits_le c
    show (arK A₀ κ).units+c.cUnits≤A₀.units+10 * (klen κ+1)
    lia
noncomputable def Done(V:Vw)(S:Sv)(cf:Cf)(js:List Nat)(os:List (Option Obj))(m' i':Nat)(fl:Fl):Prop:=match fl with
  | .no=>False
  | .fin f=>∀h' g' T',Rep V S h' T' m'→GX S.g g'→gets T' js=os→S.R₀ (.ok f) ⟨h',g',S.d,V.t₀+i',S.os⟩
  | .stop c' d u=>bu cf.κ→inSeg cf.κ=false→KInv S cf.c cf.κ cf.dp→∀h' g',Rep V S h' cf.T m'→GX S.g g'→gets cf.T js=os→∀A' R',A'.handled=none→A'.depth≤S.dep+d→A'.units≤S.A₀.units+u→
      (∀r s',Means V S cf.c cf.κ (contOf cf r) s'→R' r s')→codeAny (model V.prog V.w) A' c' R' ⟨h',g',S.d,V.t₀+i',S.os⟩
  | .body c'=>∀h' g' T',Rep V S h' T' m'→GX S.g g'→gets T' js=os→h'.NoLimit→c'.quiet=true∧codeAny (model V.prog V.w) S.A₀ c' S.R₀ ⟨h',g',S.d,V.t₀+i',S.os⟩
theorem fin_of{V:Vw}{S:Sv}{cf:Cf}{f:Flow}{s:aa}(F:FlOk cf (.fin f))(z:S.R₀ (.ok f) s):Means V S cf.c cf.κ cf.t s:=by
  rw [F.2]
  rcases F.1 with hk|hk<;>rw [hk,means_own rfl]<;>exact y_pure _ _ _ _ _ _ _ _ _ z
theorem fine_fin{V:Vw}{S:Sv}{cf:Cf}{js:List Nat}{f:Flow}{side:List Prop}{os:List (Option Obj)}{m' i':Nat}
    (e:(cf.obl.map (·.1),cf.stk.map (·.1),sumUp cf js)=(cf.obl.map (·.2),cf.stk.map (·.2),(.fin f,side,os,m',i',true))) (eG:cf.G=[]) (hside:∀P∈side,P) (k:∀h',Rep V S h' cf.T m'→gets cf.T js=os→S.R₀ (.ok f) ⟨h',S.g,S.d,V.t₀+i',S.os⟩):Fine V S cf:=by
  obtain ⟨e1,e2⟩:=Prod.mk.inj e
  obtain ⟨e3,e2⟩:=Prod.mk.inj e2
  obtain ⟨r1,r2,r3,r4,r5,r6⟩:=prod5 e2
  have F:FlOk cf (.fin f):=r1▸flOf_ok cf
  subst r2 r4 r5
  refine ⟨obl_of e1,hside,obl_of e3,fun K h' g' D' Dg=> ?_⟩
  rw [eG] at Dg
  rw [Dg.nil]
  exact fin_of F (k h' D' r3)
theorem fine_of{V:Vw}{S:Sv}{cf:Cf}{js:List Nat}{fl:Fl}{side:List Prop}{os:List (Option Obj)}{m' i':Nat}(O:Ok V S)
    (e:(cf.obl.map (·.1),cf.stk.map (·.1),sumUp cf js)=(cf.obl.map (·.2),cf.stk.map (·.2),(fl,side,os,m',i',true))) (hside:∀P∈side,P) (done:Done V S cf js os m' i' fl) (hb:(∃c',fl= .body c')→S.A₀.depth+60<recursionLimit):Fine V S cf:=by
  obtain ⟨e1,e2⟩:=Prod.mk.inj e
  obtain ⟨e3,e2⟩:=Prod.mk.inj e2
  obtain ⟨r1,r2,r3,r4,r5,r6⟩:=prod5 e2
  have F:FlOk cf fl:=r1▸flOf_ok cf
  subst r2 r3 r4 r5
  refine ⟨obl_of e1,hside,obl_of e3,fun K h' g' D' Dg=> ?_⟩
  have Dg:=Dg.gx r6
  cases fl with
  |no=>exact done.elim
  |fin f=>
    exact fin_of F (done h' g' _ D' Dg rfl)
  |stop c' d u=>
    obtain ⟨hk,hseg,rfl,rfl,g,l,ht⟩:=F
    rw [ht]
    have P:=KInv.push (c':=c') (k:=contOf cf) K hk
    refine Means.call (dp:=cf.dp) hseg hk (done hk hseg K h' g' D' Dg rfl _ _ P.handled (P.1 hseg) (di S.A₀ (.ret cf.c (contOf cf) cf.dp cf.κ)) fun r s' z=> ?_)
    rw [means_own hseg,aS hk] at z
    exact z
  |body c'=>
    obtain ⟨hk,ht,hd⟩:=F
    obtain ⟨q1,q2⟩:=done h' g' _ D' Dg rfl (D'.noLimit O)
    rw [ht,hk,means_own (show inSeg (.ent .base)=false from rfl)]
    refine y_pure _ _ _ _ _ _ _ _ _ ?_
    show wpOwn _ _ _ (cy (.again c')) _ _ _
    exact wpOwn_bind (m := (enterFrame : Sem Unit)) (f := fun _ => (.pure (.again c') : Sem Fin)) (wpOwn_of_wpAny (wpAny_enterFrame (s := ⟨h', g', S.d, _, S.os⟩) (D'.noLimit O)
      (aH (Nat.add_le_add_left (ad (cW cf.c) (ad (ab _ _) hd)) _) (hb ⟨_,rfl⟩)) (y_pure _ _ _ _ _ _ _ _ _ (y_again _ _ _ _ _ _ q1 q2))))
theorem b5{V:Vw}{S:Sv}{n:Nat}{c:Code}{κ:KK}{dp:Nat}{t:Sem Fin}{T:SL}{m i hs:Nat}{js:List Nat}{fl:Fl}{side:List Prop}{os:List (Option Obj)}{m' i':Nat}(O:Ok V S)
    (e:((run V n c κ dp t T m i [] hs [] [] []).obl.map (·.1),(run V n c κ dp t T m i [] hs [] [] []).stk.map (·.1),sumUp (run V n c κ dp t T m i [] hs [] [] []) js)=((run V n c κ dp t T m i [] hs [] [] []).obl.map (·.2),(run V n c κ dp t T m i [] hs [] [] []).stk.map (·.2),(fl,side,os,m',i',true)))
    (hside:∀P∈side,P)
    (done:Done V S (run V n c κ dp t T m i [] hs [] [] []) js os m' i' fl)
    (hb:(∃c',fl= .body c')→S.A₀.depth+60<recursionLimit):Good V S c κ dp t T m i []:=
  (run_good O n c κ dp t T m i [] hs [] [] [] (fine_of O e hside done hb)).2.2.2
noncomputable def ct(V:Vw)(f:Addr)(args:Args):Sem Fin:=match fnOf? V.kt f with
  |some fd=>ci f fd args
  |none=> .unsupported ""
theorem fk{V:Vw}{S:Sv}{f:Addr}{args:Args}{T:SL}{fd:FuncData}(O:Ok V S)(hh:S.A₀.handled=none)(hd:S.A₀.depth≤S.dep)(D:Rep V S S.h₀ T V.n0)(e:fnOf? V.kt f=some fd)
    (G:Good V S (.call (.ref f) args) (.ent .base) 0 (ct V f args) T V.n0 0 []):
    codeAny (model V.prog V.w) S.A₀ (.call (.ref f) args) S.R₀ ⟨S.h₀,S.g,S.d,V.t₀,S.os⟩:=by
  refine codeAny_fn (κ:= .base) (t:=V.t₀) O rfl D e ?_
  unfold ct at G
  rw [e] at G
  exact G ⟨(fun _ x=>by cases x),(fun x=>by cases x),rfl,hd,hh⟩ _ _ D (GRep.start _)
theorem Good.elim{V:Vw}{S:Sv}{c:Code}{κ:KK}{dp:Nat}{t:Sem Fin}{T:SL}{m:Nat}{s:aa}(K:KInv S c κ dp)(G:Good V S c κ dp t T m 0 [])(D:Rep V S s.heap T m)(e:s=⟨s.heap,S.g,S.d,V.t₀,S.os⟩):Means V S c κ t s:=by
  rw [e]
  exact G K _ _ D (GRep.start _)
noncomputable def embV(t:Sem Value):Sem Fin:=t.bind fun v=> .pure (.done (.ret v))
noncomputable def fj(t:Sem Flow):Sem Fin:=t.bind fun f=> .pure (.done f)
noncomputable def embU(t:Sem Unit):Sem Fin:=t.bind fun _=> .pure (.done .next)
noncomputable def RV(Q:Value→aa→Prop)(E:Value→aa→Prop):Result→aa→Prop:=fun r s=>match r with
  | .ok (.ret v)=>Q v s
  | .ok _=>False
  | .error e=>E e s
noncomputable def RF(Q:Flow→aa→Prop)(E:Value→aa→Prop):Result→aa→Prop:=fun r s=>match r with
  | .ok f=>Q f s
  | .error e=>E e s
noncomputable def OwnOk(A:ai)(A₀:ai)(c:Code):Prop:=A₀.handled=A.handled∧A₀.depth+c.weight≤A.depth∧A₀.units≤A.units
theorem any_wrap{α:Type}{w:ag}{A:ai}{t:Sem α}{emb:α→Fin}{Q:α→aa→Prop}{E:Value→aa→Prop}{R:Result→aa→Prop}{s:aa}
    (hQ:∀a A s,postC pw w A R (emb a) s→Q a s) (hE:∀e s,R (.error e) s→E e s)
    (h:∀A₀ c,OwnOk A A₀ c→wpOwn (model pw w) A₀ c (t.bind fun a=> .pure (emb a)) (postC pw w A₀ R) (postE R) s):wpAny (model pw w) A t Q E s:=by
  intro Γ p hΓ
  have hb:Γ.Below ⟨A.handled,frameCount Γ.below,none,none,unitsOf Γ.below⟩:=⟨hΓ.1,al _,fun l hl=>(by cases hl),fun g hg=>(by cases hg),al _⟩
  have z:=h ⟨A.handled,frameCount Γ.below,none,none,unitsOf Γ.below⟩ Γ.code ⟨rfl,hΓ.2.1,ad (ab _ _) hΓ.2.2.2.2⟩ Γ p rfl hb
  have e:t.bind (fun a=>Sem.pure (emb a))=t>>=fun a=>Sem.pure (emb a):=rfl
  rw [e,Sem.wp_bind'] at z
  exact Sem.wp_mono _ Γ t (fun a p' s' q=>hQ a _ s' q) (fun x p' s' q=>hE x s' q) p s z
theorem any_good{w:ag}{A:ai}{t:Sem Value}{Q:Value→aa→Prop}{E:Value→aa→Prop}{s:aa}{ro:List (Addr×Obj)}{as mods:List Nat}{lim:Nat}{T:SL}(hh:A.handled=none)
    (D:∀A₀ c,Rep (vw w s ro as lim) (svOf s mods A₀ (RV Q E) A.depth c) s.heap T as.length)
    (G:∀A₀ c,OwnOk A A₀ c→Good (vw w s ro as lim) (svOf s mods A₀ (RV Q E) A.depth c) c .own 0 (embV t) T as.length 0 []):wpAny (model pw w) A t Q E s:=
  any_wrap (emb:=fun v=> .done (.ret v)) (R:=RV Q E) (fun _ _ _ h=>h) (fun _ _ h=>h) fun A₀ c o=>by
    have z:=G A₀ c o ⟨rfl,o.2.1,o.1.trans hh⟩ s.heap s.gens (D A₀ c) (GRep.start _)
    rw [means_own (show inSeg .own=false from rfl)] at z
    exact z
theorem rep_list{w:ag}{s:aa}{ro:List (Addr×Obj)}{mods:List Nat}{A:ai}{R:Result→aa→Prop}{dep lim:Nat}{c₀:Code}(L:List (Addr×Obj))(hl:L.length<1099511627776)(hm:∀p∈L,p.1∈mods)(h:∀p∈L,s.heap.get? p.1=some p.2)(vals:List Value:=[]):
    Rep (vw w s ro (L.map (·.1)) lim vals) (svOf s mods A R dep c₀) s.heap (slots (L.map (·.2)) 0 .nil) (L.map (·.1)).length:=by
  refine ⟨rfl,al _,fun j o e=> ?_,fun _ _ e _=>e⟩
  rw [slots_get _ _ _ _ (by rw [ak];lia)] at e
  simp only [Nat.not_lt_zero,if_false,Nat.sub_zero] at e
  rw [aI] at e
  cases q:L[j]? with
  |none=>rw [q] at e;simp [SL.get] at e
  |some p=>
    rw [q] at e
    have e:o=p.2:=by simpa using e.symm
    have hj:j<L.length:=(List.getElem?_eq_some_iff.mp q).1
    have mem:p∈L:=aM q
    have ea:adr (vw w s ro (L.map (·.1)) lim vals) j=p.1:=by
      unfold adr vw
      dsimp only
      have hb:Nat.blt j (L.map (·.1)).length=true:=Nat.ble_eq_true_of_le (by rw [ak];exact hj)
      rw [hb]
      dsimp only
      rw [nth_get,aI,q]
      rfl
    rw [ea,e]
    exact ⟨by rw [ak];exact hj,h p mem,.inl (hm p mem)⟩
noncomputable def aX(l:List Value):Obj:=⟨.type "tuple",none,.seq l.toArray 0,#[]⟩
noncomputable def vfO(dx:Nat):Obj:=⟨.ref 94,some dx,.plain,#[]⟩
noncomputable def tk(l:List Nat):Nat→Nat:=fun i=>match l[i]? with|some x=>x|none=>0
noncomputable def vfD(P:ae)(t:Nat→Nat)(W:Int)(mk:Str)(L acc:Nat)(n:Nat):Obj:=⟨.type "dict",none,.dict #[en P (S "_maxlen") (t 0) (.int W (t 6)),en P (S "_continuation_ws") (t 1) (.str (S "\t") (t 7)),en P (S "_continuation_ws_len") (t 2) (.int 1 (t 8)),en P (S "_splitchars") (t 3) (.str mk (t 9)),en P (S "_lines") (t 4) (.ref L),en P (S "_current_line") (t 5) (.ref acc)] n,#[]⟩
noncomputable def lstO(l:List Value)(n:Nat):Obj:=⟨.type "list",none,.seq l.toArray n,#[]⟩
noncomputable def accO(da:Nat)(l:List Value)(n:Nat):Obj:=⟨.ref 178,some da,.seq l.toArray n,#[]⟩
noncomputable def aZ(P:ae)(t0 t1:Nat)(H:Int)(n:Nat):Obj:=⟨.type "dict",none,.dict #[en P (S "_initial_size") t0 (.int H t1)] n,#[]⟩
theorem rep_nil{w:ag}{s:aa}{ro:List (Addr×Obj)}{mods:List Nat}{A:ai}{R:Result→aa→Prop}{dep lim:Nat}{c₀:Code}:Rep (vw w s ro [] lim) (svOf s mods A R dep c₀) s.heap .nil 0:=
  ⟨rfl,al _,(fun _ _ e=>nomatch e),fun _ _ e _=>e⟩
theorem Rep.get{V:Vw}{S:Sv}{h:Heap}{T:SL}{m j:Nat}{o:Obj}(D:Rep V S h T m)(e:T.get j=some o):h.get? (adr V j)=some o:=(D.own _ _ e).2.1
theorem Rep.ext{w:ag}{s:aa}{ro:List (Addr×Obj)}{as mods:List Nat}{A:ai}{R:Result→aa→Prop}{h':Heap}{T:SL}{m dep lim:Nat}{c₀:Code}(D:Rep (vw w s ro as lim) (svOf s mods A R dep c₀) h' T m):Ext mods s.heap h':=
  ⟨D.keep,by have:=D.size;have:=D.le;show s.heap.objs.size≤h'.objs.size;have e:(vw w s ro as lim).base=s.heap.objs.size:=rfl;lia⟩
noncomputable def aR(o:Obj):FuncData:=match o.data with
  | .func fd=>fd
  |_=>⟨"", "",⟨[],[],none,[],[],none,[]⟩,.stmts [],⟨.function,[],false,false,[]⟩,0,[],.none,.none,.none,.none,none,.none,.none,0⟩
noncomputable def bw(fd:FuncData):List Stmt:=match fd.body with
  | .stmts b=>b
  | .expr _=>[]
noncomputable def ck(fd:FuncData)(loc self:Addr)(qual:Str):Env:={scope:=fd.scope,locals:=loc,globals:=fd.globals,cells:=fd.closure,qual,func:=some self,code:=fd.code,frame:=some loc,builtins:=fd.builtins}
noncomputable def arg0(fd:FuncData):Arg:=match (fd.params.posonlyargs++fd.params.args).head? with
  |some a=>a
  |none=>⟨"self",none,⟨0,0,0,0⟩⟩
noncomputable def flds(o:Obj):Array Value:=match o.data with
  | .fields vs=>vs
  |_=> #[]
noncomputable def sAt(vs:Array Value)(i:Nat):Str:=match vs[i]? with
  |some (.str x _)=>x
  |_=> ""
noncomputable def tAt(vs:Array Value)(i:Nat):Tok:=match vs[i]? with
  |some (.str _ t)=>t
  |_=>0
noncomputable def frO(l:List DictEntry):Obj:=⟨.type "frame",none,.dict l.toArray l.length,#[]⟩
theorem no_side:∀P∈([]:List Prop),P:=fun _ h=>by cases h
theorem ro1{h:Heap}{a:Addr}{o:Obj}(e:h.get? a=some o):∀p∈[(a,o)],h.get? p.1=some p.2∧p.1∉([]:List Nat):=fun p hp=>by
  rcases List.mem_cons.mp hp with rfl|hp
  · exact ⟨e,fun h=>by cases h⟩
  · cases hp
theorem ac:High []:=fun _ h=>by cases h
theorem ro2{h:Heap}{a b:Addr}{o p:Obj}(e:h.get? a=some o)(f:h.get? b=some p):∀q∈[(a,o),(b,p)],h.get? q.1=some q.2∧q.1∉([]:List Nat):=fun q hq=>by
  rcases List.mem_cons.mp hq with rfl|hq
  · exact ⟨e,fun h=>by cases h⟩
  · exact ro1 f q hq
noncomputable abbrev wb(w:ag)(b:Bool):ag:=World.withFollow w "special-get-raises" b
theorem bM(w:ag):∃w' b,w=wb w' b:=⟨w,w.params.followText "special-get-raises",(World.withFollow_self w _).symm⟩
theorem bCase{p:Bool→Prop}(h:p false)(k:p true)(b:Bool):p b:=by cases b<;>assumption
theorem rm{a a' N M k L:Nat}(h:a+N<L)(d:a'≤a+k)(e:Nat.ble (k+M) N=true):a'+M<L:=by
  have:=Nat.le_of_ble_eq_true e
  lia
theorem um{a a₀ a' N M k l L:Nat}(h:a+N<L)(d:a₀≤a+k)(f:a'≤a₀+l)(e:Nat.ble (k+l+M) N=true):a'+M<L:=by
  have:=Nat.le_of_ble_eq_true e
  lia
theorem rmz{a N M L:Nat}(h:a+N<L)(e:Nat.ble M N=true):a+M<L:=aH (Nat.add_le_add_left (Nat.le_of_ble_eq_true e) a) h
theorem rmo{a N M L:Nat}(h:a+N<L)(e:Nat.ble (1+M) N=true):a+1+M<L:=rm h (al (a+1)) e
theorem nn0:([]:List Addr).Nodup:=aD
theorem dn0{L:List (Addr×Obj)}:∀p∈L,p.1∉([]:List Addr):=fun _ _ h=>by cases h
noncomputable abbrev ew(w:ag)(x:String):=en w.params (S x)
theorem aW{n:Nat}(h:322≤n):∃c,n=c+322:=⟨n - 322,(Nat.sub_add_cancel h).symm⟩
noncomputable def Led(h:Heap)(L:List (Addr×Obj)):Prop:=∀p∈L,h.get? p.1=some p.2
theorem Led.nil{h:Heap}:Led h []:=fun _ x=>by cases x
theorem Led.cons{h:Heap}{a:Addr}{o:Obj}{L:List (Addr×Obj)}(x:h.get? a=some o)(l:Led h L):Led h ((a,o)::L):=fun p hp=>by
  rcases List.mem_cons.mp hp with rfl|hp
  · exact x
  · exact l p hp
structure Nxt (mods:List Addr) (s s':aa):Prop where
  heap:Ext mods s.heap s'.heap
  gens:GX s.gens s'.gens
  drawn:s'.drawn=s.drawn
  os:s'.os=s.os
theorem Nxt.refl(mods:List Addr)(s:aa):Nxt mods s s:=⟨Ext.refl _ _,GX.refl _,rfl,rfl⟩
theorem Nxt.trans{mods:List Addr}{s s' s'':aa}(a:Nxt mods s s')(b:Nxt mods s' s''):Nxt mods s s'':=⟨a.heap.trans b.heap,a.gens.trans b.gens,b.drawn.trans a.drawn,b.os.trans a.os⟩
theorem Nxt.weak{mods mods':List Addr}{s s':aa}(a:Nxt mods s s')(l:∀x∈mods,x∈mods'):Nxt mods' s s':=⟨a.heap.weak l,a.gens,a.drawn,a.os⟩
theorem Nxt.nil{mods:List Addr}{s s':aa}(a:Nxt [] s s'):Nxt mods s s':=a.weak fun _ h=>by cases h
theorem Nxt.keep{mods:List Addr}{s s':aa}(x:Nxt mods s s'){a:Addr}{o:Obj}(e:s.heap.get? a=some o)(h:a∉mods):s'.heap.get? a=some o:=x.heap.keep _ _ e h
theorem Nxt.keep0{s s':aa}(x:Nxt [] s s'){a:Addr}{o:Obj}(e:s.heap.get? a=some o):s'.heap.get? a=some o:=x.heap.keep _ _ e (fun h=>by cases h)
theorem Nxt.less{mods mods':List Addr}{s s':aa}(a:Nxt mods s s')(l:∀x∈mods,x∈mods'∨s.heap.get? x=none):Nxt mods' s s':=
  ⟨⟨fun b o e q=>a.heap.keep b o e fun hb=>(l b hb).elim q fun h=>(by rw [h] at e;cases e),a.heap.size⟩,a.gens,a.drawn,a.os⟩
theorem KTH.nxt{w:ag}{mods:List Addr}{s s':aa}(H:KTH w s.heap)(x:Nxt mods s s')(hm:High mods):KTH w s'.heap:=H.ext x.heap hm
theorem High.cons{a:Addr}{l:List Addr}(h:322≤a∨a=140∨a=147)(hl:High l):High (a::l):=fun x hx=>by
  rcases List.mem_cons.mp hx with rfl|hx
  · exact h
  · exact hl x hx
noncomputable def Got(V:Vw)(h:Heap):List Nat→List (Option Obj)→Prop
  |j::js,o::os=>(match o with|some o=>h.get? (adr V j)=some o|none=>True)∧Got V h js os
  |_,_=>True
theorem Rep.got{V:Vw}{S:Sv}{h:Heap}{T:SL}{m:Nat}(D:Rep V S h T m):∀{js:List Nat} {os:List (Option Obj)},gets T js=os→Got V h js os
  |[],_,_=>by unfold Got;trivial
  |j::js,[],_=>by unfold Got;trivial
  |j::js,o::os,e=>by
    injection e with e1 e2
    refine ⟨?_,D.got e2⟩
    cases o with
    |none=>trivial
    |some o=>exact D.get e1
theorem led_ro{h:Heap}{L:List (Addr×Obj)}{mods:List Addr}(l:Led h L)(dj:∀p∈L,p.1∉mods):∀p∈L,h.get? p.1=some p.2∧p.1∉mods:=fun p hp=>⟨l p hp,dj p hp⟩
theorem led_lt{h:Heap}{M:List (Addr×Obj)}(l:Led h M):∀a∈M.map (·.1),a<h.objs.size:=fun a ha=>by
  obtain ⟨p,hp,rfl⟩:=List.mem_map.mp ha
  exact an (l p hp)
noncomputable abbrev mv(w:ag)(s:aa)(M L:List (Addr×Obj))(lim:Nat)(vals:List Value:=[]):Vw:=vw w s L (M.map (·.1)) lim vals
noncomputable abbrev sv(s:aa)(M:List (Addr×Obj))(A:ai)(R:Result→aa→Prop)(dep:Nat)(c₀:Code):Sv:=svOf s (M.map (·.1)) A R dep c₀
noncomputable abbrev st(M:List (Addr×Obj)):SL:=slots (M.map (·.2)) 0 .nil
theorem eY{w:ag}{s:aa}{M L:List (Addr×Obj)}{A:ai}{R:Result→aa→Prop}{dep lim:Nat}{c₀:Code}(H:KTH w s.heap)(hM:Led s.heap M)(hL:Led s.heap L)(hm:High (M.map (·.1)))(nd:(M.map (·.1)).Nodup)(dj:∀p∈L,p.1∉M.map (·.1))(room:dep+lim<recursionLimit)(vals:List Value:=[]):
    Ok (mv w s M L lim vals) (sv s M A R dep c₀):=ok_of H hm (led_ro hL dj) nd (led_lt hM) room vals
theorem rep_seg{w:ag}{s:aa}{M L:List (Addr×Obj)}{A:ai}{R:Result→aa→Prop}{dep lim:Nat}{c₀:Code}(hM:Led s.heap M)(hl:M.length<1099511627776)(vals:List Value:=[]):
    Rep (mv w s M L lim vals) (sv s M A R dep c₀) s.heap (st M) M.length:=by
  have z:=rep_list (w:=w) (s:=s) (ro:=L) (mods:=M.map (·.1)) (A:=A) (R:=R) (dep:=dep) (lim:=lim) (c₀:=c₀) M hl (fun p hp=>List.mem_map.mpr ⟨p,hp,rfl⟩) hM vals
  rwa [ak] at z
theorem c5{V:Vw}{S:Sv}{s:aa}{h':Heap}{g':Array GenState}{tk:Nat}{T:SL}{m:Nat}{mods:List Addr}(D:Rep V S h' T m)(G:GX S.g g')(e1:S.h₀=s.heap)(e2:S.mods=mods)(e3:S.g=s.gens)(e4:S.d=s.drawn)(e5:S.os=s.os)(e6:V.base=s.heap.objs.size):
    Nxt mods s ⟨h',g',S.d,tk,S.os⟩:=by
  subst e2
  refine ⟨⟨fun b o e q=>D.keep b o (e1▸e) q,?_⟩,e3▸G,e4,e5⟩
  have h1:=D.size;have h2:=D.le
  show s.heap.objs.size≤h'.objs.size
  lia
noncomputable def adrM(ms:List Addr)(b j:Nat):Addr:=match Nat.blt j ms.length with
  |true=>match nth ms j with
    |some a=>a
    |none=>0
  |false=>Nat.add b (Nat.sub j ms.length)
noncomputable def GotAt(ms:List Addr)(b:Nat)(h:Heap):List Nat→List (Option Obj)→Nat→Prop
  |j::_,some o::_,0=>h.get? (adrM ms b j)=some o
  |_::js,_::os,k+1=>GotAt ms b h js os k
  |_,_,_=>True
noncomputable def GotM(ms:List Addr)(b:Nat)(h:Heap)(js:List Nat)(os:List (Option Obj)):Prop:=∀k,GotAt ms b h js os k
theorem gotM_of{w:ag}{s:aa}{ms:List Addr}{L:List (Addr×Obj)}{lim:Nat}{vals:List Value}{h:Heap}:∀{js:List Nat} {os:List (Option Obj)},Got (vw w s L ms lim vals) h js os→GotM ms s.heap.objs.size h js os
  |[],os,_,k=>by unfold GotAt;trivial
  |j::js,[],_,k=>by unfold GotAt;trivial
  |j::js,o::os,g,k=>by
    cases k with
    |zero=>
      cases o with
      |none=>exact trivial
      |some o=>exact g.1
    |succ k=>cases o<;>exact gotM_of g.2 k
inductive LedM (h:Heap):List Addr→List Obj→Prop
  |nil:LedM h [] []
  |cons {a:Addr} {o:Obj} {l:List Addr} {k:List Obj}:h.get? a=some o→LedM h l k→LedM h (a::l) (o::k)
theorem LedM.zip{h:Heap}{l:List Addr}{k:List Obj}(x:LedM h l k):∃M:List (Addr×Obj),M.map (·.1)=l∧M.map (·.2)=k∧Led h M:=by
  induction x with
  |nil=>exact ⟨[],rfl,rfl,Led.nil⟩
  |cons e _ ih=>
    obtain ⟨M,rfl,rfl,l⟩:=ih
    exact ⟨(_,_)::M,rfl,rfl,.cons e l⟩
structure Qd where
  V:Vw
  c:Code
  κ:KK
  dp:Nat
  t:Sem Fin
  T:SL
  m:Nat
noncomputable def Qd.run(q:Qd)(n hs:Nat):Cf:=Mine.run q.V n q.c q.κ q.dp q.t q.T q.m 0 [] hs [] [] []
noncomputable def qd(w:ag)(s:aa)(ms:List Addr)(os:List Obj)(L:List (Addr×Obj))(lim:Nat)(vals:List Value)(c:Code)(κ:KK)(dp:Nat)(t:Sem Fin):Qd:=⟨vw w s L ms lim vals,c,κ,dp,t,slots os 0 .nil,os.length⟩
noncomputable def qs(w:ag)(s:aa)(ms:List Addr)(os:List Obj)(L:List (Addr×Obj))(lim:Nat)(vals:List Value)(cf:Cf)(r:Result):Qd:=qd w s ms os L lim vals cf.c cf.κ cf.dp (contOf cf r)
noncomputable def GdQ(w:ag)(s:aa)(ms:List Addr)(A:ai)(R:Result→aa→Prop)(dep:Nat)(c₀:Code)(q:Qd):Prop:=∀L lim vals,q.V=vw w s L ms lim vals→Ok q.V (svOf s ms A R dep c₀)→Good q.V (svOf s ms A R dep c₀) q.c q.κ q.dp q.t q.T q.m 0 []
noncomputable abbrev RnQ(q:Qd)(n hs:Nat)(js:List Nat)(fl:Fl)(side:List Prop)(os:List (Option Obj))(m' i':Nat):Prop:=
  ((q.run n hs).obl.map (·.1),(q.run n hs).stk.map (·.1),sumUp (q.run n hs) js)=((q.run n hs).obl.map (·.2),(q.run n hs).stk.map (·.2),(fl,side,os,m',i',true))
section
variable {w:ag} {s:aa} {ms:List Addr} {A:ai} {R:Result→aa→Prop} {dep:Nat} {c₀:Code} {q:Qd}
theorem am{f:Flow}(n hs:Nat)(js:List Nat)(side:List Prop)(os:List (Option Obj))(m' i':Nat)(e:RnQ q n hs js (.fin f) side os m' i')(hside:∀P∈side,P)
    (k:∀s',Nxt ms s s'→GotM ms s.heap.objs.size s'.heap js os→R (.ok f) s'):GdQ w s ms A R dep c₀ q:=by
  obtain ⟨V,c,κ,dp,t,T,m⟩:=q
  intro L lim vals hV O
  obtain rfl:V=vw w s L ms lim vals:=hV
  refine b5 O e hside ?_ (fun ⟨_,h⟩=>by cases h)
  intro h' g' T' D G e'
  exact k ⟨h',g',s.drawn,_,s.os⟩ (c5 D G rfl rfl rfl rfl rfl rfl) (gotM_of (D.got e'))
noncomputable def Rsm(w:ag)(A:ai)(R:Result→aa→Prop)(dep:Nat)(c₀:Code)(cf:Cf)(R':Result→aa→Prop):Prop:=
  ∀(r:Result) (s:aa) (ms:List Addr) (os:List Obj) (L:List (Addr×Obj)) (lim:Nat) (vals:List Value),KTH w s.heap→LedM s.heap ms os→Led s.heap L→High ms→ms.Nodup→(∀p∈L,p.1∉ms)→dep+lim<recursionLimit→Nat.blt ms.length 1099511627776=true→
    (∀q,q=qs w s ms os L lim vals cf r→GdQ w s ms A R dep c₀ q)→R' r s
theorem Rsm.go{cf:Cf}{R':Result→aa→Prop}{r:Result}(h:Rsm w A R dep c₀ cf R'){os:List Obj}{lim:Nat}(ms:List Addr)(L:List (Addr×Obj))(H:KTH w s.heap)(hM:LedM s.heap ms os)(hL:Led s.heap L)(hm:High ms)(nd:ms.Nodup)(dj:∀p∈L,p.1∉ms)(room:dep+lim<recursionLimit)(hl:Nat.blt ms.length 1099511627776=true)(vals:List Value)
    (G:∀q,q=qs w s ms os L lim vals cf r→GdQ w s ms A R dep c₀ q):R' r s:=h r s ms os L lim vals H hM hL hm nd dj room hl G
theorem dP{M L:List (Addr×Obj)}{lim:Nat}{vals:List Value}(hM:Led s.heap M)(hl:Nat.blt (M.map (·.1)).length 1099511627776=true):Rep (mv w s M L lim vals) (sv s M A R dep c₀) s.heap (st M) (M.map (·.2)).length:=by
  have e:(M.map (·.2)).length=M.length:=ak ..
  rw [ak] at hl
  rw [e]
  exact rep_seg hM (blt_true hl) vals
theorem rsm_of{cf:Cf}{s₀:aa}{ms₀:List Addr}{L₀:List (Addr×Obj)}{lim₀:Nat}{vals₀:List Value}{R':Result→aa→Prop}(h1:bu cf.κ)(h2:inSeg cf.κ=false)(h3:KInv (svOf s₀ ms₀ A R dep c₀) cf.c cf.κ cf.dp)(a4:∀r s',Means (vw w s₀ L₀ ms₀ lim₀ vals₀) (svOf s₀ ms₀ A R dep c₀) cf.c cf.κ (contOf cf r) s'→R' r s'):Rsm w A R dep c₀ cf R':=fun r s' ms' os' L' lim' vals' H hM hL hm nd dj room hl G'=>a4 r s' (by
  obtain ⟨M,rfl,rfl,l⟩:=hM.zip
  refine Means.swap (V':=mv w s' M L' lim' vals') (S':=sv s' M A R dep c₀) rfl rfl rfl rfl h2 h1 ?_
  exact Good.elim (KInv.swap (S:=svOf s₀ ms₀ A R dep c₀) (S':=sv s' M A R dep c₀) rfl rfl rfl h3) (G' _ rfl L' lim' vals' rfl (eY H l hL hm nd dj room vals')) (dP l hl) rfl)
theorem av{c':Code}{d u:Nat}(n hs:Nat)(js:List Nat)(side:List Prop)(os:List (Option Obj))(m' i':Nat)(e:RnQ q n hs js (.stop c' d u) side os m' i')(hside:∀P∈side,P)
    (k:∀s',Nxt ms s s'→GotM ms s.heap.objs.size s'.heap js os→∀A' R',A'.handled=none→A'.depth≤dep+d→A'.units≤A.units+u→Rsm w A R dep c₀ (q.run n hs) R'→codeAny (model pw w) A' c' R' s'):GdQ w s ms A R dep c₀ q:=by
  obtain ⟨V,c,κ,dp,t,T,m⟩:=q
  intro L lim vals hV O
  obtain rfl:V=vw w s L ms lim vals:=hV
  refine b5 O e hside ?_ (fun ⟨_,h⟩=>by cases h)
  intro h1 h2 h3 h' g' D G e' A' R' a1 a2 a3 a4
  exact k ⟨h',g',s.drawn,_,s.os⟩ (c5 D G rfl rfl rfl rfl rfl rfl) (gotM_of (D.got e')) A' R' a1 a2 a3 (rsm_of h1 h2 h3 a4)
variable {E:Value→aa→Prop} {os:List Obj}
theorem seg0{α:Type}{t:Sem α}{emb:α→Fin}{Q:α→aa→Prop}(h1:∀a A s,postC pw w A R (emb a) s→Q a s)(h2:∀e s,R (.error e) s→E e s)(ms:List Addr)(L:List (Addr×Obj))(lim:Nat)(H:KTH w s.heap)(hh:A.handled=none)(hM:LedM s.heap ms os)(hL:Led s.heap L)(hm:High ms)(nd:ms.Nodup)(dj:∀p∈L,p.1∉ms)(room:A.depth+lim<recursionLimit)(hl:Nat.blt ms.length 1099511627776=true)(vals:List Value)
    (G:∀A₀ c q,q=qd w s ms os L lim vals c .own 0 (t.bind fun a=> .pure (emb a))→A₀.units≤A.units→GdQ w s ms A₀ R A.depth c q):wpAny (model pw w) A t Q E s:=by
  obtain ⟨M,rfl,rfl,l⟩:=hM.zip
  refine any_wrap (emb:=emb) (R:=R) h1 h2 fun A₀ c o=> ?_
  have z:=G A₀ c _ rfl o.2.2 L lim vals rfl (eY H l hL hm nd dj room vals) ⟨rfl,o.2.1,o.1.trans hh⟩ s.heap s.gens (dP l hl) (GRep.start _)
  change Means (mv w s M L lim vals) (sv s M A₀ R A.depth c) c .own (t.bind fun a=> .pure (emb a)) s at z
  rw [means_own (show inSeg .own=false from rfl)] at z
  exact z
theorem segF{t:Sem Flow}{Q:Flow→aa→Prop}(ms:List Addr)(L:List (Addr×Obj))(lim:Nat)(H:KTH w s.heap)(hh:A.handled=none)(hM:LedM s.heap ms os)(hL:Led s.heap L)(hm:High ms)(nd:ms.Nodup)(dj:∀p∈L,p.1∉ms)(room:A.depth+lim<recursionLimit)(hl:Nat.blt ms.length 1099511627776=true)(vals:List Value)
    (G:∀A₀ c q,q=qd w s ms os L lim vals c .own 0 (fj t)→A₀.units≤A.units→GdQ w s ms A₀ (RF Q E) A.depth c q):wpAny (model pw w) A t Q E s:=seg0 (emb:=fun f=> .done f) (R:=RF Q E) (fun _ _ _ h=>h) (fun _ _ h=>h) ms L lim H hh hM hL hm nd dj room hl vals G
theorem segV{t:Sem Value}{Q:Value→aa→Prop}(ms:List Addr)(L:List (Addr×Obj))(lim:Nat)(H:KTH w s.heap)(hh:A.handled=none)(hM:LedM s.heap ms os)(hL:Led s.heap L)(hm:High ms)(nd:ms.Nodup)(dj:∀p∈L,p.1∉ms)(room:A.depth+lim<recursionLimit)(hl:Nat.blt ms.length 1099511627776=true)(vals:List Value)
    (G:∀A₀ c q,q=qd w s ms os L lim vals c .own 0 (embV t)→A₀.units≤A.units→GdQ w s ms A₀ (RV Q E) A.depth c q):wpAny (model pw w) A t Q E s:=seg0 (emb:=fun v=> .done (.ret v)) (R:=RV Q E) (fun _ _ _ h=>h) (fun _ _ h=>h) ms L lim H hh hM hL hm nd dj room hl vals G
noncomputable def RU(Q:Unit→aa→Prop)(E:Value→aa→Prop):Result→aa→Prop:=fun r s=>match r with
  | .ok .next=>Q () s
  | .ok _=>False
  | .error e=>E e s
theorem segU{t:Sem Unit}{Q:Unit→aa→Prop}(ms:List Addr)(L:List (Addr×Obj))(lim:Nat)(H:KTH w s.heap)(hh:A.handled=none)(hM:LedM s.heap ms os)(hL:Led s.heap L)(hm:High ms)(nd:ms.Nodup)(dj:∀p∈L,p.1∉ms)(room:A.depth+lim<recursionLimit)(hl:Nat.blt ms.length 1099511627776=true)(vals:List Value)
    (G:∀A₀ c q,q=qd w s ms os L lim vals c .own 0 (embU t)→A₀.units≤A.units→GdQ w s ms A₀ (RU Q E) A.depth c q):wpAny (model pw w) A t Q E s:=seg0 (emb:=fun _=> .done .next) (R:=RU Q E) (fun _ _ _ h=>h) (fun _ _ h=>h) ms L lim H hh hM hL hm nd dj room hl vals G
noncomputable def exF:List Stmt→Env→Sem Flow:=PySem.W.Fast.tw12563942051412417395
theorem exF_eq:execs=exF:=PySem.W.Fast.te12563942051412417395
noncomputable def evF:Expr→Env→Sem Value:=PySem.W.Fast.tw14044960220447912780
theorem evF_eq:eval=evF:=PySem.W.Fast.te14044960220447912780
theorem aT{b:List Stmt}{env:Env}{Q:Flow→aa→Prop}(ms:List Addr)(L:List (Addr×Obj))(lim:Nat)(H:KTH w s.heap)(hh:A.handled=none)(hM:LedM s.heap ms os)(hL:Led s.heap L)(hm:High ms)(nd:ms.Nodup)(dj:∀p∈L,p.1∉ms)(room:A.depth+lim<recursionLimit)(hl:Nat.blt ms.length 1099511627776=true)(vals:List Value)
    (G:∀A₀ c q,q=qd w s ms os L lim vals c .own 0 (fj (exF b env))→A₀.units≤A.units→GdQ w s ms A₀ (RF Q E) A.depth c q):wpAny (model pw w) A (execs b env) Q E s:=by
  rw [exF_eq]
  exact segF ms L lim H hh hM hL hm nd dj room hl vals G
theorem dO{x:Expr}{env:Env}{Q:Value→aa→Prop}(ms:List Addr)(L:List (Addr×Obj))(lim:Nat)(H:KTH w s.heap)(hh:A.handled=none)(hM:LedM s.heap ms os)(hL:Led s.heap L)(hm:High ms)(nd:ms.Nodup)(dj:∀p∈L,p.1∉ms)(room:A.depth+lim<recursionLimit)(hl:Nat.blt ms.length 1099511627776=true)(vals:List Value)
    (G:∀A₀ c q,q=qd w s ms os L lim vals c .own 0 (embV (evF x env))→A₀.units≤A.units→GdQ w s ms A₀ (RV Q E) A.depth c q):wpAny (model pw w) A (eval x env) Q E s:=by
  rw [evF_eq]
  exact segV ms L lim H hh hM hL hm nd dj room hl vals G
theorem segC(c:Code)(ms:List Addr)(L:List (Addr×Obj))(lim:Nat)(H:KTH w s.heap)(hh:A.handled=none)(hM:LedM s.heap ms os)(hL:Led s.heap L)(hm:High ms)(nd:ms.Nodup)(dj:∀p∈L,p.1∉ms)(room:A.depth+lim<recursionLimit)(hl:Nat.blt ms.length 1099511627776=true)(vals:List Value)
    (G:∀q,q=qd w s ms os L lim vals c .base 0 (den c)→GdQ w s ms A R A.depth c q):codeAny (model pw w) A c R s:=by
  obtain ⟨M,rfl,rfl,l⟩:=hM.zip
  have z:=Good.elim (V:=mv w s M L lim vals) (S:=sv s M A R A.depth c) (κ:= .base) (dp:=0) ⟨al _,hh⟩ (G _ rfl L lim vals rfl (eY H l hL hm nd dj room vals)) (dP l hl) rfl
  exact bO (κ:= .base) rfl (fun _ x=>by cases x) z
theorem aU{f:Addr}{args:Args}{fd:FuncData}{c':Code}(n hs:Nat)(js:List Nat)(os':List (Option Obj))(m' i':Nat)(H:KTH w s.heap)(hh:A.handled=none)(room:A.depth+60<recursionLimit)(ef:fnOf? (kt1 w.params) f=some fd)
    (e:RnQ (qd w s [] [] [] 60 [] (.call (.ref f) args) (.ent .base) 0 (ct (vw w s [] [] 60) f args)) n hs js (.body c') [] os' m' i') (hq:c'.quiet=true)
    (k:∀s',Nxt [] s s'→GotM [] s.heap.objs.size s'.heap js os'→codeAny (model pw w) A c' R s'):codeAny (model pw w) A (.call (.ref f) args) R s:=by
  have O:Ok (mv w s [] [] 60) (sv s [] A R A.depth (.call (.ref f) args)):=eY H Led.nil Led.nil ac aD (fun _ h=>by cases h) room
  have D:=rep_seg (w:=w) (L:=[]) (A:=A) (R:=R) (dep:=A.depth) (lim:=60) (c₀:= .call (.ref f) args) (Led.nil (h:=s.heap)) (by decide)
  refine fk (V:=mv w s [] [] 60) (S:=sv s [] A R A.depth (.call (.ref f) args)) O hh (al _) D ef ?_
  refine b5 O e no_side ?_ (fun _=>room)
  intro h' g' T' D G e' _
  exact ⟨hq,k ⟨h',g',s.drawn,_,s.os⟩ (c5 D G rfl rfl rfl rfl rfl rfl) (gotM_of (D.got e'))⟩
end
noncomputable def ca1{α:Type}(f:Qd→ag→α)(C:ag→Qd)(w:ag):α:=f (C w) w
theorem cW1{α:Type}{f g:Qd→ag→α}{C:ag→Qd}(q1:Qd)(w:ag) (e1:q1=C w)(h0:∀w,ca1 f C (wb w false)=ca1 g C (wb w false))(h1:∀w,ca1 f C (wb w true)=ca1 g C (wb w true)):f q1 w=g q1 w:=by
  subst e1
  obtain ⟨w,b,rfl⟩:=bM w
  cases b<;>first|exact h0 _|exact h1 _
noncomputable def ca2{α:Type}(f:Qd→ag→α)(D:Qd→ag→Qd)(C:ag→Qd)(w:ag):α:=f (D (C w) w) w
theorem cW2{α:Type}{f g:Qd→ag→α}{D:Qd→ag→Qd}{C:ag→Qd}(q2 q1:Qd)(w:ag) (e2:q2=D q1 w)(e1:q1=C w)(h0:∀w,ca2 f D C (wb w false)=ca2 g D C (wb w false))(h1:∀w,ca2 f D C (wb w true)=ca2 g D C (wb w true)):f q2 w=g q2 w:=by
  subst e1 e2
  obtain ⟨w,b,rfl⟩:=bM w
  cases b<;>first|exact h0 _|exact h1 _
noncomputable def ca3{α:Type}(f:Qd→ag→α)(E:Qd→ag→Qd)(D:Qd→ag→Qd)(C:ag→Qd)(w:ag):α:=f (E (D (C w) w) w) w
theorem cW3{α:Type}{f g:Qd→ag→α}{E:Qd→ag→Qd}{D:Qd→ag→Qd}{C:ag→Qd}(q3 q2 q1:Qd)(w:ag) (e3:q3=E q2 w)(e2:q2=D q1 w)(e1:q1=C w)(h0:∀w,ca3 f E D C (wb w false)=ca3 g E D C (wb w false))(h1:∀w,ca3 f E D C (wb w true)=ca3 g E D C (wb w true)):f q3 w=g q3 w:=by
  subst e1 e2 e3
  obtain ⟨w,b,rfl⟩:=bM w
  cases b<;>first|exact h0 _|exact h1 _
noncomputable def ca4{α:Type}(f:Qd→ag→α)(F:Qd→ag→Qd)(E:Qd→ag→Qd)(D:Qd→ag→Qd)(C:ag→Qd)(w:ag):α:=f (F (E (D (C w) w) w) w) w
theorem cW4{α:Type}{f g:Qd→ag→α}{F:Qd→ag→Qd}{E:Qd→ag→Qd}{D:Qd→ag→Qd}{C:ag→Qd}(q4 q3 q2 q1:Qd)(w:ag) (e4:q4=F q3 w)(e3:q3=E q2 w)(e2:q2=D q1 w)(e1:q1=C w)(h0:∀w,ca4 f F E D C (wb w false)=ca4 g F E D C (wb w false))(h1:∀w,ca4 f F E D C (wb w true)=ca4 g F E D C (wb w true)):f q4 w=g q4 w:=by
  subst e1 e2 e3 e4
  obtain ⟨w,b,rfl⟩:=bM w
  cases b<;>first|exact h0 _|exact h1 _
noncomputable def ca5{α:Type}(f:Qd→ag→α)(G:Qd→ag→Qd)(F:Qd→ag→Qd)(E:Qd→ag→Qd)(D:Qd→ag→Qd)(C:ag→Qd)(w:ag):α:=f (G (F (E (D (C w) w) w) w) w) w
theorem cW5{α:Type}{f g:Qd→ag→α}{G:Qd→ag→Qd}{F:Qd→ag→Qd}{E:Qd→ag→Qd}{D:Qd→ag→Qd}{C:ag→Qd}(q5 q4 q3 q2 q1:Qd)(w:ag) (e5:q5=G q4 w)(e4:q4=F q3 w)(e3:q3=E q2 w)(e2:q2=D q1 w)(e1:q1=C w)(h0:∀w,ca5 f G F E D C (wb w false)=ca5 g G F E D C (wb w false))(h1:∀w,ca5 f G F E D C (wb w true)=ca5 g G F E D C (wb w true)):f q5 w=g q5 w:=by
  subst e1 e2 e3 e4 e5
  obtain ⟨w,b,rfl⟩:=bM w
  cases b<;>first|exact h0 _|exact h1 _
noncomputable def ca6{α:Type}(f:Qd→ag→α)(H:Qd→ag→Qd)(G:Qd→ag→Qd)(F:Qd→ag→Qd)(E:Qd→ag→Qd)(D:Qd→ag→Qd)(C:ag→Qd)(w:ag):α:=f (H (G (F (E (D (C w) w) w) w) w) w) w
theorem cW6{α:Type}{f g:Qd→ag→α}{H:Qd→ag→Qd}{G:Qd→ag→Qd}{F:Qd→ag→Qd}{E:Qd→ag→Qd}{D:Qd→ag→Qd}{C:ag→Qd}(q6 q5 q4 q3 q2 q1:Qd)(w:ag) (e6:q6=H q5 w)(e5:q5=G q4 w)(e4:q4=F q3 w)(e3:q3=E q2 w)(e2:q2=D q1 w)(e1:q1=C w)(h0:∀w,ca6 f H G F E D C (wb w false)=ca6 g H G F E D C (wb w false))(h1:∀w,ca6 f H G F E D C (wb w true)=ca6 g H G F E D C (wb w true)):f q6 w=g q6 w:=by
  subst e1 e2 e3 e4 e5 e6
  obtain ⟨w,b,rfl⟩:=bM w
  cases b<;>first|exact h0 _|exact h1 _
noncomputable def ka1{α:Type}(f:Qd→ag→Nat→α)(C:ag→Nat→Qd)(w:ag)(k:Nat):α:=f (C w k) w k
theorem kW1{α:Type}{f g:Qd→ag→Nat→α}{C:ag→Nat→Qd}(q1:Qd)(w:ag)(k:Nat)(e1:q1=C w k)(h0:∀w,ka1 f C (wb w false) 0=ka1 g C (wb w false) 0)(h1:∀w k,ka1 f C (wb w false) (k+1)=ka1 g C (wb w false) (k+1))(h2:∀w,ka1 f C (wb w true) 0=ka1 g C (wb w true) 0)(h3:∀w k,ka1 f C (wb w true) (k+1)=ka1 g C (wb w true) (k+1)):f q1 w k=g q1 w k:=by
  subst e1
  obtain ⟨w,b,rfl⟩:=bM w
  cases b<;>cases k<;>first|exact h0 _|exact h1 _ _|exact h2 _|exact h3 _ _
noncomputable def ka2{α:Type}(f:Qd→ag→Nat→α)(D:Qd→ag→Nat→Qd)(C:ag→Nat→Qd)(w:ag)(k:Nat):α:=f (D (C w k) w k) w k
theorem kW2{α:Type}{f g:Qd→ag→Nat→α}{D:Qd→ag→Nat→Qd}{C:ag→Nat→Qd}(q2 q1:Qd)(w:ag)(k:Nat)(e2:q2=D q1 w k)(e1:q1=C w k)(h0:∀w,ka2 f D C (wb w false) 0=ka2 g D C (wb w false) 0)(h1:∀w k,ka2 f D C (wb w false) (k+1)=ka2 g D C (wb w false) (k+1))(h2:∀w,ka2 f D C (wb w true) 0=ka2 g D C (wb w true) 0)(h3:∀w k,ka2 f D C (wb w true) (k+1)=ka2 g D C (wb w true) (k+1)):f q2 w k=g q2 w k:=by
  subst e1 e2
  obtain ⟨w,b,rfl⟩:=bM w
  cases b<;>cases k<;>first|exact h0 _|exact h1 _ _|exact h2 _|exact h3 _ _
noncomputable def ka3{α:Type}(f:Qd→ag→Nat→α)(E:Qd→ag→Nat→Qd)(D:Qd→ag→Nat→Qd)(C:ag→Nat→Qd)(w:ag)(k:Nat):α:=f (E (D (C w k) w k) w k) w k
theorem kW3{α:Type}{f g:Qd→ag→Nat→α}{E:Qd→ag→Nat→Qd}{D:Qd→ag→Nat→Qd}{C:ag→Nat→Qd}(q3 q2 q1:Qd)(w:ag)(k:Nat)(e3:q3=E q2 w k)(e2:q2=D q1 w k)(e1:q1=C w k)(h0:∀w,ka3 f E D C (wb w false) 0=ka3 g E D C (wb w false) 0)(h1:∀w k,ka3 f E D C (wb w false) (k+1)=ka3 g E D C (wb w false) (k+1))(h2:∀w,ka3 f E D C (wb w true) 0=ka3 g E D C (wb w true) 0)(h3:∀w k,ka3 f E D C (wb w true) (k+1)=ka3 g E D C (wb w true) (k+1)):f q3 w k=g q3 w k:=by
  subst e1 e2 e3
  obtain ⟨w,b,rfl⟩:=bM w
  cases b<;>cases k<;>first|exact h0 _|exact h1 _ _|exact h2 _|exact h3 _ _
noncomputable def ka4{α:Type}(f:Qd→ag→Nat→α)(F:Qd→ag→Nat→Qd)(E:Qd→ag→Nat→Qd)(D:Qd→ag→Nat→Qd)(C:ag→Nat→Qd)(w:ag)(k:Nat):α:=f (F (E (D (C w k) w k) w k) w k) w k
theorem kW4{α:Type}{f g:Qd→ag→Nat→α}{F:Qd→ag→Nat→Qd}{E:Qd→ag→Nat→Qd}{D:Qd→ag→Nat→Qd}{C:ag→Nat→Qd}(q4 q3 q2 q1:Qd)(w:ag)(k:Nat)(e4:q4=F q3 w k)(e3:q3=E q2 w k)(e2:q2=D q1 w k)(e1:q1=C w k)(h0:∀w,ka4 f F E D C (wb w false) 0=ka4 g F E D C (wb w false) 0)(h1:∀w k,ka4 f F E D C (wb w false) (k+1)=ka4 g F E D C (wb w false) (k+1))(h2:∀w,ka4 f F E D C (wb w true) 0=ka4 g F E D C (wb w true) 0)(h3:∀w k,ka4 f F E D C (wb w true) (k+1)=ka4 g F E D C (wb w true) (k+1)):f q4 w k=g q4 w k:=by
  subst e1 e2 e3 e4
  obtain ⟨w,b,rfl⟩:=bM w
  cases b<;>cases k<;>first|exact h0 _|exact h1 _ _|exact h2 _|exact h3 _ _
noncomputable def ea1{α:Type}(f:Qd→ag→Bool→Nat→α)(C:ag→Bool→Nat→Qd)(w:ag)(e:Bool)(k:Nat):α:=f (C w e k) w e k
theorem eW1{α:Type}{f g:Qd→ag→Bool→Nat→α}{C:ag→Bool→Nat→Qd}(q1:Qd)(w:ag)(e:Bool)(k:Nat)(e1:q1=C w e k)(h0:∀w,ea1 f C (wb w false) false 0=ea1 g C (wb w false) false 0)(h1:∀w k,ea1 f C (wb w false) false (k+1)=ea1 g C (wb w false) false (k+1))(h2:∀w,ea1 f C (wb w false) true 0=ea1 g C (wb w false) true 0)(h3:∀w k,ea1 f C (wb w false) true (k+1)=ea1 g C (wb w false) true (k+1))(h4:∀w,ea1 f C (wb w true) false 0=ea1 g C (wb w true) false 0)(h5:∀w k,ea1 f C (wb w true) false (k+1)=ea1 g C (wb w true) false (k+1))(h6:∀w,ea1 f C (wb w true) true 0=ea1 g C (wb w true) true 0)(h7:∀w k,ea1 f C (wb w true) true (k+1)=ea1 g C (wb w true) true (k+1)):f q1 w e k=g q1 w e k:=by
  subst e1
  obtain ⟨w,b,rfl⟩:=bM w
  cases b<;>cases e<;>cases k<;>first|exact h0 _|exact h1 _ _|exact h2 _|exact h3 _ _|exact h4 _|exact h5 _ _|exact h6 _|exact h7 _ _
theorem elq{α:Type}{f g:Qd→α}(q v:Qd)(e:q=v)(h:f v=g v):f q=g q:=by
  subst e
  exact h
theorem wW{P:ag→Prop}(h:∀w b,P (wb w b))(w:ag):P w:=by
  obtain ⟨w,b,rfl⟩:=bM w
  exact h w b
noncomputable def la1{α:Type}(f:Qd→ag→Nat→α)(C:ag→Nat→Qd)(w:ag)(k:Nat):α:=f (C w k) w k
theorem lW1{α:Type}{f g:Qd→ag→Nat→α}{C:ag→Nat→Qd}(q1:Qd)(w:ag)(k:Nat)(e1:q1=C w k)(h0:∀w,la1 f C (wb w false) 0=la1 g C (wb w false) 0)(h1:∀w,la1 f C (wb w false) 1=la1 g C (wb w false) 1)(h2:∀w,la1 f C (wb w false) 2=la1 g C (wb w false) 2)(h3:∀w k,la1 f C (wb w false) (k+3)=la1 g C (wb w false) (k+3))(h4:∀w,la1 f C (wb w true) 0=la1 g C (wb w true) 0)(h5:∀w,la1 f C (wb w true) 1=la1 g C (wb w true) 1)(h6:∀w,la1 f C (wb w true) 2=la1 g C (wb w true) 2)(h7:∀w k,la1 f C (wb w true) (k+3)=la1 g C (wb w true) (k+3)):f q1 w k=g q1 w k:=by
  subst e1
  obtain ⟨w,b,rfl⟩:=bM w
  match b,k with
  |false,0=>exact h0 w
  |false,1=>exact h1 w
  |false,2=>exact h2 w
  |false,k+3=>exact h3 w k
  |true,0=>exact h4 w
  |true,1=>exact h5 w
  |true,2=>exact h6 w
  |true,k+3=>exact h7 w k
noncomputable def la2{α:Type}(f:Qd→ag→Nat→α)(D:Qd→ag→Nat→Qd)(C:ag→Nat→Qd)(w:ag)(k:Nat):α:=f (D (C w k) w k) w k
theorem lW2{α:Type}{f g:Qd→ag→Nat→α}{D:Qd→ag→Nat→Qd}{C:ag→Nat→Qd}(q2 q1:Qd)(w:ag)(k:Nat)(e2:q2=D q1 w k)(e1:q1=C w k)(h0:∀w,la2 f D C (wb w false) 0=la2 g D C (wb w false) 0)(h1:∀w,la2 f D C (wb w false) 1=la2 g D C (wb w false) 1)(h2:∀w,la2 f D C (wb w false) 2=la2 g D C (wb w false) 2)(h3:∀w k,la2 f D C (wb w false) (k+3)=la2 g D C (wb w false) (k+3))(h4:∀w,la2 f D C (wb w true) 0=la2 g D C (wb w true) 0)(h5:∀w,la2 f D C (wb w true) 1=la2 g D C (wb w true) 1)(h6:∀w,la2 f D C (wb w true) 2=la2 g D C (wb w true) 2)(h7:∀w k,la2 f D C (wb w true) (k+3)=la2 g D C (wb w true) (k+3)):f q2 w k=g q2 w k:=by
  subst e1 e2
  obtain ⟨w,b,rfl⟩:=bM w
  match b,k with
  |false,0=>exact h0 w
  |false,1=>exact h1 w
  |false,2=>exact h2 w
  |false,k+3=>exact h3 w k
  |true,0=>exact h4 w
  |true,1=>exact h5 w
  |true,2=>exact h6 w
  |true,k+3=>exact h7 w k
noncomputable def la3{α:Type}(f:Qd→ag→Nat→α)(E:Qd→ag→Nat→Qd)(D:Qd→ag→Nat→Qd)(C:ag→Nat→Qd)(w:ag)(k:Nat):α:=f (E (D (C w k) w k) w k) w k
theorem lW3{α:Type}{f g:Qd→ag→Nat→α}{E:Qd→ag→Nat→Qd}{D:Qd→ag→Nat→Qd}{C:ag→Nat→Qd}(q3 q2 q1:Qd)(w:ag)(k:Nat)(e3:q3=E q2 w k)(e2:q2=D q1 w k)(e1:q1=C w k)(h0:∀w,la3 f E D C (wb w false) 0=la3 g E D C (wb w false) 0)(h1:∀w,la3 f E D C (wb w false) 1=la3 g E D C (wb w false) 1)(h2:∀w,la3 f E D C (wb w false) 2=la3 g E D C (wb w false) 2)(h3:∀w k,la3 f E D C (wb w false) (k+3)=la3 g E D C (wb w false) (k+3))(h4:∀w,la3 f E D C (wb w true) 0=la3 g E D C (wb w true) 0)(h5:∀w,la3 f E D C (wb w true) 1=la3 g E D C (wb w true) 1)(h6:∀w,la3 f E D C (wb w true) 2=la3 g E D C (wb w true) 2)(h7:∀w k,la3 f E D C (wb w true) (k+3)=la3 g E D C (wb w true) (k+3)):f q3 w k=g q3 w k:=by
  subst e1 e2 e3
  obtain ⟨w,b,rfl⟩:=bM w
  match b,k with
  |false,0=>exact h0 w
  |false,1=>exact h1 w
  |false,2=>exact h2 w
  |false,k+3=>exact h3 w k
  |true,0=>exact h4 w
  |true,1=>exact h5 w
  |true,2=>exact h6 w
  |true,k+3=>exact h7 w k
theorem wp_cut{M:Model}{Γ:PySem.Ctx}{Q:Flow→Pos→aa→Prop}{E:Value→Pos→aa→Prop}{env:Env}{post:List Stmt}:∀{pre:List Stmt} {p:Pos} {s:aa},
    Sem.wp M Γ (execs pre env) (fun f p' s'=>match f with| .next=>Sem.wp M Γ (execs post env) Q E p' s'|f=>Q f p' s') E p s→Sem.wp M Γ (execs (pre++post) env) Q E p s
  |[],_,_,h=>h
  |x::pre,p,s,h=>by
    rw [execs_cons,Sem.wp_bind'] at h
    rw [List.cons_append,execs_cons,Sem.wp_bind']
    refine Sem.wp_mono _ Γ _ (fun f p' s' z=> ?_) (fun _ _ _ z=>z) _ _ h
    cases f with
    |next=>exact wp_cut z
    |_=>exact z
theorem aN{M:Model}{A:ai}{Q:Flow→aa→Prop}{E:Value→aa→Prop}{env:Env}(pre post:List Stmt){s:aa}
    (h:wpAny M A (execs pre env) (fun f s'=>match f with| .next=>wpAny M A (execs post env) Q E s'|f=>Q f s') E s):wpAny M A (execs (pre++post) env) Q E s:=fun Γ p hΓ=>by
  refine wp_cut (Sem.wp_mono _ Γ _ (fun f p' s' z=> ?_) (fun _ _ _ z=>z) _ _ (h Γ p hΓ))
  cases f with
  |next=>exact z Γ p' hΓ
  |_=>exact z
noncomputable def endF(R:Result→aa→Prop):Flow→aa→Prop:=fun f s=>R (.ok (.ret (match f with| .ret v=>v|_=> .none))) s
noncomputable def noE:Value→aa→Prop:=fun _ _=>False
section
variable {w:ag} {A:ai} {s:aa} {R:Result→aa→Prop} {env:Env}
theorem br{body:List Stmt}(h:wpAny (model pw w) (A.deeper env) (execs body env) (endF R) noE s):codeAny (model pw w) A (.func body env) R s:=
  codeAny_func (wpAny_mono h (fun _ _ z=>z) fun _ _ z=>z.elim)
theorem aV{target:Expr}{it:Value}{body orelse:List Stmt}
    (h:wpAny (model pw w) A (pyNext it) (fun r s₁=>match r with
      |none=>wpAny (model pw w) A (execs orelse env) (fun f s₃=>R (.ok f) s₃) noE s₁
      |some v=>wpAny (model pw w) A (letOwnedTupleGo target it v>>=fun _=>assign target env v>>=fun _=>execs body env) (fun f s₃=>match f with
            | .next| .cont=>codeAny (model pw w) A (.forLoop target it body orelse env) R s₃
            | .brk=>R (.ok .next) s₃
            | .ret v=>R (.ok (.ret v)) s₃) noE s₁) noE s):codeAny (model pw w) A (.forLoop target it body orelse env) R s:=by
  refine codeAny_of_tree ?_
  show wpAny _ (A.under _) ((forTurn target it body orelse env).onRaise (fun x=>do noteFrame x env;theTreesLotGoes x)) _ _ s
  rw [Around.under_of_weight rfl]
  refine wpAny_onRaise (wpAny_mono (E:=noE) ?_ (fun _ _ z=>z) fun _ _ z=>z.elim)
  simp only [forTurn]
  refine af (wpAny_standAt (af (wpAny_onRaise (wpAny_mono h (fun r s₁ h₁=> ?_) fun _ _ z=>z.elim))))
  cases r with
  |none=>exact wpAny_pure ⟨rfl,codeAny_block (wpAny_mono h₁ (fun _ _ z=>z) fun _ _ z=>z.elim)⟩
  |some v=>
    intro Γ p hΓ
    have z:=h₁ Γ p hΓ
    simp only [Sem.wp_bind'] at z⊢
    refine Sem.wp_mono _ Γ _ (fun _ p' s' z=> ?_) (fun _ _ _ z=>z) _ _ z
    refine Sem.wp_mono _ Γ _ (fun _ p' s' z=> ?_) (fun _ _ _ z=>z) _ _ z
    refine Sem.wp_mono _ Γ _ (fun f p' s' z=> ?_) (fun _ _ _ z=>z) _ _ z
    cases f with
    |next=>exact ⟨rfl,z⟩
    |cont=>exact ⟨rfl,z⟩
    |brk=>exact z
    |ret v=>exact z
noncomputable def turnF(target:Expr)(env:Env)(it v:Value)(body:List Stmt):Sem Flow:=
  PySem.W.Fast.tw1578499551869305889 target it v>>=fun _=>PySem.W.Fast.tw17772580674575903948 target env v>>=fun _=>exF body env
theorem turnF_eq(target:Expr)(env:Env)(it v:Value)(body:List Stmt):(letOwnedTupleGo target it v>>=fun _=>assign target env v>>=fun _=>execs body env)=turnF target env it v body:=by
  unfold turnF
  rw [←PySem.W.Fast.te1578499551869305889,←PySem.W.Fast.te17772580674575903948,←exF_eq]
noncomputable def forC(st:Stmt)(it:Value)(env:Env):Code:= .forLoop (sT st) it (sB st) (sO st) env
noncomputable def embB(t:Sem Bool):Sem Fin:=t.bind fun b=> .pure (.done (.ret (.bool b)))
noncomputable def RB(Q:Bool→aa→Prop)(E:Value→aa→Prop):Result→aa→Prop:=fun r s=>match r with
  | .ok (.ret (.bool b))=>Q b s
  | .ok _=>False
  | .error e=>E e s
noncomputable def itF:Expr→Env→Sem Value→Sem Bool:=PySem.W.Fast.tw15418851999007992765
theorem itF_eq:PySem.isTrue=itF:=PySem.W.Fast.te15418851999007992765
theorem segT{x:Expr}{os:List Obj}{Q:Bool→aa→Prop}{E:Value→aa→Prop}(ms:List Addr)(L:List (Addr×Obj))(lim:Nat)(H:KTH w s.heap)(hh:A.handled=none)(hM:LedM s.heap ms os)(hL:Led s.heap L)(hm:High ms)(nd:ms.Nodup)(dj:∀p∈L,p.1∉ms)(room:A.depth+lim<recursionLimit)(hl:Nat.blt ms.length 1099511627776=true)(vals:List Value)
    (G:∀A₀ c q,q=qd w s ms os L lim vals c .own 0 (embB (itF x env (evF x env)))→A₀.units≤A.units→GdQ w s ms A₀ (RB Q E) A.depth c q):wpAny (model pw w) A (PySem.isTrue x env (eval x env)) Q E s:=by
  rw [itF_eq,evF_eq]
  exact seg0 (emb:=fun b=> .done (.ret (.bool b))) (R:=RB Q E) (fun _ _ _ h=>h) (fun _ _ h=>h) ms L lim H hh hM hL hm nd dj room hl vals G
noncomputable def flO:Option Value→Flow
  |some v=> .ret v
  |none=> .next
noncomputable def embO(t:Sem (Option Value)):Sem Fin:=t.bind fun o=> .pure (.done (flO o))
noncomputable def RO(Q:Option Value→aa→Prop)(E:Value→aa→Prop):Result→aa→Prop:=fun r s=>match r with
  | .ok (.ret v)=>Q (some v) s
  | .ok .next=>Q none s
  | .ok _=>False
  | .error e=>E e s
theorem segO{t:Sem (Option Value)}{os:List Obj}{Q:Option Value→aa→Prop}{E:Value→aa→Prop}(ms:List Addr)(L:List (Addr×Obj))(lim:Nat)(H:KTH w s.heap)(hh:A.handled=none)(hM:LedM s.heap ms os)(hL:Led s.heap L)(hm:High ms)(nd:ms.Nodup)(dj:∀p∈L,p.1∉ms)(room:A.depth+lim<recursionLimit)(hl:Nat.blt ms.length 1099511627776=true)(vals:List Value)
    (G:∀A₀ c q,q=qd w s ms os L lim vals c .own 0 (embO t)→A₀.units≤A.units→GdQ w s ms A₀ (RO Q E) A.depth c q):wpAny (model pw w) A t Q E s:=
  seg0 (emb:=fun o=> .done (flO o)) (R:=RO Q E) (fun a _ _ h=>by cases a<;>exact h) (fun _ _ h=>h) ms L lim H hh hM hL hm nd dj room hl vals G
theorem bL{target:Expr}{it v:Value}{body:List Stmt}{os:List Obj}{Q:Flow→aa→Prop}{E:Value→aa→Prop}(ms:List Addr)(L:List (Addr×Obj))(lim:Nat)(H:KTH w s.heap)(hh:A.handled=none)(hM:LedM s.heap ms os)(hL:Led s.heap L)(hm:High ms)(nd:ms.Nodup)(dj:∀p∈L,p.1∉ms)(room:A.depth+lim<recursionLimit)(hl:Nat.blt ms.length 1099511627776=true)(vals:List Value)
    (G:∀A₀ c q,q=qd w s ms os L lim vals c .own 0 (fj (turnF target env it v body))→A₀.units≤A.units→GdQ w s ms A₀ (RF Q E) A.depth c q):
    wpAny (model pw w) A (letOwnedTupleGo target it v>>=fun _=>assign target env v>>=fun _=>execs body env) Q E s:=by
  rw [turnF_eq]
  exact segF ms L lim H hh hM hL hm nd dj room hl vals G
theorem High.one{a:Addr}(h:322≤a):High [a]:=High.cons (.inl h) ac
theorem az(a:Addr):[a].Nodup:=List.nodup_cons.mpr ⟨(fun h=>by cases h),aD⟩
theorem dj0{ms:List Addr}:∀p∈([]:List (Addr×Obj)),p.1∉ms:=fun _ h=>by cases h
theorem dj1{a:Addr}{o:Obj}{ms:List Addr}(h:a∉ms):∀p∈[(a,o)],p.1∉ms:=fun p hp=>by
  rcases List.mem_cons.mp hp with rfl|hp
  · exact h
  · cases hp
theorem djc{a:Addr}{o:Obj}{L:List (Addr×Obj)}{ms:List Addr}(h:a∉ms)(l:∀p∈L,p.1∉ms):∀p∈(a,o)::L,p.1∉ms:=fun p hp=>by
  rcases List.mem_cons.mp hp with rfl|hp
  · exact h
  · exact l p hp
theorem ne_of_obj{h:Heap}{a b:Addr}{o p:Obj}(x:h.get? a=some o)(y:h.get? b=some p)(n:o≠p):a≠b:=fun e=>n (by subst e;exact Option.some.inj (x.symm.trans y))
theorem ne_cls{h:Heap}{a b:Addr}{o p:Obj}(x:h.get? a=some o)(y:h.get? b=some p)(n:o.cls≠p.cls):a≠b:=ne_of_obj x y fun e=>n (e▸rfl)
theorem ne_new{h:Heap}{a b:Addr}{o:Obj}(x:h.get? a=some o)(y:h.objs.size≤b):a≠b:=ay (ah (an x) y)
theorem notin1{a b:Addr}(h:a≠b):a∉[b]:=fun x=>by rcases List.mem_cons.mp x with e|e;exact h e;cases e
theorem notin2{a b c:Addr}(h:a≠b)(l:a≠c):a∉[b,c]:=fun x=>by rcases List.mem_cons.mp x with e|e;exact h e;exact notin1 l e
theorem d9{a b c d:Addr}(h:a≠b)(l:a≠c)(m:a≠d):a∉[b,c,d]:=fun x=>by rcases List.mem_cons.mp x with e|e;exact h e;exact notin2 l m e
noncomputable def whC(st:Stmt)(env:Env):Code:= .whileLoop (sT st) (sB st) (sO st) env
theorem while_next{test:Expr}{body orelse:List Stmt}
    (h:wpAny (model pw w) A (PySem.isTrue test env (eval test env)) (fun b s₂=>match b with
        |true=>wpAny (model pw w) A (execs body env) (fun f s₃=>match f with
            | .next| .cont=>codeAny (model pw w) A (.whileLoop test body orelse env) R s₃
            | .brk=>R (.ok .next) s₃
            | .ret v=>R (.ok (.ret v)) s₃) noE s₂
        |false=>wpAny (model pw w) A (execs orelse env) (fun f s₃=>R (.ok f) s₃) noE s₂) noE s):codeAny (model pw w) A (.whileLoop test body orelse env) R s:=by
  refine codeAny_of_tree ?_
  show wpAny _ (A.under _) ((whileTurn test body orelse env).onRaise (fun x=>do noteFrame x env;theTreesLotGoes x)) _ _ s
  rw [Around.under_of_weight rfl]
  refine wpAny_onRaise (wpAny_mono (E:=noE) ?_ (fun _ _ z=>z) fun _ _ z=>z.elim)
  simp only [whileTurn]
  refine af (wpAny_mono h (fun b s₂ h₂=> ?_) fun _ _ z=>z)
  cases b with
  |false=>
    simp only [Bool.false_eq_true,if_false]
    exact af (wpAny_mono h₂ (fun f s₃ h₃=>wpAny_pure h₃) fun _ _ h'=>h')
  |true=>
    simp only [if_true]
    refine af (wpAny_mono h₂ (fun f s₃ h₃=> ?_) fun _ _ h'=>h')
    cases f with
    |next=>exact wpAny_pure ⟨rfl,h₃⟩
    |cont=>exact wpAny_pure ⟨rfl,h₃⟩
    |brk=>exact wpAny_pure h₃
    |ret v=>exact wpAny_pure h₃
theorem new_none{h:Heap}{a:Addr}(l:h.objs.size≤a):h.get? a=none:=by
  cases e:h.get? a with
  |none=>rfl
  |some o=>exact absurd (an e) (Nat.not_lt.mpr l)
theorem Nxt.drop{mods:List Addr}{s s':aa}{a:Addr}(x:Nxt (a::mods) s s')(l:s.heap.objs.size≤a):Nxt mods s s':=x.less fun y hy=>by
  rcases List.mem_cons.mp hy with rfl|hy
  · exact .inr (new_none l)
  · exact .inl hy
theorem side_cons{p:Prop}{l:List Prop}(h:p)(k:∀P∈l,P):∀P∈p::l,P:=fun P hP=>by
  rcases List.mem_cons.mp hP with rfl|hP
  · exact h
  · exact k P hP
theorem High.new{w:ag}{h:Heap}{a:Addr}(H:KTH w h)(l:h.objs.size≤a):High [a]:=High.one (ad H.2 l)
theorem no_pylong(a b:Int)(ha:a.natAbs<2^62)(hb:b.natAbs<2^62):¬(PySem.Builtin.divisionGoesByPylong a b)=true:=by
  have key:∀n:Int,n.natAbs<2^62→(if (n==0)=true then 0 else n.natAbs.log2 / 30+1)≤300:=by
    intro n hn
    split
    · omega
    · rename_i h
      have h0:n.natAbs≠0:=by
        intro e
        exact h (by rw [beq_iff_eq];omega)
      have:=(Nat.log2_lt h0).mpr hn
      omega
  intro h
  unfold PySem.Builtin.divisionGoesByPylong at h
  have h1:=(Bool.and_eq_true_iff.mp h).1
  have h2:=key b hb
  have h3:(if (b==0)=true then 0 else b.natAbs.log2 / 30+1)>300:=of_decide_eq_true h1
  omega
theorem bo{a:Addr}{h:Heap}{w:ag}(H:KTH w h)(l:h.objs.size≤a):322≤a:=ad H.2 l
end
noncomputable def ff(w:ag)(B:Addr):Env:=ck (aR (o35 w.params)) B 35 (S "_ValueFormatter.__init__.<locals>.")
noncomputable def body_vinit(w:ag):List Stmt:=bw (aR (o35 w.params))
theorem open_vinit{w:ag}{s:aa}{A:ai}{R:Result→aa→Prop}{v0 v1 v2 v3 v4:Value}(H:KTH w s.heap)(hh:A.handled=none)(room:A.depth+60<recursionLimit)
    (k:∀s' B,Nxt [] s s'→KTH w s'.heap→s.heap.objs.size≤B→s'.heap.get? B=some (frO [ew w "self" s.toks (v0),ew w "headerlen" (s.toks+1) (v1),ew w "maxlen" (s.toks+2) (v2),ew w "continuation_ws" (s.toks+3) (v3),ew w "splitchars" (s.toks+4) (v4)])→wpAny (model pw w) (A.deeper (ff w B)) (execs (body_vinit w) (ff w B)) (endF R) noE s'):
    codeAny (model pw w) A (.call (.ref 35) ⟨[v0,v1,v2,v3,v4],[]⟩) R s:=
  aU (fd:=aR (o35 w.params)) (c':= .func (body_vinit w) (ff w s.heap.objs.size)) 22 0x400040004000400040004000400040004000400000 [0] [some (frO [ew w "self" s.toks (v0),ew w "headerlen" (s.toks+1) (v1),ew w "maxlen" (s.toks+2) (v2),ew w "continuation_ws" (s.toks+3) (v3),ew w "splitchars" (s.toks+4) (v4)])] 1 5 H hh room (by kernel_rfl) (by kernel_rfl) (by kernel_rfl) fun s' x g=>br (k s' _ x (H.nxt x ac) (al _) (g 0))
noncomputable def env_vstr(w:ag)(B:Addr):Env:=ck (aR (o42 w.params)) B 42 (S "_ValueFormatter._str.<locals>.")
noncomputable def body_vstr(w:ag):List Stmt:=bw (aR (o42 w.params))
theorem open_vstr{w:ag}{s:aa}{A:ai}{R:Result→aa→Prop}{v0 v1:Value}(H:KTH w s.heap)(hh:A.handled=none)(room:A.depth+60<recursionLimit)
    (k:∀s' B,Nxt [] s s'→KTH w s'.heap→s.heap.objs.size≤B→s'.heap.get? B=some (frO [ew w "self" s.toks (v0),ew w "linesep" (s.toks+1) (v1)])→wpAny (model pw w) (A.deeper (env_vstr w B)) (execs (body_vstr w) (env_vstr w B)) (endF R) noE s'):
    codeAny (model pw w) A (.call (.ref 42) ⟨[v0,v1],[]⟩) R s:=
  aU (fd:=aR (o42 w.params)) (c':= .func (body_vstr w) (env_vstr w s.heap.objs.size)) 10 0x400040004000400000 [0] [some (frO [ew w "self" s.toks (v0),ew w "linesep" (s.toks+1) (v1)])] 1 2 H hh room (by kernel_rfl) (by kernel_rfl) (by kernel_rfl) fun s' x g=>br (k s' _ x (H.nxt x ac) (al _) (g 0))
noncomputable def bp(w:ag)(B:Addr):Env:=ck (aR (o56 w.params)) B 56 (S "_ValueFormatter.newline.<locals>.")
noncomputable def cF(w:ag):List Stmt:=bw (aR (o56 w.params))
theorem dR{w:ag}{s:aa}{A:ai}{R:Result→aa→Prop}{v0:Value}(H:KTH w s.heap)(hh:A.handled=none)(room:A.depth+60<recursionLimit)
    (k:∀s' B,Nxt [] s s'→KTH w s'.heap→s.heap.objs.size≤B→s'.heap.get? B=some (frO [ew w "self" s.toks (v0)])→wpAny (model pw w) (A.deeper (bp w B)) (execs (cF w) (bp w B)) (endF R) noE s'):
    codeAny (model pw w) A (.call (.ref 56) ⟨[v0],[]⟩) R s:=
  aU (fd:=aR (o56 w.params)) (c':= .func (cF w) (bp w s.heap.objs.size)) 6 0x4000400000 [0] [some (frO [ew w "self" s.toks (v0)])] 1 1 H hh room (by kernel_rfl) (by kernel_rfl) (by kernel_rfl) fun s' x g=>br (k s' _ x (H.nxt x ac) (al _) (g 0))
noncomputable def env_chunk(w:ag)(B:Addr):Env:=ck (aR (o91 w.params)) B 91 (S "_ValueFormatter._append_chunk.<locals>.")
noncomputable def dL(w:ag):List Stmt:=bw (aR (o91 w.params))
theorem open_chunk{w:ag}{s:aa}{A:ai}{R:Result→aa→Prop}{v0 v1 v2:Value}(H:KTH w s.heap)(hh:A.handled=none)(room:A.depth+60<recursionLimit)
    (k:∀s' B,Nxt [] s s'→KTH w s'.heap→s.heap.objs.size≤B→s'.heap.get? B=some (frO [ew w "self" s.toks (v0),ew w "fws" (s.toks+1) (v1),ew w "string" (s.toks+2) (v2)])→wpAny (model pw w) (A.deeper (env_chunk w B)) (execs (dL w) (env_chunk w B)) (endF R) noE s'):
    codeAny (model pw w) A (.call (.ref 91) ⟨[v0,v1,v2],[]⟩) R s:=
  aU (fd:=aR (o91 w.params)) (c':= .func (dL w) (env_chunk w s.heap.objs.size)) 14 0x40004000400040004000400000 [0] [some (frO [ew w "self" s.toks (v0),ew w "fws" (s.toks+1) (v1),ew w "string" (s.toks+2) (v2)])] 1 3 H hh room (by kernel_rfl) (by kernel_rfl) (by kernel_rfl) fun s' x g=>br (k s' _ x (H.nxt x ac) (al _) (g 0))
noncomputable def fh(w:ag)(B:Addr):Env:=ck (aR (o115 w.params)) B 115 (S "_Accumulator.__init__.<locals>.")
noncomputable def cH(w:ag):List Stmt:=bw (aR (o115 w.params))
theorem open_ainit{w:ag}{s:aa}{A:ai}{R:Result→aa→Prop}{v0 v1:Value}(H:KTH w s.heap)(hh:A.handled=none)(room:A.depth+60<recursionLimit)
    (k:∀s' B,Nxt [] s s'→KTH w s'.heap→s.heap.objs.size≤B→s'.heap.get? B=some (frO [ew w "self" s.toks (v0),ew w "initial_size" (s.toks+1) (v1)])→codeAny (model pw w) A (.func (cH w) (fh w B)) R s'):
    codeAny (model pw w) A (.call (.ref 115) ⟨[v0,v1],[]⟩) R s:=
  aU (fd:=aR (o115 w.params)) (c':= .func (cH w) (fh w s.heap.objs.size)) 11 0x4000400040004000000000 [0] [some (frO [ew w "self" s.toks (v0),ew w "initial_size" (s.toks+1) (v1)])] 1 2 H hh room (by kernel_rfl) (by kernel_rfl) (by kernel_rfl) fun s' x g=>(k s' _ x (H.nxt x ac) (al _) (g 0))
noncomputable def cT(w:ag)(B:Addr):Env:=ck (aR (o130 w.params)) B 130 (S "_Accumulator.pop_from.<locals>.")
noncomputable def eu(w:ag):List Stmt:=bw (aR (o130 w.params))
theorem open_popfrom{w:ag}{s:aa}{A:ai}{R:Result→aa→Prop}{v0 v1:Value}(H:KTH w s.heap)(hh:A.handled=none)(room:A.depth+60<recursionLimit)
    (k:∀s' B,Nxt [] s s'→KTH w s'.heap→s.heap.objs.size≤B→s'.heap.get? B=some (frO [ew w "self" s.toks (v0),ew w "i" (s.toks+1) (v1)])→wpAny (model pw w) (A.deeper (cT w B)) (execs (eu w) (cT w B)) (endF R) noE s'):
    codeAny (model pw w) A (.call (.ref 130) ⟨[v0,v1],[]⟩) R s:=
  aU (fd:=aR (o130 w.params)) (c':= .func (eu w) (cT w s.heap.objs.size)) 11 0x4000400040004000000000 [0] [some (frO [ew w "self" s.toks (v0),ew w "i" (s.toks+1) (v1)])] 1 2 H hh room (by kernel_rfl) (by kernel_rfl) (by kernel_rfl) fun s' x g=>br (k s' _ x (H.nxt x ac) (al _) (g 0))
noncomputable def env_apop(w:ag)(B:Addr):Env:=ck (aR (o138 w.params)) B 138 (S "_Accumulator.pop.<locals>.")
noncomputable def ca(w:ag):List Stmt:=bw (aR (o138 w.params))
theorem open_apop{w:ag}{s:aa}{A:ai}{R:Result→aa→Prop}{v0:Value}(H:KTH w s.heap)(hh:A.handled=none)(room:A.depth+60<recursionLimit)
    (k:∀s' B,Nxt [] s s'→KTH w s'.heap→s.heap.objs.size≤B→s'.heap.get? B=some (frO [ew w "self" s.toks (v0)])→codeAny (model pw w) A (.func (ca w) (env_apop w B)) R s'):
    codeAny (model pw w) A (.call (.ref 138) ⟨[v0],[]⟩) R s:=
  aU (fd:=aR (o138 w.params)) (c':= .func (ca w) (env_apop w s.heap.objs.size)) 6 0x4000400000 [0] [some (frO [ew w "self" s.toks (v0)])] 1 1 H hh room (by kernel_rfl) (by kernel_rfl) (by kernel_rfl) fun s' x g=>(k s' _ x (H.nxt x ac) (al _) (g 0))
noncomputable def env_alen(w:ag)(B:Addr):Env:=ck (aR (o145 w.params)) B 145 (S "_Accumulator.__len__.<locals>.")
noncomputable def body_alen(w:ag):List Stmt:=bw (aR (o145 w.params))
theorem open_alen{w:ag}{s:aa}{A:ai}{R:Result→aa→Prop}{v0:Value}(H:KTH w s.heap)(hh:A.handled=none)(room:A.depth+60<recursionLimit)
    (k:∀s' B,Nxt [] s s'→KTH w s'.heap→s.heap.objs.size≤B→s'.heap.get? B=some (frO [ew w "self" s.toks (v0)])→wpAny (model pw w) (A.deeper (env_alen w B)) (execs (body_alen w) (env_alen w B)) (endF R) noE s'):
    codeAny (model pw w) A (.call (.ref 145) ⟨[v0],[]⟩) R s:=
  aU (fd:=aR (o145 w.params)) (c':= .func (body_alen w) (env_alen w s.heap.objs.size)) 6 0x4000400000 [0] [some (frO [ew w "self" s.toks (v0)])] 1 1 H hh room (by kernel_rfl) (by kernel_rfl) (by kernel_rfl) fun s' x g=>br (k s' _ x (H.nxt x ac) (al _) (g 0))
noncomputable def env_astr(w:ag)(B:Addr):Env:=ck (aR (o152 w.params)) B 152 (S "_Accumulator.__str__.<locals>.")
noncomputable def body_astr(w:ag):List Stmt:=bw (aR (o152 w.params))
theorem open_astr{w:ag}{s:aa}{A:ai}{R:Result→aa→Prop}{v0:Value}(H:KTH w s.heap)(hh:A.handled=none)(room:A.depth+60<recursionLimit)
    (k:∀s' B,Nxt [] s s'→KTH w s'.heap→s.heap.objs.size≤B→s'.heap.get? B=some (frO [ew w "self" s.toks (v0)])→wpAny (model pw w) (A.deeper (env_astr w B)) (execs (body_astr w) (env_astr w B)) (endF R) noE s'):
    codeAny (model pw w) A (.call (.ref 152) ⟨[v0],[]⟩) R s:=
  aU (fd:=aR (o152 w.params)) (c':= .func (body_astr w) (env_astr w s.heap.objs.size)) 6 0x4000400000 [0] [some (frO [ew w "self" s.toks (v0)])] 1 1 H hh room (by kernel_rfl) (by kernel_rfl) (by kernel_rfl) fun s' x g=>br (k s' _ x (H.nxt x ac) (al _) (g 0))
noncomputable def bK(w:ag)(B:Addr):Env:=ck (aR (o160 w.params)) B 160 (S "_Accumulator.reset.<locals>.")
noncomputable def cq(w:ag):List Stmt:=bw (aR (o160 w.params))
theorem open_areset{w:ag}{s:aa}{A:ai}{R:Result→aa→Prop}{v0:Value}(H:KTH w s.heap)(hh:A.handled=none)(room:A.depth+60<recursionLimit)
    (k:∀s' B,Nxt [] s s'→KTH w s'.heap→s.heap.objs.size≤B→s'.heap.get? B=some (frO [ew w "self" s.toks (v0),ew w "startval" (s.toks+1) (.none)])→wpAny (model pw w) (A.deeper (bK w B)) (execs (cq w) (bK w B)) (endF R) noE s'):
    codeAny (model pw w) A (.call (.ref 160) ⟨[v0],[]⟩) R s:=
  aU (fd:=aR (o160 w.params)) (c':= .func (cq w) (bK w s.heap.objs.size)) 11 0x4000400040004000000000 [0] [some (frO [ew w "self" s.toks (v0),ew w "startval" (s.toks+1) (.none)])] 1 2 H hh room (by kernel_rfl) (by kernel_rfl) (by kernel_rfl) fun s' x g=>br (k s' _ x (H.nxt x ac) (al _) (g 0))
theorem open_areset2{w:ag}{s:aa}{A:ai}{R:Result→aa→Prop}{v0 v1:Value}(H:KTH w s.heap)(hh:A.handled=none)(room:A.depth+60<recursionLimit)
    (k:∀s' B,Nxt [] s s'→KTH w s'.heap→s.heap.objs.size≤B→s'.heap.get? B=some (frO [ew w "self" s.toks (v0),ew w "startval" (s.toks+1) (v1)])→wpAny (model pw w) (A.deeper (bK w B)) (execs (cq w) (bK w B)) (endF R) noE s'):
    codeAny (model pw w) A (.call (.ref 160) ⟨[v0,v1],[]⟩) R s:=
  aU (fd:=aR (o160 w.params)) (c':= .func (cq w) (bK w s.heap.objs.size)) 11 0x4000400040004000000000 [0] [some (frO [ew w "self" s.toks (v0),ew w "startval" (s.toks+1) (v1)])] 1 2 H hh room (by kernel_rfl) (by kernel_rfl) (by kernel_rfl) fun s' x g=>br (k s' _ x (H.nxt x ac) (al _) (g 0))
noncomputable def dG(w:ag)(B:Addr):Env:=ck (aR (o167 w.params)) B 167 (S "_Accumulator.is_onlyws.<locals>.")
noncomputable def fw(w:ag):List Stmt:=bw (aR (o167 w.params))
theorem fq{w:ag}{s:aa}{A:ai}{R:Result→aa→Prop}{v0:Value}(H:KTH w s.heap)(hh:A.handled=none)(room:A.depth+60<recursionLimit)
    (k:∀s' B,Nxt [] s s'→KTH w s'.heap→s.heap.objs.size≤B→s'.heap.get? B=some (frO [ew w "self" s.toks (v0)])→wpAny (model pw w) (A.deeper (dG w B)) (execs (fw w) (dG w B)) (endF R) noE s'):
    codeAny (model pw w) A (.call (.ref 167) ⟨[v0],[]⟩) R s:=
  aU (fd:=aR (o167 w.params)) (c':= .func (fw w) (dG w s.heap.objs.size)) 6 0x4000400000 [0] [some (frO [ew w "self" s.toks (v0)])] 1 1 H hh room (by kernel_rfl) (by kernel_rfl) (by kernel_rfl) fun s' x g=>br (k s' _ x (H.nxt x ac) (al _) (g 0))
noncomputable def bc(w:ag)(B:Addr):Env:=ck (aR (o217 w.params)) B 217 (S "countOf.<locals>.")
noncomputable def cG(w:ag):List Stmt:=bw (aR (o217 w.params))
noncomputable def aY(w:ag)(B:Addr):Env:=ck (aR (o234 w.params)) B 234 (S "Whitespace.__init__.<locals>.")
noncomputable def dJ(w:ag):List Stmt:=bw (aR (o234 w.params))
theorem open_winit{w:ag}{s:aa}{A:ai}{R:Result→aa→Prop}{v0 v1:Value}(H:KTH w s.heap)(hh:A.handled=none)(room:A.depth+60<recursionLimit)
    (k:∀s' B,Nxt [] s s'→KTH w s'.heap→s.heap.objs.size≤B→s'.heap.get? B=some (frO [ew w "self" s.toks (v0),ew w "ws" (s.toks+1) (v1)])→wpAny (model pw w) (A.deeper (aY w B)) (execs (dJ w) (aY w B)) (endF R) noE s'):
    codeAny (model pw w) A (.call (.ref 234) ⟨[v0,v1],[]⟩) R s:=
  aU (fd:=aR (o234 w.params)) (c':= .func (dJ w) (aY w s.heap.objs.size)) 10 0x400040004000400000 [0] [some (frO [ew w "self" s.toks (v0),ew w "ws" (s.toks+1) (v1)])] 1 2 H hh room (by kernel_rfl) (by kernel_rfl) (by kernel_rfl) fun s' x g=>br (k s' _ x (H.nxt x ac) (al _) (g 0))
noncomputable def bF(w:ag)(B:Addr):Env:=ck (aR (o248 w.params)) B 248 (S "Whitespace.indent_level.<locals>.")
noncomputable def cV(w:ag):List Stmt:=bw (aR (o248 w.params))
theorem open_indent{w:ag}{s:aa}{A:ai}{R:Result→aa→Prop}{v0 v1:Value}(H:KTH w s.heap)(hh:A.handled=none)(room:A.depth+60<recursionLimit)
    (k:∀s' B,Nxt [] s s'→KTH w s'.heap→s.heap.objs.size≤B→s'.heap.get? B=some (frO [ew w "self" s.toks (v0),ew w "tabsize" (s.toks+1) (v1)])→wpAny (model pw w) (A.deeper (bF w B)) (execs (cV w) (bF w B)) (endF R) noE s'):
    codeAny (model pw w) A (.call (.ref 248) ⟨[v0,v1],[]⟩) R s:=
  aU (fd:=aR (o248 w.params)) (c':= .func (cV w) (bF w s.heap.objs.size)) 10 0x400040004000400000 [0] [some (frO [ew w "self" s.toks (v0),ew w "tabsize" (s.toks+1) (v1)])] 1 2 H hh room (by kernel_rfl) (by kernel_rfl) (by kernel_rfl) fun s' x g=>br (k s' _ x (H.nxt x ac) (al _) (g 0))
noncomputable def bk(w:ag)(B:Addr):Env:=ck (aR (o290 w.params)) B 290 (S "_law_ranks.<locals>.")
noncomputable def dK(w:ag):List Stmt:=bw (aR (o290 w.params))
theorem open_ranks{w:ag}{s:aa}{A:ai}{R:Result→aa→Prop}{v0 v1 v2 v3 v4:Value}(H:KTH w s.heap)(hh:A.handled=none)(room:A.depth+60<recursionLimit)
    (k:∀s' B,Nxt [] s s'→KTH w s'.heap→s.heap.objs.size≤B→s'.heap.get? B=some (frO [ew w "p" s.toks (v0),ew w "q" (s.toks+1) (v1),ew w "bare" (s.toks+2) (v2),ew w "runs" (s.toks+3) (v3),ew w "tail" (s.toks+4) (v4)])→wpAny (model pw w) (A.deeper (bk w B)) (execs (dK w) (bk w B)) (endF R) noE s'):
    codeAny (model pw w) A (.call (.ref 290) ⟨[v0,v1,v2,v3,v4],[]⟩) R s:=
  aU (fd:=aR (o290 w.params)) (c':= .func (dK w) (bk w s.heap.objs.size)) 22 0x400040004000400040004000400040004000400000 [0] [some (frO [ew w "p" s.toks (v0),ew w "q" (s.toks+1) (v1),ew w "bare" (s.toks+2) (v2),ew w "runs" (s.toks+3) (v3),ew w "tail" (s.toks+4) (v4)])] 1 5 H hh room (by kernel_rfl) (by kernel_rfl) (by kernel_rfl) fun s' x g=>br (k s' _ x (H.nxt x ac) (al _) (g 0))
noncomputable def bA(w:ag)(B:Addr):Env:=ck (aR (o297 w.params)) B 297 (S "_law_line.<locals>.")
noncomputable def fm(w:ag):List Stmt:=bw (aR (o297 w.params))
theorem open_line{w:ag}{s:aa}{A:ai}{R:Result→aa→Prop}{v0 v1 v2 v3 v4:Value}(H:KTH w s.heap)(hh:A.handled=none)(room:A.depth+60<recursionLimit)
    (k:∀s' B,Nxt [] s s'→KTH w s'.heap→s.heap.objs.size≤B→s'.heap.get? B=some (frO [ew w "ranks" s.toks (v0),ew w "p" (s.toks+1) (v1),ew w "spot" (s.toks+2) (v2),ew w "whites" (s.toks+3) (v3),ew w "others" (s.toks+4) (v4)])→wpAny (model pw w) (A.deeper (bA w B)) (execs (fm w) (bA w B)) (endF R) noE s'):
    codeAny (model pw w) A (.call (.ref 297) ⟨[v0,v1,v2,v3,v4],[]⟩) R s:=
  aU (fd:=aR (o297 w.params)) (c':= .func (fm w) (bA w s.heap.objs.size)) 22 0x400040004000400040004000400040004000400000 [0] [some (frO [ew w "ranks" s.toks (v0),ew w "p" (s.toks+1) (v1),ew w "spot" (s.toks+2) (v2),ew w "whites" (s.toks+3) (v3),ew w "others" (s.toks+4) (v4)])] 1 5 H hh room (by kernel_rfl) (by kernel_rfl) (by kernel_rfl) fun s' x g=>br (k s' _ x (H.nxt x ac) (al _) (g 0))
noncomputable def fg(w:ag)(B:Addr):Env:=ck (aR (o304 w.params)) B 304 (S "_law_times.<locals>.")
noncomputable def body_times(w:ag):List Stmt:=bw (aR (o304 w.params))
theorem open_times{w:ag}{s:aa}{A:ai}{R:Result→aa→Prop}{v0 v1:Value}(H:KTH w s.heap)(hh:A.handled=none)(room:A.depth+60<recursionLimit)
    (k:∀s' B,Nxt [] s s'→KTH w s'.heap→s.heap.objs.size≤B→s'.heap.get? B=some (frO [ew w "m" s.toks (v0),ew w "n" (s.toks+1) (v1)])→wpAny (model pw w) (A.deeper (fg w B)) (execs (body_times w) (fg w B)) (endF R) noE s'):
    codeAny (model pw w) A (.call (.ref 304) ⟨[v0,v1],[]⟩) R s:=
  aU (fd:=aR (o304 w.params)) (c':= .func (body_times w) (fg w s.heap.objs.size)) 10 0x400040004000400000 [0] [some (frO [ew w "m" s.toks (v0),ew w "n" (s.toks+1) (v1)])] 1 2 H hh room (by kernel_rfl) (by kernel_rfl) (by kernel_rfl) fun s' x g=>br (k s' _ x (H.nxt x ac) (al _) (g 0))
noncomputable def cg(w:ag)(B:Addr):Env:=ck (aR (o311 w.params)) B 311 (S "_law_common.<locals>.")
noncomputable def cp(w:ag):List Stmt:=bw (aR (o311 w.params))
theorem open_common{w:ag}{s:aa}{A:ai}{R:Result→aa→Prop}{v0 v1:Value}(H:KTH w s.heap)(hh:A.handled=none)(room:A.depth+60<recursionLimit)
    (k:∀s' B,Nxt [] s s'→KTH w s'.heap→s.heap.objs.size≤B→s'.heap.get? B=some (frO [ew w "m" s.toks (v0),ew w "n" (s.toks+1) (v1)])→wpAny (model pw w) (A.deeper (cg w B)) (execs (cp w) (cg w B)) (endF R) noE s'):
    codeAny (model pw w) A (.call (.ref 311) ⟨[v0,v1],[]⟩) R s:=
  aU (fd:=aR (o311 w.params)) (c':= .func (cp w) (cg w s.heap.objs.size)) 10 0x400040004000400000 [0] [some (frO [ew w "m" s.toks (v0),ew w "n" (s.toks+1) (v1)])] 1 2 H hh room (by kernel_rfl) (by kernel_rfl) (by kernel_rfl) fun s' x g=>br (k s' _ x (H.nxt x ac) (al _) (g 0))
noncomputable def ek(w:ag)(B c0 c1:Addr):Env:={ck (aR (o316 w.params)) B 316 (S "_law_fold.<locals>.") with cells:=[(S "marks",c1),(S "ranks",c0)]}
noncomputable def dh(w:ag):List Stmt:=bw (aR (o316 w.params))
theorem open_fold{w:ag}{s:aa}{A:ai}{R:Result→aa→Prop}{v0 v1 v2 v3 v4:Value}(H:KTH w s.heap)(hh:A.handled=none)(room:A.depth+60<recursionLimit)
    (k:∀s' B,Nxt [] s s'→KTH w s'.heap→s.heap.objs.size≤B→s'.heap.get? B=some (frO [ew w "line" s.toks (v0),ew w "begin" (s.toks+1) (v2),ew w "behind" (s.toks+2) (v3),ew w "drawn" (s.toks+3) (v4)])→s'.heap.get? (B+1)=some (⟨.type "cell",none,.cell (some v1),#[]⟩)→s'.heap.get? (B+2)=some (⟨.type "cell",none,.cell none,#[]⟩)→wpAny (model pw w) (A.deeper (ek w B (B+1) (B+2))) (execs (dh w) (ek w B (B+1) (B+2))) (endF R) noE s'):
    codeAny (model pw w) A (.call (.ref 316) ⟨[v0,v1,v2,v3,v4],[]⟩) R s:=
  aU (fd:=aR (o316 w.params)) (c':= .func (dh w) (ek w s.heap.objs.size (s.heap.objs.size+1) (s.heap.objs.size+2))) 22 0x400040004000400040004000410041004000400000 [0,1,2] [some (frO [ew w "line" s.toks (v0),ew w "begin" (s.toks+1) (v2),ew w "behind" (s.toks+2) (v3),ew w "drawn" (s.toks+3) (v4)]),some (⟨.type "cell",none,.cell (some v1),#[]⟩),some (⟨.type "cell",none,.cell none,#[]⟩)] 3 4 H hh room (by kernel_rfl) (by kernel_rfl) (by kernel_rfl) fun s' x g=>br (k s' _ x (H.nxt x ac) (al _) (g 0) (g 1) (g 2))
noncomputable def fF(w:ag)(B c0 c1 c2 c3:Addr):Env:={ck (aR (o321 w.params)) B 321 (S "law.<locals>.") with cells:=[(S "whites",c3),(S "spot",c2),(S "p",c1),(S "q",c0)]}
noncomputable def cU(w:ag):List Stmt:=bw (aR (o321 w.params))
theorem open_law{w:ag}{s:aa}{A:ai}{R:Result→aa→Prop}{v0:Value}(H:KTH w s.heap)(hh:A.handled=none)(room:A.depth+60<recursionLimit)
    (k:∀s' B,Nxt [] s s'→KTH w s'.heap→s.heap.objs.size≤B→s'.heap.get? B=some (frO [ew w "script" s.toks (v0)])→s'.heap.get? (B+1)=some (⟨.type "cell",none,.cell none,#[]⟩)→s'.heap.get? (B+2)=some (⟨.type "cell",none,.cell none,#[]⟩)→s'.heap.get? (B+3)=some (⟨.type "cell",none,.cell none,#[]⟩)→s'.heap.get? (B+4)=some (⟨.type "cell",none,.cell none,#[]⟩)→wpAny (model pw w) (A.deeper (fF w B (B+1) (B+2) (B+3) (B+4))) (execs (cU w) (fF w B (B+1) (B+2) (B+3) (B+4))) (endF R) noE s'):
    codeAny (model pw w) A (.call (.ref 321) ⟨[v0],[]⟩) R s:=
  aU (fd:=aR (o321 w.params)) (c':= .func (cU w) (fF w s.heap.objs.size (s.heap.objs.size+1) (s.heap.objs.size+2) (s.heap.objs.size+3) (s.heap.objs.size+4))) 10 0x4000400000 [0,1,2,3,4] [some (frO [ew w "script" s.toks (v0)]),some (⟨.type "cell",none,.cell none,#[]⟩),some (⟨.type "cell",none,.cell none,#[]⟩),some (⟨.type "cell",none,.cell none,#[]⟩),some (⟨.type "cell",none,.cell none,#[]⟩)] 5 1 H hh room (by kernel_rfl) (by kernel_rfl) (by kernel_rfl) fun s' x g=>br (k s' _ x (H.nxt x ac) (al _) (g 0) (g 1) (g 2) (g 3) (g 4))
theorem common_loop{w:ag}{B:Addr}{R:Result→aa→Prop}{A:ai}(hh:A.handled=none)(room:A.depth+60<recursionLimit):∀(n m:Nat) {s:aa} {t0 t1 t2 t3:Tok} (H:KTH w s.heap) (hB:322≤B)
    (f:s.heap.get? B=some (frO [ew w "m" t0 (.int m t1),ew w "n" t2 (.int n t3)])) (l1:m<2^30) (l2:n<2^30)
    (k:∀s' t0 t1 t2 t3,Nxt [B] s s'→s'.heap.get? B=some (frO [ew w "m" t0 (.int (Nat.gcd m n) t1),ew w "n" t2 (.int 0 t3)])→R (.ok .next) s'),
    codeAny (model pw w) A (whC (aF (cp w) 0) (cg w B)) R s:=by
  intro n
  induction n using Nat.strongRecOn with
  |ind n ih=>
    intro m s t0 t1 t2 t3 H hB f l1 l2 k
    refine while_next ?_
    by_cases h0:n=0
    · refine segT [] [(B,frO [ew w "m" t0 (.int m t1),ew w "n" t2 (.int n t3)])] 60 H hh .nil (.cons f .nil) ac aD (dj1 (fun h=>by cases h)) room rfl [] fun A₀ c q1 hq1 _=> ?_
      refine am (f:=(.ret (.bool false))) 7 0xe0001 [] [(decide (0<(U (n)))=false)] [] 0 1 (by apply cW1 q1 w<;>first|apply hq1|(intro w;kernel_rfl)) (side_cons (by rw [h0];rfl) no_side) fun s1 x1 _=> ?_
      subst h0
      refine wpAny_execs_nil (k s1 t0 t1 t2 t3 x1.nil ?_)
      rw [Nat.gcd_zero_right]
      exact x1.keep0 f
    · refine segT [] [(B,frO [ew w "m" t0 (.int m t1),ew w "n" t2 (.int n t3)])] 60 H hh .nil (.cons f .nil) ac aD (dj1 (fun h=>by cases h)) room rfl [] fun A₀ c q1 hq1 _=> ?_
      refine am (f:=(.ret (.bool true))) 7 0x1000e0001 [] [(decide (0<(U (n)))=true)] [] 0 1 (by apply cW1 q1 w<;>first|apply hq1|(intro w;kernel_rfl)) (side_cons (by rw [decide_eq_true_eq];exact Int.natCast_pos.mpr (Nat.pos_of_ne_zero h0)) no_side) fun s1 x1 _=> ?_
      have f1:=x1.keep0 f
      refine aT [B] [] 60 (H.nxt x1 ac) hh (.cons f1 .nil) .nil (High.one hB) (az B) dj0 room rfl [] fun A₀ c q1 hq1 _=> ?_
      refine am (f:= .next) 70 0x40004000400040004400420042004100420042000000420042004200420041004200420000004200420042004200410042004200000042004200420000004100410041004100000005004000400040 [0] [(¬((U (n))==0)=true)] [some (frO [ew w "m" t0 (.int (U (n)) t3),ew w "n" t2 (.int (Int.fmod (U (m)) (U (n))) s1.toks)])] 5 3 (by apply cW1 q1 w<;>first|apply hq1|(intro w;kernel_rfl)) (side_cons (by rw [beq_iff_eq];intro e;exact h0 (Int.ofNat.inj e)) no_side) fun s2 x2 g2=> ?_
      have e:Int.fmod (U m) (U n)=((m % n:Nat):Int):=by rw [show (U n)=(n:Int) from rfl,Int.fmod_eq_emod_of_nonneg _ (Int.natCast_nonneg n)];rfl
      rw [e] at g2
      refine ih (m % n) (Nat.mod_lt _ (Nat.pos_of_ne_zero h0)) n (H.nxt (x1.nil.trans x2) (High.one hB)) hB (g2 0) l2 (aC (Nat.mod_lt _ (Nat.pos_of_ne_zero h0)) l2) fun s' t0 t1 t2 t3 x f=>k s' t0 t1 t2 t3 ((x1.nil.trans x2).trans x) ?_
      have e2:m.gcd n=n.gcd (m % n):=by rw [Nat.gcd_comm,Nat.gcd_rec,Nat.gcd_comm]
      rw [e2]
      exact f
theorem common_spec{w:ag}{s:aa}{A:ai}{R:Result→aa→Prop}{m n:Nat}{u v:Tok}(H:KTH w s.heap)(hh:A.handled=none)(room:A.depth+105<recursionLimit)(l1:m<2^30)(l2:n<2^30)
    (k:∀s' tk,Nxt [] s s'→R (.ok (.ret (.int (Nat.gcd m n) tk))) s'):codeAny (model pw w) A (.call (.ref 311) ⟨[.int m u,.int n v],[]⟩) R s:=by
  refine open_common H hh (rmz room rfl) fun s1 B x1 H1 hB f1=> ?_
  refine aT [B] [] 60 H1 hh (.cons f1 .nil) .nil (High.new H hB) (az B) dj0 (rmo room rfl) rfl [] fun A₀ c q1 hq1 _=> ?_
  refine av (c':=(whC (aF (cp w) 0) (cg w B))) (d:=0) (u:=10) 1 0x0 [0] [] [some (frO [ew w "m" s.4 (.int (U (m)) u),ew w "n" (s.4+1) (.int (U (n)) v)])] 1 0 (by apply cW1 q1 w<;>first|apply hq1|(intro w;kernel_rfl)) no_side fun s2 x2 g2 A' R' hA dA uA res=> ?_
  have dA:A'.depth≤A.depth+1:=dA
  have hB2:=bo H hB
  refine common_loop hA (rm room dA rfl) n m (H1.nxt x2 (High.one hB2)) hB2 (g2 0) l1 l2 fun s3 t0 t1 t2 t3 x3 f3=> ?_
  refine Rsm.go (lim:=60) res [B] [] (H1.nxt (x2.trans x3) (High.one hB2)) (.cons f3 .nil) .nil (High.one hB2) (az B) dj0 (rmo room rfl) rfl [] fun q2 hq2=> ?_
  refine am (f:=(.ret (.int (U (m.gcd n)) t1))) 3 0x40 [0] [] [some (frO [ew w "m" t0 (.int (U (m.gcd n)) t1),ew w "n" t2 (.int 0 t3)])] 1 0 (by apply cW2 q2 q1 w<;>first|apply hq2|apply hq1|(intro w;kernel_rfl)) no_side fun s4 x4 _=> ?_
  exact k s4 t1 (Nxt.drop (x1.nil.trans ((x2.trans x3).trans x4)) hB)
noncomputable def Bd(k:Nat)(x:Int):Prop:=PySem.Builtin.Int.intBits x≤k
theorem cx{x y:Int}(a:Bd (2^20) x)(b:Bd (2^20) y):IntMulOk x y:= .of_bits (ad a (al _)) (ad b (al _))
theorem times_spec{w:ag}{s:aa}{A:ai}{R:Result→aa→Prop}{xa xb:Addr}{m0 m1 m2 m3 n0 n1 n2 n3:Int}{u0 u1 u2 u3 v0 v1 v2 v3:Tok}(H:KTH w s.heap)(room:A.depth+105<recursionLimit)(hh:A.handled=none)
    (ha:s.heap.get? xa=some (aX [.int m0 u0,.int m1 u1,.int m2 u2,.int m3 u3])) (hb:s.heap.get? xb=some (aX [.int n0 v0,.int n1 v1,.int n2 v2,.int n3 v3]))
    (bm:∀x∈[m0,m1,m2,m3],Bd (2^20) x) (bn:∀x∈[n0,n1,n2,n3],Bd (2^20) x)
    (k:∀s' r a b c d,Nxt [] s s'→s.heap.objs.size≤r→s'.heap.get? r=some (aX [.int (m0 * n0+m1 * n2) a,.int (m0 * n1+m1 * n3) b,.int (m2 * n0+m3 * n2) c,.int (m2 * n1+m3 * n3) d])→R (.ok (.ret (.ref r))) s'):
    codeAny (model pw w) A (.call (.ref 304) ⟨[.ref xa,.ref xb],[]⟩) R s:=by
  refine open_times H hh (rmz room rfl) fun s1 B x1 H1 hB f1=> ?_
  refine aT [B] [(xa,aX [.int m0 u0,.int m1 u1,.int m2 u2,.int m3 u3]),(xb,aX [.int n0 v0,.int n1 v1,.int n2 v2,.int n3 v3])] 100 H1 hh (.cons f1 .nil) (.cons (x1.keep0 ha) (.cons (x1.keep0 hb) .nil)) (High.new H hB) (az B) (djc (notin1 (ne_new ha hB)) (dj1 (notin1 (ne_new hb hB)))) (rmo room rfl) rfl [] fun A₀ c q1 hq1 _=> ?_
  refine am (f:=(.ret (.ref (s1.heap.objs.size+12)))) 519 0x3004c004c004c004c004c004c00000000000000000002004b004b004b004b004b004b00000000000000020000000200020002000200400001000000010001000100010040000000000002004a004a004a004a004a004a0000000000000002000000020002000200020040000100000001000100010001004000000000000000030049004900490049004900490000000000000000000200480048004800480048004800000000000000020000000200020002000200400001000000010001000100010040000000000002004700470047004700470047000000000000000200000002000200020002004000010000000100010001000100400000000000000003004600460046004600460046000000000000000000020045004500450045004500450000000000000002000000020002000200020040000100000001000100010001004000000000000200440044004400440044004400000000000000020000000200020002000200400001000000010001000100010040000000000000000300430043004300430043004300000000000000000002004200420042004200420042000000000000000200000002000200020002004000010000000100010001000100400000000000020041004100410041004100410000000000000002000000020002000200020040000100000001000100010001004000000000 [0,13] [True,IntMulOk m3 n3,IntMulOk m2 n1,True,IntMulOk m3 n2,IntMulOk m2 n0,True,IntMulOk m1 n3,IntMulOk m0 n1,True,IntMulOk m1 n2,IntMulOk m0 n0] [some (frO [ew w "m" s.4 (.ref xa),ew w "n" (s.4+1) (.ref xb)]),some (aX [.int ((m0 * n0)+(m1 * n2)) (s1.toks+12),.int ((m0 * n1)+(m1 * n3)) (s1.toks+25),.int ((m2 * n0)+(m3 * n2)) (s1.toks+38),.int ((m2 * n1)+(m3 * n3)) (s1.toks+51)])] 14 52 (by apply cW1 q1 w<;>first|apply hq1|(intro w;kernel_rfl)) ?_ fun s2 x2 g2=>k s2 _ _ _ _ _ (Nxt.drop (x1.nil.trans x2) hB) (ad x1.heap.size (aw _ _)) (g2 1)
  intro P hP
  simp only [List.mem_cons,List.not_mem_nil,or_false] at hP
  simp only [List.mem_cons,List.not_mem_nil,or_false,forall_eq_or_imp,forall_eq] at bm bn
  rcases hP with rfl|rfl|rfl|rfl|rfl|rfl|rfl|rfl|rfl|rfl|rfl|rfl
  all_goals first|trivial|exact cx (by simp only [bm]) (by simp only [bn])
open Sem (wp)
noncomputable def Sim{α:Type}(M:Model)(c:Code)(P:aa→Prop)(t₁ t₀:Sem α):Prop:=∀Γ p Q E s,Γ.code=c→P s→wp M Γ t₁ Q E p s→wp M Γ t₀ Q E p s
section
variable {α β:Type} {M:Model} {c:Code} {P:aa→Prop}
theorem Sim.own{t₁ t₀:Sem α}(a:Sim M c P t₁ t₀){A:ai}{Q:α→aa→Prop}{E:Value→aa→Prop}{s:aa}(hP:P s)(h:wpOwn M A c t₁ Q E s):wpOwn M A c t₀ Q E s:=
  fun Γ p hc hΓ=>a Γ p _ _ s hc hP (h Γ p hc hΓ)
theorem Sim.tryIt{m₁ m₀:Sem α}{k:Value→Sem Unit}(a:Sim M c P m₁ m₀):Sim M c P (m₁.onRaise k) (m₀.onRaise k):=by
  intro Γ p Q E s hc hP h
  rw [Sem.wp_onRaise] at h⊢
  exact a Γ p _ _ s hc hP h
end
theorem wp_noComps{M:Model}{Γ:PySem.Ctx}{p:Pos}{body:List Stmt}{env:Env}{Q:List Env→Pos→aa→Prop}{E:Value→Pos→aa→Prop}{s:aa}(hc:Γ.code=Code.func body env)(h:Q [] p s):wp M Γ comprehensionsAround Q E p s:=by
  unfold comprehensionsAround callersCodes
  rw [Sem.wp_bind',Sem.wp_bind']
  have hs:∀Q':List (Code×Pos)→Pos→aa→Prop,wp M Γ stack Q' E p s=Q' ((Γ.code,p)::Γ.below) p s:=fun _=>rfl
  rw [hs,hc]
  have e:pastTheWaiting ((.func body env,p)::Γ.below)=(.func body env,p)::pastTheWaiting.go false (some (.func body env)) Γ.below:=rfl
  rw [e]
  dsimp only
  split
  · rename_i hx
    exact absurd (show (some env.frame !=some env.frame)=true from hx) (by simp)
  · exact h
noncomputable def bU(env:Env)(a:Str)(pos:Pos):Sem Value:=do
  standAt pos
  let g←loadName env "super"
  let cls←loadName env "__class__"
  let self←loadName env a
  let aType←isType cls
  if g== .type "super"&&aType then call g [cls,self] else holding [cls,self] (call g [])
theorem eW{prog:Program}{w:ag}{body:List Stmt}{env:Env}{p0 p1:Pos}{attr:Str}{whole:Sem Value}{f cc:Addr}{of oc:Obj}{fd:FuncData}{ar:Arg}{vs:Array Value}{file:Str}{tf:Tok}
    (hks:env.kindOf "super"=some .globalImplicit) (hkc:env.kindOf "__class__"=some .free) (hat:(attr==("__class__":Str))=false) (hfu:env.func=some f) (hfd:of.data= .func fd)
    (hp:(fd.params.posonlyargs++fd.params.args).head? =some ar) (hco:env.code= .ref cc) (hoc:oc.data= .fields vs) (hvs:vs[2]? =some (.str file tf))
    (hfile:((prog.main.file:Str)==file)=true) (htop:(prog.main.scope.names.lookup ("super":Str)).isSome=false):
    Sim (model prog w) (.func body env) (fun s=>s.heap.get? f=some of∧s.heap.get? cc=some oc) (bU env ar.arg p1) (attributeBase (.Call (.Name "super" p0) [] [] p1) attr env whole):=by
  rintro Γ p Q E s hc ⟨hf,hcc⟩ h
  unfold attributeBase
  simp only [bne_self_eq_false,hat,hks,hkc,hfu,hco,Bool.or_false,Bool.or_self,Bool.false_eq_true,if_false,Option.isSome_some,if_true,pure_bind]
  unfold funcData
  rw [Sem.wp_bind',Sem.wp_bind',Sem.wp_cmd_load]
  refine ⟨_,hf,?_⟩
  rw [hfd]
  show wp _ Γ _ Q E p s
  simp only [hp]
  rw [Sem.wp_bind',Sem.wp_cmd_ask,Sem.wp_bind']
  have hfl:∀Q',wp (model prog w) Γ (field (.ref cc) 2) Q' E p s↔Q' (.str file tf) p s:=fun Q'=>by
    unfold field fieldsOf
    simp only [Sem.wp_bind',Sem.wp_cmd_load]
    constructor
    · rintro ⟨o,ho,z⟩
      cases hcc.symm.trans ho
      rw [hoc] at z
      dsimp only at z
      rw [Sem.wp_pure',hvs] at z
      exact z
    · intro z
      refine ⟨_,hcc,?_⟩
      rw [hoc]
      dsimp only
      rw [Sem.wp_pure',hvs]
      exact z
  rw [hfl]
  have hfile':((model prog w).prog.main.file==file)=true:=hfile
  have htop':(List.lookup (Str.ofString "super") (model prog w).prog.main.scope.names).isSome=false:=htop
  simp only [hfile',htop',if_true,Bool.false_eq_true,if_false]
  rw [Sem.wp_bind',Sem.wp_cmd_rule,Sem.wp_bind',Sem.wp_cmd_standAt,Sem.wp_bind']
  unfold bU at h
  rw [Sem.wp_bind',Sem.wp_cmd_standAt,Sem.wp_bind'] at h
  refine Sem.wp_mono _ Γ _ (fun g p' s' z=> ?_) (fun _ _ _ z=>z) _ _ h
  rw [Sem.wp_bind'] at z⊢
  refine Sem.wp_mono _ Γ _ (fun cls p' s' z=> ?_) (fun _ _ _ z=>z) _ _ z
  rw [Sem.wp_bind']
  exact wp_noComps hc z
noncomputable def cA(env:Env)(b:Sem Flow):Sem Fin:=do
  point
  match←b.onRaise (leaving env) with
  | .ret v=>ret v
  |_=>ret .none
theorem func_sim{V:Vw}{S:Sv}{body:List Stmt}{env:Env}{P:aa→Prop}{b:Sem Flow}{s:aa}(hs:Sim (model V.prog V.w) (.func body env) P b (execs body env))(hP:P s)
    (h:Means V S (.func body env) .base (cA env b) s):codeAny (model V.prog V.w) S.A₀ (.func body env) S.R₀ s:=by
  refine y_code _ _ _ _ _ _ ?_
  show wpOwn _ _ _ (cA env (execs body env)) _ _ _
  have sf:Sim (model V.prog V.w) (.func body env) P (cA env b) (cA env (execs body env)):=by
    intro Γ p Q E s hc hP h
    unfold cA at h⊢
    rw [Sem.wp_bind',Sem.wp_cmd_point,Sem.wp_bind'] at h⊢
    exact Sim.tryIt hs Γ p _ _ s hc hP h
  rw [means_own (show inSeg .base=false from rfl)] at h
  exact sf.own hP h
theorem sim_ret{prog:Program}{w:ag}{body:List Stmt}{env:Env}{P:aa→Prop}{o:Expr}{name:Str}{apos pos pos':Pos}{args:List Expr}{t:Sem Value}(h:Sim (model prog w) (.func body env) P t (attributeBase o name env (eval o env))):
    Sim (model prog w) (.func body env) P (do
      standAt pos'
      let ov←t
      standAt apos.atName
      let v←methodCall o name apos pos env ov (args.length+0) (backTo pos (starEach args env)) (backToKw pos (keywordEach [] env))
      pure (.ret v)) (execs [.Return (some (.Call (.Attribute o name apos) args [] pos)) pos'] env):=by
  intro Γ p Q E s hc hP z
  have e:execs [.Return (some (.Call (.Attribute o name apos) args [] pos)) pos'] env=(do
      match←(do
        standAt pos'
        let v←(do
          let ov←attributeBase o name env (eval o env)
          standAt apos.atName
          methodCall o name apos pos env ov (args.length+0) (backTo pos (starEach args env)) (backToKw pos (keywordEach [] env)))
        pure (Flow.ret v)) with
      | .next=>execs [] env
      |f=>pure f):=rfl
  rw [e]
  rw [Sem.wp_bind',Sem.wp_cmd_standAt,Sem.wp_bind'] at z
  rw [Sem.wp_bind',Sem.wp_bind',Sem.wp_cmd_standAt,Sem.wp_bind',Sem.wp_bind']
  refine Sem.wp_mono _ Γ _ (fun ov p' s' z=> ?_) (fun _ _ _ z=>z) _ _ (h Γ _ _ _ s hc hP z)
  rw [Sem.wp_bind',Sem.wp_cmd_standAt] at z⊢
  rw [Sem.wp_bind'] at z
  exact Sem.wp_mono _ Γ _ (fun v p' s' z=>z) (fun _ _ _ z=>z) _ _ z
theorem KTH.at{w:ag}{h:Heap}(H:KTH w h){a:Addr}{o:Obj}(e:(kt1 w.params).get a=some o):h.get? a=some o:=by
  have z:=KT.Holds.get H.1 e
  rwa [Nat.one_mul,Nat.add_zero] at z
theorem fz{w:ag}{s:aa}{A:ai}{R:Result→aa→Prop}{y B da n t0:Nat}{l:List Value}(H:KTH w s.heap)(room:A.depth+60<recursionLimit)(hh:A.handled=none)
    (hx:s.heap.get? (y+322)=some (accO da l n)) (hf:s.heap.get? B=some (frO [en w.params (S "self") t0 (.ref (y+322))])) (k:∀h' g' tk u,Ext [] s.heap h'→GX s.gens g'→R (.ok (.ret (.int l.toArray.size u))) {s with heap:=h',gens:=g',toks:=tk}):
    codeAny (model pw w) A (.func (bw (aR (o175 w.params))) (ck (aR (o175 w.params)) B 175 (S "_Accumulator.part_count.<locals>."))) R s:=by
  refine func_sim (V := vw w s [(B, frO [en w.params (S "self") t0 (.ref (y + 322))]), (y + 322, accO da l n)] [] 60) (S := svOf s [] A R A.depth (.call (.ref 175) ⟨[], []⟩)) (P := fun s => s.heap.get? 175 = some (o175 w.params) ∧ s.heap.get? 174 = some (o174 w.params))
    (sim_ret (eW (f:=175) (cc:=174) (of:=o175 w.params) (oc:=o174 w.params) (fd:=aR (o175 w.params)) (ar:=arg0 (aR (o175 w.params))) (vs:=flds (o174 w.params)) (file:=sAt (flds (o174 w.params)) 2) (tf:=tAt (flds (o174 w.params)) 2) (by kernel_rfl) (by kernel_rfl) (by kernel_rfl) (by kernel_rfl) (by kernel_rfl) (by kernel_rfl) (by kernel_rfl) (by kernel_rfl) (by kernel_rfl) (by kernel_rfl) (by kernel_rfl))) ⟨H.at (by kernel_rfl),H.at (by kernel_rfl)⟩ ?_
  refine Good.elim (T:= .nil) (m:=0) (dp:=0) ⟨al _,hh⟩ ?_ rep_nil rfl
  refine b5 (n := 60) (hs := 0x200000041000100410000000200000000000000400040004000000040004000400040004000400040004000400000000200020000000000400040004000000000000000000001000000000000) (js := []) (fl := .fin (.ret (.int l.toArray.size (s.toks + 1)))) (side := []) (os := []) (m' := 2) (i' := 2)
    (ok_of H ac (ro2 hf hx) aD (fun _ h=>by cases h) room) (by kernel_rfl) no_side ?_ (fun _=>room)
  intro h₂ g₂ T₂ D₂ G₂ _
  exact k h₂ _ _ _ D₂.ext G₂
theorem fy{w:ag}{s:aa}{A:ai}{R:Result→aa→Prop}{x da n:Nat}{l:List Value}(H:KTH w s.heap)(room:A.depth+60<recursionLimit)(hh:A.handled=none)
    (ox:322≤x) (hx:s.heap.get? x=some (accO da l n)) (k:∀h' g' tk u,Ext [] s.heap h'→GX s.gens g'→R (.ok (.ret (.int l.toArray.size u))) {s with heap:=h',gens:=g',toks:=tk}):
    codeAny (model pw w) A (.call (.ref 175) ⟨[.ref x],[]⟩) R s:=by
  obtain ⟨y,rfl⟩:∃y,x=y+322:=⟨x - 322,by omega⟩
  have O:Ok (vw w s [(y+322,accO da l n)] [] 60) (svOf s [] A R A.depth (.call (.ref 175) ⟨[],[]⟩)):=ok_of H ac (ro1 hx) aD (fun _ h=>by cases h) room
  refine fk (V:=vw w s [(y+322,accO da l n)] [] 60) (S:=svOf s [] A R A.depth (.call (.ref 175) ⟨[],[]⟩)) (fd:=aR (o175 w.params)) O hh (al _) rep_nil (by kernel_rfl) ?_
  refine b5 (n := 6) (hs := 0x4000400000) (js := [0]) (fl := .body (.func (bw (aR (o175 w.params))) (ck (aR (o175 w.params)) s.heap.objs.size 175 (S "_Accumulator.part_count.<locals>."))))
    (side:=[]) (os:=[some (frO [en w.params (S "self") s.toks (.ref (y+322))])]) (m':=1) (i':=1) O (by kernel_rfl) no_side ?_ (fun _=>room)
  intro h₁ g₁ T₁ D₁ G₁ e₁ hl₁
  have f₁:h₁.get? s.heap.objs.size=some (frO [en w.params (S "self") s.toks (.ref (y+322))]):=D₁.get (List.cons.inj e₁).1
  have x₁:Ext [] s.heap h₁:=D₁.ext
  exact ⟨by kernel_rfl,fz (s:=⟨h₁,g₁,s.drawn,s.toks+1,s.os⟩) (H.ext x₁ ac) room hh (x₁.keep _ _ hx (fun h=>by cases h)) f₁ fun h' g' tk u a b=>k h' g' tk u (x₁.trans a) (G₁.trans b)⟩
open Sem (wp)
section
variable {α β:Type} {M:Model} {A:ai}
end
noncomputable def Items(h:Heap)(l:Addr)(items:Array Value):Prop:=∃o n,h.get? l=some o∧o.data= .seq items n
section
variable {prog:Program} {w:ag} {A:ai} {E:Value→aa→Prop} {s:aa} {it l:Addr} {i:Nat} {items:Array Value} {Q:Option Value→aa→Prop}
theorem Items.extBut{h h':Heap}{a b:Addr}(x:Items h a items)(hs:Heap.ExtBut b h h')(hab:a≠b):Items h' a items:=by
  obtain ⟨o,n,e,d⟩:=x
  exact ⟨o,n,hs a o hab e,d⟩
theorem turn_item{M:Model}{x:Value}{Q:Value→aa→Prop}(hit:s.heap.IsListIter it l i)(hl:Items s.heap l items)(hx:items[i]? =some x)(hQ:∀h',h'.IsListIter it l (i+1)→Heap.SameBut it s.heap h'→Q x {s with heap:=h'}):
    wpAny M A (Builtin.«list_iterator.__next__» ⟨[.ref it],[]⟩) (fun fin s'=>∃v,fin= .done (.ret v)∧Q v s') E s:=by
  obtain ⟨o,ho,hc,hd⟩:=hit
  obtain ⟨ol,nl,hol,hdl⟩:=hl
  have look:∀{B:Type} {f:Option (Array Value)→Sem B} {Q':B→aa→Prop} {A':ai},wpAny M A' (f (some items)) Q' E s→wpAny M A' (seqItems? (.ref l)>>=f) Q' E s:=fun z=>af (wpAny_seqItems hol hdl z)
  refine af (m:=field (.ref it) 0) (wpAny_field ho hd (x:= .ref l) rfl ?_)
  rw [if_neg (show ¬((Value.ref l==Value.none)=true) from Bool.false_ne_true)]
  refine af (m:=field (.ref it) 1) (wpAny_field ho hd (x:= .int i 0) rfl (look ?_))
  simp only [Int.toNat_natCast,hx]
  refine af (wpAny_setField ho hd (by simp) (wpAny_pure ⟨x,rfl,hQ _ ⟨_,Heap.get?_update_self _ ho (Obj.isFreed_of_fields (Obj.data_mapFields hd _)),(Obj.cls_mapFields ..).trans hc,?_⟩ (Heap.SameBut.update ..)⟩))
  rw [Obj.data_mapFields hd]
  simp [rawInt]
theorem next_item{x:Value}(hit:s.heap.IsListIter it l i)(hl:Items s.heap l items)(hx:items[i]? =some x)(hQ:∀h',h'.IsListIter it l (i+1)→Heap.SameBut it s.heap h'→Q (some x) {s with heap:=h'}):
    wpAny (model prog w) A (pyNext (.ref it)) Q E s:=by
  unfold pyNext
  refine af (wpAny_attempt (wpAny_callSpecial?_slot (name:=Str.ofString "__next__") hit.typeIs slot_listiter_next (wpAny_call_entry slot_listiter_next hit.typeIs entry_listiter_next (turn_item hit hl hx fun h' a b=> ?_) (args_listiter_next _))))
  exact wpAny_pure (hQ h' a b)
theorem next_end(hh:A.handled=none)(hit:s.heap.IsListIter it l i)(hl:Items s.heap l items)(hx:items[i]? =none)(hQ:∀h',Heap.ExtBut it s.heap h'→Q none {s with heap:=h'}):wpAny (model prog w) A (pyNext (.ref it)) Q E s:=by
  obtain ⟨o,ho,hc,hd⟩:=id hit
  obtain ⟨ol,nl,hol,hdl⟩:=hl
  have stop:wpAny (model prog w) A.in1 (Builtin.«list_iterator.__next__» ⟨[.ref it],[]⟩) (fun _ _=>False) (fun e s'=>(∃oe,s'.heap.get? (match e with| .ref a=>a|_=>0)=some oe∧oe.cls= .type "StopIteration")∧(∃a,e= .ref a)∧∃h',s'={s with heap:=h'}∧Heap.ExtBut it s.heap h') s:=by
    refine af (m:=field (.ref it) 0) (wpAny_field ho hd (x:= .ref l) rfl ?_)
    rw [if_neg (show ¬((Value.ref l==Value.none)=true) from Bool.false_ne_true)]
    refine af (m:=field (.ref it) 1) (wpAny_field ho hd (x:= .int i 0) rfl ?_)
    refine af (m:=seqItems? (.ref l)) (wpAny_seqItems hol hdl ?_)
    simp only [Int.toNat_natCast,hx]
    refine af (wpAny_rule (af (wpAny_setField ho hd (by simp) ?_)))
    unfold Builtin.SmallTypes.stopIteration raiseNew newExc newTuple
    refine af (af (wpAny_newObj_type ?_ (by size_fits)))
    refine af (m:=firstArgMember _ _) (wpAny_of_eq (a:=Value.none) (by first|rfl|(simp only [firstArgMember];rfl)) (wpAny_newObj_type ?_ (by size_fits)))
    refine af (wpAny_handled ?_)
    rw [show A.in1.handled=none from hh]
    exact af (wpAny_pure (wpAny_throw ⟨⟨_,Heap.get?_push_size _ rfl,rfl⟩,⟨_,rfl⟩,_,rfl,((Heap.SameBut.update ..).extBut.push _).push _⟩))
  unfold pyNext
  refine af (wpAny_attempt (wpAny_callSpecial?_slot (name:=Str.ofString "__next__") hit.typeIs slot_listiter_next (wpAny_call_entry slot_listiter_next hit.typeIs entry_listiter_next (wpAny_mono stop (fun _ _ x=>x.elim) fun e s' z=> ?_) (args_listiter_next _))))
  obtain ⟨⟨oe,h1,h2⟩,⟨a,rfl⟩,h',rfl,h3⟩:=z
  exact af (wpAny_isInstance (T:= "StopIteration") (b:=true) ⟨oe,h1,h2⟩ isSubtype_stop (wpAny_pure (hQ h' h3)))
structure AtPair (I ax:Addr) (items:Array Value) (Ts:Nat→Addr) (vals:Nat→Array Value) (j:Nat) (h:Heap):Prop where
  it:h.IsListIter I ax j
  its:Items h ax items
  tup:∀k,k<items.size→h.IsTuple (Ts k) (vals k)
theorem AtPair.keep{I ax:Addr}{Ts:Nat→Addr}{vals:Nat→Array Value}{j:Nat}{h h':Heap}(x:AtPair I ax items Ts vals j h)(k:∀b∈I::ax::(List.range items.size).map Ts,∀o,h.get? b=some o→h'.get? b=some o):AtPair I ax items Ts vals j h':=by
  obtain ⟨⟨o,h1,h2⟩,⟨o',n,h3,h4⟩,h5⟩:=x
  refine ⟨⟨o,k I (.head _) o h1,h2⟩,⟨o',n,k ax (.tail _ (.head _)) o' h3,h4⟩,fun i hi=> ?_⟩
  obtain ⟨o,q,r⟩:=h5 i hi
  exact ⟨o,k _ (.tail _ (.tail _ (List.mem_map.mpr ⟨i,List.mem_range.mpr hi,rfl⟩))) o q,r⟩
theorem walk_pairs{I ax:Addr}(hh:A.handled=none)(hne:ax≠I){Ts:Nat→Addr}{vals:Nat→Array Value}(hit:∀j,j<items.size→items[j]? =some (.ref (Ts j)))(hTI:∀j,j<items.size→Ts j≠I):
    WalksU prog w A I (I::ax::(List.range items.size).map Ts) [I] items.size (fun j v=>j<items.size∧v=vals j) (AtPair I ax items Ts vals) (fun j T h=>(j<items.size∧T=Ts j)∧AtPair I ax items Ts vals (j+1) h) where
  sub:=fun b hb=>by rcases List.mem_cons.mp hb with rfl|hb;exact .head _;cases hb
  frame:=fun _ _ _ st hk=>st.keep hk
  item:=fun i s Q E hi st hQ=>next_item st.it st.its (hit i hi) fun h' hit' hs'=>by
    have tup:∀k,k<items.size→h'.IsTuple (Ts k) (vals k):=fun k hk=>(st.tup k hk).extBut hs'.extBut (hTI k hk)
    exact hQ (Ts i) (vals i) h' s.toks ⟨hi,rfl⟩ (tup i hi) ⟨⟨hi,rfl⟩,hit',st.its.extBut hs'.extBut hne,tup⟩ fun b o hb e=>hs'.extBut b o (fun h=>hb (h▸.head _)) e
  go:=fun _ _ _ _ _ s Q _ hm hQ=>wpAny_letOwnedTupleGo_listiter hm.2.it (hQ s.heap hm.2 fun _ _ _ e=>e)
  apart:=fun j T _ hm hmem=>by
    rcases List.mem_cons.mp hmem with e|e
    · exact hTI j hm.1.1 (hm.1.2▸e)
    · cases e
  done:=fun s Q E st hQ=>next_end hh st.it st.its (by simp) fun h' he'=>hQ h' s.toks fun b o hb e=>he' b o (fun h=>hb (h▸.head _)) e
  self:=fun _ _ _ _ st hQ=>wpAny_pyIter_listiter st.it hQ
end
noncomputable def dictO(o:Obj):Array DictEntry:=match o.data with
  | .dict es _=>es
  |_=> #[]
noncomputable def keysOk(l:List DictEntry):Bool:=l.all fun e=>match e.key with
  | .str _ _=>true
  |_=>false
noncomputable def isDictO(o:Obj):Bool:=match o.data with
  | .dict es _=>keysOk es.toList
  |_=>false
set_option tactic.hygienic true in
theorem dy{h:Heap}{a:Addr}{o:Obj}(e:h.get? a=some o)(d:isDictO o=true):h.Ns a (nsFind (dictO o)):=by
  obtain ⟨c,dd,dt,sl⟩:=o
  unfold isDictO at d
  dsimp only at d
  split at d
  · rename_i es ep
    refine ⟨_,es,ep,e,rfl,fun x hx=> ?_,fun _=>rfl⟩
    have z:=List.all_eq_true.mp d x (Array.mem_toList_iff.mpr hx)
    split at z
    · rename_i n t hk;exact ⟨n,t,hk⟩
    · cases z
  · cases d
noncomputable def mgs(P:ae):Str→Option Value:=nsFind (dictO (o3 P))
noncomputable def mbs(P:ae):Str→Option Value:=nsFind (dictO (boot_o_0 P))
theorem KTH.globals{w:ag}{h:Heap}(H:KTH w h):h.Ns 3 (mgs w.params):=dy (H.at (by kernel_rfl)) (by kernel_rfl)
theorem KTH.builtins{w:ag}{h:Heap}(H:KTH w h):h.Ns 0 (mbs w.params):=dy (H.at (by kernel_rfl)) (by kernel_rfl)
section
variable {w:ag} {A:ai} {E:Value→aa→Prop} {s:aa} {env:Env}
theorem dX{x:Str}{v:Value}{pos:Pos}{Q:Value→aa→Prop}(H:KTH w s.heap)(hk:env.scope.kind= .function)(hx:env.kindOf x=some .globalImplicit)(hg:env.globals=3)(hb:env.builtins=0)
    (n:mgs w.params x=none) (y:mbs w.params x=some v) (hd:(x==("__debug__":Str))=false) (h:Q v s):wpAny (model pw w) A (eval (.Name x pos) env) Q E s:=
  Calls.Name_function_global hk hx (Calls.loadGlobal_builtin (hg▸H.globals) n (hb▸H.builtins) y h) hd
theorem be{x:Str}{v:Value}{pos:Pos}{m:Str→Option Value}{Q:Value→aa→Prop}(hk:env.scope.kind= .function)(hl:env.kindOf x=some .local)(hn:s.heap.Ns env.locals m)(hv:m x=some v)(hd:(x==("__debug__":Str))=false)(h:Q v s):
    wpAny (model pw w) A (eval (.Name x pos) env) Q E s:=wpAny_Name (wpAny_loadName_local hk hl hn hv h) hd
theorem len_name{x:Str}{p pos p':Pos}{m:Str→Option Value}{f:Str}{t:Tok}{Q:Value→aa→Prop}(H:KTH w s.heap)(hk:env.scope.kind= .function)(hx:env.kindOf "len"=some .globalImplicit)(hg:env.globals=3)(hb:env.builtins=0)
    (hl:env.kindOf x=some .local) (hn:s.heap.Ns env.locals m) (hv:m x=some (.str f t)) (hd:(x==("__debug__":Str))=false) (hf:f.length<2^62) (h:∀t' k,Q (.int f.length t') {s with toks:=k}):
    wpAny (model pw w) A (eval (.Call (.Name "len" p) [.Name x p'] [] pos) env) Q E s:=by
  refine wpAny_Call_ofName (dX H hk hx hg hb (v:= .builtin "len") (by kernel_rfl) (by kernel_rfl) (by decide) ?_)
  refine Calls.callWith_builtin rfl (Calls.evalArgs_plain (Calls.spliced_cons (be hk hl hn hv hd (Calls.spliced_nil ?_))))
  exact P.len_str (by lia) (h _ _)
theorem elt_len{xa xb:Str}{p1 p2 p3 p4 p5 p6 p7:Pos}{m:Str→Option Value}{f g:Str}{tf tg:Tok}(H:KTH w s.heap)(hk:env.scope.kind= .function)(hx:env.kindOf "len"=some .globalImplicit)(hg:env.globals=3)(hb:env.builtins=0)
    (ha:env.kindOf xa=some .local) (hbb:env.kindOf xb=some .local) (hn:s.heap.Ns env.locals m) (va:m xa=some (.str f tf)) (vb:m xb=some (.str g tg)) (da:(xa==("__debug__":Str))=false) (db:(xb==("__debug__":Str))=false) (hf:f.length<2^61) (hgl:g.length<2^61):
    wpAny (model pw w) A (eval (.BinOp (.Call (.Name "len" p1) [.Name xa p2] [] p3) .Add (.Call (.Name "len" p4) [.Name xb p5] [] p6) p7) env) (fun y s₃=>(∃t,y= .int ((f.length:Int)+g.length) t)∧Keeps s s₃) E s:=by
  refine wpAny_BinOp (len_name H hk hx hg hb ha hn va da (ah ‹_› (by decide)) fun t1 k1=>len_name (s:={s with toks:=k1}) H hk hx hg hb hbb hn vb db (ah ‹_› (by decide)) fun t2 k2=> ?_)
  refine wpAny_add_int ?_
  exact ⟨⟨_,rfl⟩,_,_,rfl,fun _ _ e=>e⟩
end
noncomputable def Tab(h:Heap)(P:Addr)(pos:Pos):Prop:=h.get? P=some (tableObj #[])∨∃c',h.get? P=some (tableObj #[rawInt pos.line,rawInt pos.col,.ref c'])
noncomputable def CodeAt(o:Obj)(P:Addr):Prop:=∃(vs:Array Value) (f:Str) (tf:Tok) (fl:Int) (tg:Tok) (b:Bool) (tx:Int) (tt:Tok),o.data= .fields vs∧vs.getD 11 .none= .ref P∧vs.getD 18 .none= .str f tf∧vs.getD 7 .none= .int fl tg∧vs.getD 9 .none= .bool b∧vs.getD 10 .none= .int tx tt∧o.cls= .type "code"∧vs[11]? =some (.ref P)
theorem isCode_of{h:Heap}{c P:Addr}{o:Obj}{ps:Array Value}(e:h.get? c=some o)(k:CodeAt o P)(t:h.get? P=some (tableObj ps))(tr:TriplesOk ps.toList)(ne:c≠P):h.IsCode c P ps∧h.TableAt c P ps:=
  let ⟨vs,f,tf,fl,tg,b,tx,tt,hd,e1,e2,e3,e4,e5,e6,h11⟩:=k
  ⟨⟨o,vs,f,tf,fl,tg,b,tx,tt,tableObj ps,e,hd,e1,e2,e3,e4,e5,t,rfl,tr,ne⟩,⟨o,vs,e,e6,hd,h11⟩,t⟩
theorem genexpr_code{M:Model}{A:ai}{E:Value→aa→Prop}{s:aa}{env:Env}{c P:Addr}{o:Obj}{pos:Pos}{q:Str}{scope:Scope}{Q:Value→aa→Prop}(hc:env.code= .ref c)(e:s.heap.get? c=some o)(k:CodeAt o P)(ne:c≠P)
    (T:Tab s.heap P pos) (h:∀c' h' tk,Ext [P] s.heap h'→Tab h' P pos→Q (.ref c') {s with heap:=h',toks:=tk}):wpAny M A (genexprCode env pos q scope) Q E s:=by
  rcases T with T|⟨c',T⟩
  · obtain ⟨a,b⟩:=isCode_of e k T trivial ne
    refine wpAny_genexprCodeX hc a b rfl fun c' h' tk x1 x2 x3 x4 x5 x6 _=>h c' h' tk ⟨fun b o e q=>x1 b o (fun z=>q (z▸.head _)) e,by lia⟩ (.inr ⟨c',x6.2⟩)
  · have hf:codeAmong pos (#[rawInt pos.line,rawInt pos.col,.ref c']:Array Value).toList=some (.ref c'):=by simp [codeAmong,rawInt]
    obtain ⟨a,b⟩:=isCode_of e k T (by first|exact trivial|(simp [TriplesOk,rawInt])) ne
    exact wpAny_genexprCode_hit hc a hf (h c' s.heap s.toks (Ext.refl _ _) (.inr ⟨c',T⟩))
theorem row_of(w:ag):∃w' b,w=World.withFollow w' "special-get-raises" b:=⟨w,w.params.followText "special-get-raises",(World.withFollow_self w _).symm⟩
theorem iter_acc{w:ag}{s:aa}{A:ai}{E:Value→aa→Prop}{Q:Value→aa→Prop}{y da n:Nat}{l:List Value}(H:KTH w s.heap)(room:A.depth+60<recursionLimit)(hh:A.handled=none)(hx:s.heap.get? (y+322)=some (accO da l n))
    (k:∀h' g' tk,Ext [] s.heap h'→GX s.gens g'→h'.IsListIter s.heap.objs.size (y+322) 0→Q (.ref s.heap.objs.size) {s with heap:=h',gens:=g',toks:=tk}):wpAny (model pw w) A (pyIter (.ref (y+322))) Q E s:=by
  obtain ⟨w',b,rfl⟩:=row_of w
  refine any_good (ro:=[(y+322,accO da l n)]) (as:=[]) (mods:=[]) (lim:=60) (T:= .nil) hh (fun _ _=>rep_nil) fun A₀ c o=> ?_
  rw [PySem.W.Fast.te8711993805878244202]
  have O:∀b,Ok (vw (World.withFollow w' "special-get-raises" b) s [(y+322,accO da l n)] [] 60) (svOf s [] A₀ (RV Q E) A.depth c)→Good (vw (World.withFollow w' "special-get-raises" b) s [(y+322,accO da l n)] [] 60) (svOf s [] A₀ (RV Q E) A.depth c) c .own 0 (embV (PySem.W.Fast.tw8711993805878244202 (.ref (y+322)))) .nil 0 0 []:=by
    intro b O
    have done:∀cf,Done (vw (World.withFollow w' "special-get-raises" b) s [(y+322,accO da l n)] [] 60) (svOf s [] A₀ (RV Q E) A.depth c) cf [0] [some ⟨.type "list_iterator",none,.fields #[.ref (y+322),.int 0 0],#[]⟩] 1 0 (.fin (.ret (.ref s.heap.objs.size))):=by
      intro cf h' g' T' D G e
      exact k h' g' _ D.ext G ⟨_,D.get (List.cons.inj e).1,rfl,rfl⟩
    cases b
    · exact b5 (n:=16) (hs:=0x4000000000000100000000000000010000000000000001) O (by kernel_rfl) no_side (done _) (fun ⟨_,h⟩=>by cases h)
    · exact b5 (n:=16) (hs:=0x4000000000000100000000000000010000000000000001) O (by kernel_rfl) no_side (done _) (fun ⟨_,h⟩=>by cases h)
  exact O b (ok_of H ac (ro1 hx) aD (fun _ h=>by cases h) room)
noncomputable def fromS(H:Int)(val:Nat→Int):Nat→Int
  |0=>H
  |j+1=>val j
theorem fn(H:Int)(val:Nat→Int):∀n,preSum (fromS H val) (n+1)=H+preSum val n
  |0=>by show 0+H=H+0;lia
  |n+1=>by
    show preSum (fromS H val) (n+1)+val n=H+(preSum val n+val n)
    rw [fn H val n];lia
section
variable {prog:Program} {w:ag} {A:ai} {E:Value→aa→Prop} {s:aa} {I:Addr} {fp wr:List Addr} {G:Array GenState→Array GenState→Prop} {n:Nat} {P:Nat→Value→Prop} {St:Nat→aa→Prop}
theorem walk_shift(W:WalksS prog w A I fp wr G n P St):WalksS prog w A I fp wr G (n+1) (fun i v=>∃j,i=j+1∧P j v) (fun i s=>∃j,i=j+1∧St j s) where
  sub:=W.sub
  grefl:=W.grefl
  gtrans:=W.gtrans
  frame:=fun i s h' tk ⟨j,e,st⟩ l k=>⟨j,e,W.frame j s h' tk st l k⟩
  item:=fun i s Q E hi ⟨j,e,st⟩ hQ=>by
    subst e
    exact W.item j s Q E (Nat.lt_of_succ_lt_succ hi) st fun v s' hp hs hm=>hQ v s' ⟨j,rfl,hp⟩ ⟨j+1,rfl,hs⟩ hm
  done:=fun s Q E ⟨j,e,st⟩ hQ=>by
    have e:=Nat.succ.inj e
    subst e
    exact W.done s Q E st hQ
  self:=fun i s Q E ⟨j,e,st⟩ hQ=>W.self j s Q E st hQ
theorem args_sum2(a b:Value):argsOk "sum" ⟨[a,b],[]⟩:=by unfold argsOk;kernel_rfl
theorem call_sum_start{H:Int}{t:Tok}{Q:Value→aa→Prop}(W:WalksS prog w A.in1 I fp wr G n P St)(val:Nat→Int)(hst:St 0 s)(hfp:∀b∈fp,b<s.heap.objs.size)(hval:∀i v,P i v→NumOf (val i) v)
    (hQ:∀s' t',Moved wr G s s'→Q (.int (H+preSum val n) t') s'):wpAny (model prog w) A (call (.builtin "sum") [.ref I,.int H t]) Q E s:=by
  refine call_function_tree F.kind_sum F.plain_sum F.entry_sum (args_sum2 _ _) ?_
  unfold Builtin.«sum»
  simp only [List.length_cons,List.length_nil]
  rw [if_neg (by decide)]
  refine af (wpAny_of_eq (show Builtin.Builtins.bindParams "sum" ["start"] 0 ⟨[.int H t],[]⟩=pure [some (.int H t)] from rfl) ?_)
  refine af (W.self 0 s _ _ hst ?_)
  have hSf:s.heap.objs.size∉fp:=fun hm=>Nat.lt_irrefl _ (hfp _ hm)
  have h1:preSum (fromS H val) 1=H:=by show 0+H=H;lia
  have fin:∀(st:Int) (tk u:Tok),(st=0∨st=2)→s.toks≤tk→codeAny (model prog w) A (.builtin "sum.loop" ⟨[.ref I,.ref s.heap.objs.size,rawInt st,rawInt 0],[]⟩) (fun r s'=>match r with| .ok (.ret v)=>Q v s'| .ok _=>False| .error e=>E e s') {s with heap:=s.heap.push {cls:= .type "list",data:= .seq #[.int H u]},toks:=tk}:=by
    intro st tk u hst2 hle
    refine codeAny_sum_loopAnyB (walk_shift W) (fromS H val) (fun i v ⟨j, e, hp⟩ => by subst e; exact hval j v hp) s.heap.objs.size hSf n 1 _ u 0 st hst2 (by lia) (ab _ _)
      ((walk_shift W).frame 1 s _ _ ⟨0,rfl,hst⟩ hle fun b _ o e=>Heap.get?_push_of_some _ e) (by rw [h1];exact Heap.get?_push_size _ rfl) fun s' t' hm=> ?_
    rw [fn]
    exact hQ s' t' (hm.drop_new hle)
  dsimp only
  split
  · refine af (wpAny_rule (af (wpAny_mkInt (af (wpAny_pure ?_)))))
    simp only [List.forIn_cons,List.forIn_nil]
    refine af (af (af (wpAny_isInstance (T:= "int") (b:=false) (typeIs_int _ _ _) PySem.sub_int_str ?_)))
    simp only [Bool.false_eq_true,if_false]
    refine wpAny_pure (af (af (wpAny_isInstance (T:= "int") (b:=false) (typeIs_int _ _ _) sub_int_bytes ?_)))
    simp only [Bool.false_eq_true,if_false]
    refine wpAny_pure (af (af (wpAny_isInstance (T:= "int") (b:=false) (typeIs_int _ _ _) sub_int_bytearray ?_)))
    simp only [Bool.false_eq_true,if_false]
    refine wpAny_pure (wpAny_pure ?_)
    refine af (wpAny_newObj_type ?_)
    exact wpAny_pure ⟨plainId_quiet F.plain_sum_loop _,fin 0 _ _ (.inl rfl) (aK _)⟩
  · refine af (wpAny_pure ?_)
    simp only [List.forIn_cons,List.forIn_nil]
    refine af (af (af (wpAny_isInstance (T:= "int") (b:=false) (typeIs_int _ _ _) PySem.sub_int_str ?_)))
    simp only [Bool.false_eq_true,if_false]
    refine wpAny_pure (af (af (wpAny_isInstance (T:= "int") (b:=false) (typeIs_int _ _ _) sub_int_bytes ?_)))
    simp only [Bool.false_eq_true,if_false]
    refine wpAny_pure (af (af (wpAny_isInstance (T:= "int") (b:=false) (typeIs_int _ _ _) sub_int_bytearray ?_)))
    simp only [Bool.false_eq_true,if_false]
    refine wpAny_pure (wpAny_pure ?_)
    refine af (wpAny_newObj_type ?_)
    exact wpAny_pure ⟨plainId_quiet F.plain_sum_loop _,fin 2 _ _ (.inr rfl) (al _)⟩
end
structure PD where
  a:Nat
  f:Str
  tf:Tok
  p:Str
  tp:Tok
noncomputable def PD.o(d:PD):Obj:=aX [.str d.f d.tf,.str d.p d.tp]
noncomputable def refsD(D:List PD):List Value:=D.map fun d=> .ref (d.a+322)
noncomputable def Pts(h:Heap)(D:List PD):Prop:=∀d∈D,h.get? (d.a+322)=some d.o
theorem Pts.keep{h h':Heap}{D:List PD}(x:Pts h D)(k:∀d∈D,∀o,h.get? (d.a+322)=some o→h'.get? (d.a+322)=some o):Pts h' D:=fun d hd=>k d hd _ (x d hd)
theorem KTH.keep{w:ag}{h h':Heap}(H:KTH w h)(k:∀b o,b<322→h.get? b=some o→h'.get? b=some o)(l:322≤h'.objs.size):KTH w h':=by
  have hs:∀{t:KT} {s b:Nat},(∀x∈keysK t s b,x<322)→KT.Holds h s b t→KT.Holds h' s b t:=by
    intro t
    induction t with
    |nil=>intro s b _ _;trivial
    |node v l r ihl ihr=>
      intro s b q H
      exact ⟨fun o e=>k _ _ (q _ (by unfold keysK;rw [e];exact aB _ (.head _))) (H.1 o e),
        ihl (fun x hx=>q x (by unfold keysK;exact aE _ (aB _ hx))) H.2.1,
        ihr (fun x hx=>q x (by unfold keysK;exact aE _ (aE _ hx))) H.2.2⟩
  exact ⟨hs (fun x hx=>(dE (kt1_keys w.params) hx).1) H.1,l⟩
theorem passing_all{n j i:Nat}(h:(passing (fun _=>true) n 0)[j]? =some i):i=j:=by
  unfold passing at h
  rw [List.drop_zero,List.filter_eq_self.mpr (fun _ _=>rfl)] at h
  obtain ⟨hl,e⟩:=List.getElem?_eq_some_iff.mp h
  rw [List.getElem_range] at e
  exact e.symm
theorem passing_len(n:Nat):(passing (fun _=>true) n 0).length=n:=by
  unfold passing
  rw [List.drop_zero,List.filter_eq_self.mpr (fun _ _=>rfl),List.length_range]
theorem gx_push{g:Array GenState}{x:GenState}(hx:x.bare=true):GX g (g.push x):=by
  refine ⟨by rw [Array.size_push];lia,fun i hi=>by rw [Array.getElem?_push,if_neg (ay ‹_›)],fun i hi z e=> ?_⟩
  rw [Array.getElem?_push] at e
  split at e
  · cases e;exact hx
  · rw [Array.getElem?_eq_none hi] at e;cases e
theorem gx_only{g₀ a b:Array GenState}(x:GX g₀ a)(h:GenOnlyQ g₀.size a b∨∃n,g₀.size≤n∧GenOnlyQ n a b):GX g₀ b:=by
  obtain ⟨n,hn,h⟩:∃n,g₀.size≤n∧GenOnlyQ n a b:=by
    rcases h with h|h
    · exact ⟨_,al _,h⟩
    · exact h
  rcases h with rfl|⟨⟨h1,h2⟩,h3⟩
  · exact x
  · refine ⟨by rw [h1];exact x.size,fun i hi=>(h2 i (by lia)).trans (x.old i hi),fun i hi z e=> ?_⟩
    by_cases q:i=n
    · subst q;exact h3 z e
    · rw [h2 i q] at e
      exact x.new i hi z e
theorem no_low{b n:Nat}(hb:b<322)(h:b=n)(l:322≤n):False:=by lia
theorem lt_eq{b n a:Nat}(h:b=n)(l:n<a):b<a:=by lia
theorem ne_lt{b n m:Nat}(h:b=n)(l:b<m)(k:m≤n):False:=by lia
theorem ne_gt{b n:Nat}(h:b=n)(l:n<b):False:=by lia
theorem gen_acc{w:ag}{s:aa}{A:ai}{E:Value→aa→Prop}{Q:Value→aa→Prop}{y da n c P:Nat}{D:List PD}{env:Env}{elt:Expr}{xs xa xb:Str}{px pa pb pt:Pos}{kt:Nat}{scope:Scope}{pos:Pos}{m:Str→Option Value}{oc:Obj}(F:Nat→Value→Prop)
    (W:KTH w s.heap) (hh:A.handled=none) (room:A.depth+80<recursionLimit) (ha:s.heap.get? (y+322)=some (accO da (refsD D) n)) (hp:Pts s.heap D)
    (hk:env.scope.kind= .function) (hks:env.kindOf xs=some .local) (hn:s.heap.Ns env.locals m) (hm:m xs=some (.ref (y+322))) (hdb:(xs==("__debug__":Str))=false) (hg:env.globals=3)
    (hco:scope.isCoroutine=false) (hclos:closureFor scope env=pure []) (hcell:∀y∈scope.names,y.2≠.cell) (h0:scope.names.lookup (".0":Str)=some NameKind.local)
    (hxa:scope.names.lookup xa=some .local) (hxb:scope.names.lookup xb=some .local) (hab:xa≠xb) (hkind:scope.kind= .function)
    (hc:env.code= .ref c) (ec:s.heap.get? c=some oc) (kc:CodeAt oc P) (nc:c≠P) (c322:c<322) (T:Tab s.heap P pos) (hP:P=140∨P=147)
    (helt:∀(A':ai) E' i d (s₂:aa) m₂ C (code:Value),A'.handled=none→D[i]? =some d→KTH w s₂.heap→s₂.heap.Ns C m₂→m₂ xa=some (.str d.f d.tf)→m₂ xb=some (.str d.p d.tp)→
      wpAny (model pw w) A' (eval elt (genEnv scope [] C code 0 env)) (fun y s₃=>F i y∧Keeps s₂ s₃) E' s₂)
    (k:∀a s₅ fp wr G Pv St,WalksS pw w A.in4 a fp wr G D.length Pv St→St 0 s₅→(∀b∈fp,b<s₅.heap.objs.size)→a∈fp→(∀i s,St i s→s.TypeIs (.ref a) "generator")→(∀j v,Pv j v→F j v)→Nxt [P] s s₅→Tab s₅.heap P pos→
      (∀s',Moved wr G s₅ s'→Nxt [P] s s'∧Tab s'.heap P pos)→Q (.ref a) s₅):
    wpAny (model pw w) A (eval (.GeneratorExp elt [⟨.Tuple [.Name xa pa,.Name xb pb] kt pt,.Name xs px,[],0⟩] scope pos) env) Q E s:=by
  have hP2:P<322:=by rcases hP with h|h<;>lia
  have hPh:High [P]:=High.cons (.inr hP) ac
  refine wpAny_GeneratorExp_walksQT hh hco hclos hcell h0 hxa hxb hab hkind (by lia) ?_ (fun x=>rfl)
  refine be hk hks hn hm hdb ?_
  refine iter_acc W (rmz room rfl) hh ha fun h₁ g₁ tk₁ x₁ y₁ it₁=>⟨dC (W.ext x₁ ac).two,?_⟩
  have W₁:=W.ext x₁ ac
  have T₁:Tab h₁ P pos:=by
    rcases T with t|⟨c',t⟩
    · exact .inl (x₁.keep _ _ t (fun h=>by cases h))
    · exact .inr ⟨c',x₁.keep _ _ t (fun h=>by cases h)⟩
  refine genexpr_code (c:=c) (P:=P) (o:=oc) hc (x₁.keep _ _ ec (fun h=>by cases h)) kc nc T₁ fun code h₂ tk₂ x₂ T₂=> ?_
  have W₂:=W₁.ext x₂ hPh
  rw [hg]
  refine wpAny_builtinsFor (bm:=4) (m:=mgs w.params) (o:=o4 w.params) W₂.globals (by kernel_rfl) (by decide) (W₂.at (by kernel_rfl)) (by kernel_rfl) (by kernel_rfl) (by kernel_rfl) ?_
  have big:∀b,b∈[P]→b<322:=fun b hb=>by rcases List.mem_cons.mp hb with rfl|hb;exact hP2;cases hb
  have k02:∀b o,322≤b→s.heap.get? b=some o→h₂.get? b=some o:=fun b o hb e=>x₂.keep b o (x₁.keep b o e (fun h=>by cases h)) (fun h=>Nat.not_lt.mpr hb (big b h))
  have hy:s.heap.objs.size≠y+322:=aJ (an ha)
  have it₂:h₂.IsListIter s.heap.objs.size (y+322) 0:=let ⟨o,e,r⟩:=it₁;⟨o,x₂.keep _ _ e (fun h=>Nat.not_lt.mpr W.2 (big _ h)),r⟩
  let Ts:Nat→Addr:=fun j=>match D[j]? with|some d=>d.a+322|none=>0
  let vals:Nat→Array Value:=fun j=>match D[j]? with|some d=> #[.str d.f d.tf,.str d.p d.tp]|none=> #[.none,.none]
  have hsz:(refsD D).toArray.size=D.length:=by simp [refsD]
  have hTs:∀j,j<(refsD D).toArray.size→∃d,D[j]? =some d∧d∈D:=fun j hj=>by
    rw [hsz] at hj
    exact ⟨D[j],aG hj,List.getElem_mem hj⟩
  refine ⟨s.heap.objs.size,s.heap.objs.size::(y+322)::(List.range (refsD D).toArray.size).map Ts,[s.heap.objs.size],(refsD D).toArray.size,_,_,_,fun _=>true,F,rfl,
    fun A' hA'=>walk_pairs (vals:=vals) hA' (Ne.symm hy) (fun j hj=> ?_) (fun j hj=> ?_),fun i v hv=> ?_,⟨it₂,⟨_,_,k02 (y+322) _ (ab _ _) ha,rfl⟩,fun j hj=> ?_⟩,fun b hb=> ?_,dC W₂.two,fun h=> ?_,fun href hr=>⟨fun A' E' i va vb s₂ m₂ h1 h2 h3 h4 h5 h6=> ?_,fun A' E' i va vb s₂ m₂ h1 h2 h3 h4 h5 h6 h7=> ?_⟩,fun a h₅ tk gs hgs hlt hs5 k5 Wk St0=> ?_⟩
  · obtain ⟨d,hd,_⟩:=hTs j hj
    simp only [refsD,Ts,List.getElem?_toArray,aI,hd,Option.map_some]
  · obtain ⟨d,hd,hdm⟩:=hTs j hj
    simp only [Ts,hd]
    exact ay (an (hp d hdm))
  · obtain ⟨_,hv⟩:=hv
    subst hv
    simp only [vals]
    split
    · exact ⟨_,_,rfl⟩
    · exact ⟨_,_,rfl⟩
  · obtain ⟨d,hd,hdm⟩:=hTs j hj
    simp only [Ts,vals,hd]
    exact ⟨_,k02 (d.a+322) _ (ab _ _) (hp d hdm),rfl,_,rfl⟩
  · have hlt:s.heap.objs.size<h₂.objs.size:=let ⟨o,e,_⟩:=it₂;an e
    rcases List.mem_cons.mp hb with rfl|hb
    · exact hlt
    · rcases List.mem_cons.mp hb with rfl|hb
      · exact aC (an ha) hlt
      · obtain ⟨j,hj,rfl⟩:=List.mem_map.mp hb
        obtain ⟨d,hd,hdm⟩:=hTs j (List.mem_range.mp hj)
        simp only [Ts,hd]
        exact aC (an (hp d hdm)) hlt
  · rcases List.mem_cons.mp h with h|h
    · have h2:(2:Nat)=s.heap.objs.size:=h
      have:=W.2;lia
    · cases h
  · exact wpAny_pure ⟨rfl,_,_,rfl,fun _ _ e=>e⟩
  · obtain ⟨hi,h2⟩:=h2
    obtain ⟨d,hd,_⟩:=hTs i hi
    simp only [vals,hd] at h2
    have e1:va= .str d.f d.tf:=by injection h2 with h2;injection h2
    have e2:vb= .str d.p d.tp:=by injection h2 with h2;injection h2 with _ h2;injection h2
    subst e1 e2
    have l1:322≤h₂.objs.size:=W₂.2
    refine helt A' E' i d s₂ m₂ _ (.ref code) h1 hd (W₂.keep (fun b o hb e=>h7 b (List.mem_range.mpr (ah hb l1)) (fun h=> ?_) o (hr b o e)) ?_) h4 h5 h6
    · rcases List.mem_cons.mp h with h|h
      · exact no_low hb h W.2
      · cases h
    · have z:=W₂.at (a:=321) (o:=o321 w.params) (by kernel_rfl)
      exact an (h7 321 (List.mem_range.mpr (ah (by decide) l1)) (fun h=>by rcases List.mem_cons.mp h with h|h;exact no_low (by decide) h W.2;cases h) _ (hr _ _ z))
  · have l1:322≤h₂.objs.size:=W₂.2
    have l0:=W.2
    have n2:∀b o,b∉[P]→s.heap.get? b=some o→h₅.get? b=some o:=fun b o hb e=>k5 b o (x₂.keep b o (x₁.keep b o e (fun h=>by cases h)) hb)
    have lI:s.heap.objs.size<h₂.objs.size:=let ⟨o,e,_⟩:=it₂;an e
    have hlt:h₂.objs.size<a:=hlt
    have z2:s.heap.objs.size≤h₅.objs.size:=by lia
    have T₅:Tab h₅ P pos:=by
      rcases T₂ with t|⟨c',t⟩
      · exact .inl (k5 _ _ t)
      · exact .inr ⟨c',k5 _ _ t⟩
    have e5:Nxt [P] s ⟨h₅,g₁.push gs,s.drawn,tk,s.os⟩:=⟨⟨fun b o e q=>n2 b o q e,z2⟩,y₁.trans (gx_push hgs),rfl,rfl⟩
    rw [passing_len,hsz] at Wk
    rw [hsz] at St0
    have hgen:=St0.1
    refine k a ⟨h₅,g₁.push gs,s.drawn,tk,s.os⟩ _ _ _ _ _ Wk St0 (fun b hb=> ?_) (.head _) (fun i s h=>h.1.typeIs) (fun j v ⟨i,e,f⟩=>passing_all e▸f) e5 T₅ fun s' hm=> ?_
    · show b<h₅.objs.size
      rcases List.mem_cons.mp hb with rfl|hb
      · exact lt_eq rfl (by rw [hs5];exact aO _)
      · rcases List.mem_cons.mp hb with e|hb
        · exact lt_eq e (by rw [hs5];exact Nat.lt_succ_of_lt hlt)
        · have:b<h₂.objs.size:=List.mem_range.mp hb
          rw [hs5]
          exact Nat.lt_succ_of_lt (aC this hlt)
    · have nw:∀b,b<s.heap.objs.size→b∉h₂.objs.size::[s.heap.objs.size]:=fun b hb hx=>by
        rcases List.mem_cons.mp hx with h|hx
        · exact ne_lt h hb (au lI)
        · rcases List.mem_cons.mp hx with h|hx
          · exact ne_lt h hb (al _)
          · cases hx
      have ka:∀b o,b∉h₂.objs.size::[s.heap.objs.size]→h₅.get? b=some o→s'.heap.get? b=some o:=fun b o hb e=>hm.heap b o hb e
      refine ⟨⟨⟨fun b o e q=>ka b o (nw b (an e)) (n2 b o q e),?_⟩,gx_only e5.gens (.inr ⟨_,y₁.size,hm.gens⟩),hm.drawn,hm.os⟩,?_⟩
      · obtain ⟨o,_,_,e,_⟩:=hgen
        have:=an (ka a o (fun hx=>by
          rcases List.mem_cons.mp hx with h|hx
          · exact ne_gt h hlt
          · rcases List.mem_cons.mp hx with h|hx
            · exact ne_gt h (aC lI hlt)
            · cases hx) e)
        exact au (aC (aC lI hlt) this)
      · rcases T₅ with t|⟨c',t⟩
        · exact .inl (ka _ _ (nw P (ah hP2 l0)) t)
        · exact .inr ⟨c',ka _ _ (nw P (ah hP2 l0)) t⟩
theorem run_fin0{w:ag}{s:aa}{ms:List Addr}{A:ai}{R:Result→aa→Prop}{dep:Nat}{c₀:Code}{q:Qd}{f:Flow}(n hs:Nat)(js:List Nat)(side:List Prop)(os:List (Option Obj))(m' i':Nat)(e:RnQ q n hs js (.fin f) side os m' i')(eG:(q.run n hs).G=[])(hside:∀P∈side,P)
    (k:∀s',Nxt ms s s'→s'.gens=s.gens→s'.toks=s.toks+i'→GotM ms s.heap.objs.size s'.heap js os→R (.ok f) s'):GdQ w s ms A R dep c₀ q:=by
  obtain ⟨V,c,κ,dp,t,T,m⟩:=q
  intro L lim vals hV O
  obtain rfl:V=vw w s L ms lim vals:=hV
  exact (run_good O n c κ dp t T m 0 [] hs [] [] [] (fine_fin e eG hside fun h' D g=>k ⟨h',s.gens,s.drawn,s.toks+i',s.os⟩ (c5 (S:=svOf s ms A R dep c₀) D (GX.refl _) rfl rfl rfl rfl rfl rfl) rfl rfl (gotM_of (D.got g)))).2.2.2
noncomputable def lenD(D:List PD):Nat:=(D.map fun d=>d.f.length+d.p.length).sum
noncomputable def SmallD(D:List PD):Prop:=∀d∈D,d.f.length<2^20∧d.p.length<2^20
theorem preSum_len(D:List PD):∀n,n≤D.length→preSum (fun j=>match D[j]? with|some d=>((d.f.length:Int)+d.p.length)|none=>0) n=((D.take n).map fun d=>d.f.length+d.p.length).sum
  |0,_=>rfl
  |n+1,h=>by
    have hn:n<D.length:=h
    show preSum _ n+_=_
    rw [preSum_len D n (au hn),List.take_succ_eq_append_getElem hn,List.map_append,List.sum_append]
    dsimp only
    rw [aG hn]
    simp
theorem alen_spec{w:ag}{s:aa}{A:ai}{R:Result→aa→Prop}{y z n n2 t0 t1:Nat}{D:List PD}{H:Int}(W:KTH w s.heap)(hh:A.handled=none)(room:A.depth+105<recursionLimit)
    (ha:s.heap.get? (y+322)=some (accO (z+322) (refsD D) n)) (hd:s.heap.get? (z+322)=some (aZ w.params t0 t1 H n2)) (hp:Pts s.heap D) (sm:SmallD D) (T:Tab s.heap 140 ⟨93,19,93,63⟩)
    (k:∀s' tk,Nxt [140] s s'→Tab s'.heap 140 ⟨93,19,93,63⟩→R (.ok (.ret (.int (H+lenD D) tk))) s'):
    codeAny (model pw w) A (.call (.ref 145) ⟨[.ref (y+322)],[]⟩) R s:=by
  refine open_alen W hh (rmz room rfl) fun s1 B x1 W1 hB f1=> ?_
  refine wpAny_execs_cons (wpAny_Return_some (wpAny_Call_ofName (dX W1 (v:= .builtin "sum") rfl (by kernel_rfl) rfl rfl (by kernel_rfl) (by kernel_rfl) (by kernel_rfl) ?_)))
  refine Calls.callWith_builtin rfl (Calls.evalArgs_plain (Calls.spliced_cons ?_))
  rw [if_neg Bool.false_ne_true]
  have T1:Tab s1.heap 140 ⟨93,19,93,63⟩:=by
    rcases T with t|⟨c',t⟩
    · exact .inl (x1.keep0 t)
    · exact .inr ⟨c',x1.keep0 t⟩
  have hB2:=bo W hB
  refine gen_acc (n := n) (D := D) (c := 144) (P := 140) (oc := o144 w.params) (m := nsFind (dictO (frO [ew w "self" s.toks (.ref (y + 322))]))) (fun j v => ∃ d t, D[j]? = some d ∧ v = .int ((d.f.length : Int) + d.p.length) t) W1 hh (rmo room rfl) (x1.keep0 ha) (hp.keep fun d _ o e => x1.keep0 e)
    rfl (by kernel_rfl) (dy f1 (by kernel_rfl)) (by kernel_rfl) (by kernel_rfl) rfl rfl (closureFor_none (by decide)) (by decide) (by decide) (by decide) (by decide) (by decide) rfl rfl (W1.at (by kernel_rfl)) ⟨_,_,_,_,_,_,_,_,rfl,rfl,rfl,rfl,rfl,rfl,rfl,rfl⟩ (by decide) (by decide) T1 (.inl rfl)
    (fun A' E' i d s₂ m₂ C code h1 h2 h3 h4 h5 h6=> ?_) fun a s₅ fp wr G Pv St Wk hst hfp hafp hT hF x5 T5 hm=> ?_
  · have hs:=sm d (aM h2)
    refine wpAny_mono (elt_len h3 rfl (by kernel_rfl) rfl rfl (by kernel_rfl) (by kernel_rfl) h4 h5 h6 (by kernel_rfl) (by kernel_rfl) (aC hs.1 (by decide)) (aC hs.2 (by decide))) (fun v s₃ ⟨⟨t,e⟩,hk⟩=>⟨⟨d,t,h2,e⟩,hk⟩) fun _ _ z=>z
  · refine Calls.spliced_cons ?_
    rw [if_neg Bool.false_ne_true]
    have W5:=W1.nxt x5 (High.cons (.inr (.inl rfl)) ac)
    have nb:∀b:Nat,322≤b→b∉[140]:=fun b hb hx=>by rcases List.mem_cons.mp hx with h|h;(exact no_low (by decide) h.symm hb);cases h
    have f5:=x5.keep f1 (nb B hB2)
    have a5:=x5.keep (x1.keep0 ha) (nb _ (ab _ _))
    have d5:=x5.keep (x1.keep0 hd) (nb _ (ab _ _))
    refine dO [] [(B,frO [ew w "self" s.toks (.ref (y+322))]),(y+322,accO (z+322) (refsD D) n),(z+322,aZ w.params t0 t1 H n2)] 60 W5 hh .nil (.cons f5 (.cons a5 (.cons d5 .nil))) ac nn0 dn0 (rmo room rfl) rfl [] fun A₀ c q1 hq1 _=> ?_
    refine run_fin0 (f:=(.ret (.int H t1))) 25 0x3000000020002000000000000000200000000000200000000000000000000000000020001 [] [] [] 0 1 (by apply cW1 q1 w<;>first|apply hq1|(intro w;kernel_rfl)) (by apply cW1 q1 w<;>first|apply hq1|(intro w;kernel_rfl)) no_side fun s6 x6 g6 k6 _=> ?_
    refine Calls.spliced_nil ?_
    have e6:s6={s₅ with heap:=s6.heap,toks:=s6.toks}:=by
      obtain ⟨h6,gg6,d6,tk6,os6⟩:=s6
      have e1:d6=s₅.drawn:=x6.drawn
      have e2:os6=s₅.os:=x6.os
      have e3:gg6=s₅.gens:=g6
      subst e1 e2 e3;rfl
    have st6:St 0 s6:=by
      rw [e6]
      exact Wk.frame 0 s₅ _ _ hst (by rw [k6];exact aw _ _) fun b _ o e=>x6.keep0 e
    refine call_sum_start Wk.in4_1 (fun j=>match D[j]? with|some d=>((d.f.length:Int)+d.p.length)|none=>0) st6 (fun b hb=>ah (hfp b hb) x6.heap.size) (fun i v hv=> ?_) fun s7 tk7 m7=> ?_
    · obtain ⟨d,t,h1,h2⟩:=hF i v hv
      rw [h1]
      exact .inl ⟨t,h2⟩
    · rw [preSum_len D _ (al _),List.take_length]
      have m5:Moved wr G s₅ s7:=⟨fun b o hb e=>m7.heap b o hb (x6.keep0 e),g6▸m7.gens,m7.drawn.trans x6.drawn,m7.os.trans x6.os,ad (by rw [k6];exact aw _ _) m7.toks⟩
      obtain ⟨y5,z5⟩:=hm s7 m5
      exact k s7 tk7 (x1.nil.trans y5) z5
noncomputable def PD.text(d:PD):Str:=Txt.join (S "") [d.f,d.p]
noncomputable def textD(D:List PD):Str:=Txt.join (S "") (D.map PD.text)
theorem cQ{w:ag}{A:ai}{E:Value→aa→Prop}{s:aa}{env:Env}{x:Str}{v:Value}{pos:Pos}{Q:Value→aa→Prop}(H:KTH w s.heap)(hk:env.scope.kind= .function)(hx:env.kindOf x=some .globalImplicit)(hg:env.globals=3)
    (n:mgs w.params x=some v) (hd:(x==("__debug__":Str))=false) (h:Q v s):wpAny (model pw w) A (eval (.Name x pos) env) Q E s:=
  Calls.Name_function_global hk hx (Calls.loadGlobal_global (hg▸H.globals) n h) hd
theorem join2_len(a b:Str):(Txt.join (S "") [a,b]).length=a.length+b.length:=by
  have e:Txt.join (S "") [a,b]=⟨a.cps++(S "").cps++b.cps⟩:=rfl
  rw [e]
  show (a.cps++(S "").cps++b.cps).size=_
  have e2:(S "").cps= #[]:=by decide+kernel
  rw [e2,Array.append_empty,Array.size_append]
  rfl
theorem eQ{l:List Nat}{k:Nat}(h:∀x∈l,x≤k):l.sum≤l.length * k:=by
  induction l with
  |nil=>simp
  |cons x l ih=>
    have h1:=h x (.head _)
    have h2:=ih fun y hy=>h y (.tail _ hy)
    rw [List.sum_cons,List.length_cons,Nat.succ_mul]
    lia
theorem elt_str{w:ag}{A:ai}{E:Value→aa→Prop}{s:aa}{env:Env}{xa xb:Str}{p1 p2 p3 p4 p5 p6:Pos}{kk:Nat}{m:Str→Option Value}{f g:Str}{tf tg:Tok}(H:KTH w s.heap)(hk:env.scope.kind= .function)(hx:env.kindOf "EMPTYSTRING"=some .globalImplicit)(hg:env.globals=3)
    (ha:env.kindOf xa=some .local) (hbb:env.kindOf xb=some .local) (hn:s.heap.Ns env.locals m) (va:m xa=some (.str f tf)) (vb:m xb=some (.str g tg)) (da:(xa==("__debug__":Str))=false) (db:(xb==("__debug__":Str))=false) (hf:f.length<2^20) (hgl:g.length<2^20) (hline:(p2.endLine==p6.line)=true):
    wpAny (model pw w) A (eval (.Call (.Attribute (.Name "EMPTYSTRING" p1) "join" p2) [.Tuple [.Name xa p3,.Name xb p4] kk p5] [] p6) env) (fun y s₃=>(∃t,y= .str (Txt.join (S "") [f,g]) t)∧Keeps s s₃) E s:=by
  refine Call_method1 rfl rfl hline (cQ H hk hx hg (v:= .str (S "") 198) (by kernel_rfl) (by kernel_rfl) ?_)
  refine ⟨"str",_,F.plainAttrs_str,F.slot_str_join,F.type_str_join,typeIs_str _ _ _,(fun _ e=>nomatch e),?_⟩
  refine Calls.callWith_builtin rfl (Calls.evalArgs_plain (Calls.spliced_cons (wpAny_Tuple (wpAny_items_cons (be hk ha hn va da (wpAny_items_cons (be hk hbb hn vb db (Calls.spliced_nil ?_))))))))
  refine ⟨by show 2≤sizeLine;decide+kernel,Calls.spliced_nil ?_⟩
  refine join_tuple (ys:=[f,g]) ⟨_,Heap.get?_push_size _ rfl,rfl,_,rfl⟩ ?_ ?_ fun t' k=>⟨⟨t',rfl⟩,_,_,rfl,fun b o e=>Heap.get?_push_of_some _ e⟩
  · repeat constructor
  · simp only [List.map_cons,List.map_nil,List.sum_cons,List.sum_nil,List.length_cons,List.length_nil]
    have:(S "").length=0:=by decide+kernel
    rw [this]
    lia
theorem astr_spec{w:ag}{s:aa}{A:ai}{R:Result→aa→Prop}{y da n:Nat}{D:List PD}(W:KTH w s.heap)(hh:A.handled=none)(room:A.depth+105<recursionLimit)
    (ha:s.heap.get? (y+322)=some (accO da (refsD D) n)) (hp:Pts s.heap D) (sm:SmallD D) (l8:D.length≤7) (T:Tab s.heap 147 ⟨96,32,96,85⟩)
    (k:∀s' tk,Nxt [147] s s'→Tab s'.heap 147 ⟨96,32,96,85⟩→R (.ok (.ret (.str (textD D) tk))) s'):
    codeAny (model pw w) A (.call (.ref 152) ⟨[.ref (y+322)],[]⟩) R s:=by
  refine open_astr W hh (rmz room rfl) fun s1 B x1 W1 hB f1=> ?_
  refine wpAny_execs_cons (wpAny_Return_some (Call_method1 rfl rfl rfl (cQ W1 rfl (by kernel_rfl) rfl (v:= .str (S "") 198) (by kernel_rfl) (by kernel_rfl) ?_)))
  refine ⟨"str",_,F.plainAttrs_str,F.slot_str_join,F.type_str_join,typeIs_str _ _ _,(fun _ e=>nomatch e),?_⟩
  refine Calls.callWith_builtin rfl (Calls.evalArgs_plain (Calls.spliced_cons ?_))
  have T1:Tab s1.heap 147 ⟨96,32,96,85⟩:=by
    rcases T with t|⟨c',t⟩
    · exact .inl (x1.keep0 t)
    · exact .inr ⟨c',x1.keep0 t⟩
  have hB2:=bo W hB
  refine gen_acc (n := n) (D := D) (c := 151) (P := 147) (oc := o151 w.params) (m := nsFind (dictO (frO [ew w "self" s.toks (.ref (y + 322))]))) (fun j v => ∃ d t, D[j]? = some d ∧ v = .str d.text t) W1 hh (rmo room rfl) (x1.keep0 ha) (hp.keep fun d _ o e => x1.keep0 e)
    rfl (by kernel_rfl) (dy f1 (by kernel_rfl)) (by kernel_rfl) (by kernel_rfl) rfl rfl (closureFor_none (by decide)) (by decide) (by decide) (by decide) (by decide) (by decide) rfl rfl (W1.at (by kernel_rfl)) ⟨_,_,_,_,_,_,_,_,rfl,rfl,rfl,rfl,rfl,rfl,rfl,rfl⟩ (by decide) (by decide) T1 (.inr rfl)
    (fun A' E' i d s₂ m₂ C code h1 h2 h3 h4 h5 h6=> ?_) fun a s₅ fp wr G Pv St Wk hst hfp hafp hT hF x5 T5 hm=> ?_
  · have hs:=sm d (aM h2)
    exact wpAny_mono (elt_str h3 rfl (by kernel_rfl) rfl (by kernel_rfl) (by kernel_rfl) h4 h5 h6 (by kernel_rfl) (by kernel_rfl) hs.1 hs.2 rfl) (fun v s₃ ⟨⟨t,e⟩,hk⟩=>⟨⟨d,t,h2,e⟩,hk⟩) fun _ _ z=>z
  · refine Calls.spliced_nil ?_
    refine SC.joinGen Wk.in4_2 hT hst hfp hafp (fun i v hv=> ?_) (fun s' l m5 hl=> ?_) (ad l8 (by decide))
    · obtain ⟨d,t,_,h2⟩:=hF i v hv
      exact ⟨_,_,h2⟩
    · have e:l.map (·.1)=D.map PD.text:=by
        have hlen:l.length=D.length:=by have:=hl.1;simpa [strValues] using this
        apply List.ext_getElem
        · simp [hlen]
        · intro j h1 h2
          have hj:j<l.length:=by simpa using h1
          obtain ⟨d,t,h3,h4⟩:=hF j _ (hl.2 j (.str l[j].1 l[j].2) (by simp [strValues,hj]))
          have hj':j<D.length:=hlen▸hj
          rw [aG hj'] at h3
          have h3:=Option.some.inj h3
          subst h3
          simp only [List.getElem_map]
          injection h4
      rw [e]
      refine ⟨joinOk_of ?_,fun t' k'=> ?_⟩
      · have hz:(S "").length=0:=by decide+kernel
        rw [hz,Nat.mul_zero,Nat.add_zero,List.map_map]
        refine ad (eQ (k:=2^21) fun x hx=> ?_) ?_
        · obtain ⟨d,hd,rfl⟩:=List.mem_map.mp hx
          have hs:=sm d hd
          show (Txt.join (S "") [d.f,d.p]).length≤_
          rw [join2_len]
          lia
        · rw [ak]
          lia
      · obtain ⟨y5,z5⟩:=hm s' m5
        exact k {s' with toks:=k'} t' (x1.nil.trans ⟨y5.heap,y5.gens,y5.drawn,y5.os⟩) z5
theorem Tab.nxt{mods:List Addr}{s s':aa}{P:Addr}{pos:Pos}(T:Tab s.heap P pos)(x:Nxt mods s s')(h:P∉mods):Tab s'.heap P pos:=by
  rcases T with t|⟨c',t⟩
  · exact .inl (x.keep t h)
  · exact .inr ⟨c',x.keep t h⟩
theorem Tab.nxt0{s s':aa}{P:Addr}{pos:Pos}(T:Tab s.heap P pos)(x:Nxt [] s s'):Tab s'.heap P pos:=T.nxt x (fun h=>by cases h)
theorem Pts.nxt0{s s':aa}{D:List PD}(p:Pts s.heap D)(x:Nxt [] s s'):Pts s'.heap D:=p.keep fun _ _ _ e=>x.keep0 e
theorem df:High [147]:=High.cons (.inr (.inr rfl)) ac
theorem dg:High [140]:=High.cons (.inr (.inl rfl)) ac
theorem c8{w:ag}{s:aa}{A:ai}{R:Result→aa→Prop}{y da n:Nat}{D:List PD}(W:KTH w s.heap)(hh:A.handled=none)(room:A.depth+115<recursionLimit)(hu:A.units+10<cLine)
    (ha:s.heap.get? (y+322)=some (accO da (refsD D) n)) (hp:Pts s.heap D) (sm:SmallD D) (l8:D.length≤7) (T:Tab s.heap 147 ⟨96,32,96,85⟩)
    (k:∀s' tk,Nxt [147] s s'→Tab s'.heap 147 ⟨96,32,96,85⟩→R (.ok (.ret (.str (textD D) tk))) s'):
    codeAny (model pw w) A (.call (.builtin "str.__new__") ⟨[.type "str",.ref (y+322)],[]⟩) R s:=by
  refine codeAny_call_builtin (by decide+kernel) F.entry_str_new (wpAny_of_eq (F.newCall_str_1 _) ?_)
  rw [str_new_tree]
  refine af (wpAny_pure ?_)
  refine af (wpAny_of_eq isSubtype_str_str ?_)
  refine af ?_
  unfold Builtin.Str.strOf
  rw [show Builtin.Str.isExactStr (.ref (y+322))=false from rfl,if_neg Bool.false_ne_true]
  refine af (wpAny_cRoomFor (show A.units+1<cLine by lia) (af ?_))
  rw [PySem.W.Fast.te9201129301070521445]
  refine segO [] [(y+322,accO da (refsD D) n)] 60 W hh .nil (.cons ha .nil) ac nn0 dn0 (rmz room rfl) rfl [] fun A₀ c q1 hq1 _=> ?_
  refine av (c':=(.call (.ref 152) ⟨[.ref (y+322)],[]⟩)) (d:=0) (u:=10) 5 0x1 [] [] [] 0 0 (by apply cW1 q1 w<;>first|apply hq1|(intro w;kernel_rfl)) no_side fun s1 x1 _ A' R' hA dA uA res=> ?_
  have dA:A'.depth≤A.depth+0:=dA
  refine astr_spec (W.nxt x1 ac) hA (rm room dA rfl) (x1.keep0 ha) (hp.nxt0 x1) sm l8 (T.nxt0 x1) fun s2 tk x2 T2=> ?_
  refine Rsm.go (lim:=60) res [] [] ((W.nxt x1 ac).nxt x2 df) .nil .nil ac aD dj0 (rmz room rfl) rfl [] fun q2 hq2=> ?_
  refine am (f:=(.ret (.str (textD D) tk))) 0 0x0 [] [] [] 0 0 (by apply cW2 q2 q1 w<;>first|apply hq2|apply hq1|(intro w;kernel_rfl)) no_side fun s3 x3 _=> ?_
  show wpAny (model pw w) A.in1 _ _ _ s3
  exact af (wpAny_of_eq rfl (wpAny_pure (wpAny_pure (k s3 tk (x1.nil.trans (x2.trans x3.nil)) (T2.nxt0 x3)))))
section
variable {w:ag} {A:ai} {s:aa} {R:Result→aa→Prop} {env:Env} {c:Code} {Q:Flow→aa→Prop} {E:Value→aa→Prop}
theorem func_own{body:List Stmt}(h:wpOwn (model pw w) A (.func body env) (execs body env) (endF R) noE s):codeAny (model pw w) A (.func body env) R s:=by
  refine codeAny_of_own ?_
  show wpOwn _ A _ (cA env (execs body env)) _ _ s
  intro Γ p hc hΓ
  have z:=h Γ p hc hΓ
  unfold cA
  rw [Sem.wp_bind',Sem.wp_cmd_point,Sem.wp_bind',Sem.wp_onRaise]
  refine Sem.wp_mono _ Γ _ (fun f p' s' z=> ?_) (fun _ _ _ z=>z.elim) _ _ z
  cases f<;>exact z
theorem own_cut(pre post:List Stmt)(h:wpAny (model pw w) (A.under c) (execs pre env) (fun f s'=>match f with| .next=>wpOwn (model pw w) A c (execs post env) Q E s'|f=>Q f s') E s):wpOwn (model pw w) A c (execs (pre++post) env) Q E s:=fun Γ p hc hΓ=>by
  refine wp_cut (Sem.wp_mono _ Γ _ (fun f p' s' z=> ?_) (fun _ _ _ z=>z) _ _ (h Γ p (hc▸hΓ.in)))
  cases f with
  |next=>exact z Γ p' hc hΓ
  |_=>exact z
theorem segW{t:Sem Flow}{os:List Obj}(ms:List Addr)(L:List (Addr×Obj))(lim:Nat)(H:KTH w s.heap)(hh:A.handled=none)(hM:LedM s.heap ms os)(hL:Led s.heap L)(hm:High ms)(nd:ms.Nodup)(dj:∀p∈L,p.1∉ms)(room:A.depth+c.weight+lim<recursionLimit)(hl:Nat.blt ms.length 1099511627776=true)(vals:List Value)
    (G:∀q,q=qd w s ms os L lim vals c .own 0 (fj t)→GdQ w s ms A (RF Q E) (A.depth+c.weight) c q):wpOwn (model pw w) A c t Q E s:=by
  obtain ⟨M,rfl,rfl,l⟩:=hM.zip
  have z:=G _ rfl L lim vals rfl (eY H l hL hm nd dj room vals) ⟨rfl,al _,hh⟩ s.heap s.gens (dP l hl) (GRep.start _)
  change Means (mv w s M L lim vals) (sv s M A (RF Q E) (A.depth+c.weight) c) c .own (fj t) s at z
  rw [means_own (show inSeg .own=false from rfl)] at z
  intro Γ p hc hΓ
  have y:=z Γ p hc hΓ
  have e:(t.bind fun f=>Sem.pure (Fin.done f))=t>>=fun f=>Sem.pure (Fin.done f):=rfl
  unfold fj at y
  rw [e,Sem.wp_bind'] at y
  exact Sem.wp_mono _ Γ t (fun a p' s' q=>q) (fun x p' s' q=>q) p s y
end
theorem cFD:Value.type "frame"≠Value.type "dict":=by decide
theorem cFL:Value.type "frame"≠Value.type "list":=by decide
theorem cFT:Value.type "frame"≠Value.type "tuple":=by decide
theorem cDL:Value.type "dict"≠Value.type "list":=by decide
theorem cDT:Value.type "dict"≠Value.type "tuple":=by decide
theorem cLT:Value.type "list"≠Value.type "tuple":=by decide
theorem cRT(a:Addr)(x:String):Value.ref a≠Value.type x:=fun e=>by cases e
theorem cTR(a:Addr)(x:String):Value.type x≠Value.ref a:=fun e=>by cases e
theorem sim_expr{prog:Program}{w:ag}{body:List Stmt}{env:Env}{P:aa→Prop}{o:Expr}{name:Str}{apos pos pos':Pos}{args:List Expr}{t:Sem Value}(hi:interactive env=false)(h:Sim (model prog w) (.func body env) P t (attributeBase o name env (eval o env)))
    (hsw:swapsWith (.Call (.Attribute o name apos) args [] pos) none pos'.line env=pure false):
    Sim (model prog w) (.func body env) P (do
      standAt pos'
      let ov←t
      standAt apos.atName
      let v←methodCall o name apos pos env ov (args.length+0) (backTo pos (starEach args env)) (backToKw pos (keywordEach [] env))
      dropValue (.Call (.Attribute o name apos) args [] pos) pos' v) (execs [.Expr (.Call (.Attribute o name apos) args [] pos) pos'] env):=by
  intro Γ p Q E s hc hP z
  have e:execs [.Expr (.Call (.Attribute o name apos) args [] pos) pos'] env=(do
      match←(do
        standAt pos'
        if interactive env then printExpr (eval (.Call (.Attribute o name apos) args [] pos) env)
        else if←swapsWith (.Call (.Attribute o name apos) args [] pos) none pos'.line env then do evalThenUse (.Call (.Attribute o name apos) args [] pos) env fun _=>point;pure .next
        else do dropValue (.Call (.Attribute o name apos) args [] pos) pos' (←(do
          let ov←attributeBase o name env (eval o env)
          standAt apos.atName
          methodCall o name apos pos env ov (args.length+0) (backTo pos (starEach args env)) (backToKw pos (keywordEach [] env))))) with
      | .next=>execs [] env
      |f=>pure f):=rfl
  rw [e,hi,hsw]
  rw [Sem.wp_bind',Sem.wp_cmd_standAt,Sem.wp_bind'] at z
  rw [Sem.wp_bind',Sem.wp_bind',Sem.wp_cmd_standAt,if_neg Bool.false_ne_true,Sem.wp_bind',Sem.wp_pure',if_neg Bool.false_ne_true,Sem.wp_bind',Sem.wp_bind']
  refine Sem.wp_mono _ Γ _ (fun ov p' s' z=> ?_) (fun _ _ _ z=>z) _ _ (h Γ _ _ _ s hc hP z)
  rw [Sem.wp_bind',Sem.wp_cmd_standAt] at z⊢
  rw [Sem.wp_bind'] at z
  refine Sem.wp_mono _ Γ _ (fun v p' s' z=> ?_) (fun _ _ _ z=>z) _ _ z
  refine Sem.wp_mono _ Γ _ (fun f p' s' z=> ?_) (fun _ _ _ z=>z) _ _ z
  cases f<;>exact z
noncomputable def nilD(P:ae):Obj:=⟨.type "dict",none,.dict #[] 0,#[]⟩
theorem ainit_spec{w:ag}{s:aa}{A:ai}{R:Result→aa→Prop}{y z n:Nat}{H:Int}{th:Tok}(W:KTH w s.heap)(hh:A.handled=none)(room:A.depth+105<recursionLimit)
    (ha:s.heap.get? (y+322)=some (accO (z+322) [] n)) (hd:s.heap.get? (z+322)=some ⟨.type "dict",none,.dict #[] 0,#[]⟩)
    (k:∀s' n' t0 t1 n2,Nxt [y+322,z+322] s s'→s'.heap.get? (y+322)=some (accO (z+322) [] n')→s'.heap.get? (z+322)=some (aZ w.params t0 t1 H n2)→R (.ok (.ret .none)) s'):
    codeAny (model pw w) A (.call (.ref 115) ⟨[.ref (y+322),.int H th],[]⟩) R s:=by
  refine open_ainit W hh (rmz room rfl) fun s1 B x1 W1 hB f1=>func_own ?_
  have hB2:=bo W hB
  have a1:=x1.keep0 ha
  have d1:=x1.keep0 hd
  refine own_cut [aF (cH w) 0] [aF (cH w) 1] ?_
  refine aT [z+322] [(B,frO [ew w "self" s.toks (.ref (y+322)),ew w "initial_size" (s.toks+1) (.int H th)]),(y+322,accO (z+322) [] n)] 60 W1 hh (.cons d1 .nil) (.cons f1 (.cons a1 .nil)) (High.one (ab _ _)) (az _) (djc (notin1 (ne_cls f1 d1 cFD)) (dj1 (notin1 (ne_cls a1 d1 (cRT _ _))))) (rmo room rfl) rfl [] fun A₀ c q1 hq1 _=> ?_
  refine am (f:= .next) 29 0x400040004000000002000000000000000200000002000000000002000000000000000200010001 [0] [] [some (⟨.type "dict",none,.dict #[ew w "_initial_size" (s1.toks+1) (.int H th)] 1,#[]⟩)] 1 2 (by apply cW1 q1 w<;>first|apply hq1|(intro w;kernel_rfl)) no_side fun s2 x2 g2=> ?_
  have d2:s2.heap.get? (z+322)=_:=(g2 0)
  have hyz:y+322≠z+322:=ne_cls a1 d1 (cRT _ _)
  have hBz:B≠z+322:=ne_cls f1 d1 cFD
  have a2:=x2.keep a1 (notin1 hyz)
  have f2:=x2.keep f1 (notin1 hBz)
  have W2:=W1.nxt x2 (High.one (ab _ _))
  refine (sim_expr (t:=bU (fh w B) _ _) rfl (eW (f:=115) (cc:=114) (of:=o115 w.params) (oc:=o114 w.params) (fd:=aR (o115 w.params)) (ar:=arg0 (aR (o115 w.params))) (vs:=flds (o114 w.params)) (file:=sAt (flds (o114 w.params)) 2) (tf:=tAt (flds (o114 w.params)) 2) (by kernel_rfl) (by kernel_rfl) (by kernel_rfl) (by kernel_rfl) (by kernel_rfl) (by kernel_rfl) (by kernel_rfl) (by kernel_rfl) (by kernel_rfl) (by kernel_rfl) (by kernel_rfl)) rfl).own ⟨W2.at (by kernel_rfl),W2.at (by kernel_rfl)⟩ ?_
  unfold bU
  rw [PySem.W.Fast.te13401596951702201221,PySem.W.Fast.te8468629109055619292,PySem.W.Fast.te10380811246957099773,PySem.W.Fast.te11478286150595567475]
  refine segW [y+322] [(B,frO [ew w "self" s.toks (.ref (y+322)),ew w "initial_size" (s.toks+1) (.int H th)]),(z+322,aZ w.params (s1.toks+1) th H 1)] 60 W2 hh (.cons a2 .nil) (.cons f2 (.cons d2 .nil)) (High.one (ab _ _)) (az _) (djc (notin1 (ne_cls f2 a2 (cTR _ _))) (dj1 (notin1 (Ne.symm hyz)))) (rmo room rfl) rfl [] fun q1 hq1=> ?_
  refine am (f:= .next) 61 0x4000400040004000000042000100420000004000000000000000410041004100000041004100410041004100410041004100410000004000400000000000410041004100000000000000000001000000000000 [0] [] [some (accO (z+322) [] n)] 3 1 (by apply cW1 q1 w<;>first|apply hq1|(intro w;kernel_rfl)) no_side fun s3 x3 g3=> ?_
  have nx:Nxt [y+322,z+322] s s3:=x1.nil.trans ((x2.weak fun a ha=> .tail _ ha).trans (x3.weak fun a ha=>by rcases List.mem_cons.mp ha with rfl|ha;exact .head _;cases ha))
  exact k s3 n _ _ _ nx (g3 0) (x3.keep d2 (notin1 (Ne.symm hyz)))
theorem pcount{w:ag}{s:aa}{A:ai}{R:Result→aa→Prop}{y da n:Nat}{l:List Value}(H:KTH w s.heap)(room:A.depth+60<recursionLimit)(hh:A.handled=none)
    (hx:s.heap.get? (y+322)=some (accO da l n)) (k:∀s' u,Nxt [] s s'→R (.ok (.ret (.int (U l.length) u))) s'):
    codeAny (model pw w) A (.call (.ref 175) ⟨[.ref (y+322)],[]⟩) R s:=
  fy H room hh (ab _ _) hx fun h' g' tk u a b=>k _ u ⟨a,b,rfl,rfl⟩
theorem apop_nil{w:ag}{s:aa}{A:ai}{R:Result→aa→Prop}{y z n n2 t0 t1:Nat}{H:Int}(W:KTH w s.heap)(hh:A.handled=none)(room:A.depth+105<recursionLimit)
    (ha:s.heap.get? (y+322)=some (accO (z+322) [] n)) (hd:s.heap.get? (z+322)=some (aZ w.params t0 t1 H n2))
    (k:∀s' r t0 t1,Nxt [] s s'→s.heap.objs.size≤r→s'.heap.get? r=some (aX [.str (S "") t0,.str (S "") t1])→R (.ok (.ret (.ref r))) s'):
    codeAny (model pw w) A (.call (.ref 138) ⟨[.ref (y+322)],[]⟩) R s:=by
  refine open_apop W hh (rmz room rfl) fun s1 B x1 W1 hB f1=>func_own ?_
  have a1:=x1.keep0 ha
  have d1:=x1.keep0 hd
  refine own_cut [aF (ca w) 0] [aF (ca w) 1] ?_
  refine aT [] [(B,frO [ew w "self" s.toks (.ref (y+322))]),(y+322,accO (z+322) [] n),(z+322,aZ w.params t0 t1 H n2)] 60 W1 hh .nil (.cons f1 (.cons a1 (.cons d1 .nil))) ac nn0 dn0 (rmo room rfl) rfl [] fun A₀ c q1 hq1 _=> ?_
  refine av (c':=(.call (.ref 175) ⟨[.ref (y+322)],[]⟩)) (d:=0) (u:=10) 22 0x3000200000000000000000002000000000000000200000000000000020001 [] [] [] 0 0 (by apply cW1 q1 w<;>first|apply hq1|(intro w;kernel_rfl)) no_side fun s2 x2 _ A' R' hA dA uA res=> ?_
  have dA:A'.depth≤A.depth+1:=dA
  have W2:=W1.nxt x2 ac
  refine pcount W2 (rm room dA rfl) hA (x2.keep0 a1) fun s3 u x3=> ?_
  refine Rsm.go (lim:=60) res [] [(B,frO [ew w "self" s.toks (.ref (y+322))]),(y+322,accO (z+322) [] n),(z+322,aZ w.params t0 t1 H n2)] (W2.nxt x3 ac) .nil (.cons (x3.keep0 (x2.keep0 f1)) (.cons (x3.keep0 (x2.keep0 a1)) (.cons (x3.keep0 (x2.keep0 d1)) .nil))) ac nn0 dn0 (rmo room rfl) rfl [] fun q2 hq2=> ?_
  refine am (f:=(.ret (.ref s3.heap.objs.size))) 12 0x0 [0] [] [some (aX [.str (S "") (s3.toks+1),.str (S "") (s3.toks+2)])] 1 3 (by apply cW2 q2 q1 w<;>first|apply hq2|apply hq1|(intro w;kernel_rfl)) no_side fun s4 x4 g4=> ?_
  have x5:=x1.trans (x2.trans (x3.trans x4))
  exact k s4 _ _ _ x5 (ad x1.heap.size (ad x2.heap.size x3.heap.size)) (g4 0)
theorem lC7{α:Type}{p:List α→Prop}(h0:p [])(h1:∀a0,p [a0])(h2:∀a0 a1,p [a0,a1])(h3:∀a0 a1 a2,p [a0,a1,a2])(h4:∀a0 a1 a2 a3,p [a0,a1,a2,a3])(h5:∀a0 a1 a2 a3 a4,p [a0,a1,a2,a3,a4])(h6:∀a0 a1 a2 a3 a4 a5,p [a0,a1,a2,a3,a4,a5]):∀l,l.length<7→p l
  |[],_=>h0
  |[a0],_=>h1 a0
  |[a0,a1],_=>h2 a0 a1
  |[a0,a1,a2],_=>h3 a0 a1 a2
  |[a0,a1,a2,a3],_=>h4 a0 a1 a2 a3
  |[a0,a1,a2,a3,a4],_=>h5 a0 a1 a2 a3 a4
  |[a0,a1,a2,a3,a4,a5],_=>h6 a0 a1 a2 a3 a4 a5
  |_::_::_::_::_::_::_::l,h=>absurd h (by simp only [List.length_cons];omega)
theorem dk{w:ag}{s:aa}{A:ai}{R:Result→aa→Prop}{y z n n2 t0 t1:Nat}{H:Int}{D:List PD}{d:PD}(W:KTH w s.heap)(hh:A.handled=none)(room:A.depth+105<recursionLimit)
    (ha:s.heap.get? (y+322)=some (accO (z+322) (refsD (D++[d])) n)) (hd:s.heap.get? (z+322)=some (aZ w.params t0 t1 H n2))
    (l8:D.length<7)
    (k:∀s' n',Nxt [y+322] s s'→s'.heap.get? (y+322)=some (accO (z+322) (refsD D) n')→R (.ok (.ret (.ref (d.a+322)))) s'):
    codeAny (model pw w) A (.call (.ref 138) ⟨[.ref (y+322)],[]⟩) R s:=by
  refine open_apop W hh (rmz room rfl) fun s1 B x1 W1 hB f1=>func_own ?_
  have hB2:=bo W hB
  have a1:=x1.keep0 ha
  have d1:=x1.keep0 hd
  refine own_cut [aF (ca w) 0] [aF (ca w) 1] ?_
  refine aT [] [(B,frO [ew w "self" s.toks (.ref (y+322))]),(y+322,accO (z+322) (refsD (D++[d])) n),(z+322,aZ w.params t0 t1 H n2)] 60 W1 hh .nil (.cons f1 (.cons a1 (.cons d1 .nil))) ac nn0 dn0 (rmo room rfl) rfl [] fun A₀ c q1 hq1 _=> ?_
  refine av (c':=(.call (.ref 175) ⟨[.ref (y+322)],[]⟩)) (d:=0) (u:=10) 22 0x3000200000000000000000002000000000000000200000000000000020001 [] [] [] 0 0 (by apply cW1 q1 w<;>first|apply hq1|(intro w;kernel_rfl)) no_side fun s2 x2 _ A' R' hA dA uA res=> ?_
  have dA:A'.depth≤A.depth+1:=dA
  have W2:=W1.nxt x2 ac
  refine pcount W2 (rm room dA rfl) hA (x2.keep0 a1) fun s3 u x3=> ?_
  have f3:=x3.keep0 (x2.keep0 f1)
  have a3:=x3.keep0 (x2.keep0 a1)
  have d3:=x3.keep0 (x2.keep0 d1)
  have W3:=W2.nxt x3 ac
  refine Rsm.go (lim:=60) res [] [(B,frO [ew w "self" s.toks (.ref (y+322))]),(y+322,accO (z+322) (refsD (D++[d])) n),(z+322,aZ w.params t0 t1 H n2)] W3 .nil (.cons f3 (.cons a3 (.cons d3 .nil))) ac nn0 dn0 (rmo room rfl) rfl [] fun q2 hq2=> ?_
  refine am (f:= .next) 6 0x10 [] [(((U ((refsD (D++[d])).length))==0)=false)] [] 0 1 (by apply cW2 q2 q1 w<;>first|apply hq2|apply hq1|(intro w;kernel_rfl)) (side_cons (by simp [refsD];omega) no_side) fun s4 x4 _=> ?_
  have f4:=x4.keep0 f3
  have a4:=x4.keep0 a3
  have d4:=x4.keep0 d3
  have W4:=W3.nxt x4 ac
  refine (sim_ret (t:=bU (env_apop w B) _ _) (eW (f:=138) (cc:=137) (of:=o138 w.params) (oc:=o137 w.params) (fd:=aR (o138 w.params)) (ar:=arg0 (aR (o138 w.params))) (vs:=flds (o137 w.params)) (file:=sAt (flds (o137 w.params)) 2) (tf:=tAt (flds (o137 w.params)) 2) (by kernel_rfl) (by kernel_rfl) (by kernel_rfl) (by kernel_rfl) (by kernel_rfl) (by kernel_rfl) (by kernel_rfl) (by kernel_rfl) (by kernel_rfl) (by kernel_rfl) (by kernel_rfl))).own ⟨W4.at (by kernel_rfl),W4.at (by kernel_rfl)⟩ ?_
  unfold bU
  rw [PySem.W.Fast.te13401596951702201221,PySem.W.Fast.te8468629109055619292,PySem.W.Fast.te10380811246957099773,PySem.W.Fast.te11478286150595567475]
  refine segW [y+322] [(B,frO [ew w "self" s.toks (.ref (y+322))]),(z+322,aZ w.params t0 t1 H n2)] 60 W4 hh (.cons a4 .nil) (.cons f4 (.cons d4 .nil)) (High.one (ab _ _)) (az _) (djc (notin1 (ne_cls f4 a4 (cTR _ _))) (dj1 (notin1 (ne_cls d4 a4 (cTR _ _))))) (rmo room rfl) rfl [] fun q1 hq1=> ?_
  refine am (f:=(.ret (.ref (d.a+322)))) 67 0x4000400040004000000000000000400040000000400042000100420000004000000000000000410041004100000041004100410041004100410041004100410000004000400000000000410041004100000000000000000001000000000000 [0] [] [some (accO (z+322) (refsD D) (n+1))] 3 1 (by apply elq q1 _ hq1;apply wW ?_ w;intro w b;apply lC7 ?_ ?_ ?_ ?_ ?_ ?_ ?_ D l8<;>intros<;>apply bCase ?_ ?_ b<;>kernel_rfl) no_side fun s5 x5 g5=> ?_
  exact k s5 _ ((x1.trans (x2.trans (x3.trans x4))).nil.trans x5) (g5 0)
theorem cr{w:ag}{s:aa}{A:ai}{R:Result→aa→Prop}{y z n n2 t0 t1 sl v n3:Nat}{H:Int}{xs new:List Value}{vl:Value}{lo:Option Int}(W:KTH w s.heap)(hh:A.handled=none)(room:A.depth+60<recursionLimit)
    (ha:s.heap.get? (y+322)=some (accO (z+322) xs n)) (hd:s.heap.get? (z+322)=some (aZ w.params t0 t1 H n2)) (hs:s.heap.IsSliceOf sl vl .none .none) (pl:IsPart vl lo)
    (hv:s.heap.get? v=some (lstO new n3)) (l1:xs.length≤7) (l2:new.length≤7)
    (k:∀s',Nxt [y+322] s s'→s'.heap.get? (y+322)=some ((Obj.mapSeq fun xs'=>xs'.extract 0 (sliceBounds lo none none xs.length).1.toNat++new.toArray++xs'.extract (max (sliceBounds lo none none xs.length).1 (sliceBounds lo none none xs.length).2.1).toNat xs'.size) (accO (z+322) xs n))→R (.ok (.ret .none)) s'):
    codeAny (model pw w) A (.call (.builtin "list.__setitem__") ⟨[.ref (y+322),.ref sl,.ref v],[]⟩) R s:=by
  refine codeAny_call_builtin (by decide+kernel) F.entry_list_setitem ?_
  rw [PySem.W.Fast.te10254737850608025244]
  refine segU [] [(y+322,accO (z+322) xs n)] 60 W hh .nil (.cons ha .nil) ac nn0 dn0 (rmz room rfl) rfl [] fun A₀ c q1 hq1 _=> ?_
  refine am (f:= .next) 2 0x1 [] [] [] 0 0 (by apply cW1 q1 w<;>first|apply hq1|(intro w;kernel_rfl)) no_side fun s1 x1 _=> ?_
  have a1:=x1.keep0 ha
  have v1:=x1.keep0 hv
  obtain ⟨os,hos0,hcs,hds⟩:=hs
  have hos:=x1.keep0 hos0
  have hTs:s1.TypeIs (.ref sl) "slice":=⟨os,hos,hcs⟩
  have hav:y+322≠v:=ne_cls a1 v1 (cRT _ _)
  show wpAny _ _ (Builtin.List.listSubscript? (.ref sl)>>=_) _ _ s1
  refine af ?_
  unfold Builtin.List.listSubscript?
  refine af (wpAny_specialOf hTs slice_no_index ?_)
  simp only [Option.isNone_none,if_true]
  refine wpAny_pure ?_
  show wpAny _ _ (typeOf (.ref sl)>>=_) _ _ s1
  refine af (wpAny_typeOf hTs ?_)
  rw [if_neg (by decide)]
  rw [listSliceParts_eq]
  refine af (af (wpAny_field hos hds (x:= .none) rfl (af (wpAny_listPart .none ?_))))
  rw [if_neg (show ¬((rawPart none==rawInt 0)=true) from Bool.false_ne_true)]
  refine af (wpAny_field hos hds (x:=vl) rfl (af (wpAny_listPart pl ?_)))
  refine af (wpAny_field hos hds (x:= .none) rfl (af (wpAny_listPart .none (wpAny_pure ?_))))
  rw [if_neg (show ¬(Builtin.List.listSameRef (.ref (y+322)) (.ref v)=true) from fun e=>hav (by simpa [Builtin.List.listSameRef] using e))]
  have hlist:∀{Q:Array Value→aa→Prop} {E:Value→aa→Prop},Q new.toArray s1→wpAny (model pw w) A.in1 (Builtin.List.listAllItems (.ref v) "must assign iterable to extended slice") Q E s1:=fun q=>by
    unfold Builtin.List.listAllItems
    refine af (wpAny_typeOf (T:= "list") ⟨_,v1,rfl⟩ ?_)
    rw [if_pos (by decide)]
    unfold Builtin.List.listItems
    exact af (wpAny_seqItems v1 rfl (wpAny_pure q))
  refine af (hlist ?_)
  refine af (m:=Builtin.List.listItems (.ref (y+322))) ?_
  unfold Builtin.List.listItems
  refine af (wpAny_seqItems a1 rfl (wpAny_pure ?_))
  refine af (wpAny_of_eq (sliceIndices_raw lo none none xs.toArray.size (by simp)) ?_)
  rw [if_pos (show ((sliceBounds lo none none xs.toArray.size).2.2==1)=true from rfl)]
  refine af (wpAny_rule ?_)
  have e24:sizeLine=2^24:=rfl
  rw [if_neg (show ¬(Builtin.List.listTooLong (xs.toArray.size+new.toArray.size)=true) from fun e=>by
    have e:decide (xs.toArray.size+new.toArray.size>sizeLine)=true:=e
    rw [decide_eq_true_eq,List.size_toArray,List.size_toArray,e24] at e
    lia)]
  refine af (m:=updateSeq (y+322) _) (wpAny_updateSeq a1 rfl ?_ (by rw [List.size_toArray,e24];lia) ?_)
  · refine af (wpAny_letGo (wpAny_pure ?_))
    refine k _ (x1.nil.trans ⟨⟨fun b o e q=>(Heap.get?_update_other _ _ (fun h:y+322=b=>q (h▸.head _))).trans e,?_⟩,GX.refl _,rfl,rfl⟩) (Heap.get?_update_self _ a1 rfl)
    exact Nat.le_of_eq (Heap.SameBut.update s1.heap (y+322) _).1.symm
  · refine ad ?_ (aK _)
    simp only [Array.size_append,Array.size_extract,List.size_toArray]
    rw [e24]
    lia
theorem dm{w:ag}{s:aa}{A:ai}{E:Value→aa→Prop}{Q:Fin→aa→Prop}{a sl:Nat}{o:Obj}{xs:List Value}{n:Nat}{vl vu:Value}{lo hi:Option Int}(ha:s.heap.get? a=some o)(hd:o.data= .seq xs.toArray n)(hs:s.heap.IsSliceOf sl vl vu .none)(pl:IsPart vl lo)(pu:IsPart vu hi)(l1:xs.length≤100)
    (k:Q (.done (.ret (.ref s.heap.objs.size))) {s with heap:=s.heap.push (lstO (slicePick xs.toArray lo hi none).toList 0)}):
    wpAny (model pw w) A (Builtin.«list.__getitem__» ⟨[.ref a,.ref sl],[]⟩) Q E s:=by
  obtain ⟨os,hos,hcs,hds⟩:=hs
  have hTs:s.TypeIs (.ref sl) "slice":=⟨os,hos,hcs⟩
  have e24:sizeLine=2^24:=rfl
  show wpAny _ _ (Builtin.List.listSubscript? (.ref sl)>>=_) _ _ s
  refine af ?_
  unfold Builtin.List.listSubscript?
  refine af (wpAny_specialOf hTs slice_no_index ?_)
  simp only [Option.isNone_none,if_true]
  refine wpAny_pure ?_
  show wpAny _ _ (typeOf (.ref sl)>>=_) _ _ s
  refine af (wpAny_typeOf hTs ?_)
  rw [if_neg (by decide)]
  rw [listSliceParts_eq]
  refine af (af (wpAny_field hos hds (x:= .none) rfl (af (wpAny_listPart .none ?_))))
  rw [if_neg (show ¬((rawPart none==rawInt 0)=true) from Bool.false_ne_true)]
  refine af (wpAny_field hos hds (x:=vl) rfl (af (wpAny_listPart pl ?_)))
  refine af (wpAny_field hos hds (x:=vu) rfl (af (wpAny_listPart pu (wpAny_pure ?_))))
  refine af (m:=Builtin.List.listItems (.ref a)) ?_
  unfold Builtin.List.listItems
  refine af (wpAny_seqItems ha hd (wpAny_pure ?_))
  refine af (wpAny_of_eq (sliceIndices_raw lo hi none xs.toArray.size (by simp)) ?_)
  refine af (wpAny_newObj_type (wpAny_pure ?_) (ad (slicePick_size_le xs.toArray lo hi none) (by rw [List.size_toArray,e24];lia)))
  exact k
theorem getslice_acc{w:ag}{s:aa}{A:ai}{R:Result→aa→Prop}{y da n sl:Nat}{xs:List Value}{vl vu:Value}{lo hi:Option Int}(W:KTH w s.heap)(hh:A.handled=none)(room:A.depth+60<recursionLimit)
    (ha:s.heap.get? (y+322)=some (accO da xs n)) (hs:s.heap.IsSliceOf sl vl vu .none) (pl:IsPart vl lo) (pu:IsPart vu hi) (l1:xs.length≤100)
    (k:∀s' r,Nxt [] s s'→s.heap.objs.size≤r→s'.heap.get? r=some (lstO (slicePick xs.toArray lo hi none).toList 0)→R (.ok (.ret (.ref r))) s'):
    codeAny (model pw w) A (.call (.builtin "list.__getitem__") ⟨[.ref (y+322),.ref sl],[]⟩) R s:=by
  refine codeAny_call_builtin (by decide+kernel) F.entry_list_getitem ?_
  rw [PySem.W.Fast.te10254737850608025244]
  refine segU [] [(y+322,accO da xs n)] 60 W hh .nil (.cons ha .nil) ac nn0 dn0 (rmz room rfl) rfl [] fun A₀ c q1 hq1 _=> ?_
  refine am (f:= .next) 2 0x1 [] [] [] 0 0 (by apply cW1 q1 w<;>first|apply hq1|(intro w;kernel_rfl)) no_side fun s1 x1 _=> ?_
  obtain ⟨os,hos,hcs,hds⟩:=hs
  refine dm (x1.keep0 ha) rfl ⟨os,x1.keep0 hos,hcs,hds⟩ pl pu l1 (k _ _ (x1.trans ⟨⟨fun b o e _=>Heap.get?_push_of_some _ e,by rw [Heap.size_push];exact aK _⟩,GX.refl _,rfl,rfl⟩) x1.heap.size (Heap.get?_push_size _ rfl))
theorem bl{w:ag}{s:aa}{A:ai}{R:Result→aa→Prop}{a n sl:Nat}{xs:List Value}{vl vu:Value}{lo hi:Option Int}(W:KTH w s.heap)(hh:A.handled=none)(room:A.depth+60<recursionLimit)
    (ha:s.heap.get? a=some (lstO xs n)) (hs:s.heap.IsSliceOf sl vl vu .none) (pl:IsPart vl lo) (pu:IsPart vu hi) (l1:xs.length≤100)
    (k:∀s' r,Nxt [] s s'→s.heap.objs.size≤r→s'.heap.get? r=some (lstO (slicePick xs.toArray lo hi none).toList 0)→R (.ok (.ret (.ref r))) s'):
    codeAny (model pw w) A (.call (.builtin "list.__getitem__") ⟨[.ref a,.ref sl],[]⟩) R s:=by
  refine codeAny_call_builtin (by decide+kernel) F.entry_list_getitem ?_
  rw [PySem.W.Fast.te10254737850608025244]
  refine segU [] [(a,lstO xs n)] 60 W hh .nil (.cons ha .nil) ac nn0 dn0 (rmz room rfl) rfl [] fun A₀ c q1 hq1 _=> ?_
  refine am (f:= .next) 2 0x1 [] [] [] 0 0 (by apply cW1 q1 w<;>first|apply hq1|(intro w;kernel_rfl)) no_side fun s1 x1 _=> ?_
  obtain ⟨os,hos,hcs,hds⟩:=hs
  refine dm (x1.keep0 ha) rfl ⟨os,x1.keep0 hos,hcs,hds⟩ pl pu l1 (k _ _ (x1.trans ⟨⟨fun b o e _=>Heap.get?_push_of_some _ e,by rw [Heap.size_push];exact aK _⟩,GX.refl _,rfl,rfl⟩) x1.heap.size (Heap.get?_push_size _ rfl))
theorem dD(f:Array Value→Array Value)(da n:Nat)(xs l':List Value)(e:f xs.toArray=l'.toArray):∃n',Obj.mapSeq f (accO da xs n)=accO da l' n':=by
  unfold accO Obj.mapSeq
  dsimp only
  rw [e]
  exact ⟨_,rfl⟩
theorem fv{w:ag}{s:aa}{A:ai}{R:Result→aa→Prop}{it n:Nat}{xs:List Value}{T:String}{o:Obj}(hT:T= "list"∨T= "tuple")(ho:s.heap.get? it=some o)(hc:o.cls= .type T)(hd:o.data= .seq xs.toArray n)(l1:xs.length≤100)
    (k:∀s' r n',Nxt [] s s'→s.heap.objs.size≤r→s'.heap.get? r=some (lstO xs n')→R (.ok (.ret (.ref r))) s'):
    codeAny (model pw w) A (.builtin "proto.collect" ⟨[.ref it],[]⟩) R s:=by
  have e24:sizeLine=2^24:=rfl
  refine codeAny_builtin F.entry_proto_collect ?_
  rw [Around.under_plainId F.plain_proto_collect _]
  show wpAny _ A.in1 (newList []>>=fun l=>again (.builtin "list.__iadd__" ⟨[l,.ref it],[]⟩)) _ _ s
  refine af (wpAny_newObj_type ?_)
  refine wpAny_pure ⟨plainId_quiet F.plain_list_iadd _,codeAny_builtin F.entry_list_iadd ?_⟩
  rw [Around.under_plainId F.plain_list_iadd _]
  show wpAny _ A.in1 (Builtin.List.listExtendWith (.ref s.heap.objs.size) (.ref it) (.ref s.heap.objs.size)) _ _ _
  have hS:(s.heap.push {cls:= .type "list",data:= .seq ([]:List Value).toArray}).get? s.heap.objs.size=some {cls:= .type "list",data:= .seq #[] 0}:=Heap.get?_push_size _ rfl
  have hS₂:=Heap.get?_update_self (Obj.mapSeq (· ++xs.toArray)) hS rfl
  have hk:∀b o',s.heap.get? b=some o'→((s.heap.push {cls:= .type "list",data:= .seq ([]:List Value).toArray}).update s.heap.objs.size (Obj.mapSeq (· ++xs.toArray))).get? b=some o':=fun b o' hb=>
    (Heap.get?_update_other _ _ (aJ (an hb))).trans (Heap.get?_push_of_some _ hb)
  have fin':R (.ok (.ret (.ref s.heap.objs.size))) {s with heap:=(s.heap.push {cls:= .type "list",data:= .seq ([]:List Value).toArray}).update s.heap.objs.size (Obj.mapSeq (· ++xs.toArray))}:=by
    have e:∃n',Obj.mapSeq (· ++xs.toArray) ({cls:= .type "list",data:= .seq #[] 0}:Obj)=lstO xs n':=by
      unfold Obj.mapSeq lstO
      dsimp only
      rw [Array.empty_append]
      exact ⟨_,rfl⟩
    obtain ⟨n',e⟩:=e
    rw [e] at hS₂
    refine k _ _ n' ⟨⟨fun b o' hb _=>hk b o' hb,?_⟩,GX.refl _,rfl,rfl⟩ (al _) hS₂
    show s.heap.objs.size≤Array.size _
    have:=(Heap.SameBut.update (s.heap.push {cls:= .type "list",data:= .seq ([]:List Value).toArray}) s.heap.objs.size (Obj.mapSeq (· ++xs.toArray))).1
    rw [this,Heap.size_push]
    exact aK _
  refine wpAny_mono (wpAny_extend_seq (hsz := by rw [List.size_toArray, e24]; lia) (A := A) (R := fun r s' => r = .ok (.ret (.ref s.heap.objs.size)) ∧ s' = { s with heap := (s.heap.push { cls := .type "list", data := .seq ([] : List Value).toArray }).update s.heap.objs.size (Obj.mapSeq (· ++ xs.toArray)) })
    (s:={s with heap:=s.heap.push {cls:= .type "list",data:= .seq ([]:List Value).toArray}}) (T:=T) _ it _ 0 hT hS (Heap.get?_push_of_some _ ho) hc hd ⟨rfl,rfl⟩) (fun fin s' h=> ?_) (fun e s' h=> ?_)
  · cases fin with
    |done f=>
      obtain ⟨e,rfl⟩:=h
      cases e
      exact fin'
    |again c'=>exact ⟨h.1,codeAny_mono h.2 fun r s'' hr=>by obtain ⟨rfl,rfl⟩:=hr;exact fin'⟩
  · exact absurd h.1 (by simp)
theorem collect_bi{w:ag}{s:aa}{A:ai}{R:Result→aa→Prop}{it:Nat}{xs:List Value}(ho:s.heap.get? it=some (aX xs))(l1:xs.length≤100)
    (k:∀s' r n',Nxt [] s s'→s.heap.objs.size≤r→s'.heap.get? r=some (lstO xs n')→R (.ok (.ret (.ref r))) s'):
    codeAny (model pw w) A (.builtin "proto.collect" ⟨[.ref it],[]⟩) R s:=fv (.inr rfl) ho rfl rfl l1 k
theorem ao{l m:List Addr}(h:l⊆m):∀x∈l,x∈m:=fun _ hx=>h hx
theorem popfrom_spec{w:ag}{s:aa}{A:ai}{R:Result→aa→Prop}{y z n n2 t0 t1 u i:Nat}{H:Int}{D:List PD}(W:KTH w s.heap)(hh:A.handled=none)(room:A.depth+105<recursionLimit)
    (ha:s.heap.get? (y+322)=some (accO (z+322) (refsD D) n)) (hd:s.heap.get? (z+322)=some (aZ w.params t0 t1 H n2))
    (l8:D.length≤7) (hi:i<D.length)
    (k:∀s' n' r,Nxt [y+322] s s'→s'.heap.get? (y+322)=some (accO (z+322) (refsD (D.take i)) n')→s.heap.objs.size≤r→s'.heap.get? r=some (lstO (refsD (D.drop i)) 0)→R (.ok (.ret (.ref r))) s'):
    codeAny (model pw w) A (.call (.ref 130) ⟨[.ref (y+322),.int i u],[]⟩) R s:=by
  refine open_popfrom W hh (rmz room rfl) fun s1 B x1 W1 hB f1=> ?_
  have hB2:=bo W hB
  have a1:=x1.keep0 ha
  have d1:=x1.keep0 hd
  have hBy:B≠y+322:=ne_cls f1 a1 (cTR _ _)
  refine aT [B] [(y+322,accO (z+322) (refsD D) n),(z+322,aZ w.params t0 t1 H n2)] 60 W1 hh (.cons f1 .nil) (.cons a1 (.cons d1 .nil)) (High.one hB2) (az _) (djc (notin1 (Ne.symm hBy)) (dj1 (notin1 (Ne.symm (ne_cls f1 d1 cFD))))) (rmo room rfl) rfl [] fun A₀ c q1 hq1 _=> ?_
  refine av (c':=(.call (.builtin "list.__getitem__") ⟨[.ref (y+322),.ref s1.heap.objs.size],[]⟩)) (d:=0) (u:=10) 17 0x100000001000000000000000100400040 [0,1] [] [some (frO [ew w "self" s.4 (.ref (y+322)),ew w "i" (s.4+1) (.int (U (i)) u)]),some (⟨.type "slice",none,.fields #[.int (U (i)) u,.none,.none],#[]⟩)] 2 0 (by apply cW1 q1 w<;>first|apply hq1|(intro w;kernel_rfl)) no_side fun s2 x2 g2 A' R' hA dA uA res=> ?_
  have dA:A'.depth≤A.depth+1:=dA
  have W2:=W1.nxt x2 (High.one hB2)
  have a2:=x2.keep a1 (notin1 (Ne.symm hBy))
  have d2:=x2.keep d1 (notin1 (Ne.symm (ne_cls f1 d1 cFD)))
  have lD:(refsD D).length=D.length:=by simp [refsD]
  refine getslice_acc (lo:=some (i:Int)) (hi:=none) W2 hA (rm room dA rfl) a2 ⟨_,(g2 1),rfl,rfl⟩ (.int _ _) .none (by lia) fun s3 r x3 lr r3=> ?_
  rw [slicePick_from _ _ (by rw [List.size_toArray];lia)] at r3
  have er:((refsD D).toArray.toList.drop i).toArray.toList=refsD (D.drop i):=by simp [refsD]
  rw [er] at r3
  have f3:=x3.keep0 (g2 0)
  have a3:=x3.keep0 a2
  have d3:=x3.keep0 d2
  have W3:=W2.nxt x3 ac
  refine Rsm.go (lim:=60) res [B] [(y+322,accO (z+322) (refsD D) n),(z+322,aZ w.params t0 t1 H n2)] W3 (.cons f3 .nil) (.cons a3 (.cons d3 .nil)) (High.one hB2) (az _) (djc (notin1 (Ne.symm hBy)) (dj1 (notin1 (Ne.symm (ne_cls f1 d1 cFD))))) (rmo room rfl) rfl [] fun q2 hq2=> ?_
  refine av (c':=(.call (.builtin "list.__setitem__") ⟨[.ref (y+322),.ref (s3.heap.objs.size+1),.ref s3.heap.objs.size],[]⟩)) (d:=0) (u:=10) 23 0x1000000010040004000400040 [0,1,2] [] [some (frO [ew w "self" s.4 (.ref (y+322)),ew w "i" (s.4+1) (.int (U (i)) u),ew w "popped" s3.toks (.ref r)]),some (lstO [] 0),some (⟨.type "slice",none,.fields #[.int (U (i)) u,.none,.none],#[]⟩)] 3 1 (by apply cW2 q2 q1 w<;>first|apply hq2|apply hq1|(intro w;kernel_rfl)) no_side fun s4 x4 g4 A' R' hA dA uA res=> ?_
  have dA:A'.depth≤A.depth+1:=dA
  have W4:=W3.nxt x4 (High.one hB2)
  have a4:=x4.keep a3 (notin1 (Ne.symm hBy))
  have d4:=x4.keep d3 (notin1 (Ne.symm (ne_cls f1 d1 cFD)))
  have r4:=x4.keep r3 (notin1 (Ne.symm (ne_cls f3 r3 cFL)))
  refine cr (lo:=some (i:Int)) (new:=[]) (n3:=0) W4 hA (rm room dA rfl) a4 d4 ⟨_,(g4 2),rfl,rfl⟩ (.int _ _) (g4 1) (by lia) (by decide) fun s5 x5 a5=> ?_
  obtain ⟨n',e5⟩:=dD (fun xs'=>xs'.extract 0 (sliceBounds (some (i:Int)) none none (refsD D).length).1.toNat++([]:List Value).toArray++xs'.extract (max (sliceBounds (some (i:Int)) none none (refsD D).length).1 (sliceBounds (some (i:Int)) none none (refsD D).length).2.1).toNat xs'.size) (z+322) n (refsD D) (refsD (D.take i)) (by
    have h1:¬((i:Int)<0):=by lia
    have e:sliceBounds (some (i:Int)) none none (refsD D).length=((i:Int),((refsD D).length:Int),1):=by
      simp only [sliceBounds,Option.getD_none]
      simp only [h1,if_false,show (1:Int)>0 by decide,if_true]
      congr 1
      lia
    rw [e]
    have e2:(max (i:Int) ((refsD D).length:Int)).toNat=(refsD D).length:=by lia
    dsimp only
    rw [e2]
    simp [refsD])
  rw [e5] at a5
  have f5:=x5.keep (g4 0) (notin1 hBy)
  have r5:=x5.keep r4 (notin1 (Ne.symm (ne_cls a4 r4 (cRT _ _))))
  have W5:=W4.nxt x5 (High.one (ab _ _))
  refine Rsm.go (lim:=60) res [] [(B,frO [ew w "self" s.4 (.ref (y+322)),ew w "i" (s.4+1) (.int i u),ew w "popped" s3.toks (.ref r)])] W5 .nil (.cons f5 .nil) ac nn0 dn0 (rmo room rfl) rfl [] fun q3 hq3=> ?_
  refine am (f:=(.ret (.ref r))) 5 0x1 [] [] [] 0 0 (by apply cW3 q3 q2 q1 w<;>first|apply hq3|apply hq2|apply hq1|(intro w;kernel_rfl)) no_side fun s6 x6 _=> ?_
  have nx:Nxt [B,y+322] s s6:=x1.nil.trans ((x2.weak (ao (by simp))).trans (x3.nil.trans ((x4.weak (ao (by simp))).trans ((x5.weak (ao (by simp))).trans x6.nil))))
  exact k s6 n' r (nx.drop hB) (x6.keep0 a5) (ad x1.heap.size (ad x2.heap.size lr)) (x6.keep0 r5)
theorem areset_spec{w:ag}{s:aa}{A:ai}{R:Result→aa→Prop}{y z n n2 t0 t1:Nat}{H:Int}{D:List PD}(W:KTH w s.heap)(hh:A.handled=none)(room:A.depth+105<recursionLimit)
    (ha:s.heap.get? (y+322)=some (accO (z+322) (refsD D) n)) (hd:s.heap.get? (z+322)=some (aZ w.params t0 t1 H n2))
    (l8:D.length≤7)
    (k:∀s' n' t1,Nxt [y+322,z+322] s s'→s'.heap.get? (y+322)=some (accO (z+322) [] n')→s'.heap.get? (z+322)=some (aZ w.params t0 t1 0 n2)→R (.ok (.ret .none)) s'):
    codeAny (model pw w) A (.call (.ref 160) ⟨[.ref (y+322)],[]⟩) R s:=by
  refine open_areset W hh (rmz room rfl) fun s1 B x1 W1 hB f1=> ?_
  have hB2:=bo W hB
  have a1:=x1.keep0 ha
  have d1:=x1.keep0 hd
  have hBy:B≠y+322:=ne_cls f1 a1 (cTR _ _)
  have hBz:B≠z+322:=ne_cls f1 d1 cFD
  have hyz:y+322≠z+322:=ne_cls a1 d1 (cRT _ _)
  refine aT [B] [(y+322,accO (z+322) (refsD D) n),(z+322,aZ w.params t0 t1 H n2)] 60 W1 hh (.cons f1 .nil) (.cons a1 (.cons d1 .nil)) (High.one hB2) (az _) (djc (notin1 (Ne.symm hBy)) (dj1 (notin1 (Ne.symm hBz)))) (rmo room rfl) rfl [] fun A₀ c q1 hq1 _=> ?_
  refine av (c':=(.call (.builtin "list.__setitem__") ⟨[.ref (y+322),.ref (s1.heap.objs.size+1),.ref s1.heap.objs.size],[]⟩)) (d:=0) (u:=10) 27 0x10000000100400040004000400040 [0,1,2] [] [some (frO [ew w "self" s.4 (.ref (y+322)),ew w "startval" (s.4+1) (.ref s1.heap.objs.size)]),some (lstO [] 0),some (⟨.type "slice",none,.fields #[.none,.none,.none],#[]⟩)] 3 1 (by apply cW1 q1 w<;>first|apply hq1|(intro w;kernel_rfl)) no_side fun s2 x2 g2 A' R' hA dA uA res=> ?_
  have dA:A'.depth≤A.depth+1:=dA
  have W2:=W1.nxt x2 (High.one hB2)
  have a2:=x2.keep a1 (notin1 (Ne.symm hBy))
  have d2:=x2.keep d1 (notin1 (Ne.symm hBz))
  refine cr (lo:=none) (new:=[]) (n3:=0) W2 hA (rm room dA rfl) a2 d2 ⟨_,(g2 2),rfl,rfl⟩ .none (g2 1) (by rw [show (refsD D).length=D.length by simp [refsD]];exact l8) (by decide) fun s3 x3 a3=> ?_
  obtain ⟨n',e3⟩:=dD (fun xs'=>xs'.extract 0 (sliceBounds none none none (refsD D).length).1.toNat++([]:List Value).toArray++xs'.extract (max (sliceBounds none none none (refsD D).length).1 (sliceBounds none none none (refsD D).length).2.1).toNat xs'.size) (z+322) n (refsD D) [] (by simp [sliceBounds])
  rw [e3] at a3
  have hyz':=notin1 (Ne.symm hyz)
  have d3:=x3.keep d2 hyz'
  have f3:=x3.keep (g2 0) (notin1 hBy)
  have W3:=W2.nxt x3 (High.one (ab _ _))
  refine Rsm.go (lim:=60) res [z+322] [(B,frO [ew w "self" s.4 (.ref (y+322)),ew w "startval" (s.4+1) (.ref s1.heap.objs.size)]),(y+322,accO (z+322) [] n')] W3 (.cons d3 .nil) (.cons f3 (.cons a3 .nil)) (High.one (ab _ _)) (az _) (djc (notin1 hBz) (dj1 (notin1 hyz))) (rmo room rfl) rfl [] fun q2 hq2=> ?_
  refine am (f:= .next) 30 0x40004000400000000200000000000000020000000200000000000200000000000000020001 [0] [] [some (⟨.type "dict",none,.dict #[ew w "_initial_size" t0 (.int 0 s3.toks)] n2,#[]⟩)] 1 3 (by apply cW2 q2 q1 w<;>first|apply hq2|apply hq1|(intro w;kernel_rfl)) no_side fun s4 x4 g4=> ?_
  have nx:Nxt [B,y+322,z+322] s s4:=x1.nil.trans ((x2.weak (ao (by simp))).trans ((x3.weak (ao (by simp))).trans (x4.weak (ao (by simp)))))
  exact k s4 n' _ (nx.drop hB) (x4.keep a3 (notin1 hyz)) (g4 0)
theorem areset2_spec{w:ag}{s:aa}{A:ai}{R:Result→aa→Prop}{y z n n2 t0 t1 r n3:Nat}{H:Int}{D D':List PD}(W:KTH w s.heap)(hh:A.handled=none)(room:A.depth+105<recursionLimit)
    (ha:s.heap.get? (y+322)=some (accO (z+322) (refsD D) n)) (hd:s.heap.get? (z+322)=some (aZ w.params t0 t1 H n2)) (hr:s.heap.get? (r+322)=some (lstO (refsD D') n3))
    (l8:D.length+D'.length≤7)
    (k:∀s' n' t1,Nxt [y+322,z+322] s s'→s'.heap.get? (y+322)=some (accO (z+322) (refsD D') n')→s'.heap.get? (z+322)=some (aZ w.params t0 t1 0 n2)→R (.ok (.ret .none)) s'):
    codeAny (model pw w) A (.call (.ref 160) ⟨[.ref (y+322),.ref (r+322)],[]⟩) R s:=by
  refine open_areset2 W hh (rmz room rfl) fun s1 B x1 W1 hB f1=> ?_
  have hB2:=bo W hB
  have a1:=x1.keep0 ha
  have d1:=x1.keep0 hd
  have r1:=x1.keep0 hr
  have hBy:B≠y+322:=ne_cls f1 a1 (cTR _ _)
  have hBz:B≠z+322:=ne_cls f1 d1 cFD
  have hyz:y+322≠z+322:=ne_cls a1 d1 (cRT _ _)
  refine aT [B] [(y+322,accO (z+322) (refsD D) n),(z+322,aZ w.params t0 t1 H n2),(r+322,lstO (refsD D') n3)] 60 W1 hh (.cons f1 .nil) (.cons a1 (.cons d1 (.cons r1 .nil))) (High.one hB2) (az _) (djc (notin1 (Ne.symm hBy)) (djc (notin1 (Ne.symm hBz)) (dj1 (notin1 (Ne.symm (ne_cls f1 r1 cFL)))))) (rmo room rfl) rfl [] fun A₀ c q1 hq1 _=> ?_
  refine av (c':=(.call (.builtin "list.__setitem__") ⟨[.ref (y+322),.ref s1.heap.objs.size,.ref (r+322)],[]⟩)) (d:=0) (u:=10) 17 0x100000001004000400040 [0,1] [] [some (frO [ew w "self" s.4 (.ref (y+322)),ew w "startval" (s.4+1) (.ref (r+322))]),some (⟨.type "slice",none,.fields #[.none,.none,.none],#[]⟩)] 2 0 (by apply cW1 q1 w<;>first|apply hq1|(intro w;kernel_rfl)) no_side fun s2 x2 g2 A' R' hA dA uA res=> ?_
  have dA:A'.depth≤A.depth+1:=dA
  have W2:=W1.nxt x2 (High.one hB2)
  have a2:=x2.keep a1 (notin1 (Ne.symm hBy))
  have d2:=x2.keep d1 (notin1 (Ne.symm hBz))
  have r2:=x2.keep r1 (notin1 (Ne.symm (ne_cls f1 r1 cFL)))
  refine cr (lo:=none) W2 hA (rm room dA rfl) a2 d2 ⟨_,(g2 1),rfl,rfl⟩ .none r2 (by rw [show (refsD D).length=D.length by simp [refsD]];lia) (by rw [show (refsD D').length=D'.length by simp [refsD]];lia) fun s3 x3 a3=> ?_
  obtain ⟨n',e3⟩:=dD (fun xs'=>xs'.extract 0 (sliceBounds none none none (refsD D).length).1.toNat++(refsD D').toArray++xs'.extract (max (sliceBounds none none none (refsD D).length).1 (sliceBounds none none none (refsD D).length).2.1).toNat xs'.size) (z+322) n (refsD D) (refsD D') (by simp [sliceBounds])
  rw [e3] at a3
  have hyz':=notin1 (Ne.symm hyz)
  have d3:=x3.keep d2 hyz'
  have f3:=x3.keep (g2 0) (notin1 hBy)
  have W3:=W2.nxt x3 (High.one (ab _ _))
  refine Rsm.go (lim:=60) res [z+322] [(B,frO [ew w "self" s.4 (.ref (y+322)),ew w "startval" (s.4+1) (.ref (r+322))]),(y+322,accO (z+322) (refsD D') n')] W3 (.cons d3 .nil) (.cons f3 (.cons a3 .nil)) (High.one (ab _ _)) (az _) (djc (notin1 hBz) (dj1 (notin1 hyz))) (rmo room rfl) rfl [] fun q2 hq2=> ?_
  refine am (f:= .next) 30 0x40004000400000000200000000000000020000000200000000000200000000000000020001 [0] [] [some (⟨.type "dict",none,.dict #[ew w "_initial_size" t0 (.int 0 s3.toks)] n2,#[]⟩)] 1 3 (by apply cW2 q2 q1 w<;>first|apply hq2|apply hq1|(intro w;kernel_rfl)) no_side fun s4 x4 g4=> ?_
  have nx:Nxt [B,y+322,z+322] s s4:=x1.nil.trans ((x2.weak (ao (by simp))).trans ((x3.weak (ao (by simp))).trans (x4.weak (ao (by simp)))))
  exact k s4 n' _ (nx.drop hB) (x4.keep a3 (notin1 hyz)) (g4 0)
noncomputable abbrev g145:Pos:=⟨93,19,93,63⟩
noncomputable abbrev g152:Pos:=⟨96,32,96,85⟩
structure Tabs (h:Heap):Prop where
  t140:Tab h 140 g145
  t147:Tab h 147 g152
theorem Tabs.nxt{mods:List Addr}{s s':aa}(T:Tabs s.heap)(x:Nxt mods s s')(h0:140∉mods)(h7:147∉mods):Tabs s'.heap:=⟨T.t140.nxt x h0,T.t147.nxt x h7⟩
theorem low_not{l:List Addr}(h:∀x∈l,322≤x){a:Nat}(ha:a<322):a∉l:=fun hx=>Nat.not_lt.mpr (h a hx) ha
theorem Tabs.nxtH{mods:List Addr}{s s':aa}(T:Tabs s.heap)(x:Nxt mods s s')(h:∀x∈mods,322≤x):Tabs s'.heap:=T.nxt x (low_not h (by decide)) (low_not h (by decide))
theorem Tabs.nxt0{s s':aa}(T:Tabs s.heap)(x:Nxt [] s s'):Tabs s'.heap:=T.nxtH x (fun _ h=>by cases h)
theorem b7{b:Nat}(hb:322≤b):b∉[140]:=fun hx=>by rcases List.mem_cons.mp hx with h|h;(exact no_low (by decide) h.symm hb);cases h
theorem lo147{b:Nat}(hb:322≤b):b∉[147]:=fun hx=>by rcases List.mem_cons.mp hx with h|h;(exact no_low (by decide) h.symm hb);cases h
theorem dF{b:Nat}(hb:322≤b):b∉[140,147]:=fun hx=>by rcases List.mem_cons.mp hx with h|h;(exact no_low (by decide) h.symm hb);exact lo147 hb h
theorem Pts.nxt{mods:List Addr}{s s':aa}{D:List PD}(p:Pts s.heap D)(x:Nxt mods s s')(h:∀d∈D,d.a+322∉mods):Pts s'.heap D:=p.keep fun d hd _ e=>x.keep e (h d hd)
theorem lenD_small{D:List PD}(sm:SmallD D)(l8:D.length≤7):lenD D<2^24:=by
  have h:=eQ (l:=D.map fun d=>d.f.length+d.p.length) (k:=2^21 - 2) fun x hx=>by
    obtain ⟨d,hd,rfl⟩:=List.mem_map.mp hx
    have:=sm d hd
    omega
  rw [ak] at h
  unfold lenD
  omega
theorem len_bi{w:ag}{s:aa}{A:ai}{R:Result→aa→Prop}{y z n n2 t0 t1:Nat}{D:List PD}{H:Nat}(W:KTH w s.heap)(hh:A.handled=none)(room:A.depth+115<recursionLimit)
    (ha:s.heap.get? (y+322)=some (accO (z+322) (refsD D) n)) (hd:s.heap.get? (z+322)=some (aZ w.params t0 t1 H n2)) (hp:Pts s.heap D) (sm:SmallD D) (l8:D.length≤7) (lH:H<100) (T:Tabs s.heap)
    (k:∀s' tk,Nxt [140] s s'→Tabs s'.heap→R (.ok (.ret (.int (U (H+lenD D)) tk))) s'):
    codeAny (model pw w) A (.builtin "len" ⟨[.ref (y+322)],[]⟩) R s:=by
  refine codeAny_builtin entry_len ?_
  rw [Around.under_plainId plain_len]
  unfold Builtin.«len»
  refine af (m:=oneArg "len" _) (wpAny_pure ?_)
  refine af (m:=callSpecial? (.ref (y+322)) (Str.ofString "__len__")) ?_
  rw [PySem.W.Fast.te9201129301070521445]
  refine segO [] [(y+322,accO (z+322) (refsD D) n)] 60 W hh .nil (.cons ha .nil) ac nn0 dn0 (rmz room rfl) rfl [] fun A₀ c q1 hq1 _=> ?_
  refine av (c':=(.call (.ref 145) ⟨[.ref (y+322)],[]⟩)) (d:=0) (u:=10) 5 0x1 [] [] [] 0 0 (by apply cW1 q1 w<;>first|apply hq1|(intro w;kernel_rfl)) no_side fun s1 x1 _ A' R' hA dA uA res=> ?_
  have dA:A'.depth≤A.depth+0:=dA
  refine alen_spec (W.nxt x1 ac) hA (rm room dA rfl) (x1.keep0 ha) (x1.keep0 hd) (hp.nxt0 x1) sm (T.nxt0 x1).t140 fun s2 tk x2 T2=> ?_
  have T2':Tabs s2.heap:=⟨T2,(T.nxt0 x1).t147.nxt x2 (by decide)⟩
  refine Rsm.go (lim:=60) res [] [] ((W.nxt x1 ac).nxt x2 dg) .nil .nil ac aD dj0 (rmz room rfl) rfl [] fun q2 hq2=> ?_
  refine am (f:= .ret (.int ((H:Int)+lenD D) tk)) 0 0x0 [] [] [] 0 0 (by apply cW2 q2 q1 w<;>first|apply hq2|apply hq1|(intro w;kernel_rfl)) no_side fun s3 x3 _=> ?_
  show wpAny (model pw w) A.in1 _ _ _ s3
  have hl:=lenD_small sm l8
  refine af (wpAny_holding (wpAny_pure ?_))
  refine af (wpAny_letGo ?_)
  show wpAny _ _ (if ((H:Int)+lenD D)<0 then _ else _) _ _ _
  rw [if_neg (by omega)]
  show wpAny _ _ (if ((H:Int)+lenD D)≥2^63 then _ else _) _ _ _
  rw [if_neg (by omega)]
  refine af (wpAny_mkInt (wpAny_pure ?_))
  have x4:=x1.nil.trans (x2.trans x3.nil)
  have x5:Nxt [] s2 {s3 with toks:=s3.toks+1}:=⟨x3.heap,x3.gens,x3.drawn,x3.os⟩
  exact k {s3 with toks:=s3.toks+1} s3.toks ⟨x4.heap,x4.gens,x4.drawn,x4.os⟩ (T2'.nxt0 x5)
theorem len_call{w:ag}{s:aa}{A:ai}{R:Result→aa→Prop}{y z n n2 t0 t1:Nat}{D:List PD}{H:Nat}(W:KTH w s.heap)(hh:A.handled=none)(room:A.depth+115<recursionLimit)
    (ha:s.heap.get? (y+322)=some (accO (z+322) (refsD D) n)) (hd:s.heap.get? (z+322)=some (aZ w.params t0 t1 H n2)) (hp:Pts s.heap D) (sm:SmallD D) (l8:D.length≤7) (lH:H<100) (T:Tabs s.heap)
    (k:∀s' tk,Nxt [140] s s'→Tabs s'.heap→R (.ok (.ret (.int (U (H+lenD D)) tk))) s'):
    codeAny (model pw w) A (.call (.builtin "len") ⟨[.ref (y+322)],[]⟩) R s:=by
  refine codeAny_of_tree ?_
  show wpAny _ A.in1 (do checkBuiltinCall "len" ⟨[.ref (y+322)],[]⟩;again (.builtin "len" ⟨[.ref (y+322)],[]⟩)) _ _ s
  exact af (wpAny_of_eq (args_len1 _) (wpAny_pure ⟨plainId_quiet plain_len _,len_bi W hh room ha hd hp sm l8 lH T k⟩))
theorem onlyws_head{w:ag}{s:aa}{A:ai}{R:Result→aa→Prop}{y z n n2 t0 t1:Nat}{H:Int}{D:List PD}(W:KTH w s.heap)(hh:A.handled=none)(room:A.depth+105<recursionLimit)
    (ha:s.heap.get? (y+322)=some (accO (z+322) (refsD D) n)) (hd:s.heap.get? (z+322)=some (aZ w.params t0 t1 H n2)) (h0:H≠0)
    (k:∀s',Nxt [] s s'→R (.ok (.ret (.bool false))) s'):
    codeAny (model pw w) A (.call (.ref 167) ⟨[.ref (y+322)],[]⟩) R s:=by
  refine fq W hh (rmz room rfl) fun s1 B x1 W1 hB f1=> ?_
  have a1:=x1.keep0 ha
  have d1:=x1.keep0 hd
  refine aT [] [(B,frO [ew w "self" s.toks (.ref (y+322))]),(y+322,accO (z+322) (refsD D) n),(z+322,aZ w.params t0 t1 H n2)] 60 W1 hh .nil (.cons f1 (.cons a1 (.cons d1 .nil))) ac nn0 dn0 (rmo room rfl) rfl [] fun A₀ c q1 hq1 _=> ?_
  refine am (f:=(.ret (.bool false))) 32 0x100003000000020002000000000000000200000000000200000000000000000000000000020001 [] [((H==0)=false)] [] 0 2 (by apply cW1 q1 w<;>first|apply hq1|(intro w;kernel_rfl)) (side_cons (by rw [beq_eq_false_iff_ne];exact h0) no_side) fun s2 x2 _=>k s2 (x1.trans x2)
theorem onlyws_text{w:ag}{s:aa}{A:ai}{R:Result→aa→Prop}{y z n n2 t0 t1:Nat}{D:List PD}(W:KTH w s.heap)(hh:A.handled=none)(room:A.depth+145<recursionLimit)(hu:A.units+100<cLine)
    (ha:s.heap.get? (y+322)=some (accO (z+322) (refsD D) n)) (hd:s.heap.get? (z+322)=some (aZ w.params t0 t1 0 n2)) (hp:Pts s.heap D) (sm:SmallD D) (l8:D.length≤7) (T:Tabs s.heap)
    (h0:0<lenD D) (hs:(decide ((textD D).length>0)&&(textD D).cps.all Unicode.isSpace)=false)
    (k:∀s',Nxt [140,147] s s'→Tabs s'.heap→R (.ok (.ret (.bool false))) s'):
    codeAny (model pw w) A (.call (.ref 167) ⟨[.ref (y+322)],[]⟩) R s:=by
  refine fq W hh (rmz room rfl) fun s1 B x1 W1 hB f1=> ?_
  have a1:=x1.keep0 ha
  have d1:=x1.keep0 hd
  refine aT [] [(B,frO [ew w "self" s.toks (.ref (y+322))]),(y+322,accO (z+322) (refsD D) n),(z+322,aZ w.params t0 t1 0 n2)] 60 W1 hh .nil (.cons f1 (.cons a1 (.cons d1 .nil))) ac nn0 dn0 (rmo room rfl) rfl [] fun A₀ c q1 hq1 uA₀=> ?_
  refine av (c':=(.builtin "len" ⟨[.ref (y+322)],[]⟩)) (d:=0) (u:=10) 44 0x20000000000000002000100000003000000020002000000000000000200000000000200000000000000000000000000020001 [] [] [] 0 2 (by apply cW1 q1 w<;>first|apply hq1|(intro w;kernel_rfl)) no_side fun s2 x2 _ A' R' hA dA uA res=> ?_
  have dA:A'.depth≤A.depth+1:=dA
  have W2:=W1.nxt x2 ac
  have p2:=(hp.nxt0 x1).nxt0 x2
  have T2:=(T.nxt0 x1).nxt0 x2
  refine len_bi (H:=0) W2 hA (rm room dA rfl) (x2.keep0 a1) (x2.keep0 d1) p2 sm l8 (by decide) T2 fun s3 tk x3 T3=> ?_
  obtain ⟨m,hm⟩:∃m,lenD D=m+1:=⟨lenD D - 1,by omega⟩
  rw [show 0+lenD D=m+1 by omega]
  have hB2:=bo W hB
  have f3:=x3.keep (x2.keep0 f1) (b7 hB2)
  have a3:=x3.keep (x2.keep0 a1) (b7 (ab _ _))
  have d3:=x3.keep (x2.keep0 d1) (b7 (ab _ _))
  have p3:Pts s3.heap D:=p2.nxt x3 fun d _=>b7 (ab _ _)
  have W3:=W2.nxt x3 dg
  refine Rsm.go (lim:=60) res [] [(B,frO [ew w "self" s.toks (.ref (y+322))]),(y+322,accO (z+322) (refsD D) n),(z+322,aZ w.params t0 t1 0 n2)] W3 .nil (.cons f3 (.cons a3 (.cons d3 .nil))) ac nn0 dn0 (rmo room rfl) rfl [] fun q2 hq2=> ?_
  refine av (c':=(.call (.builtin "str.__new__") ⟨[.type "str",.ref (y+322)],[]⟩)) (d:=5) (u:=20) 9 0x100000000 [] [] [] 0 0 (by apply cW2 q2 q1 w<;>first|apply hq2|apply hq1|(intro w;kernel_rfl)) no_side fun s4 x4 _ A' R' hA dA uA res=> ?_
  have dA:A'.depth≤A.depth+6:=dA
  have uA₀:A₀.units≤A.units+3:=uA₀
  have W4:=W3.nxt x4 ac
  refine c8 W4 hA (rm room dA rfl) (um hu uA₀ uA rfl) (x4.keep0 a3) (p3.nxt0 x4) sm l8 (T3.nxt0 x4).t147 fun s5 tk5 x5 T5=> ?_
  have f5:=x5.keep (x4.keep0 f3) (lo147 hB2)
  have T5':Tabs s5.heap:=⟨(T3.nxt0 x4).t140.nxt x5 (by decide),T5⟩
  refine Rsm.go (lim:=60) res [] [(B,frO [ew w "self" s.toks (.ref (y+322))])] (W4.nxt x5 df) .nil (.cons f5 .nil) ac nn0 dn0 (rmo room rfl) rfl [] fun q3 hq3=> ?_
  refine am (f:=(.ret (.bool false))) 11 0x190000 [] [((decide (((textD D):Str).length>0)&&((textD D):Str).cps.all Unicode.isSpace)=false)] [] 0 0 (by apply cW3 q3 q2 q1 w<;>first|apply hq3|apply hq2|apply hq1|(intro w;kernel_rfl)) (side_cons hs no_side) fun s6 x6 _=> ?_
  have nx:Nxt [140,147] s s6:=x1.nil.trans (x2.nil.trans ((x3.weak (ao (by simp))).trans (x4.nil.trans ((x5.weak (ao (by simp))).trans x6.nil))))
  exact k s6 nx (T5'.nxt0 x6)
theorem shaped2(f p:Str)(hf:PyData.strOk f=true)(hp:PyData.strOk p=true):SeqAt.shaped (.tuple [.str f,.str p])=true:=by
  show (PyData.canLay0 (.tuple [.str f,.str p])&&decide (PyData.depth (.tuple [.str f,.str p])≤64))=true
  rw [Bool.and_eq_true]
  refine ⟨by simp [PyData.canLay0,PyData.canLayAll0,hf,hp],decide_eq_true ?_⟩
  simp [PyData.depth,PyData.depthAll]
theorem pair_ne{w:ag}{s:aa}{A:ai}{E:Value→aa→Prop}{Q:Value→aa→Prop}{a b:Addr}{f p g q:Str}{t1 t2 t3 t4:Tok}(ha:s.heap.get? a=some (aX [.str f t1,.str p t2]))(hb:s.heap.get? b=some (aX [.str g t3,.str q t4]))(hu:A.units+64<cLine)(kf:PyData.strOk f=true)(kp:PyData.strOk p=true)(kg:PyData.strOk g=true)(kq:PyData.strOk q=true)
    (h:Q (.bool (!((f==g)&&(p==q)))) s):wpAny (model pw w) A (compareOp .NotEq (.ref a) (.ref b)) Q E s:=by
  refine ne_dataH_same (da:= .tuple [.str f,.str p]) (db:= .tuple [.str g,.str q]) (.tuple ha rfl rfl (.cons (.str _ _) (.cons (.str _ _) .nil))) (.tuple hb rfl rfl (.cons (.str _ _) (.cons (.str _ _) .nil))) (shaped2 _ _ kf kp) (shaped2 _ _ kg kq) hu (by simp [SeqAt.noMix,SeqAt.noMixAll]) ?_
  have e:PySem.Spec.same (.tuple [.str f,.str p]) (.tuple [.str g,.str q])=((f==g)&&(p==q)):=by
    simp [PySem.Spec.same,PySem.Spec.sameAll]
  rw [e];exact h
noncomputable def dsz(o:Obj):Nat:=match o.data with| .dict es _=>es.size|_=>0
theorem vfD_ne{P:ae}{tv:Nat→Nat}{u0 u1 n m L a:Nat}{W H:Int}{mk:Str}:vfD P tv W mk L a n≠aZ P u0 u1 H m:=fun e=>by
  have:=congrArg dsz e
  exact absurd this (show ¬(6:Nat)=1 by decide)
inductive VF (P:ae) (h:Heap) (v x l y z:Nat) (Wd:Int) (mk:Str) (ls:List Value) (D:List PD) (H:Nat):Prop
  |mk (tv:Nat→Nat) (n0 n1 n2 u0 u1 n3:Nat) (hv:h.get? (v+322)=some (vfO (x+322))) (hx:h.get? (x+322)=some (vfD P tv Wd mk (l+322) (y+322) n0)) (hl:h.get? (l+322)=some (lstO ls n1))
    (ha:h.get? (y+322)=some (accO (z+322) (refsD D) n2)) (hd:h.get? (z+322)=some (aZ P u0 u1 H n3)) (hp:Pts h D)
section
variable {P:ae} {h:Heap} {v x l y z H:Nat} {Wd:Int} {mk:Str} {ls:List Value} {D:List PD} (F:VF P h v x l y z Wd mk ls D H)
include F
theorem VF.hv:h.get? (v+322)=some (vfO (x+322)):=by cases F;assumption
theorem VF.hx:∃tv n,h.get? (x+322)=some (vfD P tv Wd mk (l+322) (y+322) n):=by cases F;exact ⟨_,_,by assumption⟩
theorem VF.hl:∃n,h.get? (l+322)=some (lstO ls n):=by cases F;exact ⟨_,by assumption⟩
theorem VF.ha:∃n,h.get? (y+322)=some (accO (z+322) (refsD D) n):=by cases F;exact ⟨_,by assumption⟩
theorem VF.hd:∃u0 u1 n,h.get? (z+322)=some (aZ P u0 u1 H n):=by cases F;exact ⟨_,_,_,by assumption⟩
theorem VF.hp:Pts h D:=by cases F;assumption
end
theorem VF.keep{P:ae}{v x l y z:Nat}{Wd:Int}{mk:Str}{ls:List Value}{D:List PD}{H:Nat}{s s':aa}{mods:List Addr}(F:VF P s.heap v x l y z Wd mk ls D H)(X:Nxt mods s s')(nv:v+322∉mods)(nx:x+322∉mods)(nl:l+322∉mods)(ny:y+322∉mods)(nz:z+322∉mods)(np:∀d∈D,d.a+322∉mods):VF P s'.heap v x l y z Wd mk ls D H:=by
  obtain ⟨tv,n,n1,n2,u0,u1,n3,hv,hx,hl,ha,hd,hp⟩:=F
  exact ⟨_,_,_,_,_,_,_,X.keep hv nv,X.keep hx nx,X.keep hl nl,X.keep ha ny,X.keep hd nz,hp.nxt X np⟩
theorem VF.keep0{P:ae}{v x l y z:Nat}{Wd:Int}{mk:Str}{ls:List Value}{D:List PD}{H:Nat}{s s':aa}(F:VF P s.heap v x l y z Wd mk ls D H)(X:Nxt [] s s'):VF P s'.heap v x l y z Wd mk ls D H:=
  F.keep X (fun h=>by cases h) (fun h=>by cases h) (fun h=>by cases h) (fun h=>by cases h) (fun h=>by cases h) (fun _ _ h=>by cases h)
theorem VF.lo{P:ae}{v x l y z:Nat}{Wd:Int}{mk:Str}{ls:List Value}{D:List PD}{H:Nat}{s s':aa}{mods:List Addr}(F:VF P s.heap v x l y z Wd mk ls D H)(X:Nxt mods s s')(h:∀b,322≤b→b∉mods):VF P s'.heap v x l y z Wd mk ls D H:=
  F.keep X (h _ (ab _ _)) (h _ (ab _ _)) (h _ (ab _ _)) (h _ (ab _ _)) (h _ (ab _ _)) (fun _ _=>h _ (ab _ _))
noncomputable def bC(w:ag)(k:Nat):Stmt:=aF (cF w) k
theorem newline_push{w:ag}{s:aa}{A:ai}{E:Value→aa→Prop}{Q:Flow→aa→Prop}{v x l y z B r n n2 n3 u0 u1 ts te:Nat}{tv:Nat→Nat}{Wd:Int}{H:Int}{mk:Str}{D:List PD}{f p:Str}{tf tp:Tok}(W:KTH w s.heap)(hh:A.handled=none)(room:A.depth+105<recursionLimit)(hu:A.units+100<cLine)(hB:322≤B)
    (hf:s.heap.get? B=some (frO [ew w "self" ts (.ref (v+322)),ew w "end_of_line" te (.ref (r+322))])) (hv:s.heap.get? (v+322)=some (vfO (x+322))) (hx:s.heap.get? (x+322)=some (vfD w.params tv Wd mk (l+322) (y+322) n3))
    (ha:s.heap.get? (y+322)=some (accO (z+322) (refsD D) n)) (hd:s.heap.get? (z+322)=some (aZ w.params u0 u1 H n2)) (hr:s.heap.get? (r+322)=some (aX [.str f tf,.str p tp])) (hne:((f==S " ")&&(p==S ""))=false) (l8:D.length≤7) (kf:PyData.strOk f=true) (kp:PyData.strOk p=true)
    (k:∀s' a n',Nxt [y+322] s s'→s'.heap.get? (y+322)=some (accO (z+322) (refsD (D++[⟨a,f,tf,p,tp⟩])) n')→s'.heap.get? (a+322)=some (aX [.str f tf,.str p tp])→s.heap.objs.size≤a+322→Q .next s'):
    wpAny (model pw w) A (execs [bC w 1] (bp w B)) Q E s:=by
  refine wpAny_execs_cons (wpAny_If (wpAny_isTrue_Compare1 (wpAny_mono (dO [] [(B,frO [ew w "self" ts (.ref (v+322)),ew w "end_of_line" te (.ref (r+322))])] 60 W hh .nil (.cons hf .nil) ac nn0 dn0 (rmz room rfl) rfl [] (E:=E) (Q:=fun v' s'=>v'= .ref (r+322)∧Nxt [] s s') fun A₀ c q1 hq1 _=> ?_) (fun v1 s1 h1=> ?_) fun _ _ e=>e)))
  · refine am (f:=(.ret (.ref (r+322)))) 2 0x1 [] [] [] 0 0 (by apply cW1 q1 w<;>first|apply hq1|(intro w;kernel_rfl)) no_side fun s1 x1 _=>⟨rfl,x1⟩
  · obtain ⟨rfl,x1⟩:=h1
    have W1:=W.nxt x1 ac
    refine wpAny_mono (dO [] [] 60 W1 hh .nil .nil ac nn0 dn0 (rmz room rfl) rfl [] (E:=E) (Q:=fun v' s'=>∃a t t',v'= .ref a∧s'.heap.get? a=some (aX [.str (S " ") t,.str (S "") t'])∧Nxt [] s1 s') fun A₀ c q1 hq1 _=> ?_) (fun v2 s2 h2=> ?_) fun _ _ e=>e
    · refine am (f:=(.ret (.ref s1.heap.objs.size))) 4 0x0 [0] [] [some (aX [.str (S " ") s1.toks,.str (S "") (s1.toks+1)])] 1 2 (by apply cW1 q1 w<;>first|apply hq1|(intro w;kernel_rfl)) no_side fun s2 x2 g2=>⟨_,_,_,rfl,(g2 0),x2⟩
    · obtain ⟨a,t,t',rfl,g2,x2⟩:=h2
      refine pair_ne (x2.keep0 (x1.keep0 hr)) g2 (rm hu (al (A.units+0)) rfl) kf kp (by decide+kernel) (by decide+kernel) ?_
      rw [hne]
      refine wpAny_truthy_bool ?_
      show wpAny _ _ (execs _ _) _ _ _
      have x12:=x1.trans x2
      have W2:=W.nxt x12 ac
      have f2:=x12.keep0 hf
      have v2:=x12.keep0 hv
      have e2:=x12.keep0 hx
      have a2:=x12.keep0 ha
      have d2:=x12.keep0 hd
      have r2:=x12.keep0 hr
      refine aT [y + 322] [(B, frO [ew w "self" ts (.ref (v + 322)), ew w "end_of_line" te (.ref (r + 322))]), (v + 322, vfO (x + 322)), (x + 322, vfD w.params tv Wd mk (l + 322) (y + 322) n3), (z + 322, aZ w.params u0 u1 H n2), (r + 322, aX [.str f tf, .str p tp])] 60 W2 hh (.cons a2 .nil) (.cons f2 (.cons v2 (.cons e2 (.cons d2 (.cons r2 .nil))))) (High.one (ab _ _)) (az _)
        (djc (notin1 (ne_cls f2 a2 (cTR _ _))) (djc (notin1 (ne_cls v2 a2 (fun e=>by cases e))) (djc (notin1 (ne_cls e2 a2 (cTR _ _))) (djc (notin1 (ne_cls d2 a2 (cTR _ _))) (dj1 (notin1 (ne_cls r2 a2 (cTR _ _)))))))) (rmz room rfl) rfl [] fun A₀ c q1 hq1 _=> ?_
      refine av (c':=(.builtin "proto.collect" ⟨[.ref (r+322)],[]⟩)) (d:=0) (u:=10) 55 0x500010000000000040000004000400000000000000000000000000040000000000040000000000000000000000000004000030000000200020000000000000002000000000000000000020001 [0,1] [] [some (accO (z+322) (refsD D) n),some (⟨.type "method",none,.fields #[.ref 122,.ref (y+322)],#[]⟩)] 2 2 (by apply cW1 q1 w<;>first|apply hq1|(intro w;kernel_rfl)) no_side fun s3 x3 g3 A' R' hA dA uA res=> ?_
      have dA:A'.depth≤A.depth+0:=dA
      have m3:=(g3 1)
      refine collect_bi (x3.keep r2 (notin1 (ne_cls r2 a2 (cTR _ _)))) (by show 2≤100;decide) fun s4 q n' x4 lq q4=> ?_
      have a4:=x4.keep0 (g3 0)
      have nf:=notin1 (ne_cls f2 a2 (cTR _ _))
      have nv:=notin1 (ne_cls v2 a2 (fun e=>by cases e))
      have ne':=notin1 (ne_cls e2 a2 (cTR _ _))
      have nd:=notin1 (ne_cls d2 a2 (cTR _ _))
      have f4:=x4.keep0 (x3.keep f2 nf)
      have v4:=x4.keep0 (x3.keep v2 nv)
      have e4:=x4.keep0 (x3.keep e2 ne')
      have d4:=x4.keep0 (x3.keep d2 nd)
      have m4:=x4.keep0 m3
      have W4:=(W2.nxt x3 (High.one (ab _ _))).nxt x4 ac
      refine Rsm.go (lim := 60) res [y + 322] [(B, frO [ew w "self" ts (.ref (v + 322)), ew w "end_of_line" te (.ref (r + 322))]), (v + 322, vfO (x + 322)), (x + 322, vfD w.params tv Wd mk (l + 322) (y + 322) n3), (z + 322, aZ w.params u0 u1 H n2), (s2.heap.objs.size, ⟨.type "method", none, .fields #[.ref 122, .ref (y + 322)], #[]⟩), (q, lstO [.str f tf, .str p tp] n')] W4 (.cons a4 .nil) (.cons f4 (.cons v4 (.cons e4 (.cons d4 (.cons m4 (.cons q4 .nil)))))) (High.one (ab _ _)) (az _)
        (djc nf (djc nv (djc ne' (djc nd (djc (notin1 (ne_cls m4 a4 (cTR _ _))) (dj1 (notin1 (ne_cls q4 a4 (cTR _ _))))))))) (rmz room rfl) rfl [] fun q2 hq2=> ?_
      refine am (f:= .next) 56 0x4000d200000040004100410004004000000000000000400000000000000040000000000000004000410041004100410041004100410000000000050001000000050006 [0,2] [(((refsD D):List Value).toArray.size≤sizeLine)] [some (accO (z+322) ((refsD D)++[.ref (s4.heap.objs.size+1)]) (n+1)),some (aX [.str f tf,.str p tp])] 3 3 (by apply cW2 q2 q1 w<;>first|apply hq2|apply hq1|(intro w;kernel_rfl)) (side_cons (by show (refsD D).toArray.size≤2^24;rw [List.size_toArray];unfold refsD;rw [ak];lia) no_side) fun s5 x5 g5=> ?_
      obtain ⟨a,ea⟩:∃a,s4.heap.objs.size+1=a+322:=(aW (ad W4.2 (aK _)))
      have e5:refsD D++[.ref (s4.heap.objs.size+1)]=refsD (D++[⟨a,f,tf,p,tp⟩]):=by
        rw [ea];unfold refsD;rw [List.map_append];rfl
      rw [e5] at g5
      have x25:Nxt [y+322] s2 s5:=x3.trans ((x4.weak (by simp)).trans x5)
      exact wpAny_pure (k s5 a _ ((x12.weak (by simp)).trans x25) (g5 0) (ea▸(g5 1)) (by
        have h1:=x12.heap.size
        have h2:=x3.heap.size
        have h3:=x4.heap.size
        lia))
theorem onlyws_any{w:ag}{s:aa}{A:ai}{R:Result→aa→Prop}{y z n n2 t0 t1 H:Nat}{D:List PD}(W:KTH w s.heap)(hh:A.handled=none)(room:A.depth+145<recursionLimit)(hu:A.units+100<cLine)
    (ha:s.heap.get? (y+322)=some (accO (z+322) (refsD D) n)) (hd:s.heap.get? (z+322)=some (aZ w.params t0 t1 H n2)) (hp:Pts s.heap D) (sm:SmallD D) (l8:D.length≤7) (T:Tabs s.heap)
    (hn:H≠0∨(0<lenD D∧(decide ((textD D).length>0)&&(textD D).cps.all Unicode.isSpace)=false))
    (k:∀s',Nxt [140,147] s s'→Tabs s'.heap→R (.ok (.ret (.bool false))) s'):
    codeAny (model pw w) A (.call (.ref 167) ⟨[.ref (y+322)],[]⟩) R s:=by
  by_cases h0:H=0
  · subst h0
    rcases hn with h|⟨h1,h2⟩
    · exact absurd rfl h
    · exact onlyws_text W hh room hu ha hd hp sm l8 T h1 h2 k
  · exact onlyws_head W hh (rmz room rfl) ha hd (by lia) fun s' x=>k s' x.nil (T.nxt0 x)
theorem newline_add{w:ag}{s:aa}{A:ai}{E:Value→aa→Prop}{Q:Flow→aa→Prop}{v x l y z B ts te:Nat}{el:Value}{Wd:Int}{H:Nat}{mk:Str}{D:List PD}{ls:List Value}(W:KTH w s.heap)(hh:A.handled=none)(room:A.depth+155<recursionLimit)(hu:A.units+200<cLine)(hB:322≤B)(T:Tabs s.heap)
    (hf:s.heap.get? B=some (frO [ew w "self" ts (.ref (v+322)),ew w "end_of_line" te el])) (F:VF w.params s.heap v x l y z Wd mk ls D H)
    (l8:D.length≤7) (sm:SmallD D) (lH:H<100) (ll:ls.length≤8) (hn:H≠0∨(0<lenD D∧(decide ((textD D).length>0)&&(textD D).cps.all Unicode.isSpace)=false))
    (k:∀s' tk,Nxt [l+322,140,147] s s'→Tabs s'.heap→VF w.params s'.heap v x l y z Wd mk (ls++[.str (textD D) tk]) D H→Q .next s'):
    wpAny (model pw w) A (execs [bC w 2] (bp w B)) Q E s:=by
  obtain ⟨tv,n0,n1,n2,u0,u1,n3,hv,hx,hl,ha,hd,hp⟩:=F
  refine aT [] [(B,frO [ew w "self" ts (.ref (v+322)),ew w "end_of_line" te el]),(v+322,vfO (x+322)),(x+322,vfD w.params tv Wd mk (l+322) (y+322) n0),(y+322,accO (z+322) (refsD D) n2),(z+322,aZ w.params u0 u1 H n3)] 60 W hh .nil (.cons hf (.cons hv (.cons hx (.cons ha (.cons hd .nil))))) ac nn0 dn0 (rmz room rfl) rfl [] fun A₀ c q1 hq1 uA₀=> ?_
  refine av (c':=(.call (.builtin "len") ⟨[.ref (y+322)],[]⟩)) (d:=0) (u:=10) 24 0x3000000020002000000000000000200000000000000000002000100000000 [] [] [] 0 1 (by apply cW1 q1 w<;>first|apply hq1|(intro w;kernel_rfl)) no_side fun s1 x1 _ A' R' hA dA uA res=> ?_
  have dA:A'.depth≤A.depth+0:=dA
  have uA₀:A₀.units≤A.units:=uA₀
  have W1:=W.nxt x1 ac
  have F0:VF w.params s.heap v x l y z Wd mk ls D H:=⟨_,_,_,_,_,_,_,hv,hx,hl,ha,hd,hp⟩
  refine len_call W1 hA (rm room dA rfl) (x1.keep0 ha) (x1.keep0 hd) (hp.nxt0 x1) sm l8 lH (T.nxt0 x1) fun s2 tk2 x2 T2=> ?_
  have x02:Nxt [140] s s2:=x1.nil.trans x2
  have W2:=W1.nxt x2 dg
  obtain ⟨m,hm⟩:∃m,H+lenD D=m+1:=⟨H+lenD D - 1,by lia⟩
  rw [hm]
  have q140:∀{b:Nat},322≤b→b∉[140]:=b7
  have f2:=x02.keep hf (b7 hB)
  have v2:=x02.keep hv (b7 (ab _ _))
  have e2:=x02.keep hx (b7 (ab _ _))
  have l2:=x02.keep hl (b7 (ab _ _))
  have a2:=x02.keep ha (b7 (ab _ _))
  have d2:=x02.keep hd (b7 (ab _ _))
  have p2:Pts s2.heap D:=hp.nxt x02 fun d _=>b7 (ab _ _)
  refine Rsm.go (lim:=60) res [] [(B,frO [ew w "self" ts (.ref (v+322)),ew w "end_of_line" te el]),(v+322,vfO (x+322)),(x+322,vfD w.params tv Wd mk (l+322) (y+322) n0),(y+322,accO (z+322) (refsD D) n2),(z+322,aZ w.params u0 u1 H n3)] W2 .nil (.cons f2 (.cons v2 (.cons e2 (.cons a2 (.cons d2 .nil))))) ac nn0 dn0 (rmz room rfl) rfl [] fun q2 hq2=> ?_
  refine av (c':=(.call (.ref 167) ⟨[.ref (y+322)],[]⟩)) (d:=0) (u:=10) 45 0x500040000000000000000000400000000000000040000000000000004000300000002000200000000000000020000000000000000000200010001000e [] [(decide (0<(U (m.add 1)))=true)] [] 0 2 (by apply cW2 q2 q1 w<;>first|apply hq2|apply hq1|(intro w;kernel_rfl)) (side_cons (decide_eq_true (by show (0:Int)<U (m+1);exact Int.natCast_pos.mpr (Nat.succ_pos m))) no_side) fun s3 x3 _ A' R' hA dA uA res=> ?_
  have dA:A'.depth≤A.depth+0:=dA
  have x03:Nxt [140] s s3:=x02.trans x3.nil
  have W3:=W2.nxt x3 ac
  refine onlyws_any W3 hA (rm room dA rfl) (um hu (ad uA₀ (aw _ 0)) uA rfl) (x3.keep0 a2) (x3.keep0 d2) (p2.nxt0 x3) sm l8 (T2.nxt0 x3) hn fun s4 x4 T4=> ?_
  have x04:Nxt [140,147] s s4:=(x03.weak (ao (by simp))).trans x4
  have hTT:∀c:Nat,c∈([140,147]:List Addr)→c=140∨c=147:=by simp
  have W4:=W.nxt x04 (High.cons (.inr (.inl rfl)) df)
  have f4:=x04.keep hf (dF hB)
  have v4:=x04.keep hv (dF (ab _ _))
  have e4:=x04.keep hx (dF (ab _ _))
  have l4:=x04.keep hl (dF (ab _ _))
  have a4:=x04.keep ha (dF (ab _ _))
  have d4:=x04.keep hd (dF (ab _ _))
  have p4:Pts s4.heap D:=hp.nxt x04 fun d _=>dF (ab _ _)
  refine Rsm.go (lim:=60) res [] [(B,frO [ew w "self" ts (.ref (v+322)),ew w "end_of_line" te el]),(v+322,vfO (x+322)),(x+322,vfD w.params tv Wd mk (l+322) (y+322) n0),(y+322,accO (z+322) (refsD D) n2),(z+322,aZ w.params u0 u1 H n3),(l+322,lstO ls n1)] W4 .nil (.cons f4 (.cons v4 (.cons e4 (.cons a4 (.cons d4 (.cons l4 .nil)))))) ac nn0 dn0 (rmz room rfl) rfl [] fun q3 hq3=> ?_
  refine av (c':=(.call (.builtin "str.__new__") ⟨[.type "str",.ref (y+322)],[]⟩)) (d:=5) (u:=20) 53 0x3000000020002000000000000000200000000000000000002000100000000000600060006000600030000000200020000000000000002000000000000000000020001 [] [] [] 0 2 (by apply cW3 q3 q2 q1 w<;>first|apply hq3|apply hq2|apply hq1|(intro w;kernel_rfl)) no_side fun s5 x5 _ A' R' hA dA uA res=> ?_
  have dA:A'.depth≤A.depth+5:=dA
  have x05:Nxt [140,147] s s5:=x04.trans x5.nil
  have W5:=W4.nxt x5 ac
  refine c8 W5 hA (rm room dA rfl) (um hu (ad uA₀ (aw _ 0)) uA rfl) (x5.keep0 a4) (p4.nxt0 x5) sm l8 (T4.nxt0 x5).t147 fun s6 tk x6 T6=> ?_
  have x06:Nxt [140,147] s s6:=x05.trans (x6.weak (ao (by simp)))
  have T6':Tabs s6.heap:=⟨(T4.nxt0 x5).t140.nxt x6 (by decide),T6⟩
  have W6:=W.nxt x06 (High.cons (.inr (.inl rfl)) df)
  have f6:=x06.keep hf (dF hB)
  have v6:=x06.keep hv (dF (ab _ _))
  have e6:=x06.keep hx (dF (ab _ _))
  have l6:=x06.keep hl (dF (ab _ _))
  have a6:=x06.keep ha (dF (ab _ _))
  have d6:=x06.keep hd (dF (ab _ _))
  have p6:Pts s6.heap D:=hp.nxt x06 fun d _=>dF (ab _ _)
  have nf:=notin1 (ne_cls f6 l6 cFL)
  have nv:=notin1 (ne_cls v6 l6 (cRT _ _))
  have ne:=notin1 (ne_cls e6 l6 cDL)
  have na:=notin1 (ne_cls a6 l6 (cRT _ _))
  have nd:=notin1 (ne_cls d6 l6 cDL)
  refine Rsm.go (lim:=60) res [l+322] [(B,frO [ew w "self" ts (.ref (v+322)),ew w "end_of_line" te el]),(v+322,vfO (x+322)),(x+322,vfD w.params tv Wd mk (l+322) (y+322) n0),(y+322,accO (z+322) (refsD D) n2),(z+322,aZ w.params u0 u1 H n3)] W6 (.cons l6 .nil) (.cons f6 (.cons v6 (.cons e6 (.cons a6 (.cons d6 .nil))))) (High.one (ab _ _)) (az _) (djc nf (djc nv (djc ne (djc na (dj1 nd))))) (rmz room rfl) rfl [] fun q4 hq4=> ?_
  refine am (f:= .next) 10 0x4000d200400000 [0] [((ls:List Value).toArray.size≤sizeLine)] [some (lstO (ls++[.str (textD D) tk]) (n1+1))] 1 0 (by apply cW4 q4 q3 q2 q1 w<;>first|apply hq4|apply hq3|apply hq2|apply hq1|(intro w;kernel_rfl)) (side_cons (by show ls.toArray.size≤2^24;rw [List.size_toArray];lia) no_side) fun s7 x7 g7=> ?_
  have nx:Nxt [l+322,140,147] s s7:=(x06.weak (ao (by simp))).trans (x7.weak (ao (by simp)))
  have T7:Tabs s7.heap:=T6'.nxtH x7 (fun c hc=>by rw [List.mem_singleton.mp hc];exact ab _ _)
  refine (k s7 tk nx T7 ⟨_,_,_,_,_,_,_,x7.keep v6 nv,x7.keep e6 ne,(g7 0),x7.keep a6 na,x7.keep d6 nd,?_⟩)
  exact p6.nxt x7 fun d hd'=>notin1 (ne_cls (p6 d hd') l6 (Ne.symm cLT))
theorem textD_snoc(D:List PD)(d:PD)(a:Nat):textD (D++[⟨a,d.f,d.tf,d.p,d.tp⟩])=textD (D++[d]):=by
  unfold textD;simp [PD.text]
theorem lenD_snoc(D:List PD)(d:PD)(a:Nat):lenD (D++[⟨a,d.f,d.tf,d.p,d.tp⟩])=lenD (D++[d]):=by
  unfold lenD;simp
theorem dW{w:ag}{s4:aa}{A:ai}{Q:Flow→aa→Prop}{v x l y z H B r ts te:Nat}{Wd:Int}{mk:Str}{D:List PD}{f p:Str}{tf tp:Tok}{ls:List Value}(W4:KTH w s4.heap)(hh:A.handled=none)(room:A.depth+160<recursionLimit)(hu:A.units+250<cLine)(hB2:322≤B)(T4:Tabs s4.heap)
    (f4:s4.heap.get? B=some (frO [ew w "self" ts (.ref (v+322)),ew w "end_of_line" te (.ref (r+322))]))
    (F4:VF w.params s4.heap v x l y z Wd mk ls D H) (hr:s4.heap.get? (r+322)=some (aX [.str f tf,.str p tp])) (hne:((f==S " ")&&(p==S ""))=false) (kf:PyData.strOk f=true) (kp:PyData.strOk p=true)
    (l8:D.length<7) (sm:∀a,SmallD (D++[⟨a,f,tf,p,tp⟩])) (lH:H<100) (ll:ls.length≤8) (hn:∀a,H≠0∨(0<lenD (D++[⟨a,f,tf,p,tp⟩])∧(decide ((textD (D++[⟨a,f,tf,p,tp⟩])).length>0)&&(textD (D++[⟨a,f,tf,p,tp⟩])).cps.all Unicode.isSpace)=false))
    (k:∀s' a tk,Nxt [y+322,z+322,l+322,140,147] s4 s'→Tabs s'.heap→VF w.params s'.heap v x l y z Wd mk (ls++[.str (textD (D++[⟨a,f,tf,p,tp⟩])) tk]) [] 0→Q .next s'):
    wpAny (model pw w) A (execs [bC w 1,bC w 2,bC w 3] (bp w B)) Q noE s4:=by
  obtain ⟨tv,n0,n1,n2,u0,u1,n3,v4,e4,l4,a4,d4,p4⟩:=F4
  refine aN [bC w 1] [bC w 2,bC w 3] ?_
  refine newline_push (v:=v) (x:=x) (l:=l) (y:=y) (z:=z) W4 hh (rmz room rfl) (rm hu (al (A.units+0)) rfl) hB2 f4 v4 e4 a4 d4 hr hne (au ‹_›) kf kp fun s5 a n5 x5 a5 h5 la=> ?_
  have g5:(match Flow.next with| .next=>wpAny (model pw w) A (execs [bC w 2,bC w 3] (bp w B)) Q noE s5|f=>Q f s5):= ?_
  exact g5
  have W5:=W4.nxt x5 (High.one (ab _ _))
  have f5:=x5.keep f4 (notin1 (ne_cls f4 a4 (cTR _ _)))
  have F5:VF w.params s5.heap v x l y z Wd mk ls (D++[⟨a,f,tf,p,tp⟩]) H:=⟨_,_,_,_,_,_,_,x5.keep v4 (notin1 (ne_of_obj v4 a4 (fun e=>by cases e))),x5.keep e4 (notin1 (ne_cls e4 a4 (cTR _ _))),x5.keep l4 (notin1 (ne_cls l4 a4 (cTR _ _))),a5,x5.keep d4 (notin1 (ne_cls d4 a4 (cTR _ _))),by
    intro c hc
    rcases List.mem_append.mp hc with h|h
    · exact x5.keep (p4 c h) (notin1 (ne_cls (p4 c h) a4 (cTR _ _)))
    · rw [List.mem_singleton.mp h];exact h5⟩
  have T5:Tabs s5.heap:=T4.nxtH x5 (fun c hc=>by rw [List.mem_singleton.mp hc];exact ab _ _)
  refine aN [bC w 2] [bC w 3] ?_
  refine newline_add W5 hh (rmz room rfl) (rm hu (al (A.units+0)) rfl) hB2 T5 f5 F5 (by rw [aA];exact l8) (sm a) lH ll (hn a) fun s6 tk x6 T6 F6=> ?_
  have g6:wpAny (model pw w) A (execs [bC w 3] (bp w B)) Q noE s6:= ?_
  exact g6
  have hm6:∀{c:Nat},322≤c→c≠l+322→c∉([l+322,140,147]:List Addr):=fun h1 h2 h=>by
    rcases List.mem_cons.mp h with h|h
    · exact h2 h
    · exact dF h1 h
  have W6:=W5.nxt x6 (High.cons (.inl (ab _ _)) (High.cons (.inr (.inl rfl)) df))
  have f6:=x6.keep f5 (hm6 hB2 (ne_cls f4 l4 cFL))
  obtain ⟨t6,n06,n16,n26,u06,u16,n36,hv6,hx6,hl6,ha6,hd6,hp6⟩:=F6
  refine aT [] [(B,frO [ew w "self" ts (.ref (v+322)),ew w "end_of_line" te (.ref (r+322))]),(v+322,vfO (x+322)),(x+322,vfD w.params _ Wd mk (l+322) (y+322) n06),(y+322,accO (z+322) _ n26),(z+322,aZ w.params u06 u16 H n36)] 60 W6 hh .nil (.cons f6 (.cons hv6 (.cons hx6 (.cons ha6 (.cons hd6 .nil))))) ac nn0 dn0 (rmz room rfl) rfl [] fun A₀ c q1 hq1 uA₀=> ?_
  refine av (c':=(.call (.ref 160) ⟨[.ref (y+322)],[]⟩)) (d:=0) (u:=10) 39 0x50004000000000000000000040000000000000004000000000000000400030000000200020000000000000002000000000000000000020001 [] [] [] 0 1 (by apply cW1 q1 w<;>first|apply hq1|(intro w;kernel_rfl)) no_side fun s7 x7 _ A' R' hA dA uA res=> ?_
  have dA:A'.depth≤A.depth+0:=dA
  have W7:=W6.nxt x7 ac
  refine areset_spec W7 hA (rm room dA rfl) (x7.keep0 ha6) (x7.keep0 hd6) (by rw [aA];exact l8) fun s8 n8 t18 x8 a8 d8=> ?_
  have x68:Nxt [y+322,z+322] s6 s8:=x7.nil.trans x8
  have W8:=W6.nxt x68 (High.cons (.inl (ab _ _)) (High.one (ab _ _)))
  have hyz:∀{c:Nat},c≠y+322→c≠z+322→c∉([y+322,z+322]:List Addr):=fun h1 h2 h=>by rcases List.mem_cons.mp h with h|h;exact h1 h;exact h2 (List.mem_singleton.mp h)
  have f8:=x68.keep f6 (hyz (ne_cls f4 a4 (cTR _ _)) (ne_cls f4 d4 cFD))
  refine Rsm.go (lim:=60) res [] [] W8 .nil .nil ac aD dj0 (rmz room rfl) rfl [] fun q2 hq2=> ?_
  refine am (f:= .next) 1 0x0 [] [] [] 0 0 (by apply cW2 q2 q1 w<;>first|apply hq2|apply hq1|(intro w;kernel_rfl)) no_side fun s9 x9 _=> ?_
  have x69:Nxt [y+322,z+322] s6 s9:=x68.trans x9.nil
  have nx:Nxt [y+322,z+322,l+322,140,147] s4 s9:=(x5.weak (ao (by simp))).trans ((x6.weak (ao (by simp))).trans (x69.weak (ao (by simp))))
  have T9:Tabs s9.heap:=T6.nxtH x69 (fun c hc=>by rcases List.mem_cons.mp hc with h|h;(rw [h];exact ab _ _);(rw [List.mem_singleton.mp h];exact ab _ _))
  refine k s9 a tk nx T9 ⟨_,_,_,_,_,_,_,x69.keep hv6 (hyz (ne_of_obj v4 a4 (fun e=>by cases e)) (ne_cls v4 d4 (cRT _ _))),x69.keep hx6 (hyz (ne_cls e4 a4 (cTR _ _)) (ne_of_obj e4 d4 vfD_ne)),x69.keep hl6 (hyz (ne_cls l4 a4 (cTR _ _)) (ne_cls l4 d4 (Ne.symm cDL))),x9.keep0 a8,x9.keep0 d8,fun _ h=>by cases h⟩
theorem dU{w:ag}{s:aa}{A:ai}{R:Result→aa→Prop}{v x l y z H:Nat}{Wd:Int}{mk:Str}{D:List PD}{d:PD}{ls:List Value}(W:KTH w s.heap)(hh:A.handled=none)(room:A.depth+165<recursionLimit)(hu:A.units+300<cLine)(T:Tabs s.heap)
    (F:VF w.params s.heap v x l y z Wd mk ls (D++[d]) H) (hne:((d.f==S " ")&&(d.p==S ""))=false) (kf:PyData.strOk d.f=true) (kp:PyData.strOk d.p=true)
    (l8:D.length<7) (sm:SmallD (D++[d])) (lH:H<100) (ll:ls.length≤8) (hn:H≠0∨(0<lenD (D++[d])∧(decide ((textD (D++[d])).length>0)&&(textD (D++[d])).cps.all Unicode.isSpace)=false))
    (k:∀s' tk,Nxt [y+322,z+322,l+322,140,147] s s'→Tabs s'.heap→VF w.params s'.heap v x l y z Wd mk (ls++[.str (textD (D++[d])) tk]) [] 0→R (.ok (.ret .none)) s'):
    codeAny (model pw w) A (.call (.ref 56) ⟨[.ref (v+322)],[]⟩) R s:=by
  refine dR W hh (rmz room rfl) fun s1 B x1 W1 hB f1=> ?_
  have hB2:=bo W hB
  have F1:=F.keep0 x1
  have T1:=T.nxt0 x1
  obtain ⟨tv,n0,n1,n2,u0,u1,n3,hv,hx,hl,ha,hd,hp⟩:=F1
  refine aN [bC w 0] [bC w 1,bC w 2,bC w 3] ?_
  have nv:=notin1 (ne_cls hv f1 (cRT _ _))
  have nx:=notin1 (ne_cls hx f1 (Ne.symm cFD))
  have na:=notin1 (ne_cls ha f1 (cRT _ _))
  have nd:=notin1 (ne_cls hd f1 (Ne.symm cFD))
  refine aT [B] [(v+322,vfO (x+322)),(x+322,vfD w.params tv Wd mk (l+322) (y+322) n0),(y+322,accO (z+322) (refsD (D++[d])) n2),(z+322,aZ w.params u0 u1 H n3)] 60 W1 hh (.cons f1 .nil) (.cons hv (.cons hx (.cons ha (.cons hd .nil)))) (High.one hB2) (az _) (djc nv (djc nx (djc na (dj1 nd)))) (rmo room rfl) rfl [] fun A₀ c q1 hq1 uA₀=> ?_
  refine av (c':=(.call (.ref 138) ⟨[.ref (y+322)],[]⟩)) (d:=0) (u:=10) 39 0x40003000000000000000000030000000000000003000000000000000300020000000100010000000000000001000000000000000000010040 [0] [] [some (frO [ew w "self" s.4 (.ref (v+322))])] 1 1 (by apply cW1 q1 w<;>first|apply hq1|(intro w;kernel_rfl)) no_side fun s2 x2 g2 A' R' hA dA uA res=> ?_
  have dA:A'.depth≤A.depth+1:=dA
  have W2:=W1.nxt x2 (High.one hB2)
  refine dk W2 hA (rm room dA rfl) (x2.keep ha na) (x2.keep hd nd) l8 fun s3 n' x3 a3=> ?_
  have W3:=W2.nxt x3 (High.one (ab _ _))
  have f3:=x3.keep (g2 0) (notin1 (ne_cls f1 ha (cTR _ _)))
  refine Rsm.go (lim:=60) res [B] [] W3 (.cons f3 .nil) .nil (High.one hB2) (az _) dj0 (rmo room rfl) rfl [] fun q2 hq2=> ?_
  refine am (f:= .next) 8 0x400040 [0] [] [some (frO [ew w "self" s.4 (.ref (v+322)),ew w "end_of_line" s3.toks (.ref (d.1+322))])] 1 1 (by apply cW2 q2 q1 w<;>first|apply hq2|apply hq1|(intro w;kernel_rfl)) no_side fun s4 x4 g4=> ?_
  have x14:Nxt [B,y+322] s1 s4:=(x2.weak (ao (by simp))).trans ((x3.weak (ao (by simp))).trans (x4.weak (ao (by simp))))
  have hyy:∀{c:Nat},c≠B→c≠y+322→c∉([B,y+322]:List Addr):=fun h1 h2 h=>by rcases List.mem_cons.mp h with h|h;exact h1 h;exact h2 (List.mem_singleton.mp h)
  have W4:=W1.nxt x14 (High.cons (.inl hB2) (High.one (ab _ _)))
  have T4:Tabs s4.heap:=T1.nxtH x14 (fun c hc=>by rcases List.mem_cons.mp hc with h|h;(rw [h];exact hB2);(rw [List.mem_singleton.mp h];exact ab _ _))
  have v4:=x14.keep hv (hyy (ne_cls hv f1 (cRT _ _)) (ne_of_obj hv ha (fun e=>by cases e)))
  have e4:=x14.keep hx (hyy (ne_cls hx f1 (Ne.symm cFD)) (ne_cls hx ha (cTR _ _)))
  have l4:=x14.keep hl (hyy (ne_cls hl f1 (Ne.symm cFL)) (ne_cls hl ha (cTR _ _)))
  have a4:=x4.keep a3 (notin1 (ne_cls ha f1 (cRT _ _)))
  have d4:=x14.keep hd (hyy (ne_cls hd f1 (Ne.symm cFD)) (ne_cls hd ha (cTR _ _)))
  have p4:Pts s4.heap (D++[d]):=hp.nxt x14 fun c hc=>hyy (ne_cls (hp c hc) f1 (Ne.symm cFT)) (ne_cls (hp c hc) ha (cTR _ _))
  have sm':∀a,SmallD (D++[⟨a,d.f,d.tf,d.p,d.tp⟩]):=fun a=>by
    intro c hc
    rcases List.mem_append.mp hc with h|h
    · exact sm c (aB _ h)
    · rw [List.mem_singleton.mp h];exact sm d (by simp)
  refine dW W4 hh (rmo room rfl) (rm hu (al (A.units+3)) rfl) hB2 T4 (g4 0) ⟨_,_,_,_,_,_,_,v4,e4,l4,a4,d4,fun c hc=>p4 c (aB _ hc)⟩ (p4 d (by simp)) hne kf kp l8 sm' lH ll (fun a=>by rw [textD_snoc,lenD_snoc];exact hn) fun s5 a tk x5 T5 F5=> ?_
  rw [textD_snoc] at F5
  have nx:Nxt [B,y+322,z+322,l+322,140,147] s s5:=x1.nil.trans ((x14.weak (ao (by simp))).trans (x5.weak (ao (by simp))))
  exact k s5 tk (nx.drop hB) T5 F5
theorem newline_nil{w:ag}{s:aa}{A:ai}{R:Result→aa→Prop}{v x l y z H:Nat}{Wd:Int}{mk:Str}{ls:List Value}(W:KTH w s.heap)(hh:A.handled=none)(room:A.depth+165<recursionLimit)(hu:A.units+300<cLine)(T:Tabs s.heap)
    (F:VF w.params s.heap v x l y z Wd mk ls [] H) (lH:H<100) (ll:ls.length≤8) (hn:H≠0)
    (k:∀s' tk,Nxt [y+322,z+322,l+322,140,147] s s'→Tabs s'.heap→VF w.params s'.heap v x l y z Wd mk (ls++[.str (S "") tk]) [] 0→R (.ok (.ret .none)) s'):
    codeAny (model pw w) A (.call (.ref 56) ⟨[.ref (v+322)],[]⟩) R s:=by
  refine dR W hh (rmz room rfl) fun s1 B x1 W1 hB f1=> ?_
  have hB2:=bo W hB
  have F1:=F.keep0 x1
  have T1:=T.nxt0 x1
  obtain ⟨tv,n0,n1,n2,u0,u1,n3,hv,hx,hl,ha,hd,hp⟩:=F1
  refine aN [bC w 0] [bC w 1,bC w 2,bC w 3] ?_
  have nv:=notin1 (ne_cls hv f1 (cRT _ _))
  have nx:=notin1 (ne_cls hx f1 (Ne.symm cFD))
  have na:=notin1 (ne_cls ha f1 (cRT _ _))
  have nd:=notin1 (ne_cls hd f1 (Ne.symm cFD))
  refine aT [B] [(v+322,vfO (x+322)),(x+322,vfD w.params tv Wd mk (l+322) (y+322) n0),(y+322,accO (z+322) (refsD []) n2),(z+322,aZ w.params u0 u1 H n3)] 60 W1 hh (.cons f1 .nil) (.cons hv (.cons hx (.cons ha (.cons hd .nil)))) (High.one hB2) (az _) (djc nv (djc nx (djc na (dj1 nd)))) (rmo room rfl) rfl [] fun A₀ c q1 hq1 uA₀=> ?_
  refine av (c':=(.call (.ref 138) ⟨[.ref (y+322)],[]⟩)) (d:=0) (u:=10) 39 0x40003000000000000000000030000000000000003000000000000000300020000000100010000000000000001000000000000000000010040 [0] [] [some (frO [ew w "self" s.4 (.ref (v+322))])] 1 1 (by apply cW1 q1 w<;>first|apply hq1|(intro w;kernel_rfl)) no_side fun s2 x2 g2 A' R' hA dA uA res=> ?_
  have dA:A'.depth≤A.depth+1:=dA
  have W2:=W1.nxt x2 (High.one hB2)
  refine apop_nil W2 hA (rm room dA rfl) (x2.keep ha na) (x2.keep hd nd) fun s3 r t0' t1' x3 lr r3=> ?_
  obtain ⟨r,rfl⟩:∃r',r=r'+322:=(aW (ad W2.2 (by assumption)))
  have W3:=W2.nxt x3 ac
  have f3:=x3.keep0 (g2 0)
  refine Rsm.go (lim:=60) res [B] [] W3 (.cons f3 .nil) .nil (High.one hB2) (az _) dj0 (rmo room rfl) rfl [] fun q2 hq2=> ?_
  refine am (f:= .next) 8 0x400040 [0] [] [some (frO [ew w "self" s.4 (.ref (v+322)),ew w "end_of_line" s3.toks (.ref (r+322))])] 1 1 (by apply cW2 q2 q1 w<;>first|apply hq2|apply hq1|(intro w;kernel_rfl)) no_side fun s4 x4 g4=> ?_
  have x14:Nxt [B] s1 s4:=x2.trans (x3.nil.trans x4)
  have W4:=W1.nxt x14 (High.one hB2)
  have T4:Tabs s4.heap:=T1.nxtH x14 (fun c hc=>by rw [List.mem_singleton.mp hc];exact hB2)
  have r4:=x4.keep r3 (notin1 (Ne.symm (ne_cls f3 r3 cFT)))
  refine dW (D:=[]) W4 hh (rmo room rfl) (rm hu (al (A.units+3)) rfl) hB2 T4 (g4 0) ⟨_,_,_,_,_,_,_,x14.keep hv nv,x14.keep hx nx,x14.keep hl (notin1 (ne_cls hl f1 (Ne.symm cFL))),x14.keep ha na,x14.keep hd nd,fun _ h=>by cases h⟩ r4 (by decide+kernel) (by decide+kernel) (by decide+kernel) (by decide) (fun a=> ?_) lH ll (fun _=> .inl hn) fun s5 a tk x5 T5 F5=> ?_
  · intro c hc
    rw [List.mem_singleton.mp hc]
    exact (by decide+kernel:(S "").length<2^20∧(S "").length<2^20)
  · have nx:Nxt [B,y+322,z+322,l+322,140,147] s s5:=x1.nil.trans ((x14.weak (ao (by simp))).trans (x5.weak (ao (by simp))))
    exact k s5 tk (nx.drop hB) T5 F5
theorem vinit_spec{w:ag}{s:aa}{A:ai}{R:Result→aa→Prop}{v x H:Nat}{Wd:Int}{mk:Str}{th tw tc tm:Tok}(W:KTH w s.heap)(hh:A.handled=none)(room:A.depth+125<recursionLimit)
    (hv:s.heap.get? (v+322)=some (vfO (x+322))) (hx:s.heap.get? (x+322)=some ⟨.type "dict",none,.dict #[] 0,#[]⟩)
    (k:∀s' l y z,Nxt [x+322] s s'→VF w.params s'.heap v x l y z Wd mk [] [] H→s.heap.objs.size≤l+322→s.heap.objs.size≤y+322→s.heap.objs.size≤z+322→R (.ok (.ret .none)) s'):
    codeAny (model pw w) A (.call (.ref 35) ⟨[.ref (v+322),.int H th,.int Wd tw,.str (S "\t") tc,.str mk tm],[]⟩) R s:=by
  refine open_vinit W hh (rmz room rfl) fun s1 B x1 W1 hB f1=> ?_
  have hB2:=bo W hB
  have v1:=x1.keep0 hv
  have d1:=x1.keep0 hx
  refine aT [x+322] [(B,frO [ew w "self" s.toks (.ref (v+322)),ew w "headerlen" (s.toks+1) (.int H th),ew w "maxlen" (s.toks+2) (.int Wd tw),ew w "continuation_ws" (s.toks+3) (.str (S "\t") tc),ew w "splitchars" (s.toks+4) (.str mk tm)]),(v+322,vfO (x+322))] 60 W1 hh (.cons d1 .nil) (.cons f1 (.cons v1 .nil)) (High.one (ab _ _)) (az _) (djc (notin1 (ne_cls f1 d1 cFD)) (dj1 (notin1 (ne_cls v1 d1 (cRT _ _))))) (rmo room rfl) rfl [] fun A₀ c q1 hq1 _=> ?_
  refine av (c':=(.call (.ref 115) ⟨[.ref (s1.heap.objs.size+2),.int (U (H)) th],[]⟩)) (d:=5) (u:=20) 200 0x4300000043000000000000000000000000000000000000000000000000000000000000000000000000000100000000000100000040004000400000000200000000000000020000000200000000000200000000000000020001004000400040000000020000000000000002000000020000000000020000000000000002000100010040004000400000000200000000000000020000000200000000000200000000000000020001000000000001000000000040004000400000000200000000000000020000000200000000000200000000000000020001000100400040004000000002000000000000000200000002000000000002000000000000000200010001 [0,1,2,3] [] [some (⟨.type "dict",none,.dict #[ew w "_maxlen" (s1.toks+1) (.int Wd tw),ew w "_continuation_ws" (s1.toks+3) (.str (S "\t") tc),ew w "_continuation_ws_len" (s1.toks+7) (.int 1 (s1.toks+5)),ew w "_splitchars" (s1.toks+9) (.str mk tm),ew w "_lines" (s1.toks+11) (.ref s1.heap.objs.size)] 5,#[]⟩),some (lstO [] 0),some ⟨.type "dict",none,.dict #[] 0,#[]⟩,some (accO (s1.heap.objs.size+1) [] 0)] 4 12 (by apply cW1 q1 w<;>first|apply hq1|(intro w;kernel_rfl)) no_side fun s2 x2 g2 A' R' hA dA uA res=> ?_
  have dA:A'.depth≤A.depth+6:=dA
  have W2:=W1.nxt x2 (High.one (ab _ _))
  obtain ⟨q,hq⟩:∃q,s1.heap.objs.size=q+322:=(aW W1.2)
  have m2:s2.heap.get? (x+322)=some _:=(g2 0)
  have l2:s2.heap.get? (s1.heap.objs.size)=some (lstO [] 0):=(g2 1)
  have d2:s2.heap.get? (s1.heap.objs.size+1)=some ⟨.type "dict",none,.dict #[] 0,#[]⟩:=(g2 2)
  have a2:s2.heap.get? (s1.heap.objs.size+2)=some (accO (s1.heap.objs.size+1) [] 0):=(g2 3)
  have e0:s1.heap.objs.size+2=(q+2)+322:=by lia
  have e1:s1.heap.objs.size+1=(q+1)+322:=by lia
  rw [e0,e1] at a2
  rw [e1] at d2
  rw [e0]
  refine ainit_spec (y:=q+2) (z:=q+1) W2 hA (rm room dA rfl) a2 d2 fun s3 n' u0 u1 n2 x3 a3 d3=> ?_
  have hyz:∀{c:Nat},c≠q+2+322→c≠q+1+322→c∉([q+2+322,q+1+322]:List Addr):=fun h1 h2 h=>by rcases List.mem_cons.mp h with h|h;exact h1 h;exact h2 (List.mem_singleton.mp h)
  have bx:x+322<q+322:=hq▸an d1
  have bv:v+322<q+322:=hq▸an v1
  have bB:B<q+322:=hq▸an f1
  have W3:=W2.nxt x3 (High.cons (.inl (ab _ _)) (High.one (ab _ _)))
  have m3:=x3.keep m2 (hyz (ay (by lia)) (ay (by lia)))
  rw [hq] at l2
  have l3:=x3.keep l2 (hyz (ay (aK _)) (ay (aO _)))
  have nB:=notin1 (ne_cls f1 d1 cFD)
  have nv:=notin1 (ne_cls v1 d1 (cRT _ _))
  have f3:=x3.keep (x2.keep f1 nB) (hyz (ay (by lia)) (ay (by lia)))
  have v3:=x3.keep (x2.keep v1 nv) (hyz (ay (by lia)) (ay (by lia)))
  rw [hq] at m3
  refine Rsm.go (lim:=60) res [x+322] [(B,frO [ew w "self" s.toks (.ref (v+322)),ew w "headerlen" (s.toks+1) (.int H th),ew w "maxlen" (s.toks+2) (.int Wd tw),ew w "continuation_ws" (s.toks+3) (.str (S "\t") tc),ew w "splitchars" (s.toks+4) (.str mk tm)]),(v+322,vfO (x+322)),(q+2+322,accO (q+1+322) [] n')] W3 (.cons m3 .nil) (.cons f3 (.cons v3 (.cons a3 .nil))) (High.one (ab _ _)) (az _) (djc nB (djc nv (dj1 (notin1 (aJ (show x+322<q+2+322 by lia)))))) (rmo room rfl) rfl [] fun q2 hq2=> ?_
  refine am (f:= .next) 29 0x40004000400000000200000000000000020000000200000000000200000000000000020001 [0] [] [some (vfD w.params (tk [s1.4+1,s1.4+3,s1.4+7,s1.4+9,s1.4+11,s3.toks+1,tw,tc,s1.4+5,tm]) Wd mk (q+322) (s1.heap.objs.size+2) 6)] 1 2 (by apply cW2 q2 q1 w<;>first|apply hq2|apply hq1|(intro w;kernel_rfl)) no_side fun s4 x4 g4=> ?_
  have m4:s4.heap.get? (x+322)=some _:=(g4 0)
  rw [e0] at m4
  have ns:s.heap.objs.size≤q+322:=hq▸x1.heap.size
  have nx:Nxt [q+2+322,q+1+322,x+322] s s4:=x1.nil.trans ((x2.weak (ao (by simp))).trans ((x3.weak (ao (by simp))).trans (x4.weak (ao (by simp)))))
  have nx':Nxt [x+322] s s4:=(nx.drop (by lia)).drop (by lia)
  exact k s4 q (q+2) (q+1) nx' ⟨_,_,_,_,_,_,_,x4.keep v3 nv,m4,x4.keep l3 (notin1 (aJ (show x+322<q+322 by lia))),x4.keep a3 (notin1 (aJ (show x+322<q+2+322 by lia))),x4.keep d3 (notin1 (aJ (show x+322<q+1+322 by lia))),fun _ h=>by cases h⟩ (by lia) (by lia) (by lia)
noncomputable def bodyK(w:ag)(k:Nat):Stmt:=aF (dL w) k
theorem chunk_push{w:ag}{s:aa}{A:ai}{E:Value→aa→Prop}{Q:Flow→aa→Prop}{v x l y z B ts ta tb H:Nat}{f p:Str}{tf tp:Tok}{Wd:Int}{mk:Str}{D:List PD}{ls:List Value}(W:KTH w s.heap)(hh:A.handled=none)(room:A.depth+105<recursionLimit)(hB:322≤B)
    (hf:s.heap.get? B=some (frO [ew w "self" ts (.ref (v+322)),ew w "fws" ta (.str f tf),ew w "string" tb (.str p tp)])) (F:VF w.params s.heap v x l y z Wd mk ls D H) (l8:D.length≤7)
    (k:∀s' a,Nxt [y+322] s s'→VF w.params s'.heap v x l y z Wd mk ls (D++[⟨a,f,tf,p,tp⟩]) H→s.heap.objs.size≤a+322→Q .next s'):
    wpAny (model pw w) A (execs [bodyK w 0] (env_chunk w B)) Q E s:=by
  obtain ⟨tv,n0,n1,n2,u0,u1,n3,hv,hx,hl,ha,hd,hp⟩:=F
  have nf:=notin1 (ne_cls hf ha (cTR _ _))
  have nv:=notin1 (ne_of_obj hv ha (fun e=>by cases e))
  have nx:=notin1 (ne_cls hx ha (cTR _ _))
  have nz:=notin1 (ne_cls hd ha (cTR _ _))
  refine aT [y+322] [(B,frO [ew w "self" ts (.ref (v+322)),ew w "fws" ta (.str f tf),ew w "string" tb (.str p tp)]),(v+322,vfO (x+322)),(x+322,vfD w.params tv Wd mk (l+322) (y+322) n0),(z+322,aZ w.params u0 u1 H n3)] 60 W hh (.cons ha .nil) (.cons hf (.cons hv (.cons hx (.cons hd .nil)))) (High.one (ab _ _)) (az _) (djc nf (djc nv (djc nx (dj1 nz)))) (rmz room rfl) rfl [] fun A₀ c q1 hq1 uA₀=> ?_
  refine am (f:= .next) 93 0x4000d200000040004100410004004000000000000000400000000000000040000000000000004000410041004100410041004100410000000000000001000100040040000000000000000000400000000000000040000000000000004000030000000200020000000000000002000000000000000000020001 [0,2] [(((refsD D):List Value).toArray.size≤sizeLine)] [some (accO (z+322) ((refsD D)++[.ref (s.heap.objs.size+1)]) (n2+1)),some (aX [.str f tf,.str p tp])] 3 4 (by apply cW1 q1 w<;>first|apply hq1|(intro w;kernel_rfl)) (side_cons (by show (refsD D).toArray.size≤2^24;rw [List.size_toArray];unfold refsD;rw [ak];lia) no_side) fun s1 x1 g1=> ?_
  obtain ⟨a,ea⟩:∃a,s.heap.objs.size+1=a+322:=(aW (ad W.2 (aK _)))
  have e1:refsD D++[.ref (s.heap.objs.size+1)]=refsD (D++[⟨a,f,tf,p,tp⟩]):=by
    rw [ea];unfold refsD;rw [List.map_append];rfl
  rw [e1] at g1
  refine k s1 a x1 ⟨_,_,_,_,_,_,_,x1.keep hv nv,x1.keep hx nx,x1.keep hl (notin1 (ne_cls hl ha (cTR _ _))),(g1 0),x1.keep hd nz,?_⟩ (by lia)
  intro c hc
  rcases List.mem_append.mp hc with h|h
  · exact x1.keep (hp c h) (notin1 (ne_cls (hp c h) ha (cTR _ _)))
  · rw [List.mem_singleton.mp h];exact (ea▸(g1 1))
theorem lenD_app(D:List PD)(d:PD):lenD (D++[d])=lenD D+(d.f.length+d.p.length):=by
  unfold lenD;rw [List.map_append,List.sum_append];simp
theorem chunk_fits{w:ag}{s:aa}{A:ai}{R:Result→aa→Prop}{v x l y z H:Nat}{f p:Str}{tf tp:Tok}{Wd:Int}{mk:Str}{D:List PD}{ls:List Value}(W:KTH w s.heap)(hh:A.handled=none)(room:A.depth+125<recursionLimit)(T:Tabs s.heap)
    (F:VF w.params s.heap v x l y z Wd mk ls D H) (l8:D.length<7) (sm:SmallD D) (kf:f.length<2^20) (kp:p.length<2^20) (lH:H<100) (hfit:((H+lenD D+f.length+p.length:Nat):Int)≤Wd)
    (k:∀s' a,Nxt [y+322,140] s s'→Tabs s'.heap→VF w.params s'.heap v x l y z Wd mk ls (D++[⟨a,f,tf,p,tp⟩]) H→R (.ok (.ret .none)) s'):
    codeAny (model pw w) A (.call (.ref 91) ⟨[.ref (v+322),.str f tf,.str p tp],[]⟩) R s:=by
  refine open_chunk W hh (rmz room rfl) fun s1 B x1 W1 hB f1=> ?_
  have hB2:=bo W hB
  refine aN [bodyK w 0] [bodyK w 1] ?_
  refine chunk_push W1 hh (rmo room rfl) hB2 f1 (F.keep0 x1) (au ‹_›) fun s2 a x2 F2 la=> ?_
  have g2:wpAny (model pw w) (A.deeper (env_chunk w B)) (execs [bodyK w 1] (env_chunk w B)) (endF R) noE s2:= ?_
  exact g2
  have W2:=W1.nxt x2 (High.one (ab _ _))
  have T2:Tabs s2.heap:=(T.nxt0 x1).nxtH x2 (fun c hc=>by rw [List.mem_singleton.mp hc];exact ab _ _)
  have F2':=F2
  obtain ⟨tv,n0,n1,n2,u0,u1,n3,hv,hx,hl,ha,hd,hp⟩:=F2
  have f2:=x2.keep f1 (notin1 (ne_cls f1 ((F.keep0 x1).ha.choose_spec) (cTR _ _)))
  refine aT [] [(B,frO [ew w "self" s.toks (.ref (v+322)),ew w "fws" (s.toks+1) (.str f tf),ew w "string" (s.toks+2) (.str p tp)]),(v+322,vfO (x+322)),(x+322,vfD w.params tv Wd mk (l+322) (y+322) n0),(y+322,accO (z+322) _ n2)] 60 W2 hh .nil (.cons f2 (.cons hv (.cons hx (.cons ha .nil)))) ac nn0 dn0 (rmo room rfl) rfl [] fun A₀ c q1 hq1 uA₀=> ?_
  refine av (c':=(.call (.builtin "len") ⟨[.ref (y+322)],[]⟩)) (d:=0) (u:=10) 24 0x3000000020002000000000000000200000000000000000002000100000000 [] [] [] 0 1 (by apply cW1 q1 w<;>first|apply hq1|(intro w;kernel_rfl)) no_side fun s3 x3 _ A' R' hA dA uA res=> ?_
  have dA:A'.depth≤A.depth+1:=dA
  have sm':SmallD (D++[⟨a,f,tf,p,tp⟩]):=by
    intro c hc
    rcases List.mem_append.mp hc with h|h
    · exact sm c h
    · rw [List.mem_singleton.mp h];exact ⟨kf,kp⟩
  refine len_call (W2.nxt x3 ac) hA (rm room dA rfl) (x3.keep0 ha) (x3.keep0 hd) (hp.nxt0 x3) sm' (by rw [aA];exact l8) lH (T2.nxt0 x3) fun s4 tk x4 T4=> ?_
  have el:H+lenD (D++[⟨a,f,tf,p,tp⟩])=H+lenD D+f.length+p.length:=by rw [lenD_app];show H+(lenD D+(f.length+p.length))=_;lia
  rw [el]
  have x24:Nxt [140] s2 s4:=x3.nil.trans x4
  have W4:=W2.nxt x24 dg
  have f4:=x24.keep f2 (b7 hB2)
  have v4:=x24.keep hv (b7 (ab _ _))
  have e4:=x24.keep hx (b7 (ab _ _))
  refine Rsm.go (lim:=60) res [] [(B,frO [ew w "self" s.toks (.ref (v+322)),ew w "fws" (s.toks+1) (.str f tf),ew w "string" (s.toks+2) (.str p tp)]),(v+322,vfO (x+322)),(x+322,vfD w.params tv Wd mk (l+322) (y+322) n0)] W4 .nil (.cons f4 (.cons v4 (.cons e4 .nil))) ac nn0 dn0 (rmo room rfl) rfl [] fun q2 hq2=> ?_
  refine am (f:= .next) 24 0xe00030000000200020000000000000002000000000000000000020001 [] [(decide (Wd<(U (H+lenD D+f.length+p.length)))=false)] [] 0 1 (by apply cW2 q2 q1 w<;>first|apply hq2|apply hq1|(intro w;kernel_rfl)) (side_cons (decide_eq_false (Int.not_lt.mpr hfit)) no_side) fun s5 x5 _=> ?_
  have x25:Nxt [140] s2 s5:=x24.trans x5.nil
  have F5:=F2'.lo x25 (fun b hb=>b7 hb)
  have nx:Nxt [y+322,140] s s5:=x1.nil.trans ((x2.weak (ao (by simp))).trans (x25.weak (ao (by simp))))
  exact k s5 a nx (T4.nxt0 x5) F5
noncomputable def st0:Stmt:= .Pass ⟨0,0,0,0⟩
noncomputable def forCh(w:ag):Stmt:=(sB (bodyK w 1)).headD st0
noncomputable def forI(w:ag):Stmt:=(sB (forCh w)).headD st0
noncomputable def bodyI(w:ag):List Stmt:=sB (forI w)
theorem refs_at{D:List PD}{i:Nat}{d:PD}(h:D[i]? =some d):(refsD D).toArray[i]? =some (.ref (d.a+322)):=by
  unfold refsD
  rw [List.getElem?_toArray,aI,h];rfl
noncomputable def sdP(D:List PD)(i a:Nat):Prop:=((0≤((U (i.add 1)) - 1)∧((U (i.add 1)) - 1)<2^63)∧((refsD D):List Value).toArray[(((U (i.add 1)) - 1)).toNat]? =some (.ref (a+322)))
noncomputable def sdN(D:List PD)(i a:Nat):Prop:=((0≤(U (i.add 1))∧(U (i.add 1))<2^63)∧((refsD D):List Value).toArray[((U (i.add 1))).toNat]? =some (.ref (a+322)))
noncomputable def sdE(a b:Nat)(r:Bool):Prop:=((⟨#[a]⟩:Str).cps.toList==(⟨#[b]⟩:Str).cps.toList)=r
noncomputable def sdS(c:Nat)(r:Bool):Prop:=(decide ((⟨#[c]⟩:Str).length>0)&&(⟨#[c]⟩:Str).cps.all Unicode.isSpace)=r
theorem fits7{i:Nat}(li:i<7):0≤(i:Int)∧(i:Int)<2^63:=by lia
theorem sideI{D:List PD}{i:Nat}{d:PD}(h:D[i]? =some d)(li:i+1<7):sdP D i d.a:=by
  unfold sdP
  rw [show (U (i.add 1)) - 1=(i:Int) by show ((i+1:Nat):Int) - 1=i;lia]
  exact ⟨fits7 (Nat.lt_of_succ_lt li),refs_at h⟩
theorem sideJ{D:List PD}{i:Nat}{d:PD}(h:D[i+1]? =some d)(li:i+1<7):sdN D i d.a:=⟨fits7 li,refs_at h⟩
theorem beq1{a b:Nat}(h:a=b):sdE a b true:=by simp [sdE,h]
theorem beq0{a b:Nat}(h:a≠b):sdE a b false:=by simp [sdE,h]
theorem spc{c:Nat}{b:Bool}(h:Unicode.isSpace c=b):sdS c b:=by simp [sdS,Str.length,h]
noncomputable def tlS(P:ae)(τ:Nat→Nat)(q:Str)(c0 i:Nat):Nat→List DictEntry
  |0=>[]
  |1=>[en P (S "ch") (τ 0) (.str ⟨#[c0]⟩ (τ 1))]
  |2=>[en P (S "ch") (τ 0) (.str ⟨#[c0]⟩ (τ 1)),en P (S "i") (τ 2) (.int (U i) (τ 3))]
  |_=>[en P (S "ch") (τ 0) (.str ⟨#[c0]⟩ (τ 1)),en P (S "i") (τ 2) (.int (U i) (τ 3)),en P (S "prevpart") (τ 4) (.str q (τ 5))]
noncomputable def fC(P:ae)(τ:Nat→Nat)(v:Nat)(f:Str)(tf:Tok)(p:Str)(tp:Tok)(l:List DictEntry):Obj:=frO (en P (S "self") (τ 6) (.ref (v+322))::en P (S "fws") (τ 7) (.str f tf)::en P (S "string") (τ 8) (.str p tp)::l)
inductive FrC (P:ae) (h:Heap) (v B:Nat) (p:Str) (tp:Tok) (c i k:Nat):Prop
  |mk (τ:Nat→Nat) (f:Str) (tf:Tok) (q:Str) (e:h.get? B=some (fC P τ v f tf p tp (tlS P τ q c i k)))
noncomputable def FB(P:ae)(h:Heap)(v B:Nat)(p:Str)(tp:Tok)(c i:Nat):Prop:=∃k,FrC P h v B p tp c i (k+2)
noncomputable def FA(P:ae)(h:Heap)(v B:Nat)(p:Str)(tp:Tok)(c:Nat):Prop:=∃i k,FrC P h v B p tp c i (k+1)
noncomputable def FZ(P:ae)(h:Heap)(v B:Nat)(p:Str)(tp:Tok):Prop:=∃c i k,FrC P h v B p tp c i k
section
variable {P:ae} {s s':aa} {v B c i k:Nat} {p:Str} {tp:Tok} {mods:List Addr}
theorem FrC.keep(F:FrC P s.heap v B p tp c i k)(X:Nxt mods s s')(h:B∉mods):FrC P s'.heap v B p tp c i k:=by
  cases F with|mk _ _ _ _ e=>exact ⟨_,_,_,_,X.keep e h⟩
theorem FB.keep(F:FB P s.heap v B p tp c i)(X:Nxt mods s s')(h:B∉mods):FB P s'.heap v B p tp c i:=F.elim fun k F=>⟨k,F.keep X h⟩
theorem FA.keep(F:FA P s.heap v B p tp c)(X:Nxt mods s s')(h:B∉mods):FA P s'.heap v B p tp c:=F.elim fun i F=>F.elim fun k F=>⟨i,k,F.keep X h⟩
theorem FZ.keep(F:FZ P s.heap v B p tp)(X:Nxt mods s s')(h:B∉mods):FZ P s'.heap v B p tp:=F.elim fun c F=>F.elim fun i F=>F.elim fun k F=>⟨c,i,k,F.keep X h⟩
theorem FB.a(F:FB P s.heap v B p tp c i):FA P s.heap v B p tp c:=F.elim fun k F=>⟨i,k+1,F⟩
theorem FA.z(F:FA P s.heap v B p tp c):FZ P s.heap v B p tp:=F.elim fun i F=>F.elim fun k F=>⟨c,i,k+1,F⟩
theorem FZ.fr(F:FZ P s.heap v B p tp):∃o,s.heap.get? B=some o∧o.cls= .type "frame":=F.elim fun _ F=>F.elim fun _ F=>F.elim fun _ F=>by cases F with|mk _ _ _ _ e=>exact ⟨_,e,rfl⟩
end
noncomputable def ik(k a b:Nat):Nat:=match k with
  |0=>a
  |_=>b
noncomputable def upS(τ:Nat→Nat)(j u v:Nat):Nat→Nat:=fun i=>match Nat.beq i j with
  |true=>u
  |false=>match Nat.beq i (Nat.succ j) with
    |true=>v
    |false=>τ i
section
variable {w:ag} {s:aa} {A:ai} {E:Value→aa→Prop} {Q:Flow→aa→Prop} {v x l y z B H i k:Nat} {τ:Nat→Nat} {f p q mk:Str} {tf tp:Tok} {Wd:Int} {D:List PD} {ls:List Value} {a1 a2 c0 c1 c2 c3 e1 e2 tg tg' tw tw':Nat} {g g' p':Str}
theorem segI(W:KTH w s.heap)(hh:A.handled=none)(room:A.depth+105<recursionLimit)(hB:322≤B)(hf:s.heap.get? B=some (fC w.params τ v f tf p tp (tlS w.params τ q c0 (i+1) (k+2))))(F:VF w.params s.heap v x l y z Wd mk ls D H)
    (hi:D[i]? =some ⟨a1,g,tg,⟨#[c1,c2,c3]⟩,tw⟩) (hi':D[i+1]? =some ⟨a2,g',tg',p',tw'⟩)
    (G:∀tv n0 n2 A₀ c q1,q1=qd w s [B] [fC w.params τ v f tf p tp (tlS w.params τ q c0 (i+1) (k+2))] [(v+322,vfO (x+322)),(x+322,vfD w.params tv Wd mk (l+322) (y+322) n0),(y+322,accO (z+322) (refsD D) n2),(a1+322,aX [.str g tg,.str ⟨#[c1,c2,c3]⟩ tw]),(a2+322,aX [.str g' tg',.str p' tw'])] 60 [.ref (a1+322),.ref (a2+322)] c .own 0 (fj (exF (bodyI w) (env_chunk w B)))→GdQ w s [B] A₀ (RF Q E) A.depth c q1):
    wpAny (model pw w) A (execs (bodyI w) (env_chunk w B)) Q E s:=by
  obtain ⟨tv,n0,n1,n2,u0,u1,n3,hv,hx,hl,ha,hd,hp⟩:=F
  have p1:=hp _ (aM hi)
  have p2:=hp _ (aM hi')
  exact aT [B] _ 60 W hh (.cons hf .nil) (.cons hv (.cons hx (.cons ha (.cons p1 (.cons p2 .nil))))) (High.one hB) (az _) (djc (notin1 (ne_cls hv hf (cRT _ _))) (djc (notin1 (ne_cls hx hf (Ne.symm cFD))) (djc (notin1 (ne_cls ha hf (cRT _ _))) (djc (notin1 (ne_cls p1 hf (Ne.symm cFT))) (dj1 (notin1 (ne_cls p2 hf (Ne.symm cFT)))))))) (rmz room rfl) rfl [.ref (a1+322),.ref (a2+322)] fun A₀ c q1 hq1 _=>G tv n0 n2 A₀ c q1 hq1
variable (W : KTH w s.heap) (hh : A.handled = none) (room : A.depth + 105 < recursionLimit) (hB : 322 ≤ B) (hf : s.heap.get? B = some (fC w.params τ v f tf p tp (tlS w.params τ q c0 (i + 1) (k + 2)))) (F : VF w.params s.heap v x l y z Wd mk ls D H) (li : i + 1 < 7)
  (hi:D[i]? =some ⟨a1,g,tg,⟨#[c1,c2,c3]⟩,tw⟩)
include W hh room hB hf F li hi
theorem turnD(hi':D[i+1]? =some ⟨a2,g',tg',p',tw'⟩)(hsp:Unicode.isSpace c0=false)(hc:c3=c0)(kk:∀s',Nxt [B] s s'→FB w.params s'.heap v B p tp c0 (i+1)→Q .brk s'):wpAny (model pw w) A (execs (bodyI w) (env_chunk w B)) Q E s:=
  segI W hh room hB hf F hi hi' fun tv n0 n2 A₀ c q1 hq1=>am (f:= .brk) 102 0x100150040000000000040000000180000004000400040000000040000000400040004000400000000000300c800000003000000000000000300000003000000000000000300000004004000020000000100010000000000000001000000000000000000010040000000190040 [0] [sdE c3 c0 true,True,sdP D i a1,True,sdS c0 false] [some (fC w.params (upS τ 4 (ik k (s.toks+4) (τ 4)) tw) v f tf p tp (tlS w.params (upS τ 4 (ik k (s.toks+4) (τ 4)) tw) ⟨#[c1,c2,c3]⟩ c0 (i+1) (1+2)))] 1 10 (by apply kW1 q1 w k<;>first|apply hq1|(intros;kernel_rfl)) (side_cons (beq1 hc) (side_cons trivial (side_cons (sideI hi li) (side_cons trivial (side_cons (spc hsp) no_side))))) fun s1 x1 g1=>kk s1 x1 ⟨1,⟨_,_,_,_,g1 0⟩⟩
theorem turnE(hi':D[i+1]? =some ⟨a2,g',tg',p',tw'⟩)(hsp:Unicode.isSpace c0=false)(hc:c3≠c0)(kk:∀s',Nxt [B] s s'→FB w.params s'.heap v B p tp c0 (i+1)→Q .next s'):wpAny (model pw w) A (execs (bodyI w) (env_chunk w B)) Q E s:=
  segI W hh room hB hf F hi hi' fun tv n0 n2 A₀ c q1 hq1=>am (f:= .next) 101 0x150040000000000040000000180000004000400040000000040000000400040004000400000000000300c800000003000000000000000300000003000000000000000300000004004000020000000100010000000000000001000000000000000000010040000000190040 [0] [sdE c3 c0 false,True,sdP D i a1,True,sdS c0 false] [some (fC w.params (upS τ 4 (ik k (s.toks+4) (τ 4)) tw) v f tf p tp (tlS w.params (upS τ 4 (ik k (s.toks+4) (τ 4)) tw) ⟨#[c1,c2,c3]⟩ c0 (i+1) (1+2)))] 1 10 (by apply kW1 q1 w k<;>first|apply hq1|(intros;kernel_rfl)) (side_cons (beq0 hc) (side_cons trivial (side_cons (sideI hi li) (side_cons trivial (side_cons (spc hsp) no_side))))) fun s1 x1 g1=>kk s1 x1 ⟨1,⟨_,_,_,_,g1 0⟩⟩
theorem turnA(hi':D[i+1]? =some ⟨a2,⟨#[e1,e2]⟩,tg',p',tw'⟩)(hsp:Unicode.isSpace c0=true)(hw:e1=c0)(kk:∀s',Nxt [B] s s'→FB w.params s'.heap v B p tp c0 (i+1)→Q .brk s'):wpAny (model pw w) A (execs (bodyI w) (env_chunk w B)) Q E s:=
  segI W hh room hB hf F hi hi' fun tv n0 n2 A₀ c q1 hq1=>am (f:= .brk) 93 0x10015004000000040000000180000004000400040000000050000000500050005000500000001000300c8000000030000000000000003000000030000000000000003004000020000000100010000000000000001000000000000000000010040000100190040 [0] [sdE e1 c0 true,True,sdN D i a2,sdS c0 true] [some (fC w.params τ v ⟨#[e1,e2]⟩ tg' p tp (tlS w.params τ q c0 (i+1) (k+2)))] 1 7 (by apply kW1 q1 w k<;>first|apply hq1|(intros;kernel_rfl)) (side_cons (beq1 hw) (side_cons trivial (side_cons (sideJ hi' li) (side_cons (spc hsp) no_side)))) fun s1 x1 g1=>kk s1 x1 ⟨k,⟨_,_,_,_,g1 0⟩⟩
theorem turnB(hi':D[i+1]? =some ⟨a2,⟨#[]⟩,tg',p',tw'⟩)(hsp:Unicode.isSpace c0=true)(hc:c3≠c0)(kk:∀s',Nxt [B] s s'→FB w.params s'.heap v B p tp c0 (i+1)→Q .next s'):wpAny (model pw w) A (execs (bodyI w) (env_chunk w B)) Q E s:=
  segI W hh room hB hf F hi hi' fun tv n0 n2 A₀ c q1 hq1=>am (f:= .next) 171 0x150040000000000040000000180000004000400040000000040000000400040004000400000000000300c80000000300000000000000030000000300000000000000030000000400400002000000010001000000000000000100000000000000000001004000000000004000400040000000050000000500050005000500000001000300c8000000030000000000000003000000030000000000000003004000020000000100010000000000000001000000000000000000010040000100190040 [0] [sdE c3 c0 false,True,sdP D i a1,True,sdN D i a2,sdS c0 true] [some (fC w.params (upS τ 4 (ik k (s.toks+9) (τ 4)) tw) v ⟨#[]⟩ tg' p tp (tlS w.params (upS τ 4 (ik k (s.toks+9) (τ 4)) tw) ⟨#[c1,c2,c3]⟩ c0 (i+1) (1+2)))] 1 15 (by apply kW1 q1 w k<;>first|apply hq1|(intros;kernel_rfl)) (side_cons (beq0 hc) (side_cons trivial (side_cons (sideI hi li) (side_cons trivial (side_cons (sideJ hi' li) (side_cons (spc hsp) no_side)))))) fun s1 x1 g1=>kk s1 x1 ⟨1,⟨_,_,_,_,g1 0⟩⟩
theorem turnC(hi':D[i+1]? =some ⟨a2,⟨#[e1,e2]⟩,tg',p',tw'⟩)(hsp:Unicode.isSpace c0=true)(hw:e1≠c0)(hc:c3≠c0)(kk:∀s',Nxt [B] s s'→FB w.params s'.heap v B p tp c0 (i+1)→Q .next s'):wpAny (model pw w) A (execs (bodyI w) (env_chunk w B)) Q E s:=
  segI W hh room hB hf F hi hi' fun tv n0 n2 A₀ c q1 hq1=>am (f:= .next) 183 0x150040000000000040000000180000004000400040000000040000000400040004000400000000000300c80000000300000000000000030000000300000000000000030000000400400002000000010001000000000000000100000000000000000001004000000015004000000040000000180000004000400040000000050000000500050005000500000001000300c8000000030000000000000003000000030000000000000003004000020000000100010000000000000001000000000000000000010040000100190040 [0] [sdE c3 c0 false,True,sdP D i a1,True,sdE e1 c0 false,True,sdN D i a2,sdS c0 true] [some (fC w.params (upS τ 4 (ik k (s.toks+11) (τ 4)) tw) v ⟨#[e1,e2]⟩ tg' p tp (tlS w.params (upS τ 4 (ik k (s.toks+11) (τ 4)) tw) ⟨#[c1,c2,c3]⟩ c0 (i+1) (1+2)))] 1 17 (by apply kW1 q1 w k<;>first|apply hq1|(intros;kernel_rfl)) (side_cons (beq0 hc) (side_cons trivial (side_cons (sideI hi li) (side_cons trivial (side_cons (beq0 hw) (side_cons trivial (side_cons (sideJ hi' li) (side_cons (spc hsp) no_side)))))))) fun s1 x1 g1=>kk s1 x1 ⟨1,⟨_,_,_,_,g1 0⟩⟩
end
noncomputable def cN(x:Str)(t:Tok)(i:Nat):Obj:=⟨.type "str_ascii_iterator",none,.fields #[.str x t,.int i 0],#[]⟩
noncomputable def bs(x left step:Int):Obj:=⟨.type "range_iterator",none,.fields #[.int x 0,.int left 0,.int step 0],#[]⟩
noncomputable def bE(l:Addr)(i:Nat):Obj:=⟨.type "list_iterator",none,.fields #[.ref l,.int i 0],#[]⟩
section
variable {w:ag} {s:aa} {A:ai} {E:Value→aa→Prop} {Q:Option Value→aa→Prop}
theorem bJ{it:Nat}{x step:Int}{n:Nat}(W:KTH w s.heap)(hh:A.handled=none)(room:A.depth+60<recursionLimit)(h:s.heap.get? it=some (bs x (U (n+1)) step))(l:322≤it)
    (k:∀s',Nxt [it] s s'→s'.heap.get? it=some (bs (x+step) (U n) step)→Q (some (.int x s.toks)) s'):wpAny (model pw w) A (pyNext (.ref it)) Q E s:=by
  rw [PySem.W.Fast.te9404975358583537561]
  refine segO [it] [] 60 W hh (.cons h .nil) .nil (High.one l) (az _) dj0 room rfl [] fun A₀ c q1 hq1 uA₀=> ?_
  refine am (f:=(.ret (.int x s.toks))) 13 0x40004000400040004000400040000000400040 [0] [] [some (⟨.type "range_iterator",none,.fields #[.int (x+step) 0,.int ((U (n.add 1)) - 1) 0,.int step 0],#[]⟩)] 1 1 (by apply cW1 q1 w<;>first|apply hq1|(intro w;kernel_rfl)) no_side fun s1 x1 g1=>k s1 x1 (by
    have e:U (n.add 1) - 1=U n:=by show ((n+1:Nat):Int) - 1=n;lia
    have g:=(g1 0)
    rw [e] at g
    exact g)
theorem bX{it:Nat}{x step:Int}(W:KTH w s.heap)(hh:A.handled=none)(room:A.depth+60<recursionLimit)(h:s.heap.get? it=some (bs x 0 step))(l:322≤it)
    (k:∀s',Nxt [it] s s'→Q none s'):wpAny (model pw w) A (pyNext (.ref it)) Q E s:=by
  rw [PySem.W.Fast.te9404975358583537561]
  refine segO [it] [] 60 W hh (.cons h .nil) .nil (High.one l) (az _) dj0 room rfl [] fun A₀ c q1 hq1 uA₀=> ?_
  refine am (f:= .next) 13 0x42004000400040000000400040 [0] [] [some (⟨.type "range_iterator",none,.fields #[.int x 0,.int 0 0,.int step 0],#[]⟩)] 3 0 (by apply cW1 q1 w<;>first|apply hq1|(intro w;kernel_rfl)) no_side fun s1 x1 _=>k s1 x1
theorem same_nxt{it:Nat}{h':Heap}{n:Nat}(x:Heap.SameBut it s.heap h'):Nxt [it] s {s with heap:=h',toks:=n}:=⟨⟨fun b o e q=>(x.2 b fun z=>q (by rw [z];exact .head _)).trans e,Nat.le_of_eq x.1.symm⟩,GX.refl _,rfl,rfl⟩
theorem stop_nxt{it:Nat}{h':Heap}(x:Heap.SameBut it s.heap h')(a b:Obj):Nxt [it] s {s with heap:=(h'.push a).push b}:=⟨⟨fun c o e q=>Heap.get?_push_of_some _ (Heap.get?_push_of_some _ ((x.2 c fun z=>q (by rw [z];exact .head _)).trans e)),by rw [Heap.size_push,Heap.size_push,x.1];lia⟩,GX.refl _,rfl,rfl⟩
theorem str_item{it:Nat}{x:Str}{t:Tok}{i c:Nat}(h:s.heap.get? it=some (cN x t i))(hx:x.cps[i]? =some c)
    (k:∀s',Nxt [it] s s'→s'.heap.get? it=some (cN x t (i+1))→Q (some (.str ⟨#[c]⟩ s.toks)) s'):wpAny (model pw w) A (pyNext (.ref it)) Q E s:=by
  have hT:s.heap.IsStrIter it "str_ascii_iterator" x t i:=⟨_,h,rfl,rfl⟩
  unfold pyNext
  refine af (wpAny_attempt (wpAny_callSpecial?_slot (name:=Str.ofString "__next__") hT.typeIs F.slot_str_ascii_iterator_next (wpAny_call_entry F.slot_str_ascii_iterator_next hT.typeIs F.entry_str_ascii_iterator_next ?_ (F.args_str_ascii_iterator_next_1 _))))
  show wpAny _ _ (field (.ref it) 0>>=_) _ _ s
  refine af (wpAny_field h rfl (x:= .str x t) rfl ?_)
  show wpAny _ _ (field (.ref it) 1>>=_) _ _ s
  refine af (wpAny_field h rfl (x:= .int i 0) rfl ?_)
  simp only [Int.toNat_natCast,hx]
  exact af (wpAny_setField h rfl (by simp) (af (wpAny_mkStr (wpAny_pure ⟨_,rfl,wpAny_pure (k _ (same_nxt (Heap.SameBut.update ..)) (Heap.get?_update_self _ h rfl))⟩) (by show 1≤sizeLine;decide))))
theorem str_end{it:Nat}{x:Str}{t:Tok}{i:Nat}(hh:A.handled=none)(h:s.heap.get? it=some (cN x t i))(hx:x.cps[i]? =none)
    (k:∀s',Nxt [it] s s'→Q none s'):wpAny (model pw w) A (pyNext (.ref it)) Q E s:=by
  have hT:s.heap.IsStrIter it "str_ascii_iterator" x t i:=⟨_,h,rfl,rfl⟩
  unfold pyNext
  refine af (wpAny_attempt (wpAny_callSpecial?_slot (name:=Str.ofString "__next__") hT.typeIs F.slot_str_ascii_iterator_next (wpAny_call_entry F.slot_str_ascii_iterator_next hT.typeIs F.entry_str_ascii_iterator_next ?_ (F.args_str_ascii_iterator_next_1 _))))
  show wpAny _ _ (field (.ref it) 0>>=_) _ _ s
  refine af (wpAny_field h rfl (x:= .str x t) rfl ?_)
  show wpAny _ _ (field (.ref it) 1>>=_) _ _ s
  refine af (wpAny_field h rfl (x:= .int i 0) rfl ?_)
  simp only [Int.toNat_natCast,hx]
  refine af (wpAny_rule (af (wpAny_setField h rfl (by simp) (af (wpAny_letGo ?_)))))
  show wpAny _ _ (newExc (.type "StopIteration") []>>=_) _ _ _
  refine af ?_
  simp only [newExc,newTuple]
  refine af (wpAny_newObj_type ?_ (by size_fits))
  refine af (m:=firstArgMember _ _) (wpAny_of_eq (a:=Value.none) (by first|rfl|(simp only [firstArgMember];rfl)) ?_)
  refine wpAny_newObj_type ?_ (by size_fits)
  simp only [raiseNew]
  refine af (wpAny_handled ?_)
  rw [show A.in1.handled=none from hh]
  refine af (wpAny_pure (wpAny_throw ?_))
  refine af (wpAny_isInstance (T:= "StopIteration") (b:=true) ⟨_,Heap.get?_push_size _ rfl,rfl⟩ isSubtype_stop ?_)
  exact wpAny_pure (k _ (stop_nxt (Heap.SameBut.update ..) _ _))
theorem de{it a n:Nat}{xs:List Value}{i:Nat}{v:Value}(h:s.heap.get? it=some (bE a i))(ha:s.heap.get? a=some ⟨.type "list",none,.seq xs.toArray n,#[]⟩)(hx:xs.toArray[i]? =some v)
    (k:∀s',Nxt [it] s s'→s'.heap.get? it=some (bE a (i+1))→Q (some v) s'):wpAny (model pw w) A (pyNext (.ref it)) Q E s:=by
  have hT:s.heap.IsListIter it a i:=⟨_,h,rfl,rfl⟩
  unfold pyNext
  refine af (wpAny_attempt (wpAny_callSpecial?_slot (name:=Str.ofString "__next__") hT.typeIs slot_listiter_next (wpAny_call_entry slot_listiter_next hT.typeIs entry_listiter_next ?_ (args_listiter_next _))))
  show wpAny _ _ (field (.ref it) 0>>=_) _ _ s
  refine af (wpAny_field h rfl (x:= .ref a) rfl ?_)
  show wpAny _ _ (if (Value.ref a==Value.none)=true then _ else _) _ _ s
  rw [if_neg (show ¬((Value.ref a==Value.none)=true) from Bool.false_ne_true)]
  show wpAny _ _ (field (.ref it) 1>>=_) _ _ s
  refine af (wpAny_field h rfl (x:= .int i 0) rfl ?_)
  show wpAny _ _ (seqItems? (.ref a)>>=_) _ _ s
  refine af (wpAny_seqItems ha rfl ?_)
  simp only [Int.toNat_natCast,hx]
  exact af (wpAny_setField h rfl (by simp) (wpAny_pure ⟨v,rfl,wpAny_pure (k _ (same_nxt (Heap.SameBut.update ..)) (Heap.get?_update_self _ h rfl))⟩))
theorem dY{it a n:Nat}{xs:List Value}{i:Nat}(hh:A.handled=none)(h:s.heap.get? it=some (bE a i))(ha:s.heap.get? a=some ⟨.type "list",none,.seq xs.toArray n,#[]⟩)(hx:xs.toArray[i]? =none)
    (k:∀s',Nxt [it] s s'→Q none s'):wpAny (model pw w) A (pyNext (.ref it)) Q E s:=by
  have hT:s.heap.IsListIter it a i:=⟨_,h,rfl,rfl⟩
  unfold pyNext
  refine af (wpAny_attempt (wpAny_callSpecial?_slot (name:=Str.ofString "__next__") hT.typeIs slot_listiter_next (wpAny_call_entry slot_listiter_next hT.typeIs entry_listiter_next ?_ (args_listiter_next _))))
  show wpAny _ _ (field (.ref it) 0>>=_) _ _ s
  refine af (wpAny_field h rfl (x:= .ref a) rfl ?_)
  show wpAny _ _ (if (Value.ref a==Value.none)=true then _ else _) _ _ s
  rw [if_neg (show ¬((Value.ref a==Value.none)=true) from Bool.false_ne_true)]
  show wpAny _ _ (field (.ref it) 1>>=_) _ _ s
  refine af (wpAny_field h rfl (x:= .int i 0) rfl ?_)
  show wpAny _ _ (seqItems? (.ref a)>>=_) _ _ s
  refine af (wpAny_seqItems ha rfl ?_)
  simp only [Int.toNat_natCast,hx]
  refine af (wpAny_rule (af (wpAny_setField h rfl (by simp) ?_)))
  show wpAny _ _ (newExc (.type "StopIteration") []>>=_) _ _ _
  refine af ?_
  simp only [newExc,newTuple]
  refine af (wpAny_newObj_type ?_ (by size_fits))
  refine af (m:=firstArgMember _ _) (wpAny_of_eq (a:=Value.none) (by first|rfl|(simp only [firstArgMember];rfl)) ?_)
  refine wpAny_newObj_type ?_ (by size_fits)
  simp only [raiseNew]
  refine af (wpAny_handled ?_)
  rw [show A.in1.handled=none from hh]
  refine af (wpAny_pure (wpAny_throw ?_))
  refine af (wpAny_isInstance (T:= "StopIteration") (b:=true) ⟨_,Heap.get?_push_size _ rfl,rfl⟩ isSubtype_stop ?_)
  exact wpAny_pure (k _ (stop_nxt (Heap.SameBut.update ..) _ _))
end
theorem dl{w:ag}{s:aa}{A:ai}{R:Result→aa→Prop}{x:Str}{t:Tok}(ha:x.cps.all (· <128)=true)
    (k:∀s',Nxt [] s s'→s'.heap.get? s.heap.objs.size=some (cN x t 0)→R (.ok (.ret (.ref s.heap.objs.size))) s'):
    codeAny (model pw w) A (.call (.builtin "str.__iter__") ⟨[.str x t],[]⟩) R s:=by
  refine codeAny_call_builtin F.slot_str_iter.plain F.entry_str_iter (F.slot_str_iter.check _ _ _ _ _ _ _ _ (typeIs_str s x t) (F.args_str_iter_1 _) ?_)
  show wpAny _ _ (do ret (←newFields (if (true&&x.cps.all (· <128))=true then "str_ascii_iterator" else "str_iterator") [.str x t,rawInt 0])) _ _ s
  rw [ha]
  exact af (wpAny_newObj_type (wpAny_pure (k _ ⟨⟨fun b o e _=>Heap.get?_push_of_some _ e,by rw [Heap.size_push];lia⟩,GX.refl _,rfl,rfl⟩ (Heap.get?_push_size _ rfl))))
theorem bd{w:ag}{s:aa}{A:ai}{R:Result→aa→Prop}{r:Addr}{a b c n:Int}{t u v:Tok}(hr:IsRange s.heap r a b c t u v)(hs:Builtin.Range.small a b c=true)(hn:Builtin.Range.rangeSize a b c=n)
    (k:∀s',Nxt [] s s'→s'.heap.get? s.heap.objs.size=some (bs a n c)→R (.ok (.ret (.ref s.heap.objs.size))) s'):
    codeAny (model pw w) A (.call (.builtin "range.__iter__") ⟨[.ref r],[]⟩) R s:=by
  have hT:s.TypeIs (.ref r) "range":=⟨_,hr,rfl⟩
  refine codeAny_call_builtin F.slot_range_iter.plain F.entry_range_iter (F.slot_range_iter.check _ _ _ _ _ _ _ _ hT (F.args_range_iter_1 _) (AutoRange.range___iter___range_1 r a b c t u v (by unfold Builtin.Range.small at hs;simp [hs]) pw w A R s ⟨hr,?_⟩))
  unfold Builtin.Range.small at hs
  simp only [hs,if_true]
  subst hn
  exact k _ ⟨⟨fun b o e _=>Heap.get?_push_of_some _ e,by rw [Heap.size_push];lia⟩,GX.refl _,rfl,rfl⟩ (Heap.get?_push_size _ rfl)
theorem down_range(m:Nat)(h:m<7):Builtin.Range.small (U m) 0 (-1)=true∧Builtin.Range.rangeSize (U m) 0 (-1)=U m:=by
  have:∀m<7,Builtin.Range.small (U m) 0 (-1)=true∧Builtin.Range.rangeSize (U m) 0 (-1)=U m:=by decide+kernel
  exact this m h
theorem dM{w:ag}{s:aa}{A:ai}{E:Value→aa→Prop}{Q:Flow→aa→Prop}{target:Expr}{it v:Value}{body:List Stmt}{env:Env}
    (h:wpAny (model pw w) A (letOwnedTupleGo target it v>>=fun _=>assign target env v>>=fun _=>execs [] env) (fun f s'=>wpAny (model pw w) A (execs body env) Q E s') E s):
    wpAny (model pw w) A (letOwnedTupleGo target it v>>=fun _=>assign target env v>>=fun _=>execs body env) Q E s:=by
  intro Γ p hΓ
  have z:=h Γ p hΓ
  simp only [Sem.wp_bind'] at z⊢
  refine Sem.wp_mono _ Γ _ (fun _ p' s' z=> ?_) (fun _ _ _ z=>z) _ _ z
  refine Sem.wp_mono _ Γ _ (fun _ p' s' z=> ?_) (fun _ _ _ z=>z) _ _ z
  exact z Γ _ hΓ
section
variable {w:ag} {s:aa} {A:ai} {E:Value→aa→Prop} {Q:Flow→aa→Prop} {v B c:Nat} {p:Str} {tp tcn:Tok}
theorem asgCh{it:Nat}(W:KTH w s.heap)(hh:A.handled=none)(room:A.depth+60<recursionLimit)(hB:322≤B)(F:FZ w.params s.heap v B p tp)(kk:∀s',Nxt [B] s s'→FA w.params s'.heap v B p tp c→Q .next s'):
    wpAny (model pw w) A (letOwnedTupleGo (sT (forCh w)) (.ref it) (.str ⟨#[c]⟩ tcn)>>=fun _=>assign (sT (forCh w)) (env_chunk w B) (.str ⟨#[c]⟩ tcn)>>=fun _=>execs [] (env_chunk w B)) Q E s:=by
  obtain ⟨c',i,k,τ,f,tf,q,e⟩:=F
  refine bL [B] [] 60 W hh (.cons e .nil) .nil (High.one hB) (az _) dj0 room rfl [] fun A₀ c₀ q1 hq1 uA₀=> ?_
  refine am (f:= .next) 7 0x400040 [0] [] [some (fC w.params (upS τ 0 (ik k s.toks (τ 0)) tcn) v f tf p tp (tlS w.params (upS τ 0 (ik k s.toks (τ 0)) tcn) q c i (k.pred+1)))] 1 1 (by apply lW1 q1 w k<;>first|apply hq1|(intros;kernel_rfl)) no_side fun s1 x1 g1=>kk s1 x1 ⟨i,_,_,_,_,_,g1 0⟩
theorem asgI{it n:Nat}(W:KTH w s.heap)(hh:A.handled=none)(room:A.depth+60<recursionLimit)(hB:322≤B)(F:FA w.params s.heap v B p tp c)(kk:∀s',Nxt [B] s s'→FB w.params s'.heap v B p tp c n→Q .next s'):
    wpAny (model pw w) A (letOwnedTupleGo (sT (forI w)) (.ref it) (.int (U n) tcn)>>=fun _=>assign (sT (forI w)) (env_chunk w B) (.int (U n) tcn)>>=fun _=>execs [] (env_chunk w B)) Q E s:=by
  obtain ⟨i,k,τ,f,tf,q,e⟩:=F
  refine bL [B] [] 60 W hh (.cons e .nil) .nil (High.one hB) (az _) dj0 room rfl [] fun A₀ c₀ q1 hq1 uA₀=> ?_
  refine am (f:= .next) 7 0x400040 [0] [] [some (fC w.params (upS τ 2 (ik k s.toks (τ 2)) tcn) v f tf p tp (tlS w.params (upS τ 2 (ik k s.toks (τ 2)) tcn) q c n (k.pred+2)))] 1 1 (by apply lW1 q1 w k<;>first|apply hq1|(intros;kernel_rfl)) no_side fun s1 x1 g1=>kk s1 x1 ⟨_,_,_,_,_,g1 0⟩
end
theorem enterI{w:ag}{s:aa}{A:ai}{E:Value→aa→Prop}{Q:Flow→aa→Prop}{v x l y z B H c0:Nat}{p mk:Str}{tp:Tok}{Wd:Int}{ls:List Value}{D:List PD}(W:KTH w s.heap)(hh:A.handled=none)(room:A.depth+105<recursionLimit)(hB:322≤B)
    (hf:FA w.params s.heap v B p tp c0) (F:VF w.params s.heap v x l y z Wd mk ls D H) (l8:D.length≤7) (l0:0<D.length)
    (k:∀s' it A' R',Nxt [] s s'→s.heap.objs.size≤it→s'.heap.get? it=some (bs (U (D.length - 1)) (U (D.length - 1)) (-1))→A'.handled=none→A'.depth≤A.depth→A'.units≤A.units+50→(∀s'',KTH w s''.heap→(∀s3,Nxt [] s'' s3→Q .brk s3)→R' (.ok .next) s'')→(∀s'',KTH w s''.heap→(∀s3,Nxt [] s'' s3→Q .cont s3)→R' (.ok .cont) s'')→codeAny (model pw w) A' (forC (forI w) (.ref it) (env_chunk w B)) R' s'):
    wpAny (model pw w) A (execs (sB (forCh w)) (env_chunk w B)) Q E s:=by
  obtain ⟨i,k',τ,f,tf,q,hf⟩:=hf
  obtain ⟨tv,n0,n1,n2,u0,u1,n3,hv,hx,hl,ha,hd,hp⟩:=F
  refine aT [] [(B,_),(v+322,vfO (x+322)),(x+322,vfD w.params tv Wd mk (l+322) (y+322) n0),(y+322,accO (z+322) (refsD D) n2),(z+322,aZ w.params u0 u1 H n3)] 60 W hh .nil (.cons hf (.cons hv (.cons hx (.cons ha (.cons hd .nil))))) ac nn0 dn0 (rmz room rfl) rfl [] fun A₀ c q1 hq1 uA₀=> ?_
  refine av (c':=(.call (.ref 175) ⟨[.ref (y+322)],[]⟩)) (d:=0) (u:=10) 42 0x5000400000000000000000004000000000000000400000000000000040003000000020002000000000000000200000000000000000002000100000000 [] [] [] 0 1 (by apply cW1 q1 w<;>first|apply hq1|(intro w;kernel_rfl)) no_side fun s1 x1 _ A' R' hA dA uA res=> ?_
  have dA:A'.depth≤A.depth+0:=dA
  have W1:=W.nxt x1 ac
  obtain ⟨m,hm⟩:∃m,D.length=m+1:=⟨D.length - 1,by lia⟩
  refine pcount W1 (rm room dA rfl) hA (x1.keep0 ha) fun s2 u x2=> ?_
  rw [show (refsD D).length=m+1 by unfold refsD;rw [ak,hm]]
  have W2:=W1.nxt x2 ac
  refine Rsm.go (lim:=60) res [] [] W2 .nil .nil ac aD dj0 (rmz room rfl) rfl [] fun q2 hq2=> ?_
  refine av (c':=(.call (.builtin "range.__iter__") ⟨[.ref s2.heap.objs.size],[]⟩)) (d:=0) (u:=10) 32 0x4000400040000000400040004000000000000000000004 [0] [True] [some (⟨.type "range",none,.fields #[.int ((U (m.add 1)) - 1) (s2.toks+1),.int 0 (s2.toks+2),.int (-1) (s2.toks+4)],#[]⟩)] 1 5 (by apply cW2 q2 q1 w<;>first|apply hq2|apply hq1|(intro w;kernel_rfl)) (side_cons True.intro no_side) fun s3 x3 g3 A' R' hA dA uA res=> ?_
  have dA:A'.depth≤A.depth+0:=dA
  have W3:=W2.nxt x3 ac
  have e1:(U (m.add 1)) - 1=U m:=by show ((m+1:Nat):Int) - 1=m;lia
  have r3:=(g3 0)
  rw [e1] at r3
  refine bd r3 (down_range m (by lia)).1 (down_range m (by lia)).2 fun s4 x4 i4=> ?_
  have W4:=W3.nxt x4 ac
  refine Rsm.go (lim:=60) res [] [(s3.heap.objs.size,bs (U m) (U m) (-1))] W4 .nil (.cons i4 .nil) ac nn0 dn0 (rmz room rfl) rfl [] fun q3 hq3=> ?_
  refine av (c':=(forC ((forI w)) (.ref s3.heap.objs.size) ((env_chunk w B)))) (d:=0) (u:=10) 1 0x1 [] [] [] 0 0 (by apply cW3 q3 q2 q1 w<;>first|apply hq3|apply hq2|apply hq1|(intro w;kernel_rfl)) no_side fun s5 x5 _ A' R' hA dA uA res=> ?_
  have dA:A'.depth≤A.depth+0:=dA
  refine k s5 _ A' R' (x1.trans (x2.trans (x3.trans (x4.trans x5)))) (ad x1.heap.size (ad x2.heap.size x3.heap.size)) (by rw [hm];exact x5.keep0 i4) hA dA (by lia) (fun s6 W6 q6=> ?_) (fun s6 W6 q6=> ?_)
  · refine Rsm.go (lim:=60) res [] [] W6 .nil .nil ac aD dj0 (rmz room rfl) rfl [] fun q4 hq4=> ?_
    refine am (f:= .brk) 1 0x0 [] [] [] 0 0 (by apply cW4 q4 q3 q2 q1 w<;>first|apply hq4|apply hq3|apply hq2|apply hq1|(intro w;kernel_rfl)) no_side fun s7 x7 _=>q6 s7 x7
  · refine Rsm.go (lim:=60) res [] [] W6 .nil .nil ac aD dj0 (rmz room rfl) rfl [] fun q4 hq4=> ?_
    refine am (f:= .cont) 0 0x0 [] [] [] 0 0 (by apply cW4 q4 q3 q2 q1 w<;>first|apply hq4|apply hq3|apply hq2|apply hq1|(intro w;kernel_rfl)) no_side fun s7 x7 _=>q6 s7 x7
theorem VF.off{P:ae}{v x l y z:Nat}{Wd:Int}{mk:Str}{ls:List Value}{D:List PD}{H:Nat}{s s':aa}{B:Nat}{o:Obj}(F:VF P s.heap v x l y z Wd mk ls D H)(X:Nxt [B] s s')(hb:s.heap.get? B=some o)(T:String)(hc:o.cls= .type T)(ht:("dict"==T|| "list"==T|| "tuple"==T)=false):VF P s'.heap v x l y z Wd mk ls D H:=by
  simp only [Bool.or_eq_false_iff,beq_eq_false_iff_ne] at ht
  obtain ⟨tv,n0,n1,n2,u0,u1,n3,hv,hx,hl,ha,hd,hp⟩:=F
  have ty:∀{a:String},a≠T→Value.type a≠o.cls:=fun h e=>h (by rw [hc] at e;exact Value.type.inj e)
  have tr:∀{a:Nat},Value.ref a≠o.cls:=fun e=>by rw [hc] at e;cases e
  exact ⟨_,_,_,_,_,_,_,X.keep hv (notin1 (ne_cls hv hb tr)),X.keep hx (notin1 (ne_cls hx hb (ty ht.1.1))),X.keep hl (notin1 (ne_cls hl hb (ty ht.1.2))),X.keep ha (notin1 (ne_cls ha hb tr)),X.keep hd (notin1 (ne_cls hd hb (ty ht.1.1))),fun d h=>X.keep (hp d h) (notin1 (ne_cls (hp d h) hb (ty ht.2)))⟩
noncomputable def PDok(d:PD):Prop:=(∃c1 c2 c3,d.p=⟨#[c1,c2,c3]⟩∧Unicode.isSpace c3=false)∧(d.f=S ""∨∃e1 e2,d.f=⟨#[e1,e2]⟩)
noncomputable def hitAt(D:List PD)(c i:Nat):Bool:=(Unicode.isSpace c&&(match D[i]? with|some d=>d.f.cps[0]? ==some c|none=>false))||(match D[i - 1]? with|some d=>d.p.cps[2]? ==some c|none=>false)
noncomputable def findI(D:List PD)(c:Nat):Nat→Option Nat
  |0=>none
  |m+1=>if hitAt D c (m+1) then some (m+1) else findI D c m
noncomputable def findC(D:List PD):List Nat→Option Nat
  |[]=>none
  |c::cs=>match findI D c (D.length - 1) with|some i=>some i|none=>findC D cs
theorem turnI{w:ag}{s:aa}{A:ai}{E:Value→aa→Prop}{Q:Flow→aa→Prop}{v x l y z B H i c:Nat}{p:Str}{tp:Tok}{Wd:Int}{mk:Str}{D:List PD}{ls:List Value}(W:KTH w s.heap)(hh:A.handled=none)(room:A.depth+105<recursionLimit)(hB:322≤B)
    (hf:FB w.params s.heap v B p tp c (i+1)) (F:VF w.params s.heap v x l y z Wd mk ls D H) (l8:D.length≤7) (ok:∀d∈D,PDok d) (li:i+1<D.length)
    (k:∀s',Nxt [B] s s'→FB w.params s'.heap v B p tp c (i+1)→Q (if hitAt D c (i+1) then .brk else .next) s'):
    wpAny (model pw w) A (execs (bodyI w) (env_chunk w B)) Q E s:=by
  obtain ⟨k',τ,f,tf,q,e⟩:=hf
  have li':i+1<7:=ah li l8
  have h1:D[i]? =some D[i]:=aG (au ‹_›)
  have h2:D[i+1]? =some D[i+1]:=aG li
  have o1:=ok D[i] (List.getElem_mem _)
  have o2:=ok D[i+1] (List.getElem_mem _)
  generalize D[i]=d at h1 o1
  generalize D[i+1]=d' at h2 o2
  obtain ⟨a,g,tg,_,tw⟩:=d
  obtain ⟨a',g',tg',p',tw'⟩:=d'
  obtain ⟨⟨c1,c2,c3,ep,hs3⟩,_⟩:=o1
  dsimp only at ep
  subst ep
  have kk:hitAt D c (i+1)=((Unicode.isSpace c&&(g'.cps[0]? ==some c))||(c3==c)):=by
    unfold hitAt
    rw [h2,show i+1 - 1=i by lia,h1]
    rfl
  rw [kk] at k
  cases hsp:Unicode.isSpace c with
  |false=>
    rw [hsp] at k
    simp only [Bool.false_and,Bool.false_or] at k
    by_cases hc:c3=c
    · rw [show (c3==c)=true from beq_iff_eq.mpr hc] at k
      exact turnD W hh room hB e F li' h1 h2 hsp hc k
    · rw [show (c3==c)=false from beq_eq_false_iff_ne.mpr hc] at k
      exact turnE W hh room hB e F li' h1 h2 hsp hc k
  |true=>
    have hc:c3≠c:=fun e=>by rw [e,hsp] at hs3;cases hs3
    rw [hsp,show (c3==c)=false from beq_eq_false_iff_ne.mpr hc] at k
    simp only [Bool.true_and,Bool.or_false] at k
    rcases o2.2 with e2|⟨e1,e2,e3⟩
    · dsimp only at e2
      subst e2
      rw [show ((S "").cps[0]? ==some c)=false from rfl] at k
      exact turnB W hh room hB e F li' h1 h2 hsp hc k
    · dsimp only at e3
      subst e3
      rw [show (((⟨#[e1,e2]⟩:Str).cps[0]? ==some c)=(e1==c)) from rfl] at k
      by_cases hw:e1=c
      · rw [show (e1==c)=true from beq_iff_eq.mpr hw] at k
        exact turnA W hh room hB e F li' h1 h2 hsp hw k
      · rw [show (e1==c)=false from beq_eq_false_iff_ne.mpr hw] at k
        exact turnC W hh room hB e F li' h1 h2 hsp hw hc k
theorem inner_loop{w:ag}{A:ai}{R:Result→aa→Prop}{v x l y z B H c it:Nat}{p:Str}{tp:Tok}{Wd:Int}{mk:Str}{D:List PD}{ls:List Value}(hh:A.handled=none)(room:A.depth+105<recursionLimit)(hB:322≤B)(hit:322≤it)(l8:D.length≤7)(ok:∀d∈D,PDok d):
    ∀(m:Nat) {s:aa},m<D.length→KTH w s.heap→FA w.params s.heap v B p tp c→VF w.params s.heap v x l y z Wd mk ls D H→s.heap.get? it=some (bs (U m) (U m) (-1))→
    (∀s' i,findI D c m=some i→Nxt [B,it] s s'→FB w.params s'.heap v B p tp c i→VF w.params s'.heap v x l y z Wd mk ls D H→R (.ok .next) s')→
    (∀s',findI D c m=none→Nxt [B,it] s s'→FA w.params s'.heap v B p tp c→VF w.params s'.heap v x l y z Wd mk ls D H→R (.ok .cont) s')→
    codeAny (model pw w) A (forC (forI w) (.ref it) (env_chunk w B)) R s
  |0,s,hm,W,fA,F,hi,k1,k2=>by
    obtain ⟨o,eo,ho⟩:=fA.z.fr
    have nB:B∉[it]:=notin1 (ne_cls eo hi (by rw [ho];exact (show Value.type "frame"≠Value.type "range_iterator" by decide)))
    refine aV (bX W hh (rmz room rfl) hi hit fun s1 x1=> ?_)
    have W1:=W.nxt x1 (High.one hit)
    have F1:=F.off x1 hi "range_iterator" rfl (by decide)
    have f1:=fA.keep x1 nB
    refine aT [] [] 60 W1 hh .nil .nil ac aD dj0 (rmz room rfl) rfl [] fun A₀ c q1 hq1 uA₀=> ?_
    refine am (f:= .cont) 1 0x0 [] [] [] 0 0 (by apply cW1 q1 w<;>first|apply hq1|(intro w;kernel_rfl)) no_side fun s2 x2 _=>k2 s2 rfl ((x1.trans x2.nil).weak (ao (by simp))) (f1.keep x2 (fun h=>by cases h)) (F1.keep0 x2)
  |m+1,s,hm,W,fA,F,hi,k1,k2=>by
    obtain ⟨o,eo,ho⟩:=fA.z.fr
    have nB:B∉[it]:=notin1 (ne_cls eo hi (by rw [ho];exact (show Value.type "frame"≠Value.type "range_iterator" by decide)))
    refine aV (bJ W hh (rmz room rfl) hi hit fun s1 x1 i1=> ?_)
    have W1:=W.nxt x1 (High.one hit)
    have F1:=F.off x1 hi "range_iterator" rfl (by decide)
    have f1:=fA.keep x1 nB
    have nI:it∉[B]:=notin1 (ne_cls hi eo (by rw [ho];exact (show Value.type "range_iterator"≠Value.type "frame" by decide)))
    have fin:∀s2,Nxt [B] s1 s2→FB w.params s2.heap v B p tp c (m+1)→wpAny (model pw w) A (execs (bodyI w) (env_chunk w B)) (fun f s₃=>match f with
            | .next| .cont=>codeAny (model pw w) A (forC (forI w) (.ref it) (env_chunk w B)) R s₃
            | .brk=>R (.ok .next) s₃
            | .ret v=>R (.ok (.ret v)) s₃) noE s2:=by
      intro s2 x2 f2
      obtain ⟨o1,eo1,ho1⟩:=f1.z.fr
      have W2:=W1.nxt x2 (High.one hB)
      have F2:=F1.off x2 eo1 "frame" ho1 (by decide)
      refine turnI W2 hh (rmz room rfl) hB f2 F2 l8 ok hm fun s3 x3 f3=> ?_
      obtain ⟨o2,eo2,ho2⟩:=f2.a.z.fr
      have F3:=F2.off x3 eo2 "frame" ho2 (by decide)
      have x13:Nxt [B,it] s s3:=(x1.weak (ao (by simp))).trans ((x2.trans x3).weak (ao (by simp)))
      have i3:=(x2.trans x3).keep i1 nI
      cases hq:hitAt D c (m+1) with
      |true=>exact k1 s3 (m+1) (by unfold findI;rw [hq];rfl) x13 f3 F3
      |false=>
        have e1:findI D c (m+1)=findI D c m:=by rw [findI,hq];rfl
        rw [e1] at k1 k2
        have e2:U (m+1)+(-1)=U m:=by show ((m+1:Nat):Int)+(-1)=m;lia
        rw [e2] at i3
        exact inner_loop hh room hB hit l8 ok m (au ‹_›) (W2.nxt x3 (High.one hB)) f3.a F3 i3 (fun s' i h X=>k1 s' i h (x13.trans X)) (fun s' h X=>k2 s' h (x13.trans X))
    exact dM (asgI W1 hh (rmz room rfl) hB f1 fin)
theorem ch{α:Type}{l:List α}{j:Nat}{c:α}{cs:List α}(h:l.drop j=c::cs):l[j]? =some c∧l.drop (j+1)=cs:=by
  have:=List.getElem?_drop (xs:=l) (i:=j) (j:=0)
  rw [h] at this
  refine ⟨by simpa using this.symm,?_⟩
  have e:=List.drop_drop (l:=l) (i:=1) (j:=j)
  rw [h] at e
  simpa using e.symm
theorem outer_loop{w:ag}{A:ai}{R:Result→aa→Prop}{v x l y z B H it:Nat}{p:Str}{tp tk:Tok}{Wd:Int}{mk mk':Str}{D:List PD}{ls:List Value}(hh:A.handled=none)(room:A.depth+115<recursionLimit)(hB:322≤B)(hit:322≤it)(l8:D.length≤7)(l0:0<D.length)(ok:∀d∈D,PDok d):
    ∀(cs:List Nat) (j:Nat) {s:aa},mk.cps.toList.drop j=cs→KTH w s.heap→FZ w.params s.heap v B p tp→VF w.params s.heap v x l y z Wd mk' ls D H→s.heap.get? it=some (cN mk tk j)→
    (∀s' i c,findC D cs=some i→Nxt [B,it] s s'→FB w.params s'.heap v B p tp c i→VF w.params s'.heap v x l y z Wd mk' ls D H→R (.ok .next) s')→
    (∀s',findC D cs=none→Nxt [B,it] s s'→FZ w.params s'.heap v B p tp→VF w.params s'.heap v x l y z Wd mk' ls D H→wpAny (model pw w) A (execs (sO (forCh w)) (env_chunk w B)) (fun f s₃=>R (.ok f) s₃) noE s')→
    codeAny (model pw w) A (forC (forCh w) (.ref it) (env_chunk w B)) R s
  |[],j,s,hj,W,fZ,F,hi,k1,k2=>by
    obtain ⟨o,eo,ho⟩:=fZ.fr
    have nB:B∉[it]:=notin1 (ne_cls eo hi (by rw [ho];exact (show Value.type "frame"≠Value.type "str_ascii_iterator" by decide)))
    have hn:mk.cps[j]? =none:=by
      rw [←Array.getElem?_toList]
      exact List.getElem?_eq_none (List.drop_eq_nil_iff.mp hj)
    refine aV (str_end hh hi hn fun s1 x1=> ?_)
    exact k2 s1 rfl (x1.weak (ao (by simp))) (fZ.keep x1 nB) (F.off x1 hi "str_ascii_iterator" rfl (by decide))
  |c::cs,j,s,hj,W,fZ,F,hi,k1,k2=>by
    obtain ⟨o,eo,ho⟩:=fZ.fr
    have nB:B∉[it]:=notin1 (ne_cls eo hi (by rw [ho];exact (show Value.type "frame"≠Value.type "str_ascii_iterator" by decide)))
    have hj':=ch hj
    have hs:mk.cps[j]? =some c:=by rw [←Array.getElem?_toList];exact hj'.1
    refine aV (str_item hi hs fun s1 x1 i1=> ?_)
    have W1:=W.nxt x1 (High.one hit)
    have F1:=F.off x1 hi "str_ascii_iterator" rfl (by decide)
    have f1:=fZ.keep x1 nB
    have nI:it∉[B]:=notin1 (ne_cls hi eo (by rw [ho];exact (show Value.type "str_ascii_iterator"≠Value.type "frame" by decide)))
    have fin:∀s2,Nxt [B] s1 s2→FA w.params s2.heap v B p tp c→wpAny (model pw w) A (execs (sB (forCh w)) (env_chunk w B)) (fun f s₃=>match f with
            | .next| .cont=>codeAny (model pw w) A (forC (forCh w) (.ref it) (env_chunk w B)) R s₃
            | .brk=>R (.ok .next) s₃
            | .ret v=>R (.ok (.ret v)) s₃) noE s2:=by
      intro s2 x2 f2
      obtain ⟨o1,eo1,ho1⟩:=f1.fr
      have W2:=W1.nxt x2 (High.one hB)
      have F2:=F1.off x2 eo1 "frame" ho1 (by decide)
      have go:∀s3 it' (A':ai) (R':Result→aa→Prop),Nxt [] s2 s3→s2.heap.objs.size≤it'→s3.heap.get? it'=some (bs (U (D.length - 1)) (U (D.length - 1)) (-1))→A'.handled=none→A'.depth≤A.depth→A'.units≤A.units+50→
          (∀s'',KTH w s''.heap→(∀s3,Nxt [] s'' s3→R (.ok .next) s3)→R' (.ok .next) s'')→(∀s'',KTH w s''.heap→(∀s3,Nxt [] s'' s3→codeAny (model pw w) A (forC (forCh w) (.ref it) (env_chunk w B)) R s3)→R' (.ok .cont) s'')→codeAny (model pw w) A' (forC (forI w) (.ref it') (env_chunk w B)) R' s3:=by
        intro s3 it' A' R' x3 hn i3 hA dA _ q1 q2
        have W3:=W2.nxt x3 ac
        have F3:=F2.keep0 x3
        have hit':=bo W2 hn
        have x13:Nxt [B,it] s s3:=(x1.weak (ao (by simp))).trans ((x2.weak (ao (by simp))).trans x3.nil)
        have i13:=x3.keep0 (x2.keep i1 nI)
        have hl:=an (x2.keep i1 nI)
        have nI':it∉[B,it']:=fun h=>by
          rcases List.mem_cons.mp h with h|h
          · exact nI (by rw [h];exact .head _)
          · rw [List.mem_singleton.mp h] at hl;exact absurd hl (Nat.not_lt.mpr hn)
        have dr:∀{s4},Nxt [B,it'] s3 s4→Nxt [B,it] s s4:=fun {s4} X=>by
          have Y:Nxt [it',B] s2 s4:=x3.nil.trans (X.weak (ao (by simp)))
          have Z:Nxt [B] s2 s4:=Y.drop hn
          exact (x1.weak (ao (by simp))).trans ((x2.trans Z).weak (ao (by simp)))
        refine inner_loop hA (by lia) hB hit' l8 ok (D.length - 1) (by lia) W3 (f2.keep x3 (fun h=>by cases h)) F3 i3 (fun s4 i hf X f4 F4=> ?_) (fun s4 hf X f4 F4=> ?_)
        · have W4:=W3.nxt X (High.cons (.inl hB) (High.one hit'))
          exact q1 s4 W4 fun s5 x5=>k1 s5 i c (by unfold findC;rw [hf]) ((dr X).trans x5.nil) (f4.keep x5 (fun h=>by cases h)) (F4.keep0 x5)
        · have W4:=W3.nxt X (High.cons (.inl hB) (High.one hit'))
          have ec:findC D (c::cs)=findC D cs:=by rw [findC,hf]
          rw [ec] at k1 k2
          refine q2 s4 W4 fun s5 x5=>outer_loop hh room hB hit l8 l0 ok cs (j+1) hj'.2 (W4.nxt x5 ac) (f4.keep x5 (fun h=>by cases h)).z (F4.keep0 x5) (x5.keep0 (X.keep i13 nI')) (fun s' i c' h Y=>k1 s' i c' h (((dr X).trans x5.nil).trans Y)) (fun s' h Y=>k2 s' h (((dr X).trans x5.nil).trans Y))
      exact enterI W2 hh (rmz room rfl) hB f2 F2 l8 l0 go
    exact dM (asgCh W1 hh (rmz room rfl) hB f1 fin)
theorem chunk_test{w:ag}{s:aa}{A:ai}{E:Value→aa→Prop}{Q:Flow→aa→Prop}{v x l y z B H ts ta tb:Nat}{f p:Str}{tf tp:Tok}{Wd:Int}{mk:Str}{D:List PD}{ls:List Value}(W:KTH w s.heap)(hh:A.handled=none)(room:A.depth+125<recursionLimit)(hB:322≤B)(T:Tabs s.heap)
    (hf:s.heap.get? B=some (frO [ew w "self" ts (.ref (v+322)),ew w "fws" ta (.str f tf),ew w "string" tb (.str p tp)])) (F:VF w.params s.heap v x l y z Wd mk ls D H) (l8:D.length≤7) (sm:SmallD D) (lH:H<100) (hover:Wd<((H+lenD D:Nat):Int))
    (k:∀s',Nxt [140] s s'→Tabs s'.heap→wpAny (model pw w) A (execs (sB (bodyK w 1)) (env_chunk w B)) Q E s'):
    wpAny (model pw w) A (execs [bodyK w 1] (env_chunk w B)) Q E s:=by
  have F0:=F
  obtain ⟨tv,n0,n1,n2,u0,u1,n3,hv,hx,hl,ha,hd,hp⟩:=F
  refine wpAny_execs_cons (wpAny_If (wpAny_mono (segT [] [(B,frO [ew w "self" ts (.ref (v+322)),ew w "fws" ta (.str f tf),ew w "string" tb (.str p tp)]),(v+322,vfO (x+322)),(x+322,vfD w.params tv Wd mk (l+322) (y+322) n0),(y+322,accO (z+322) (refsD D) n2)] 60 W hh .nil (.cons hf (.cons hv (.cons hx (.cons ha .nil)))) ac nn0 dn0 (rmz room rfl) rfl [] (E:=E) (Q:=fun c s'=>c=true∧Nxt [140] s s'∧Tabs s'.heap) fun A₀ c q1 hq1 uA₀=> ?_) (fun c1 s1 h1=> ?_) fun _ _ e=>e))
  · refine av (c':=(.call (.builtin "len") ⟨[.ref (y+322)],[]⟩)) (d:=0) (u:=10) 23 0x3000000020002000000000000000200000000000000000002000100000000 [] [] [] 0 1 (by apply cW1 q1 w<;>first|apply hq1|(intro w;kernel_rfl)) no_side fun s3 x3 _ A' R' hA dA uA res=> ?_
    have dA:A'.depth≤A.depth+0:=dA
    refine len_call (W.nxt x3 ac) hA (rm room dA rfl) (x3.keep0 ha) (x3.keep0 hd) (hp.nxt0 x3) sm l8 lH (T.nxt0 x3) fun s4 tk x4 T4=> ?_
    have x24:Nxt [140] s s4:=x3.nil.trans x4
    have W4:=W.nxt x24 dg
    have f4:=x24.keep hf (b7 hB)
    have v4:=x24.keep hv (b7 (ab _ _))
    have e4:=x24.keep hx (b7 (ab _ _))
    refine Rsm.go (lim:=60) res [] [(B,frO [ew w "self" ts (.ref (v+322)),ew w "fws" ta (.str f tf),ew w "string" tb (.str p tp)]),(v+322,vfO (x+322)),(x+322,vfD w.params tv Wd mk (l+322) (y+322) n0)] W4 .nil (.cons f4 (.cons v4 (.cons e4 .nil))) ac nn0 dn0 (rmz room rfl) rfl [] fun q2 hq2=> ?_
    refine am (f:=(.ret (.bool true))) 24 0x1000e00030000000200020000000000000002000000000000000000020001 [] [(decide (Wd<(U (H+lenD D)))=true)] [] 0 1 (by apply cW2 q2 q1 w<;>first|apply hq2|apply hq1|(intro w;kernel_rfl)) (side_cons (decide_eq_true hover) no_side) fun s5 x5 _=>⟨rfl,x24.trans x5.nil,T4.nxt0 x5⟩
  · obtain ⟨rfl,x1,T1⟩:=h1
    show wpAny (model pw w) A (execs (sB (bodyK w 1)) (env_chunk w B)) (fun f s'=>match f with| .next=>wpAny (model pw w) A (execs [] (env_chunk w B)) Q E s'|f=>Q f s') E s1
    refine wpAny_mono (k s1 x1 T1) (fun f s' q=> ?_) fun _ _ e=>e
    cases f with
    |next=>exact wpAny_pure q
    |_=>exact q
theorem enterCh{w:ag}{s:aa}{A:ai}{E:Value→aa→Prop}{Q:Flow→aa→Prop}{v x l y z B H ts ta tb:Nat}{f p:Str}{tf tp:Tok}{Wd:Int}{mk:Str}{D:List PD}{ls:List Value}(W:KTH w s.heap)(hh:A.handled=none)(room:A.depth+125<recursionLimit)(hB:322≤B)(ha:mk.cps.all (· <128)=true)
    (hf:s.heap.get? B=some (frO [ew w "self" ts (.ref (v+322)),ew w "fws" ta (.str f tf),ew w "string" tb (.str p tp)])) (F:VF w.params s.heap v x l y z Wd mk ls D H)
    (k:∀s' it tk A' R',Nxt [] s s'→s.heap.objs.size≤it→s'.heap.get? it=some (cN mk tk 0)→A'.handled=none→A'.depth≤A.depth→A'.units≤A.units+50→(∀s'',KTH w s''.heap→(∀s3,Nxt [] s'' s3→Q .next s3)→R' (.ok .next) s'')→(∀s'' r,KTH w s''.heap→(∀s3,Nxt [] s'' s3→Q (.ret r) s3)→R' (.ok (.ret r)) s'')→codeAny (model pw w) A' (forC (forCh w) (.ref it) (env_chunk w B)) R' s'):
    wpAny (model pw w) A (execs [forCh w] (env_chunk w B)) Q E s:=by
  obtain ⟨tv,n0,n1,n2,u0,u1,n3,hv,hx,hl,ha',hd,hp⟩:=F
  refine aT [] [(B,frO [ew w "self" ts (.ref (v+322)),ew w "fws" ta (.str f tf),ew w "string" tb (.str p tp)]),(v+322,vfO (x+322)),(x+322,vfD w.params tv Wd mk (l+322) (y+322) n0)] 60 W hh .nil (.cons hf (.cons hv (.cons hx .nil))) ac nn0 dn0 (rmz room rfl) rfl [] fun A₀ c q1 hq1 uA₀=> ?_
  refine av (c':=(.call (.builtin "str.__iter__") ⟨[.str mk (tv 9)],[]⟩)) (d:=0) (u:=10) 22 0x30000000200020000000000000002000000000000000000020001 [] [] [] 0 1 (by apply cW1 q1 w<;>first|apply hq1|(intro w;kernel_rfl)) no_side fun s1 x1 _ A' R' hA dA uA res=> ?_
  have dA:A'.depth≤A.depth+0:=dA
  have W1:=W.nxt x1 ac
  refine dl ha fun s2 x2 i2=> ?_
  have W2:=W1.nxt x2 ac
  refine Rsm.go (lim:=60) res [] [(s1.heap.objs.size,cN mk (tv 9) 0)] W2 .nil (.cons i2 .nil) ac nn0 dn0 (rmz room rfl) rfl [] fun q2 hq2=> ?_
  refine av (c':=(forC ((forCh w)) (.ref s1.heap.objs.size) ((env_chunk w B)))) (d:=0) (u:=10) 1 0x1 [] [] [] 0 0 (by apply cW2 q2 q1 w<;>first|apply hq2|apply hq1|(intro w;kernel_rfl)) no_side fun s5 x5 _ A' R' hA dA uA res=> ?_
  have dA:A'.depth≤A.depth+0:=dA
  refine k s5 _ (tv 9) A' R' (x1.trans (x2.trans x5)) x1.heap.size (x5.keep0 i2) hA dA (by lia) (fun s6 W6 q6=> ?_) (fun s6 r W6 q6=> ?_)
  · refine Rsm.go (lim:=60) res [] [] W6 .nil .nil ac aD dj0 (rmz room rfl) rfl [] fun q3 hq3=> ?_
    refine am (f:= .next) 0 0x0 [] [] [] 0 0 (by apply cW3 q3 q2 q1 w<;>first|apply hq3|apply hq2|apply hq1|(intro w;kernel_rfl)) no_side fun s7 x7 _=>q6 s7 x7
  · refine Rsm.go (lim:=60) res [] [] W6 .nil .nil ac aD dj0 (rmz room rfl) rfl [] fun q3 hq3=> ?_
    refine am (f:=(.ret (r))) 0 0x0 [] [] [] 0 0 (by apply cW3 q3 q2 q1 w<;>first|apply hq3|apply hq2|apply hq1|(intro w;kernel_rfl)) no_side fun s7 x7 _=>q6 s7 x7
noncomputable def cutK(w:ag):List Stmt:=(sB (bodyK w 1)).drop 1
theorem chunk_cut{w:ag}{s:aa}{A:ai}{E:Value→aa→Prop}{Q:Flow→aa→Prop}{v x l y z B H i c0:Nat}{p mk:Str}{tp:Tok}{Wd:Int}{ls:List Value}{D:List PD}(W:KTH w s.heap)(hh:A.handled=none)(room:A.depth+155<recursionLimit)(hu:A.units+200<cLine)(hB:322≤B)(T:Tabs s.heap)
    (hf:FB w.params s.heap v B p tp c0 i) (F:VF w.params s.heap v x l y z Wd mk ls D H) (l8:D.length≤7) (sm:SmallD D) (li:i<D.length) (ll:ls.length≤8)
    (k:∀s' tk,Nxt [B,y+322,z+322,l+322,147] s s'→Tabs s'.heap→VF w.params s'.heap v x l y z Wd mk (ls++[.str (textD (D.take i)) tk]) (D.drop i) 0→Q .next s'):
    wpAny (model pw w) A (execs (cutK w) (env_chunk w B)) Q E s:=by
  obtain ⟨k',τ,f,tf,q,hf⟩:=hf
  obtain ⟨tv,n0,n1,n2,u0,u1,n3,hv,hx,hl,ha,hd,hp⟩:=F
  refine aT [] [(B,fC w.params τ v f tf p tp (tlS w.params τ q c0 i (k'+2))),(v+322,vfO (x+322)),(x+322,vfD w.params tv Wd mk (l+322) (y+322) n0),(y+322,accO (z+322) (refsD D) n2),(z+322,aZ w.params u0 u1 H n3)] 60 W hh .nil (.cons hf (.cons hv (.cons hx (.cons ha (.cons hd .nil))))) ac nn0 dn0 (rmz room rfl) rfl [] fun A₀ c q1 hq1 uA₀=> ?_
  refine av (c':=(.call (.ref 130) ⟨[.ref (y+322),.int (U i) (τ 3)],[]⟩)) (d:=0) (u:=10) 41 0x100050004000000000000000000040000000000000004000000000000000400030000000200020000000000000002000000000000000000020001 [] [] [] 0 1 (by apply kW1 q1 w k'<;>first|apply hq1|(intros;kernel_rfl)) no_side fun s1 x1 _ A' R' hA dA uA res=> ?_
  have dA:A'.depth≤A.depth+0:=dA
  have W1:=W.nxt x1 ac
  refine popfrom_spec W1 hA (rm room dA rfl) (x1.keep0 ha) (x1.keep0 hd) l8 li fun s2 n2' r x2 a2 lr r2=> ?_
  obtain ⟨r,rfl⟩:∃r',r=r'+322:=(aW (ad W1.2 (by assumption)))
  have x02:Nxt [y+322] s s2:=x1.nil.trans x2
  have W2:=W.nxt x02 (High.one (ab _ _))
  have T2:Tabs s2.heap:=T.nxtH x02 (fun c hc=>by rw [List.mem_singleton.mp hc];exact ab _ _)
  have v2:=x02.keep hv (notin1 (ne_of_obj hv ha (fun e=>by cases e)))
  have e2:=x02.keep hx (notin1 (ne_cls hx ha (cTR _ _)))
  have l2:=x02.keep hl (notin1 (ne_cls hl ha (cTR _ _)))
  have d2:=x02.keep hd (notin1 (ne_cls hd ha (cTR _ _)))
  have f2:=x02.keep hf (notin1 (ne_cls hf ha (cTR _ _)))
  have p2:Pts s2.heap D:=hp.nxt x02 fun d h=>notin1 (ne_cls (hp d h) ha (cTR _ _))
  have nv:=notin1 (ne_cls v2 f2 (cRT _ _))
  have nx:=notin1 (ne_cls e2 f2 (Ne.symm cFD))
  have na:=notin1 (ne_cls a2 f2 (cRT _ _))
  have nz:=notin1 (ne_cls d2 f2 (Ne.symm cFD))
  have nl:=notin1 (ne_cls l2 f2 (Ne.symm cFL))
  have nr:=notin1 (ne_cls r2 f2 (Ne.symm cFL))
  refine Rsm.go (lim:=60) res [B] [(v+322,vfO (x+322)),(x+322,vfD w.params tv Wd mk (l+322) (y+322) n0),(y+322,accO (z+322) (refsD (D.take i)) n2'),(z+322,aZ w.params u0 u1 H n3),(l+322,lstO ls n1)] W2 (.cons f2 .nil) (.cons v2 (.cons e2 (.cons a2 (.cons d2 (.cons l2 .nil))))) (High.one hB) (az _) (djc nv (djc nx (djc na (djc nz (dj1 nl))))) (rmz room rfl) rfl [] fun q2 hq2=> ?_
  refine av (c':=(.call (.builtin "str.__new__") ⟨[.type "str",.ref (y+322)],[]⟩)) (d:=5) (u:=20) 59 0x200000001000100000000000000010000000000000000000100400000000000050005000500050002000000010001000000000000000100000000000000000001004000400040 [0] [] [some (fC w.params τ v f tf p tp (tlS w.params τ q c0 i (k'+2)++[ew w "remainder" s2.toks (.ref (r+322))]))] 1 3 (by apply kW2 q2 q1 w k'<;>first|apply hq2|apply hq1|(intros;kernel_rfl)) no_side fun s3 x3 g3 A' R' hA dA uA res=> ?_
  have dA:A'.depth≤A.depth+5:=dA
  have W3:=W2.nxt x3 (High.one hB)
  have T3:Tabs s3.heap:=T2.nxtH x3 (fun c hc=>by rw [List.mem_singleton.mp hc];exact hB)
  have pt:Pts s2.heap (D.take i):=fun d h=>p2 d (List.mem_of_mem_take h)
  refine c8 W3 hA (rm room dA rfl) (um hu (ad uA₀ (aw _ 0)) uA rfl) (x3.keep a2 na) (pt.nxt x3 fun d h=>notin1 (ne_cls (pt d h) f2 (Ne.symm cFT))) (fun d h=>sm d (List.mem_of_mem_take h)) (by rw [List.length_take];lia) T3.t147 fun s4 tk x4 T4=> ?_
  have W4:=W3.nxt x4 df
  have T4':Tabs s4.heap:=⟨T3.t140.nxt x4 (by decide),T4⟩
  have f4:=x4.keep (g3 0) (lo147 hB)
  have v4:=x4.keep (x3.keep v2 nv) (lo147 (ab _ _))
  have e4:=x4.keep (x3.keep e2 nx) (lo147 (ab _ _))
  have a4:=x4.keep (x3.keep a2 na) (lo147 (ab _ _))
  have d4:=x4.keep (x3.keep d2 nz) (lo147 (ab _ _))
  have l4:=x4.keep (x3.keep l2 nl) (lo147 (ab _ _))
  have r4:=x4.keep (x3.keep r2 nr) (lo147 (ab _ _))
  have p4:Pts s4.heap D:=(p2.nxt x3 fun d h=>notin1 (ne_cls (p2 d h) f2 (Ne.symm cFT))).nxt x4 fun d h=>lo147 (ab _ _)
  have mf:=notin1 (ne_cls f4 l4 cFL)
  have mv':=notin1 (ne_cls v4 l4 (cRT _ _))
  have me:=notin1 (ne_cls e4 l4 cDL)
  have ma:=notin1 (ne_cls a4 l4 (cRT _ _))
  have mz:=notin1 (ne_cls d4 l4 cDL)
  have hlr:=an hl
  have mr:r+322∉[l+322]:=notin1 (aJ (ah (ah hlr x1.heap.size) lr))
  refine Rsm.go (lim:=60) res [l+322] [(B,fC w.params τ v f tf p tp (tlS w.params τ q c0 i (k'+2)++[ew w "remainder" s2.toks (.ref (r+322))])),(v+322,vfO (x+322)),(x+322,vfD w.params tv Wd mk (l+322) (y+322) n0),(y+322,accO (z+322) (refsD (D.take i)) n2'),(z+322,aZ w.params u0 u1 H n3),(r+322,lstO (refsD (D.drop i)) 0)] W4 (.cons l4 .nil) (.cons f4 (.cons v4 (.cons e4 (.cons a4 (.cons d4 (.cons r4 .nil)))))) (High.one (ab _ _)) (az _) (djc mf (djc mv' (djc me (djc ma (djc mz (dj1 mr)))))) (rmz room rfl) rfl [] fun q3 hq3=> ?_
  refine av (c':=(.call (.ref 160) ⟨[.ref (y+322),.ref (r+322)],[]⟩)) (d:=0) (u:=10) 51 0x1000500040000000000000000000400000000000000040000000000000004000300000002000200000000000000020000000000000000000200010000004000d200400000 [0] [((ls:List Value).toArray.size≤sizeLine)] [some (lstO (ls++[.str (textD (List.take i D)) tk]) (n1+1))] 1 1 (by apply kW3 q3 q2 q1 w k'<;>first|apply hq3|apply hq2|apply hq1|(intros;kernel_rfl)) (side_cons (by show ls.toArray.size≤2^24;rw [List.size_toArray];lia) no_side) fun s5 x5 g5 A' R' hA dA uA res=> ?_
  have dA:A'.depth≤A.depth+0:=dA
  have W5:=W4.nxt x5 (High.one (ab _ _))
  have T5:Tabs s5.heap:=T4'.nxtH x5 (fun c hc=>by rw [List.mem_singleton.mp hc];exact ab _ _)
  have a5:=x5.keep a4 ma
  have d5:=x5.keep d4 mz
  have p5:Pts s5.heap D:=p4.nxt x5 fun d h=>notin1 (ne_cls (p4 d h) l4 (Ne.symm cLT))
  have l5:s5.heap.get? (l+322)=some _:=(g5 0)
  refine areset2_spec W5 hA (rm room dA rfl) a5 d5 (x5.keep r4 mr) (by rw [List.length_take,List.length_drop];lia) fun s6 n6 t16 x6 a6 d6=> ?_
  have W6:=W5.nxt x6 (High.cons (.inl (ab _ _)) (High.one (ab _ _)))
  have T6:Tabs s6.heap:=T5.nxtH x6 (fun c hc=>by rcases List.mem_cons.mp hc with h|h;(rw [h];exact ab _ _);(rw [List.mem_singleton.mp h];exact ab _ _))
  have hyz:∀{c:Nat},c≠y+322→c≠z+322→c∉([y+322,z+322]:List Addr):=fun h1 h2 h=>by rcases List.mem_cons.mp h with h|h;exact h1 h;exact h2 (List.mem_singleton.mp h)
  refine Rsm.go (lim:=60) res [] [] W6 .nil .nil ac aD dj0 (rmz room rfl) rfl [] fun q4 hq4=> ?_
  refine am (f:= .next) 1 0x0 [] [] [] 0 0 (by apply kW4 q4 q3 q2 q1 w k'<;>first|apply hq4|apply hq3|apply hq2|apply hq1|(intros;kernel_rfl)) no_side fun s7 x7 _=> ?_
  have nx7:Nxt [B,y+322,z+322,l+322,147] s s7:=(x02.weak (ao (by simp))).trans ((x3.weak (ao (by simp))).trans ((x4.weak (ao (by simp))).trans ((x5.weak (ao (by simp))).trans ((x6.weak (ao (by simp))).trans x7.nil))))
  refine k s7 tk nx7 (T6.nxt0 x7) ⟨_,_,_,_,_,_,_,x7.keep0 (x6.keep (x5.keep v4 mv') (hyz (ne_of_obj hv ha (fun e=>by cases e)) (ne_cls hv hd (cRT _ _)))),x7.keep0 (x6.keep (x5.keep e4 me) (hyz (ne_cls hx ha (cTR _ _)) (ne_of_obj hx hd vfD_ne))),x7.keep0 (x6.keep l5 (hyz (ne_cls hl ha (cTR _ _)) (ne_cls hl hd (Ne.symm cDL)))),x7.keep0 a6,x7.keep0 d6,fun d h=> ?_⟩
  have hd':=List.mem_of_mem_drop h
  exact x7.keep0 (x6.keep (p5 d hd') (hyz (ne_cls (hp d hd') ha (cTR _ _)) (ne_cls (hp d hd') hd (Ne.symm cDT))))
theorem High.one'{a:Nat}(h:a=140∨a=147):High [a]:=High.cons (.inr h) ac
theorem dz{a y z l:Nat}(h1:a≠y)(h2:a≠z)(h3:a≠l)(h4:322≤a):a∉[y,z,l,140,147]:=fun h=>by
  simp only [List.mem_cons,List.not_mem_nil,or_false] at h
  lia
theorem elsZ{w:ag}{s:aa}{A:ai}{E:Value→aa→Prop}{Q:Flow→aa→Prop}{v x l y z B i c0 k:Nat}{τ:Nat→Nat}{f p q mk:Str}{tf tp:Tok}{Wd:Int}{ls:List Value}{D:List PD}{d:PD}(W:KTH w s.heap)(hh:A.handled=none)(room:A.depth+155<recursionLimit)(hB:322≤B)
    (hf:s.heap.get? B=some (fC w.params τ v f tf p tp (tlS w.params τ q c0 i k))) (F:VF w.params s.heap v x l y z Wd mk ls (D++[d]) 0) (l8:D.length<7)
    (kk:∀s' a t t',Nxt [B,y+322] s s'→VF w.params s'.heap v x l y z Wd mk ls (D++[⟨a,d.f,t,d.p,t'⟩]) 0→Q (.ret .none) s'):
    wpAny (model pw w) A (execs (sO (forCh w)) (env_chunk w B)) Q E s:=by
  obtain ⟨tv,n0,n1,n2,u0,u1,n3,hv,hx,hl,ha,hd,hp⟩:=F
  refine aT [] [(B,fC w.params τ v f tf p tp (tlS w.params τ q c0 i k)),(v+322,vfO (x+322)),(x+322,vfD w.params tv Wd mk (l+322) (y+322) n0),(y+322,accO (z+322) (refsD (D++[d])) n2),(z+322,aZ w.params u0 u1 0 n3)] 60 W hh .nil (.cons hf (.cons hv (.cons hx (.cons ha (.cons hd .nil))))) ac nn0 dn0 (rmz room rfl) rfl [] fun A₀ c q1 hq1 uA₀=> ?_
  refine av (c':=(.call (.ref 138) ⟨[.ref (y+322)],[]⟩)) (d:=0) (u:=10) 39 0x50004000000000000000000040000000000000004000000000000000400030000000200020000000000000002000000000000000000020001 [] [] [] 0 1 (by apply lW1 q1 w k<;>first|apply hq1|(intros;kernel_rfl)) no_side fun s1 x1 _ A' R' hA dA uA res=> ?_
  have dA:A'.depth≤A.depth+0:=dA
  have W1:=W.nxt x1 ac
  refine dk W1 hA (rm room dA rfl) (x1.keep0 ha) (x1.keep0 hd) l8 fun s2 n2' x2 a2=> ?_
  have x02:Nxt [y+322] s s2:=x1.nil.trans x2
  have W2:=W.nxt x02 (High.one (ab _ _))
  have v2:=x02.keep hv (notin1 (ne_of_obj hv ha (fun e=>by cases e)))
  have e2:=x02.keep hx (notin1 (ne_cls hx ha (cTR _ _)))
  have l2:=x02.keep hl (notin1 (ne_cls hl ha (cTR _ _)))
  have d2:=x02.keep hd (notin1 (ne_cls hd ha (cTR _ _)))
  have f2:=x02.keep hf (notin1 (ne_cls hf ha (cTR _ _)))
  have p2:Pts s2.heap (D++[d]):=hp.nxt x02 fun d' h=>notin1 (ne_cls (hp d' h) ha (cTR _ _))
  have pd:=p2 d (by simp)
  have hBy:∀{c:Nat},c≠B→c≠y+322→c∉([B,y+322]:List Addr):=fun h1 h2 h=>by rcases List.mem_cons.mp h with h|h;exact h1 h;exact h2 (List.mem_singleton.mp h)
  have nv:=hBy (ne_cls v2 f2 (cRT _ _)) (ne_of_obj hv ha (fun e=>by cases e))
  have nx:=hBy (ne_cls e2 f2 (Ne.symm cFD)) (ne_cls hx ha (cTR _ _))
  have nz:=hBy (ne_cls d2 f2 (Ne.symm cFD)) (ne_cls hd ha (cTR _ _))
  have nl:=hBy (ne_cls l2 f2 (Ne.symm cFL)) (ne_cls hl ha (cTR _ _))
  have np:∀d'∈D++[d],d'.a+322∉([B,y+322]:List Addr):=fun d' h=>hBy (ne_cls (p2 d' h) f2 (Ne.symm cFT)) (ne_cls (hp d' h) ha (cTR _ _))
  have nBy:B∉[y+322]:=notin1 (ne_cls hf ha (cTR _ _))
  refine Rsm.go (lim:=60) res [B,y+322] [(v+322,vfO (x+322)),(x+322,vfD w.params tv Wd mk (l+322) (y+322) n0),(z+322,aZ w.params u0 u1 0 n3),(d.a+322,aX [.str d.f d.tf,.str d.p d.tp])] W2 (.cons f2 (.cons a2 .nil)) (.cons v2 (.cons e2 (.cons d2 (.cons pd .nil)))) (High.cons (.inl hB) (High.one (ab _ _))) (List.nodup_cons.mpr ⟨nBy,az _⟩) (djc nv (djc nx (djc nz (dj1 (np d (by simp)))))) (rmz room rfl) rfl [] fun q2 hq2=> ?_
  refine am (f:=(.ret (.none))) 206 0x4100d200000041004500450003004100000000000000410000000000000041000000000000004100450045004500450045004500450000000000000040004000030041000000000000000000410000000000000041000000000000004100020000000100010000000000000001000000000000000000010040000000000003000000410041000000000000004100000000004100000000000000000000000000410002000000010001000000000000000100000000000000000001004000400040004000400044004200420004004200420000004200420042004200040042004200000042004200420042000400420042000000420042004200000004000400040004 [0,1,6] [(((refsD D):List Value).toArray.size≤sizeLine)] [some (fC w.params τ v d.f d.tf p tp (tlS w.params τ q c0 i k++[ew w "part" (s2.toks+1) (.str (d.p) d.tp)])),some (accO (z+322) ((refsD D)++[.ref (s2.heap.objs.size+4)]) (n2'+1)),some (aX [.str (d.f) d.3,.str (d.p) d.5])] 7 9 (by apply lW2 q2 q1 w k<;>first|apply hq2|apply hq1|(intros;kernel_rfl)) (side_cons (by show (refsD D).toArray.size≤2^24;rw [List.size_toArray];unfold refsD;rw [ak];lia) no_side) fun s3 x3 g3=> ?_
  obtain ⟨a,ea⟩:∃a,s2.heap.objs.size+4=a+322:=(aW (ad W2.2 (aw _ _)))
  have e3:refsD D++[.ref (s2.heap.objs.size+4)]=refsD (D++[⟨a,d.f,d.tf,d.p,d.tp⟩]):=by
    rw [ea];unfold refsD;rw [List.map_append];rfl
  rw [e3] at g3
  refine kk s3 a d.tf d.tp ((x02.weak (ao (by simp))).trans (x3.weak (ao (by simp)))) ⟨_,_,_,_,_,_,_,x3.keep v2 nv,x3.keep e2 nx,x3.keep l2 nl,(g3 1),x3.keep d2 nz,?_⟩
  intro c hc
  rcases List.mem_append.mp hc with h|h
  · exact x3.keep (p2 c (aB _ h)) (np c (aB _ h))
  · rw [List.mem_singleton.mp h];exact (ea▸(g3 2))
theorem ft{w:ag}{s:aa}{A:ai}{R:Result→aa→Prop}{v x l y z H:Nat}{Wd:Int}{mk:Str}{D:List PD}{ls:List Value}(W:KTH w s.heap)(hh:A.handled=none)(room:A.depth+165<recursionLimit)(hu:A.units+300<cLine)(T:Tabs s.heap)
    (F:VF w.params s.heap v x l y z Wd mk ls D H) (hne:∀d∈D,((d.f==S " ")&&(d.p==S ""))=false∧PyData.strOk d.f=true∧PyData.strOk d.p=true)
    (l8:D.length≤7) (sm:SmallD D) (lH:H<100) (ll:ls.length≤8) (hn:H≠0)
    (k:∀s' tk,Nxt [y+322,z+322,l+322,140,147] s s'→Tabs s'.heap→VF w.params s'.heap v x l y z Wd mk (ls++[.str (textD D) tk]) [] 0→R (.ok (.ret .none)) s'):
    codeAny (model pw w) A (.call (.ref 56) ⟨[.ref (v+322)],[]⟩) R s:=by
  rcases List.eq_nil_or_concat D with rfl|⟨D',d,rfl⟩
  · exact newline_nil W hh room hu T F lH ll hn k
  · rw [List.concat_eq_append] at *
    have q:=hne d (by simp)
    exact dU W hh room hu T F q.1 q.2.1 q.2.2 (by rw [aA] at l8;exact l8) sm lH ll (.inl hn) k
theorem elsNa{w:ag}{s:aa}{A:ai}{E:Value→aa→Prop}{Q:Flow→aa→Prop}{v x l y z B i c0 k h e1 e2 da:Nat}{τ:Nat→Nat}{f p q mk dp:Str}{tf tp dtf dtp:Tok}{Wd:Int}{ls:List Value}{D:List PD}(W:KTH w s.heap)(hh:A.handled=none)(room:A.depth+175<recursionLimit)(hu:A.units+400<cLine)(hB:322≤B)(T:Tabs s.heap)
    (hf:s.heap.get? B=some (fC w.params τ v f tf p tp (tlS w.params τ q c0 i k))) (F:VF w.params s.heap v x l y z Wd mk ls (D++[⟨da,S "",dtf,dp,dtp⟩]) (h+1)) (l8:D.length<7) (hne:∀d∈D,((d.f==S " ")&&(d.p==S ""))=false∧PyData.strOk d.f=true∧PyData.strOk d.p=true) (sm:SmallD D) (lH:h+1<100) (ll:ls.length≤8)
    (kk:∀s' a t t' tk,Nxt [B,y+322,z+322,l+322,140,147] s s'→Tabs s'.heap→VF w.params s'.heap v x l y z Wd mk (ls++[.str (textD D) tk]) [⟨a,S " ",t,dp,t'⟩] 0→Q (.ret .none) s'):
    wpAny (model pw w) A (execs (sO (forCh w)) (env_chunk w B)) Q E s:=by
  obtain ⟨tv,n0,n1,n2,u0,u1,n3,hv,hx,hl,ha,hd,hp⟩:=F
  refine aT [] [(B,fC w.params τ v f tf p tp (tlS w.params τ q c0 i k)),(v+322,vfO (x+322)),(x+322,vfD w.params tv Wd mk (l+322) (y+322) n0),(y+322,accO (z+322) (refsD (D++[⟨da,S "",dtf,dp,dtp⟩])) n2),(z+322,aZ w.params u0 u1 (U (h+1)) n3)] 60 W hh .nil (.cons hf (.cons hv (.cons hx (.cons ha (.cons hd .nil))))) ac nn0 dn0 (rmz room rfl) rfl [] fun A₀ c q1 hq1 uA₀=> ?_
  refine av (c':=(.call (.ref 138) ⟨[.ref (y+322)],[]⟩)) (d:=0) (u:=10) 39 0x50004000000000000000000040000000000000004000000000000000400030000000200020000000000000002000000000000000000020001 [] [] [] 0 1 (by apply lW1 q1 w k<;>first|apply hq1|(intros;kernel_rfl)) no_side fun s1 x1 _ A' R' hA dA uA res=> ?_
  have dA:A'.depth≤A.depth+0:=dA
  have W1:=W.nxt x1 ac
  refine dk W1 hA (rm room dA rfl) (x1.keep0 ha) (x1.keep0 hd) l8 fun s2 n2' x2 a2=> ?_
  have x02:Nxt [y+322] s s2:=x1.nil.trans x2
  have W2:=W.nxt x02 (High.one (ab _ _))
  have T2:Tabs s2.heap:=T.nxtH x02 (fun c hc=>by rw [List.mem_singleton.mp hc];exact ab _ _)
  have v2:=x02.keep hv (notin1 (ne_of_obj hv ha (fun e=>by cases e)))
  have e2':=x02.keep hx (notin1 (ne_cls hx ha (cTR _ _)))
  have l2:=x02.keep hl (notin1 (ne_cls hl ha (cTR _ _)))
  have d2:=x02.keep hd (notin1 (ne_cls hd ha (cTR _ _)))
  have f2:=x02.keep hf (notin1 (ne_cls hf ha (cTR _ _)))
  have p2:Pts s2.heap (D++[⟨da,S "",dtf,dp,dtp⟩]):=hp.nxt x02 fun d' h=>notin1 (ne_cls (hp d' h) ha (cTR _ _))
  have pd:=p2 ⟨da,S "",dtf,dp,dtp⟩ (by simp)
  have nv:=notin1 (ne_cls v2 f2 (cRT _ _))
  have nx:=notin1 (ne_cls e2' f2 (Ne.symm cFD))
  have nz:=notin1 (ne_cls d2 f2 (Ne.symm cFD))
  have nl:=notin1 (ne_cls l2 f2 (Ne.symm cFL))
  have ny:=notin1 (ne_cls a2 f2 (cRT _ _))
  have np:∀d'∈D++[⟨da,S "",dtf,dp,dtp⟩],d'.a+322∉([B]:List Addr):=fun d' h=>notin1 (ne_cls (p2 d' h) f2 (Ne.symm cFT))
  refine Rsm.go (lim:=60) res [B] [(v+322,vfO (x+322)),(x+322,vfD w.params tv Wd mk (l+322) (y+322) n0),(y+322,accO (z+322) (refsD D) n2'),(z+322,aZ w.params u0 u1 (U (h+1)) n3),(da+322,aX [.str (S "") dtf,.str dp dtp])] W2 (.cons f2 .nil) (.cons v2 (.cons e2' (.cons a2 (.cons d2 (.cons pd .nil))))) (High.one hB) (az _) (djc nv (djc nx (djc ny (djc nz (dj1 (np ⟨da,S "",dtf,dp,dtp⟩ (by simp))))))) (rmz room rfl) rfl [] fun q2 hq2=> ?_
  refine av (c':=(.call (.ref 56) ⟨[.ref (v+322)],[]⟩)) (d:=0) (u:=10) 133 0x20001000000000000000000010000000000000001000000000000000100400001000e00000004000000030003000000000000000300000000000300000000000000000000000000030002000000010001000000000000000100000000000000000001004000400040004000400043004100410005004100410000004100410041004100050041004100000041004100410041000500410041000000410041004100000005000500050005 [0] [(decide (0<(U (h.add 1)))=true)] [some (fC w.params τ v (S "") dtf p tp ((tlS w.params τ q c0 i k)++[ew w "part" (s2.toks+1) (.str dp dtp)]))] 4 5 (by apply lW2 q2 q1 w k<;>first|apply hq2|apply hq1|(intros;kernel_rfl)) (side_cons (decide_eq_true (Int.ofNat_lt.mpr (Nat.succ_pos h))) no_side) fun s3 x3 g3 A3 R3 hA3 dA3 uA3 res3=> ?_
  have dA3:A3.depth≤A.depth+0:=dA3
  have x23:Nxt [B] s2 s3:=x3
  have W3:=W2.nxt x23 (High.one hB)
  have p3:Pts s3.heap D:=fun d' h=>x23.keep (p2 d' (aB _ h)) (np d' (aB _ h))
  have F3:VF w.params s3.heap v x l y z Wd mk ls D (h+1):=⟨_,_,_,_,_,_,_,x23.keep v2 nv,x23.keep e2' nx,x23.keep l2 nl,x23.keep a2 ny,x23.keep d2 nz,p3⟩
  have f3:s3.heap.get? B=_:=(g3 0)
  have T3:=T2.nxtH x23 (fun c hc=>by rw [List.mem_singleton.mp hc];exact hB)
  refine ft W3 hA3 (rm room dA3 rfl) (by lia) T3 F3 hne (au ‹_›) sm lH ll (aQ h) fun s4 tk x4 T4 F4=> ?_
  have hm4:High [y+322,z+322,l+322,140,147]:=High.cons (.inl (ab _ _)) (High.cons (.inl (ab _ _)) (High.cons (.inl (ab _ _)) (High.cons (.inr (.inl rfl)) (High.one' (.inr rfl)))))
  have W4:=W3.nxt x4 hm4
  have f4:=x4.keep f3 (dz (ne_cls f3 F3.ha.choose_spec (cTR _ _)) (ne_cls f3 F3.hd.choose_spec.choose_spec.choose_spec cFD) (ne_cls f3 F3.hl.choose_spec cFL) hB)
  obtain ⟨tv,n0,n1,n2,u0,u1,n3,hv,hx,hl,ha,hd,hp⟩:=F4
  have nBy:B∉[y+322]:=notin1 (ne_cls f4 ha (cTR _ _))
  have hBy:∀{c:Nat},c≠B→c≠y+322→c∉([B,y+322]:List Addr):=fun h1 h2 h=>by rcases List.mem_cons.mp h with h|h;exact h1 h;exact h2 (List.mem_singleton.mp h)
  have nv:=hBy (ne_cls hv f4 (cRT _ _)) (ne_of_obj hv ha (fun e=>by cases e))
  have nx:=hBy (ne_cls hx f4 (Ne.symm cFD)) (ne_cls hx ha (cTR _ _))
  have nz:=hBy (ne_cls hd f4 (Ne.symm cFD)) (ne_cls hd ha (cTR _ _))
  have nl:=hBy (ne_cls hl f4 (Ne.symm cFL)) (ne_cls hl ha (cTR _ _))
  refine Rsm.go (lim:=60) res3 [B,y+322] [(v+322,vfO (x+322)),(x+322,vfD w.params tv Wd mk (l+322) (y+322) n0),(z+322,aZ w.params u0 u1 0 n3)] W4 (.cons f4 (.cons ha .nil)) (.cons hv (.cons hx (.cons hd .nil))) (High.cons (.inl hB) (High.one (ab _ _))) (List.nodup_cons.mpr ⟨nBy,az _⟩) (djc nv (djc nx (dj1 nz))) (rmz room rfl) rfl [] fun q3 hq3=> ?_
  refine am (f:=(.ret (.none))) 120 0x410041004100000000004100420042000300410000000000000041000000000000004100000000000000410042004200420042004200420042000000000000004000400003004100000000000000000041000000000000004100000000000000410002000000010001000000000000000100000000000000000001004000400040000000000040 [0,1,3] [] [some (fC w.params τ v (S " ") (s4.toks+2) p tp ((tlS w.params τ q c0 i k)++[ew w "part" (s2.toks+1) (.str dp dtp)])),some (accO (z+322) [.ref (s4.heap.objs.size+1)] (n2+1)),some (aX [.str (S " ") (s4.toks+2),.str dp dtp])] 4 8 (by apply lW3 q3 q2 q1 w k<;>first|apply hq3|apply hq2|apply hq1|(intros;kernel_rfl)) no_side fun s5 x5 g5=> ?_
  obtain ⟨a,ea⟩:∃a,s4.heap.objs.size+1=a+322:=(aW (ad W4.2 (aK _)))
  have g6:=(g5 1)
  have g7:s5.heap.get? (s4.heap.objs.size+1)=_:=(g5 2)
  rw [ea] at g6 g7
  refine kk s5 a (s4.toks+2) dtp tk (((x02.weak (ao (by simp))).trans (x23.weak (ao (by simp)))).trans ((x4.weak (ao (by simp))).trans (x5.weak (ao (by simp))))) (T4.nxtH x5 fun c hc=> ?_) ⟨_,_,_,_,_,_,_,x5.keep hv nv,x5.keep hx nx,x5.keep hl nl,g6,x5.keep hd nz,fun c hc=> ?_⟩
  · rcases List.mem_cons.mp hc with h|h
    · exact h▸hB
    · rw [List.mem_singleton.mp h];exact ab _ _
  · rw [List.mem_singleton.mp hc];exact g7
theorem elsNb{w:ag}{s:aa}{A:ai}{E:Value→aa→Prop}{Q:Flow→aa→Prop}{v x l y z B i c0 k h e1 e2 da:Nat}{τ:Nat→Nat}{f p q mk dp:Str}{tf tp dtf dtp:Tok}{Wd:Int}{ls:List Value}{D:List PD}(W:KTH w s.heap)(hh:A.handled=none)(room:A.depth+175<recursionLimit)(hu:A.units+400<cLine)(hB:322≤B)(T:Tabs s.heap)
    (hf:s.heap.get? B=some (fC w.params τ v f tf p tp (tlS w.params τ q c0 i k))) (F:VF w.params s.heap v x l y z Wd mk ls (D++[⟨da,⟨#[e1,e2]⟩,dtf,dp,dtp⟩]) (h+1)) (l8:D.length<7) (hne:∀d∈D,((d.f==S " ")&&(d.p==S ""))=false∧PyData.strOk d.f=true∧PyData.strOk d.p=true) (sm:SmallD D) (lH:h+1<100) (ll:ls.length≤8)
    (kk:∀s' a t t' tk,Nxt [B,y+322,z+322,l+322,140,147] s s'→Tabs s'.heap→VF w.params s'.heap v x l y z Wd mk (ls++[.str (textD D) tk]) [⟨a,⟨#[e1,e2]⟩,t,dp,t'⟩] 0→Q (.ret .none) s'):
    wpAny (model pw w) A (execs (sO (forCh w)) (env_chunk w B)) Q E s:=by
  obtain ⟨tv,n0,n1,n2,u0,u1,n3,hv,hx,hl,ha,hd,hp⟩:=F
  refine aT [] [(B,fC w.params τ v f tf p tp (tlS w.params τ q c0 i k)),(v+322,vfO (x+322)),(x+322,vfD w.params tv Wd mk (l+322) (y+322) n0),(y+322,accO (z+322) (refsD (D++[⟨da,⟨#[e1,e2]⟩,dtf,dp,dtp⟩])) n2),(z+322,aZ w.params u0 u1 (U (h+1)) n3)] 60 W hh .nil (.cons hf (.cons hv (.cons hx (.cons ha (.cons hd .nil))))) ac nn0 dn0 (rmz room rfl) rfl [] fun A₀ c q1 hq1 uA₀=> ?_
  refine av (c':=(.call (.ref 138) ⟨[.ref (y+322)],[]⟩)) (d:=0) (u:=10) 39 0x50004000000000000000000040000000000000004000000000000000400030000000200020000000000000002000000000000000000020001 [] [] [] 0 1 (by apply lW1 q1 w k<;>first|apply hq1|(intros;kernel_rfl)) no_side fun s1 x1 _ A' R' hA dA uA res=> ?_
  have dA:A'.depth≤A.depth+0:=dA
  have W1:=W.nxt x1 ac
  refine dk W1 hA (rm room dA rfl) (x1.keep0 ha) (x1.keep0 hd) l8 fun s2 n2' x2 a2=> ?_
  have x02:Nxt [y+322] s s2:=x1.nil.trans x2
  have W2:=W.nxt x02 (High.one (ab _ _))
  have T2:Tabs s2.heap:=T.nxtH x02 (fun c hc=>by rw [List.mem_singleton.mp hc];exact ab _ _)
  have v2:=x02.keep hv (notin1 (ne_of_obj hv ha (fun e=>by cases e)))
  have e2':=x02.keep hx (notin1 (ne_cls hx ha (cTR _ _)))
  have l2:=x02.keep hl (notin1 (ne_cls hl ha (cTR _ _)))
  have d2:=x02.keep hd (notin1 (ne_cls hd ha (cTR _ _)))
  have f2:=x02.keep hf (notin1 (ne_cls hf ha (cTR _ _)))
  have p2:Pts s2.heap (D++[⟨da,⟨#[e1,e2]⟩,dtf,dp,dtp⟩]):=hp.nxt x02 fun d' h=>notin1 (ne_cls (hp d' h) ha (cTR _ _))
  have pd:=p2 ⟨da,⟨#[e1,e2]⟩,dtf,dp,dtp⟩ (by simp)
  have nv:=notin1 (ne_cls v2 f2 (cRT _ _))
  have nx:=notin1 (ne_cls e2' f2 (Ne.symm cFD))
  have nz:=notin1 (ne_cls d2 f2 (Ne.symm cFD))
  have nl:=notin1 (ne_cls l2 f2 (Ne.symm cFL))
  have ny:=notin1 (ne_cls a2 f2 (cRT _ _))
  have np:∀d'∈D++[⟨da,⟨#[e1,e2]⟩,dtf,dp,dtp⟩],d'.a+322∉([B]:List Addr):=fun d' h=>notin1 (ne_cls (p2 d' h) f2 (Ne.symm cFT))
  refine Rsm.go (lim:=60) res [B] [(v+322,vfO (x+322)),(x+322,vfD w.params tv Wd mk (l+322) (y+322) n0),(y+322,accO (z+322) (refsD D) n2'),(z+322,aZ w.params u0 u1 (U (h+1)) n3),(da+322,aX [.str (⟨#[e1,e2]⟩) dtf,.str dp dtp])] W2 (.cons f2 .nil) (.cons v2 (.cons e2' (.cons a2 (.cons d2 (.cons pd .nil))))) (High.one hB) (az _) (djc nv (djc nx (djc ny (djc nz (dj1 (np ⟨da,⟨#[e1,e2]⟩,dtf,dp,dtp⟩ (by simp))))))) (rmz room rfl) rfl [] fun q2 hq2=> ?_
  refine av (c':=(.call (.ref 56) ⟨[.ref (v+322)],[]⟩)) (d:=0) (u:=10) 133 0x20001000000000000000000010000000000000001000000000000000100400001000e00000004000000030003000000000000000300000000000300000000000000000000000000030002000000010001000000000000000100000000000000000001004000400040004000400043004100410005004100410000004100410041004100050041004100000041004100410041000500410041000000410041004100000005000500050005 [0] [(decide (0<(U (h.add 1)))=true)] [some (fC w.params τ v (⟨#[e1,e2]⟩) dtf p tp ((tlS w.params τ q c0 i k)++[ew w "part" (s2.toks+1) (.str dp dtp)]))] 4 5 (by apply lW2 q2 q1 w k<;>first|apply hq2|apply hq1|(intros;kernel_rfl)) (side_cons (decide_eq_true (Int.ofNat_lt.mpr (Nat.succ_pos h))) no_side) fun s3 x3 g3 A3 R3 hA3 dA3 uA3 res3=> ?_
  have dA3:A3.depth≤A.depth+0:=dA3
  have x23:Nxt [B] s2 s3:=x3
  have W3:=W2.nxt x23 (High.one hB)
  have p3:Pts s3.heap D:=fun d' h=>x23.keep (p2 d' (aB _ h)) (np d' (aB _ h))
  have F3:VF w.params s3.heap v x l y z Wd mk ls D (h+1):=⟨_,_,_,_,_,_,_,x23.keep v2 nv,x23.keep e2' nx,x23.keep l2 nl,x23.keep a2 ny,x23.keep d2 nz,p3⟩
  have f3:s3.heap.get? B=_:=(g3 0)
  have T3:=T2.nxtH x23 (fun c hc=>by rw [List.mem_singleton.mp hc];exact hB)
  refine ft W3 hA3 (rm room dA3 rfl) (by lia) T3 F3 hne (au ‹_›) sm lH ll (aQ h) fun s4 tk x4 T4 F4=> ?_
  have hm4:High [y+322,z+322,l+322,140,147]:=High.cons (.inl (ab _ _)) (High.cons (.inl (ab _ _)) (High.cons (.inl (ab _ _)) (High.cons (.inr (.inl rfl)) (High.one' (.inr rfl)))))
  have W4:=W3.nxt x4 hm4
  have f4:=x4.keep f3 (dz (ne_cls f3 F3.ha.choose_spec (cTR _ _)) (ne_cls f3 F3.hd.choose_spec.choose_spec.choose_spec cFD) (ne_cls f3 F3.hl.choose_spec cFL) hB)
  obtain ⟨tv,n0,n1,n2,u0,u1,n3,hv,hx,hl,ha,hd,hp⟩:=F4
  have nBy:B∉[y+322]:=notin1 (ne_cls f4 ha (cTR _ _))
  have hBy:∀{c:Nat},c≠B→c≠y+322→c∉([B,y+322]:List Addr):=fun h1 h2 h=>by rcases List.mem_cons.mp h with h|h;exact h1 h;exact h2 (List.mem_singleton.mp h)
  have nv:=hBy (ne_cls hv f4 (cRT _ _)) (ne_of_obj hv ha (fun e=>by cases e))
  have nx:=hBy (ne_cls hx f4 (Ne.symm cFD)) (ne_cls hx ha (cTR _ _))
  have nz:=hBy (ne_cls hd f4 (Ne.symm cFD)) (ne_cls hd ha (cTR _ _))
  have nl:=hBy (ne_cls hl f4 (Ne.symm cFL)) (ne_cls hl ha (cTR _ _))
  refine Rsm.go (lim:=60) res3 [B,y+322] [(v+322,vfO (x+322)),(x+322,vfD w.params tv Wd mk (l+322) (y+322) n0),(z+322,aZ w.params u0 u1 0 n3)] W4 (.cons f4 (.cons ha .nil)) (.cons hv (.cons hx (.cons hd .nil))) (High.cons (.inl hB) (High.one (ab _ _))) (List.nodup_cons.mpr ⟨nBy,az _⟩) (djc nv (djc nx (dj1 nz))) (rmz room rfl) rfl [] fun q3 hq3=> ?_
  refine am (f:=(.ret (.none))) 109 0x41004100410000000000410042004200030041000000000000004100000000000000410000000000000041004200420042004200420042004200000000000000400040000300410000000000000000004100000000000000410000000000000041000200000001000100000000000000010000000000000000000100400000001800000040 [0,1,3] [True] [some (fC w.params τ v (⟨#[e1,e2]⟩) dtf p tp ((tlS w.params τ q c0 i k)++[ew w "part" (s2.toks+1) (.str dp dtp)])),some (accO (z+322) [.ref (s4.heap.objs.size+1)] (n2+1)),some (aX [.str (⟨#[e1,e2]⟩) dtf,.str dp dtp])] 4 6 (by apply lW3 q3 q2 q1 w k<;>first|apply hq3|apply hq2|apply hq1|(intros;kernel_rfl)) (side_cons trivial no_side) fun s5 x5 g5=> ?_
  obtain ⟨a,ea⟩:∃a,s4.heap.objs.size+1=a+322:=(aW (ad W4.2 (aK _)))
  have g6:=(g5 1)
  have g7:s5.heap.get? (s4.heap.objs.size+1)=_:=(g5 2)
  rw [ea] at g6 g7
  refine kk s5 a dtf dtp tk (((x02.weak (ao (by simp))).trans (x23.weak (ao (by simp)))).trans ((x4.weak (ao (by simp))).trans (x5.weak (ao (by simp))))) (T4.nxtH x5 fun c hc=> ?_) ⟨_,_,_,_,_,_,_,x5.keep hv nv,x5.keep hx nx,x5.keep hl nl,g6,x5.keep hd nz,fun c hc=> ?_⟩
  · rcases List.mem_cons.mp hc with h|h
    · exact h▸hB
    · rw [List.mem_singleton.mp h];exact ab _ _
  · rw [List.mem_singleton.mp hc];exact g7
noncomputable def Wrd(f p:Str):Prop:=(∃c1 c2 c3,p=⟨#[c1,c2,c3]⟩∧Unicode.isSpace c3=false∧c1<128∧c2<128∧c3<128)∧(f=S ""∨∃e1 e2,f=⟨#[e1,e2]⟩∧e1<128∧e2<128)
theorem Wrd.lenp{f p:Str}(h:Wrd f p):p.length=3:=by
  obtain ⟨⟨c1,c2,c3,rfl,_⟩,_⟩:=h;rfl
theorem Wrd.lenf{f p:Str}(h:Wrd f p):f.length≤2:=by
  obtain ⟨_,rfl|⟨e1,e2,rfl,_⟩⟩:=h
  · exact Nat.zero_le _
  · exact al _
theorem Wrd.small{f p:Str}(h:Wrd f p):f.length<2^20∧p.length<2^20:=by
  have h1:=h.lenf;have h2:=h.lenp
  rw [h2];constructor<;>lia
theorem Wrd.ok{a:Nat}{f p:Str}{t u:Tok}(h:Wrd f p):PDok ⟨a,f,t,p,u⟩:=by
  obtain ⟨⟨c1,c2,c3,e,h3,_⟩,g⟩:=h
  refine ⟨⟨c1,c2,c3,e,h3⟩,?_⟩
  rcases g with g|⟨e1,e2,g,_⟩
  · exact .inl g
  · exact .inr ⟨e1,e2,g⟩
theorem Wrd.ne{f p:Str}(h:Wrd f p):((f==S " ")&&(p==S ""))=false:=by
  have e:(p==S "")=false:=by
    rw [beq_eq_false_iff_ne]
    intro q
    have:=h.lenp
    rw [q] at this
    exact absurd this (by decide)
  rw [e,Bool.and_false]
theorem Wrd.strOk{f p:Str}(h:Wrd f p):PyData.strOk f=true∧PyData.strOk p=true:=by
  obtain ⟨⟨c1,c2,c3,rfl,_,h1,h2,h3⟩,g⟩:=h
  have l:∀{c:Nat},c<128→c<0x110000:=fun h=>by lia
  refine ⟨?_,?_⟩
  · rcases g with rfl|⟨e1,e2,rfl,h1,h2⟩
    · kernel_rfl
    · unfold PyData.strOk
      rw [←Array.all_toList]
      simp [l h1,l h2]
  · unfold PyData.strOk
    rw [←Array.all_toList]
    simp [l h1,l h2,l h3]
noncomputable def fp(D:List PD):List (Str×Str):=D.map fun d=>(d.f,d.p)
noncomputable def eH(L:List (Str×Str)):Prop:=∀x∈L,Wrd x.1 x.2
noncomputable def lenP(L:List (Str×Str)):Nat:=(L.map fun x=>x.1.length+x.2.length).sum
noncomputable def textP(L:List (Str×Str)):Str:=Txt.join (S "") (L.map fun x=>Txt.join (S "") [x.1,x.2])
noncomputable def hitP(L:List (Str×Str))(c i:Nat):Bool:=(Unicode.isSpace c&&(match L[i]? with|some x=>x.1.cps[0]? ==some c|none=>false))||(match L[i - 1]? with|some x=>x.2.cps[2]? ==some c|none=>false)
noncomputable def findPI(L:List (Str×Str))(c:Nat):Nat→Option Nat
  |0=>none
  |m+1=>if hitP L c (m+1) then some (m+1) else findPI L c m
noncomputable def findP(L:List (Str×Str)):List Nat→Option Nat
  |[]=>none
  |c::cs=>match findPI L c (L.length - 1) with|some i=>some i|none=>findP L cs
theorem bQ(D:List PD):(fp D).length=D.length:=ak ..
theorem cv(D E:List PD):fp (D++E)=fp D++fp E:=List.map_append ..
theorem lenP_fp(D:List PD):lenD D=lenP (fp D):=by unfold lenD lenP fp;rw [List.map_map];rfl
theorem cw(D:List PD):textD D=textP (fp D):=by unfold textD textP fp;rw [List.map_map];rfl
theorem hitP_fp(D:List PD)(c i:Nat):hitAt D c i=hitP (fp D) c i:=by
  unfold hitAt hitP fp
  rw [aI,aI]
  cases D[i]? <;>cases D[i - 1]? <;>rfl
theorem findPI_fp(D:List PD)(c:Nat):∀m,findI D c m=findPI (fp D) c m
  |0=>rfl
  |m+1=>by unfold findI findPI;rw [hitP_fp,findPI_fp D c m]
theorem findP_fp(D:List PD):∀cs,findC D cs=findP (fp D) cs
  |[]=>rfl
  |c::cs=>by unfold findC findP;rw [findPI_fp,findP_fp D cs,bQ]<;>rfl
theorem findI_lt{D:List PD}{c i:Nat}:∀{m},findI D c m=some i→0<i∧i≤m
  |0,h=>by cases h
  |m+1,h=>by
    unfold findI at h
    split at h
    · cases h;lia
    · have:=findI_lt h;lia
theorem findC_lt{D:List PD}{i:Nat}:∀{cs},findC D cs=some i→0<i∧i<D.length
  |[],h=>by cases h
  |c::cs,h=>by
    unfold findC at h
    split at h
    · rename_i e;cases h;have:=findI_lt e;lia
    · exact findC_lt h
theorem cm{D:List PD}(h:eH (fp D)){d:PD}(hd:d∈D):Wrd d.f d.p:=h (d.f,d.p) (List.mem_map.mpr ⟨d,hd,rfl⟩)
theorem wrds_app{L M:List (Str×Str)}(h:eH L)(k:eH M):eH (L++M):=fun x hx=>(List.mem_append.mp hx).elim (h x) (k x)
theorem wrds_one{f p:Str}(h:Wrd f p):eH [(f,p)]:=fun x hx=>by rw [List.mem_singleton.mp hx];exact h
theorem chunk_over{w:ag}{s:aa}{A:ai}{R:Result→aa→Prop}{v x l y z H:Nat}{f p:Str}{tf tp:Tok}{Wd:Int}{mk:Str}{D:List PD}{ls:List Value}(W:KTH w s.heap)(hh:A.handled=none)(room:A.depth+190<recursionLimit)(hu:A.units+700<cLine)(T:Tabs s.heap)
    (F:VF w.params s.heap v x l y z Wd mk ls D H) (l8:D.length<7) (lH:H<100) (ll:ls.length≤8) (ha:mk.cps.all (· <128)=true) (ok:eH (fp D)) (okf:Wrd f p)
    (hover:Wd<((H+lenP (fp D++[(f,p)]):Nat):Int))
    (k1:∀s' i D' tk,findP (fp D++[(f,p)]) mk.cps.toList=some i→fp D'=(fp D++[(f,p)]).drop i→Nxt [y+322,z+322,l+322,140,147] s s'→Tabs s'.heap→VF w.params s'.heap v x l y z Wd mk (ls++[.str (textP ((fp D++[(f,p)]).take i)) tk]) D' 0→R (.ok (.ret .none)) s')
    (k2:∀s' D',findP (fp D++[(f,p)]) mk.cps.toList=none→H=0→fp D'=fp D++[(f,p)]→Nxt [y+322,z+322,l+322,140,147] s s'→Tabs s'.heap→VF w.params s'.heap v x l y z Wd mk ls D' 0→R (.ok (.ret .none)) s')
    (k3:∀s' D' tk,findP (fp D++[(f,p)]) mk.cps.toList=none→H≠0→fp D'=[(if f=S "" then S " " else f,p)]→Nxt [y+322,z+322,l+322,140,147] s s'→Tabs s'.heap→VF w.params s'.heap v x l y z Wd mk (ls++[.str (textP (fp D)) tk]) D' 0→R (.ok (.ret .none)) s'):
    codeAny (model pw w) A (.call (.ref 91) ⟨[.ref (v+322),.str f tf,.str p tp],[]⟩) R s:=by
  refine open_chunk W hh (rmz room rfl) fun s1 B x1 W1 hB f1=> ?_
  have hB2:=bo W hB
  refine aN [bodyK w 0] [bodyK w 1] ?_
  refine chunk_push W1 hh (rmo room rfl) hB2 f1 (F.keep0 x1) (au ‹_›) fun s2 a x2 F2 la=> ?_
  have g2:wpAny (model pw w) (A.deeper (env_chunk w B)) (execs [bodyK w 1] (env_chunk w B)) (endF R) noE s2:= ?_
  exact g2
  have W2:=W1.nxt x2 (High.one (ab _ _))
  have T2:Tabs s2.heap:=(T.nxt0 x1).nxtH x2 (fun c hc=>by rw [List.mem_singleton.mp hc];exact ab _ _)
  have f2:=x2.keep f1 (notin1 (ne_cls f1 ((F.keep0 x1).ha.choose_spec) (cTR _ _)))
  have e2:fp (D++[⟨a,f,tf,p,tp⟩])=fp D++[(f,p)]:=cv _ _
  have ok2:eH (fp (D++[⟨a,f,tf,p,tp⟩])):=e2▸wrds_app ok (wrds_one okf)
  have sm2:SmallD (D++[⟨a,f,tf,p,tp⟩]):=fun d hd=>(cm ok2 hd).small
  have l2:(D++[(⟨a,f,tf,p,tp⟩:PD)]).length=D.length+1:=by rw [aA];rfl
  have x02:Nxt [y+322,z+322,l+322,140,147] s s2:=x1.nil.trans (x2.weak (ao (by simp)))
  refine chunk_test W2 hh (rmo room rfl) hB2 T2 f2 F2 (by lia) sm2 lH (by rw [lenP_fp,e2];exact hover) fun s3 x3 T3=> ?_
  have W3:=W2.nxt x3 dg
  have f3:=x3.keep f2 (b7 hB2)
  have F3:=F2.lo x3 (fun b hb=>b7 hb)
  have x03:=x02.trans (x3.weak (ao (by simp)))
  have g3:wpAny (model pw w) (A.deeper (env_chunk w B)) (execs ([forCh w]++cutK w) (env_chunk w B)) (endF R) noE s3:= ?_
  exact g3
  refine aN [forCh w] (cutK w) ?_
  refine enterCh W3 hh (rmo room rfl) hB2 ha f3 F3 fun s4 it tk A' R' x4 hn i4 hA dA uA q1 q2=> ?_
  have dA:A'.depth≤A.depth+1:=dA
  have uA:A'.units≤A.units+3+50:=uA
  have W4:=W3.nxt x4 ac
  have F4:=F3.keep0 x4
  have T4:=T3.nxt0 x4
  have f4:=x4.keep0 f3
  have hit:=bo W3 hn
  have x04:=x03.trans x4.nil
  have lit:s.heap.objs.size≤it:=ad x03.heap.size hn
  have hBi:∀c∈[B,it],322≤c:=fun c hc=>by
    rcases List.mem_cons.mp hc with h|h
    · exact h▸hB2
    · rw [List.mem_singleton.mp h];exact hit
  have hHi:High [B,it]:=High.cons (.inl hB2) (High.one hit)
  have dr:∀{s5},Nxt [B,it,y+322,z+322,l+322,140,147] s s5→Nxt [y+322,z+322,l+322,140,147] s s5:=fun X=>(X.drop hB).drop lit
  have up:∀{s5},Nxt [B,it] s4 s5→Nxt [B,it,y+322,z+322,l+322,140,147] s s5:=fun X=>(x04.weak (ao (by simp))).trans (X.weak (ao (by simp)))
  refine outer_loop hA (rm room dA rfl) hB2 hit (by lia) (by lia) (fun d hd=>(cm ok2 hd).ok) mk.cps.toList 0 rfl W4 ⟨0,0,0,Mine.tk [0,0,0,0,0,0,s.toks,s.toks+1,s.toks+2],_,_,f,f4⟩ F4 i4 (fun s5 i c hf X f5 F5=> ?_) (fun s5 hf X f5 F5=> ?_)
  · have W5:=W4.nxt X hHi
    have li:=(findC_lt hf).2
    rw [findP_fp,e2] at hf
    refine q1 s5 W5 fun s6 x6=> ?_
    have W6:=W5.nxt x6 ac
    have T6:=(T4.nxtH X hBi).nxt0 x6
    have F6:=F5.keep0 x6
    have fin:∀s7 tk,Nxt [B,y+322,z+322,l+322,147] s6 s7→Tabs s7.heap→VF w.params s7.heap v x l y z Wd mk (ls++[.str (textD ((D++[(⟨a,f,tf,p,tp⟩:PD)]).take i)) tk]) ((D++[(⟨a,f,tf,p,tp⟩:PD)]).drop i) 0→endF R .next s7:=by
      intro s7 tk x7 T7 F7
      rw [cw,show fp ((D++[(⟨a,f,tf,p,tp⟩:PD)]).take i)=(fp D++[(f,p)]).take i by unfold fp at e2⊢;rw [List.map_take,e2]] at F7
      exact k1 s7 i _ tk hf (by unfold fp at e2⊢;rw [List.map_drop,e2]) (dr ((up X).trans (x6.nil.trans (x7.weak (ao (by simp)))))) T7 F7
    exact chunk_cut (D:=D++[⟨a,f,tf,p,tp⟩]) W6 hh (rmo room rfl) (rm hu (al (A.units+3)) rfl) hB2 T6 (f5.keep x6 (fun h=>by cases h)) F6 (by lia) sm2 li ll fin
  · have W5:=W4.nxt X hHi
    have T5:=T4.nxtH X hBi
    rw [findP_fp,e2] at hf
    obtain ⟨c0,i,k,τ,f',tf',q,f5⟩:=f5
    cases H with
    |zero=>
      refine elsZ W5 hA (rm room dA rfl) hB2 f5 F5 l8 fun s6 a' t t' x6 F6=> ?_
      have hm:High [B,y+322]:=High.cons (.inl hB2) (High.one (ab _ _))
      have W6:=W5.nxt x6 hm
      refine q2 s6 _ W6 fun s7 x7=> ?_
      refine k2 s7 _ hf rfl (cv _ _) (dr ((up X).trans ((x6.weak (ao (by simp))).trans x7.nil))) ((T5.nxtH x6 fun c hc=> ?_).nxt0 x7) (F6.keep0 x7)
      rcases List.mem_cons.mp hc with h|h
      · exact h▸hB2
      · rw [List.mem_singleton.mp h];exact ab _ _
    |succ h=>
      have hm:High [B,y+322,z+322,l+322,140,147]:=High.cons (.inl hB2) (High.cons (.inl (ab _ _)) (High.cons (.inl (ab _ _)) (High.cons (.inl (ab _ _)) (High.cons (.inr (.inl rfl)) (High.one' (.inr rfl))))))
      have hne:∀d∈D,((d.f==S " ")&&(d.p==S ""))=false∧PyData.strOk d.f=true∧PyData.strOk d.p=true:=fun d hd=>⟨(cm ok hd).ne,(cm ok hd).strOk⟩
      have sm:SmallD D:=fun d hd=>(cm ok hd).small
      have okf':=okf
      obtain ⟨_,rfl|⟨e1,e2',rfl,_⟩⟩:=okf
      · refine elsNa (e1:=0) (e2:=0) W5 hA (rm room dA rfl) (by lia) hB2 T5 f5 F5 l8 hne sm lH ll fun s6 a' t t' tk x6 T6 F6=> ?_
        refine q2 s6 _ (W5.nxt x6 hm) fun s7 x7=> ?_
        rw [cw] at F6
        exact k3 s7 _ tk hf (aQ h) rfl (dr ((up X).trans ((x6.weak (ao (by simp))).trans x7.nil))) (T6.nxt0 x7) (F6.keep0 x7)
      · refine elsNb W5 hA (rm room dA rfl) (by lia) hB2 T5 f5 F5 l8 hne sm lH ll fun s6 a' t t' tk x6 T6 F6=> ?_
        refine q2 s6 _ (W5.nxt x6 hm) fun s7 x7=> ?_
        rw [cw] at F6
        exact k3 s7 _ tk hf (aQ h) rfl (dr ((up X).trans ((x6.weak (ao (by simp))).trans x7.nil))) (T6.nxt0 x7) (F6.keep0 x7)
theorem nxt_toks(s:aa)(n:Nat):Nxt [] s {s with toks:=n}:=⟨Ext.refl _ _,GX.refl _,rfl,rfl⟩
theorem bG{w:ag}{s:aa}{A:ai}{R:Result→aa→Prop}{sep:Str}{t:Tok}{a n:Nat}(l:List (Str×Tok))(ha:s.heap.get? a=some (lstO (strValues l) n))(ok:JoinOk sep (l.map (·.1))=true)
    (k:∀s' tk,Nxt [] s s'→R (.ok (.ret (.str (Txt.join sep (l.map (·.1))) tk))) s'):
    codeAny (model pw w) A (.call (.builtin "str.join") ⟨[.str sep t,.ref a],[]⟩) R s:=by
  unfold JoinOk at ok
  rw [Bool.not_eq_true'] at ok
  exact codeAny_call_builtin F.slot_str_join.plain F.entry_str_join (F.slot_str_join.check _ _ _ _ _ _ _ _ (typeIs_str _ _ _) (F.args_str_join_2 _ _) (meets_str_join_list sep t a l ok pw w A R s ⟨⟨_,ha,rfl,_,rfl⟩,post_join l ⟨joinFit_length ok,fun t' k'=>k _ t' (nxt_toks s k')⟩⟩))
theorem vstr_spec{w:ag}{s:aa}{A:ai}{R:Result→aa→Prop}{v x l y z H:Nat}{sep:Str}{tsep:Tok}{Wd:Int}{mk:Str}{D:List PD}{d:PD}{ls:List (Str×Tok)}(W:KTH w s.heap)(hh:A.handled=none)(room:A.depth+175<recursionLimit)(hu:A.units+400<cLine)(T:Tabs s.heap)
    (F:VF w.params s.heap v x l y z Wd mk (strValues ls) (D++[d]) H) (hne:((d.f==S " ")&&(d.p==S ""))=false) (kf:PyData.strOk d.f=true) (kp:PyData.strOk d.p=true)
    (l8:D.length<7) (sm:SmallD (D++[d])) (lH:H<100) (ll:ls.length≤8) (hn:H≠0∨(0<lenD (D++[d])∧(decide ((textD (D++[d])).length>0)&&(textD (D++[d])).cps.all Unicode.isSpace)=false))
    (ok:JoinOk sep (ls.map (·.1)++[textD (D++[d])])=true)
    (k:∀s' tk,Nxt [y+322,z+322,l+322,140,147] s s'→Tabs s'.heap→R (.ok (.ret (.str (Txt.join sep (ls.map (·.1)++[textD (D++[d])])) tk))) s'):
    codeAny (model pw w) A (.call (.ref 42) ⟨[.ref (v+322),.str sep tsep],[]⟩) R s:=by
  refine open_vstr W hh (rmz room rfl) fun s1 B x1 W1 hB f1=> ?_
  have F1:=F.keep0 x1
  obtain ⟨_,n,hx⟩:=F1.hx
  refine aT [] [(B,frO [ew w "self" s.toks (.ref (v+322)),ew w "linesep" (s.toks+1) (.str sep tsep)]),(v+322,vfO (x+322)),(x+322,_)] 60 W1 hh .nil (.cons f1 (.cons F1.hv (.cons hx .nil))) ac nn0 dn0 (rmo room rfl) rfl [] fun A₀ c q1 hq1 uA₀=> ?_
  refine av (c':=(.call (.ref 56) ⟨[.ref (v+322)],[]⟩)) (d:=0) (u:=10) 22 0x3000200000000000000000002000000000000000200000000000000020001 [] [] [] 0 0 (by apply cW1 q1 w<;>first|apply hq1|(intro w;kernel_rfl)) no_side fun s2 x2 _ A' R' hA dA uA res=> ?_
  have dA:A'.depth≤A.depth+1:=dA
  have uA₀:A₀.units≤A.units+3:=uA₀
  have x02:=x1.trans x2
  have W2:=W1.nxt x2 ac
  refine dU W2 hA (rm room dA rfl) (um hu uA₀ uA rfl) (T.nxt0 x02) (F1.keep0 x2) hne kf kp l8 sm lH (by unfold strValues;rw [ak];exact ll) hn fun s3 tk x3 T3 F3=> ?_
  have hm:High [y+322,z+322,l+322,140,147]:=High.cons (.inl (ab _ _)) (High.cons (.inl (ab _ _)) (High.cons (.inl (ab _ _)) (High.cons (.inr (.inl rfl)) (High.one' (.inr rfl)))))
  have f3:=x3.keep (x2.keep0 f1) (dz (ne_cls f1 F1.ha.choose_spec (cTR _ _)) (ne_cls f1 F1.hd.choose_spec.choose_spec.choose_spec cFD) (ne_cls f1 F1.hl.choose_spec cFL) (bo W hB))
  obtain ⟨_,n',hx'⟩:=F3.hx
  obtain ⟨n4,hl⟩:=F3.hl
  have W3:=W2.nxt x3 hm
  refine Rsm.go (lim:=60) res [] [(B,_),(v+322,vfO (x+322)),(x+322,_)] W3 .nil (.cons f3 (.cons F3.hv (.cons hx' .nil))) ac nn0 dn0 (rmo room rfl) rfl [] fun q2 hq2=> ?_
  refine av (c':=(.call (.builtin "str.join") ⟨[.str sep tsep,.ref (l+322)],[]⟩)) (d:=0) (u:=10) 26 0x300000002000200000000000000020000000000000000000200010001 [] [] [] 0 1 (by apply cW2 q2 q1 w<;>first|apply hq2|apply hq1|(intro w;kernel_rfl)) no_side fun s4 x4 _ A' R' hA dA uA res=> ?_
  have e:strValues ls++[.str (textD (D++[d])) tk]=strValues (ls++[(textD (D++[d]),tk)]):=by unfold strValues;rw [List.map_append];rfl
  have e2:(ls++[(textD (D++[d]),tk)]).map (·.1)=ls.map (·.1)++[textD (D++[d])]:=by rw [List.map_append];rfl
  rw [e] at hl
  refine bG _ (x4.keep0 hl) (by rw [e2];exact ok) fun s5 tj x5=> ?_
  rw [e2]
  refine Rsm.go (lim:=60) res [] [] (W3.nxt (x4.trans x5) ac) .nil .nil ac aD dj0 (rmo room rfl) rfl [] fun q3 hq3=> ?_
  refine am (f:=(.ret (.str (Txt.join sep (ls.map (·.1)++[textD (D++[d])])) tj))) 1 0x0 [] [] [] 0 0 (by apply cW3 q3 q2 q1 w<;>first|apply hq3|apply hq2|apply hq1|(intro w;kernel_rfl)) no_side fun s6 x6 _=> ?_
  exact k s6 tj (x02.nil.trans (x3.trans (x4.trans (x5.trans x6)).nil)) ((T3.nxt0 x4).nxt0 (x5.trans x6))
section
variable {w:ag} {s:aa} {ms:List Addr} {A:ai} {R:Result→aa→Prop} {dep:Nat} {c₀:Code} {q:Qd}
theorem run_finT{f:Flow}(n hs:Nat)(js:List Nat)(side:List Prop)(os:List (Option Obj))(m' i':Nat)(e:RnQ q n hs js (.fin f) side os m' i')(hside:∀P∈side,P)
    (k:∀s',Nxt ms s s'→s'.toks=s.toks+i'→GotM ms s.heap.objs.size s'.heap js os→R (.ok f) s'):GdQ w s ms A R dep c₀ q:=by
  obtain ⟨V,c,κ,dp,t,T,m⟩:=q
  intro L lim vals hV O
  obtain rfl:V=vw w s L ms lim vals:=hV
  refine b5 O e hside ?_ (fun ⟨_,h⟩=>by cases h)
  intro h' g' T' D G e'
  exact k ⟨h',g',s.drawn,_,s.os⟩ (c5 D G rfl rfl rfl rfl rfl rfl) rfl (gotM_of (D.got e'))
theorem bW{c':Code}{d u:Nat}(n hs:Nat)(js:List Nat)(side:List Prop)(os:List (Option Obj))(m' i':Nat)(e:RnQ q n hs js (.stop c' d u) side os m' i')(hside:∀P∈side,P)
    (k:∀s',Nxt ms s s'→s'.toks=s.toks+i'→GotM ms s.heap.objs.size s'.heap js os→∀A' R',A'.handled=none→A'.depth≤dep+d→A'.units≤A.units+u→Rsm w A R dep c₀ (q.run n hs) R'→codeAny (model pw w) A' c' R' s'):GdQ w s ms A R dep c₀ q:=by
  obtain ⟨V,c,κ,dp,t,T,m⟩:=q
  intro L lim vals hV O
  obtain rfl:V=vw w s L ms lim vals:=hV
  refine b5 O e hside ?_ (fun ⟨_,h⟩=>by cases h)
  intro h1 h2 h3 h' g' D G e' A' R' a1 a2 a3 a4
  exact k ⟨h',g',s.drawn,_,s.os⟩ (c5 D G rfl rfl rfl rfl rfl rfl) rfl (gotM_of (D.got e')) A' R' a1 a2 a3 (rsm_of h1 h2 h3 a4)
end
theorem str_itemT{w:ag}{s:aa}{A:ai}{E:Value→aa→Prop}{Q:Option Value→aa→Prop}{it:Nat}{x:Str}{t:Tok}{i c:Nat}(h:s.heap.get? it=some (cN x t i))(hx:x.cps[i]? =some c)
    (k:∀s',Nxt [it] s s'→s'.toks=s.toks+1→s'.heap.get? it=some (cN x t (i+1))→Q (some (.str ⟨#[c]⟩ s.toks)) s'):wpAny (model pw w) A (pyNext (.ref it)) Q E s:=by
  have hT:s.heap.IsStrIter it "str_ascii_iterator" x t i:=⟨_,h,rfl,rfl⟩
  unfold pyNext
  refine af (wpAny_attempt (wpAny_callSpecial?_slot (name:=Str.ofString "__next__") hT.typeIs F.slot_str_ascii_iterator_next (wpAny_call_entry F.slot_str_ascii_iterator_next hT.typeIs F.entry_str_ascii_iterator_next ?_ (F.args_str_ascii_iterator_next_1 _))))
  show wpAny _ _ (field (.ref it) 0>>=_) _ _ s
  refine af (wpAny_field h rfl (x:= .str x t) rfl ?_)
  show wpAny _ _ (field (.ref it) 1>>=_) _ _ s
  refine af (wpAny_field h rfl (x:= .int i 0) rfl ?_)
  simp only [Int.toNat_natCast,hx]
  exact af (wpAny_setField h rfl (by simp) (af (wpAny_mkStr (wpAny_pure ⟨_,rfl,wpAny_pure (k _ (same_nxt (Heap.SameBut.update ..)) rfl (Heap.get?_update_self _ h rfl))⟩) (by show 1≤sizeLine;decide))))
theorem str_iter_callT{w:ag}{s:aa}{A:ai}{R:Result→aa→Prop}{x:Str}{t:Tok}(ha:x.cps.all (· <128)=true)
    (k:∀s',Nxt [] s s'→s'.toks=s.toks→s'.heap.get? s.heap.objs.size=some (cN x t 0)→R (.ok (.ret (.ref s.heap.objs.size))) s'):
    codeAny (model pw w) A (.call (.builtin "str.__iter__") ⟨[.str x t],[]⟩) R s:=by
  refine codeAny_call_builtin F.slot_str_iter.plain F.entry_str_iter (F.slot_str_iter.check _ _ _ _ _ _ _ _ (typeIs_str s x t) (F.args_str_iter_1 _) ?_)
  show wpAny _ _ (do ret (←newFields (if (true&&x.cps.all (· <128))=true then "str_ascii_iterator" else "str_iterator") [.str x t,rawInt 0])) _ _ s
  rw [ha]
  exact af (wpAny_newObj_type (wpAny_pure (k _ ⟨⟨fun b o e _=>Heap.get?_push_of_some _ e,by rw [Heap.size_push];lia⟩,GX.refl _,rfl,rfl⟩ rfl (Heap.get?_push_size _ rfl))))
noncomputable def forCO(w:ag):Stmt:=aF (cG w) 1
noncomputable def fCO(P:ae)(τ:Nat→Nat)(u:Nat)(x y:Str)(n:Nat)(c:Nat):Nat→Obj
  |0=>frO [en P (S "a") (τ 0) (.str x (τ 1)),en P (S "b") (τ 2) (.str y u),en P (S "count") (τ 3) (.int (U n) (τ 4))]
  |_=>frO [en P (S "a") (τ 0) (.str x (τ 1)),en P (S "b") (τ 2) (.str y u),en P (S "count") (τ 3) (.int (U n) (τ 4)),en P (S "i") (τ 5) (.str ⟨#[c]⟩ (τ 6))]
noncomputable def ifCO(w:ag):Stmt:=(sB (forCO w)).headD st0
noncomputable def bi:Nat→Nat→Nat→Nat
  |0,a,_=>a
  |_+1,_,b=>b
theorem asgC{w:ag}{s:aa}{A:ai}{E:Value→aa→Prop}{Q:Flow→aa→Prop}{B n c d e u k:Nat}{x:Str}{it:Value}{τ:Nat→Nat}(t:Tok)(W:KTH w s.heap)(hh:A.handled=none)(room:A.depth+60<recursionLimit)(hB:322≤B)
    (hf:s.heap.get? B=some (fCO w.params τ u x ⟨#[d]⟩ n e k)) (kk:∀s' τ',Nxt [B] s s'→s.toks≤s'.toks→s'.heap.get? B=some (fCO w.params τ' u x ⟨#[d]⟩ n c 1)→τ' 6=t→Q .next s'):
    wpAny (model pw w) A (letOwnedTupleGo (sT (forCO w)) it (.str ⟨#[c]⟩ t)>>=fun _=>assign (sT (forCO w)) (bc w B) (.str ⟨#[c]⟩ t)>>=fun _=>execs [] (bc w B)) Q E s:=by
  refine bL [B] [] 60 W hh (.cons hf .nil) .nil (High.one hB) (az _) dj0 room rfl [] fun A₀ c' q1 hq1 uA₀=> ?_
  refine run_finT (f:= .next) 7 0x400040 [0] [] [some (fCO w.params (tk [τ 0,τ 1,τ 2,τ 3,τ 4,bi k s.toks (τ 5),t]) u x ⟨#[d]⟩ n c 1)] 1 1 (by apply kW1 q1 w k<;>first|apply hq1|(intros;kernel_rfl)) no_side fun s1 x1 e1 g1=> ?_
  exact kk s1 _ x1 (by lia) (g1 0) rfl
theorem augC{w:ag}{s:aa}{A:ai}{E:Value→aa→Prop}{Q:Flow→aa→Prop}{B n d e u:Nat}{x:Str}{τ:Nat→Nat}(W:KTH w s.heap)(hh:A.handled=none)(room:A.depth+60<recursionLimit)(hB:322≤B)
    (hf:s.heap.get? B=some (fCO w.params τ u x ⟨#[d]⟩ n e 1)) (kk:∀s' τ',Nxt [B] s s'→s.toks≤s'.toks→s'.heap.get? B=some (fCO w.params τ' u x ⟨#[d]⟩ (n+1) e 1)→Q .next s'):
    wpAny (model pw w) A (execs (sB (ifCO w)) (bc w B)) Q E s:=by
  refine aT [B] [] 60 W hh (.cons hf .nil) .nil (High.one hB) (az _) dj0 room rfl [] fun A₀ c q1 hq1 uA₀=> ?_
  refine run_finT (f:= .next) 13 0x400040000000030040 [0] [True] [some (fCO w.params (tk [τ 0,τ 1,τ 2,τ 3,s.toks+1,τ 5,τ 6]) u x ⟨#[d]⟩ (n+1) e 1)] 1 3 (by apply cW1 q1 w<;>first|apply hq1|(intro w;kernel_rfl)) (side_cons trivial no_side) fun s1 x1 e1 g1=> ?_
  exact kk s1 _ x1 (by lia) (g1 0)
theorem booked{w:ag}{h:Heap}(W:KTH w h):NoneBooked h:=⟨_,dy W.two (by kernel_rfl),by kernel_rfl⟩
theorem testC{w:ag}{s:aa}{A:ai}{E:Value→aa→Prop}{Q:Bool→aa→Prop}{B n c d u:Nat}{x:Str}{τ:Nat→Nat}(W:KTH w s.heap)(hh:A.handled=none)(room:A.depth+60<recursionLimit)
    (hf:s.heap.get? B=some (fCO w.params τ u x ⟨#[d]⟩ n c 1)) (h6:τ 6≠0) (hu:u≠0) (hn:c≠d→τ 6≠u) (kk:∀s',Nxt [] s s'→s.toks≤s'.toks→Q (c==d) s'):
    wpAny (model pw w) A (isTrue (sT (ifCO w)) (bc w B) (eval (sT (ifCO w)) (bc w B))) Q E s:=by
  have h0:(τ 6==0||u==0)=false:=by rw [Bool.or_eq_false_iff];exact ⟨beq_eq_false_iff_ne.mpr h6,beq_eq_false_iff_ne.mpr hu⟩
  have ns:=dy hf (by kernel_rfl)
  have eqc:((⟨#[c]⟩:Str)==⟨#[d]⟩)=(c==d):=by
    by_cases h:c=d
    · subst h;simp
    · rw [beq_eq_false_iff_ne.mpr h,beq_eq_false_iff_ne]
      intro e
      injection e with e;injection e with e;injection e with e1
      exact h e1
  have go:∀p1 p2 p3 b,(b=true→c=d)→wpAny (model pw w) A (pure (Value.bool b)) (fun a s₁=>wpAny (model pw w) A (truthy a) (fun b s₁=>if b=true then Q true s₁ else wpAny (model pw w) A (allTrue .Or [.Compare (.Name (Str.ofString "i") p1) [.Eq] [.Name (Str.ofString "b") p2] p3] (bc w B)) Q E s₁) E s₁) E s:=fun p1 p2 p3 b hb=>by
    refine wpAny_pure (wpAny_truthy_bool ?_)
    have kk:=kk s (Nxt.refl _ _) (al _)
    cases b with
    |true=>rw [if_pos rfl];rw [hb rfl,beq_self_eq_true] at kk;exact kk
    |false=>
      rw [if_neg Bool.false_ne_true]
      refine wpAny_allTrue_Or_cons (wpAny_isTrue_Compare1 (be rfl (by kernel_rfl) ns (v:= .str ⟨#[c]⟩ (τ 6)) (by kernel_rfl) (by decide) (be rfl (by kernel_rfl) ns (v:= .str ⟨#[d]⟩ u) (by kernel_rfl) (by decide) (PyProof.Rows.eq_str (wpAny_truthy_bool ?_)))))
      rw [eqc]
      cases e:(c==d) with
      |true=>rw [if_pos rfl];rw [e] at kk;exact kk
      |false=>rw [if_neg Bool.false_ne_true];rw [e] at kk;exact wpAny_allTrue_Or_nil kk
  refine wpAny_isTrue_BoolOp (wpAny_allTrue_Or_cons (wpAny_isTrue_Compare1 (be rfl (by kernel_rfl) ns (v:= .str ⟨#[c]⟩ (τ 6)) (by kernel_rfl) (by decide) (be rfl (by kernel_rfl) ns (v:= .str ⟨#[d]⟩ u) (by kernel_rfl) (by decide) ?_))))
  show wpAny _ _ (isSame _ _>>=fun b=>pure (Value.bool b)) _ _ _
  by_cases h:c=d
  · exact af (wpAny_isSame_str h0 (booked W) fun b=>go _ _ _ b fun _=>h)
  · rw [isSame_str_other _ _ _ _ h0 (beq_eq_false_iff_ne.mpr (hn h)) (by rw [eqc];exact beq_eq_false_iff_ne.mpr h)]
    exact af (wpAny_pure (go _ _ _ false fun e=>by cases e))
theorem dI{w:ag}{A:ai}{R:Result→aa→Prop}{B it d u:Nat}{x:Str}{tx:Tok}(hh:A.handled=none)(room:A.depth+60<recursionLimit)(hB:322≤B)(hit:322≤it)(hu:u≠0):
    ∀(cs:List Nat) (j n e k:Nat) {s:aa} {τ:Nat→Nat},x.cps.toList.drop j=cs→KTH w s.heap→s.heap.get? B=some (fCO w.params τ u x ⟨#[d]⟩ n e k)→u<s.toks→s.heap.get? it=some (cN x tx j)→
    (∀s' e k τ',Nxt [B,it] s s'→s'.heap.get? B=some (fCO w.params τ' u x ⟨#[d]⟩ (n+cs.count d) e k)→R (.ok .next) s')→
    codeAny (model pw w) A (forC (forCO w) (.ref it) (bc w B)) R s
  |[],j,n,e,k,s,τ,hj,W,f,ht,hi,kk=>by
    have nB:B∉[it]:=notin1 (ne_cls f hi (by cases k<;>exact (show Value.type "frame"≠Value.type "str_ascii_iterator" by decide)))
    have hn:x.cps[j]? =none:=by
      rw [←Array.getElem?_toList]
      exact List.getElem?_eq_none (List.drop_eq_nil_iff.mp hj)
    refine aV (str_end hh hi hn fun s1 x1=> ?_)
    exact wpAny_execs_nil (kk s1 e k τ (x1.weak (ao (by simp))) (x1.keep f nB))
  |c::cs,j,n,e,k,s,τ,hj,W,f,ht,hi,kk=>by
    have nB:B∉[it]:=notin1 (ne_cls f hi (by cases k<;>exact (show Value.type "frame"≠Value.type "str_ascii_iterator" by decide)))
    have hj':=ch hj
    have hs:x.cps[j]? =some c:=by rw [←Array.getElem?_toList];exact hj'.1
    refine aV (str_itemT hi hs fun s1 x1 t1 i1=>dM (asgC (k:=k) s.toks (W.nxt x1 (High.one hit)) hh room hB (x1.keep f nB) fun s2 τ2 x2 t2 f2 e6=> ?_))
    have W2:=(W.nxt x1 (High.one hit)).nxt x2 (High.one hB)
    have nI:it∉[B]:=notin1 (ne_cls i1 (x1.keep f nB) (by cases k<;>exact (show Value.type "str_ascii_iterator"≠Value.type "frame" by decide)))
    have i2:=x2.keep i1 nI
    have x02:Nxt [B,it] s s2:=(x1.weak (ao (by simp))).trans (x2.weak (ao (by simp)))
    refine wpAny_execs_cons (wpAny_If (testC W2 hh room f2 (by rw [e6];lia) hu (fun _=>by rw [e6];lia) fun s3 x3 t3=> ?_))
    have x03:=x02.trans x3.nil
    have W3:=W2.nxt x3 ac
    cases h:(c==d) with
    |true=>
      rw [if_pos rfl]
      have ec:n+(c::cs).count d=n+1+cs.count d:=by rw [List.count_cons,h,if_pos rfl];lia
      rw [ec] at kk
      refine augC W3 hh room hB (x3.keep0 f2) fun s4 τ4 x4 t4 f4=>wpAny_execs_nil ?_
      exact dI hh room hB hit hu cs (j+1) (n+1) c 1 hj'.2 (W3.nxt x4 (High.one hB)) f4 (by lia) (x4.keep (x3.keep0 i2) nI) fun s' e k τ' X=>kk s' e k τ' ((x03.trans (x4.weak (ao (by simp)))).trans X)
    |false=>
      rw [if_neg Bool.false_ne_true]
      have ec:n+(c::cs).count d=n+cs.count d:=by rw [List.count_cons,h,if_neg Bool.false_ne_true];lia
      rw [ec] at kk
      refine wpAny_execs_nil (wpAny_execs_nil ?_)
      exact dI hh room hB hit hu cs (j+1) n c 1 hj'.2 W3 (x3.keep0 f2) (by lia) (x3.keep0 i2) fun s' e k τ' X=>kk s' e k τ' (x03.trans X)
theorem run_bodyT{w:ag}{s:aa}{A:ai}{R:Result→aa→Prop}{x:Str}{tx u:Tok}{d:Nat}(H:KTH w s.heap)(hh:A.handled=none)(room:A.depth+60<recursionLimit)
    (k:∀s' B,Nxt [] s s'→s'.toks=s.toks+2→s.heap.objs.size≤B→s'.heap.get? B=some (frO [ew w "a" s.toks (.str x tx),ew w "b" (s.toks+1) (.str ⟨#[d]⟩ u)])→wpAny (model pw w) (A.deeper (bc w B)) (execs (cG w) (bc w B)) (endF R) noE s'):
    codeAny (model pw w) A (.call (.ref 217) ⟨[.str x tx,.str ⟨#[d]⟩ u],[]⟩) R s:=by
  have O:Ok (mv w s [] [] 60) (sv s [] A R A.depth (.call (.ref 217) ⟨[.str x tx,.str ⟨#[d]⟩ u],[]⟩)):=eY H .nil .nil ac aD (fun _ h=>by cases h) room
  have D:=rep_seg (w:=w) (L:=[]) (A:=A) (R:=R) (dep:=A.depth) (lim:=60) (c₀:= .call (.ref 217) ⟨[.str x tx,.str ⟨#[d]⟩ u],[]⟩) (.nil (h:=s.heap)) (by decide)
  refine fk (V:=mv w s [] [] 60) (fd:=aR (o217 w.params)) O hh (al _) D (by kernel_rfl) ?_
  refine b5 (n:=10) (hs:=0x400040004000400000) (js:=[0]) (os:=[some (frO [ew w "a" s.toks (.str x tx),ew w "b" (s.toks+1) (.str ⟨#[d]⟩ u)])]) (m':=1) (i':=2) (fl:= .body (.func (cG w) (bc w s.heap.objs.size))) (side:=[]) O (by kernel_rfl) no_side ?_ (fun _=>room)
  intro h' g' T' D G e' _
  exact ⟨by kernel_rfl,br (k ⟨h',g',s.drawn,_,s.os⟩ _ (c5 D G rfl rfl rfl rfl rfl rfl) rfl (al _) (D.got e').1)⟩
theorem cB{w:ag}{s:aa}{A:ai}{R:Result→aa→Prop}{x:Str}{tx:Tok}{d u:Nat}(W:KTH w s.heap)(hh:A.handled=none)(room:A.depth+105<recursionLimit)(ha:x.cps.all (· <128)=true)(hu:u≠0)(ht:u<s.toks)
    (k:∀s' t,Nxt [] s s'→R (.ok (.ret (.int (U (x.cps.toList.count d)) t))) s'):
    codeAny (model pw w) A (.call (.ref 217) ⟨[.str x tx,.str ⟨#[d]⟩ u],[]⟩) R s:=by
  refine run_bodyT W hh (rmz room rfl) fun s1 B x1 t1 hB f1=> ?_
  have W1:=W.nxt x1 ac
  refine aT [B] [] 60 W1 hh (.cons f1 .nil) .nil (High.one (bo W hB)) (az _) dj0 (rmo room rfl) rfl [] fun A₀ c q1 hq1 uA₀=> ?_
  refine bW (c':=(.call (.builtin "str.__iter__") ⟨[.str x tx],[]⟩)) (d:=0) (u:=10) 14 0x4000400040 [0] [] [some (fCO w.params (tk [s.toks,tx,s.toks+1,s1.toks+1,s1.toks]) u x ⟨#[d]⟩ 0 0 0)] 1 2 (by apply cW1 q1 w<;>first|apply hq1|(intro w;kernel_rfl)) no_side fun s2 x2 t2 g2 A' R' hA dA uA res=> ?_
  have dA:A'.depth≤A.depth+1:=dA
  have W2:=W1.nxt x2 (High.one (bo W hB))
  refine str_iter_callT ha fun s3 x3 t3 i3=> ?_
  have W3:=W2.nxt x3 ac
  have hit:=bo W2 (al _)
  refine Rsm.go (lim:=60) res [] [(s2.heap.objs.size,_)] W3 .nil (.cons i3 .nil) ac nn0 dn0 (rmo room rfl) rfl [] fun q2 hq2=> ?_
  refine bW (c':=(forC (forCO w) (.ref s2.heap.objs.size) (bc w B))) (d:=0) (u:=10) 1 0x1 [] [] [] 0 0 (by apply cW2 q2 q1 w<;>first|apply hq2|apply hq1|(intro w;kernel_rfl)) no_side fun s4 x4 t4 _ A' R' hA dA uA res=> ?_
  have dA:A'.depth≤A.depth+1:=dA
  have f4:=x4.keep0 (x3.keep0 (g2 0))
  refine dI hA (rm room dA rfl) (bo W hB) hit hu x.cps.toList 0 0 0 0 rfl (W3.nxt x4 ac) f4 (by rw [t4,t3,t2,t1];lia) (x4.keep0 i3) fun s5 e k' τ' x5 f5=> ?_
  rw [Nat.zero_add] at f5
  have x05:Nxt [B,s2.heap.objs.size] s s5:=x1.nil.trans ((x2.weak (ao (by simp))).trans ((x3.trans x4).nil.trans x5))
  have x50:=(x05.drop hB).drop (ad x1.heap.size x2.heap.size)
  refine Rsm.go (lim:=60) res [] [(B,_)] (W.nxt x50 ac) .nil (.cons f5 .nil) ac nn0 dn0 (rmo room rfl) rfl [] fun q3 hq3=> ?_
  refine am (f:=(.ret (.int (U (List.count d x.cps.toList)) (τ' 4)))) 3 0x1 [] [] [] 0 0 (by apply kW3 q3 q2 q1 w k'<;>first|apply hq3|apply hq2|apply hq1|(intros;kernel_rfl)) no_side fun s6 x6 _=>k s6 _ (x50.trans x6)
noncomputable def rl(q:Qd)(n hs:Nat)(js:List Nat):=((q.run n hs).obl.map (·.1),(q.run n hs).stk.map (·.1),sumUp (q.run n hs) js)
noncomputable def rr(q:Qd)(n hs:Nat)(fl:Fl)(side:List Prop)(os:List (Option Obj))(m' i':Nat):=((q.run n hs).obl.map (·.2),(q.run n hs).stk.map (·.2),(fl,side,os,m',i',true))
noncomputable def forWI(w:ag):Stmt:=aF (dJ w) 4
noncomputable def wsO(dx:Nat):Obj:=⟨.ref 279,some dx,.plain,#[]⟩
noncomputable def fWI(P:ae)(τ:Nat→Nat)(v:Nat)(x:Str)(l:Nat)(b:Nat)(n:Int)(nt:Nat)(c:Nat):Nat→Obj
  |0=>frO [en P (S "self") (τ 0) (.ref (v+322)),en P (S "ws") (τ 1) (.str x (τ 2)),en P (S "T") (τ 3) (.str (S "\t") (τ 4)),en P (S "S") (τ 5) (.str (S " ") (τ 6)),en P (S "count") (τ 7) (.ref l),en P (S "b") (τ 8) (.int (U b) (τ 9)),en P (S "n") (τ 10) (.int n (τ 11)),en P (S "nt") (τ 12) (.int (U nt) (τ 13))]
  |_=>frO [en P (S "self") (τ 0) (.ref (v+322)),en P (S "ws") (τ 1) (.str x (τ 2)),en P (S "T") (τ 3) (.str (S "\t") (τ 4)),en P (S "S") (τ 5) (.str (S " ") (τ 6)),en P (S "count") (τ 7) (.ref l),en P (S "b") (τ 8) (.int (U b) (τ 9)),en P (S "n") (τ 10) (.int n (τ 11)),en P (S "nt") (τ 12) (.int (U nt) (τ 13)),en P (S "ch") (τ 14) (.str ⟨#[c]⟩ (τ 15))]
noncomputable def cL(τ:Nat→Nat):Option (Nat×Nat×Nat)→List Value
  |none=>[]
  |some (0,_,r)=>[.int (U r) (τ 22)]
  |some (m+1,a,r)=> .int (U a) (τ 20)::(List.replicate m (.int 0 (τ 21))++[.int (U r) (τ 22)])
theorem k2{p:Nat→Prop}(h0:p 0)(h1:∀k,p (k+1)):∀k,p k
  |0=>h0
  |k+1=>h1 k
theorem asgW{w:ag}{s:aa}{A:ai}{E:Value→aa→Prop}{Q:Flow→aa→Prop}{B v b l e nt c k:Nat}{n:Int}{x:Str}{it:Value}{τ:Nat→Nat}{t:Tok}(W:KTH w s.heap)(hh:A.handled=none)(room:A.depth+60<recursionLimit)(hB:322≤B)
    (hf:s.heap.get? B=some (fWI w.params τ v x l b n nt e k)) (kk:∀s',Nxt [B] s s'→s'.heap.get? B=some (fWI w.params (tk [τ 0,τ 1,τ 2,τ 3,τ 4,τ 5,τ 6,τ 7,τ 8,τ 9,τ 10,τ 11,τ 12,τ 13,bi k s.toks (τ 14),t,τ 16,τ 17,τ 18,τ 19,τ 20,τ 21,τ 22]) v x l b n nt c 1)→Q .next s'):
    wpAny (model pw w) A (letOwnedTupleGo (sT (forWI w)) it (.str ⟨#[c]⟩ t)>>=fun _=>assign (sT (forWI w)) (aY w B) (.str ⟨#[c]⟩ t)>>=fun _=>execs [] (aY w B)) Q E s:=by
  refine bL [B] [] 60 W hh (.cons hf .nil) .nil (High.one hB) (az _) dj0 room rfl [] fun A₀ c' q1 hq1 uA₀=> ?_
  refine am (f:= .next) 7 0x400040 [0] [] [some (fWI w.params (tk [τ 0,τ 1,τ 2,τ 3,τ 4,τ 5,τ 6,τ 7,τ 8,τ 9,τ 10,τ 11,τ 12,τ 13,bi k s.toks (τ 14),t,τ 16,τ 17,τ 18,τ 19,τ 20,τ 21,τ 22]) v x l b n nt c 1)] 1 1 (by apply elq q1 _ hq1;apply k2 ?_ ?_ k<;>first|kernel_rfl|(intro k;kernel_rfl)) no_side fun s1 x1 g1=>kk s1 x1 (g1 0)
theorem bdS{w:ag}{s:aa}{A:ai}{E:Value→aa→Prop}{Q:Flow→aa→Prop}{B v b l nt:Nat}{n:Int}{x:Str}{τ:Nat→Nat}(W:KTH w s.heap)(hh:A.handled=none)(room:A.depth+60<recursionLimit)(hB:322≤B)
    (hf:s.heap.get? B=some (fWI w.params τ v x l b n nt 32 1)) (kk:∀s',Nxt [B] s s'→s'.heap.get? B=some (fWI w.params (tk [τ 0,τ 1,τ 2,τ 3,τ 4,τ 5,τ 6,τ 7,τ 8,s.toks+4,τ 10,s.toks+1,τ 12,τ 13,τ 14,τ 15,τ 16,τ 17,τ 18,τ 19,τ 20,τ 21,τ 22]) v x l (b+1) (n+1) nt 32 1)→Q .next s'):
    wpAny (model pw w) A (execs (sB (forWI w)) (aY w B)) Q E s:=by
  refine aT [B] [] 60 W hh (.cons hf .nil) .nil (High.one hB) (az _) dj0 room rfl [] fun A₀ c' q1 hq1 uA₀=> ?_
  refine am (f:= .next) 38 0x40004000000003004000400040000000030040000000400040 [0] [True,True] [some (fWI w.params (tk [τ 0,τ 1,τ 2,τ 3,τ 4,τ 5,τ 6,τ 7,τ 8,s.toks+4,τ 10,s.toks+1,τ 12,τ 13,τ 14,τ 15,τ 16,τ 17,τ 18,τ 19,τ 20,τ 21,τ 22]) v x l (b+1) (n+1) nt 32 1)] 1 6 (by apply cW1 q1 w<;>first|apply hq1|(intro w;kernel_rfl)) (side_cons trivial (side_cons trivial no_side)) fun s1 x1 g1=>kk s1 x1 (g1 0)
theorem mC{p:Bool→Nat→Prop}(h0:∀b,p b 0)(h1:∀b,p b 1)(h2:∀b,p b 2)(h3:∀b,p b 3)(h4:∀b,p b 4)(h5:∀b,p b 5)(h6:∀b,p b 6)(h7:∀b,p b 7)(h8:∀b,p b 8)(h9:∀b,p b 9)(h10:∀b,p b 10)(h11:∀b,p b 11)(h12:∀b,p b 12):∀b m,m<13→p b m
  |b,0,_=>h0 b
  |b,1,_=>h1 b
  |b,2,_=>h2 b
  |b,3,_=>h3 b
  |b,4,_=>h4 b
  |b,5,_=>h5 b
  |b,6,_=>h6 b
  |b,7,_=>h7 b
  |b,8,_=>h8 b
  |b,9,_=>h9 b
  |b,10,_=>h10 b
  |b,11,_=>h11 b
  |b,12,_=>h12 b
  |_,m+13,h=>absurd h (by lia)
section
variable (w:ag) (s:aa) (B v l nt z:Nat) (n:Int) (x:Str) (τ:Nat→Nat) (c:Code)
noncomputable def tAl(r:Bool)(m:Nat):=rl (qd (wb w r) s [B,l+322] [fWI (wb w r).params τ v x (l+322) m n nt 9 1,lstO (cL τ (none)) z] [] 60 [] c .own 0 (fj (exF (sB (forWI (wb w r))) (aY (wb w r) B)))) 192 0x4000400044004400440000004400440044004000400000004400000044004400440044004000400040004000430041004300000041004100430041004200000042004200420000004200000000004100000041004100000040000000000040004000000041000000410041000000400000000000400040004000000003004000400040000000030040000000400040000000400040 [0,4]
noncomputable def tAr(r:Bool)(m:Nat):=rr (qd (wb w r) s [B,l+322] [fWI (wb w r).params τ v x (l+322) m n nt 9 1,lstO (cL τ (none)) z] [] 60 [] c .own 0 (fj (exF (sB (forWI (wb w r))) (aY (wb w r) B)))) 192 0x4000400044004400440000004400440044004000400000004400000044004400440044004000400040004000430041004300000041004100430041004200000042004200420000004200000000004100000041004100000040000000000040004000000041000000410041000000400000000000400040004000000003004000400040000000030040000000400040000000400040 (.fin .next) [True,True] [some (fWI (wb w r).params (tk [τ 0,τ 1,τ 2,τ 3,τ 4,τ 5,τ 6,τ 7,τ 8,s.toks+17,τ 10,s.toks+1,τ 12,s.toks+4,τ 14,τ 15,τ 16,τ 17,τ 18,τ 19,s.toks+8,s.toks+8,s.toks+16]) v x (s.heap.objs.size+2) 0 (n+1) (nt+1) 9 1),some (lstO (cL (tk [τ 0,τ 1,τ 2,τ 3,τ 4,τ 5,τ 6,τ 7,τ 8,s.toks+17,τ 10,s.toks+1,τ 12,s.toks+4,τ 14,τ 15,τ 16,τ 17,τ 18,τ 19,s.toks+8,s.toks+8,s.toks+16]) (some (m,0,1))) 0)] 5 19
theorem tAe:∀r m,m<13→tAl w s B v l nt z n x τ c r m=tAr w s B v l nt z n x τ c r m:=by
  refine mC (p:=fun r m=>tAl w s B v l nt z n x τ c r m=tAr w s B v l nt z n x τ c r m) ?_ ?_ ?_ ?_ ?_ ?_ ?_ ?_ ?_ ?_ ?_ ?_ ?_<;>intro r<;>apply bCase ?_ ?_ r<;>kernel_rfl
noncomputable def tBl(a b₀:Nat)(r:Bool)(m:Nat):=rl (qd (wb w r) s [B,l+322] [fWI (wb w r).params τ v x (l+322) m n nt 9 1,lstO (cL τ (some (0,a,b₀))) z] [] 60 [] c .own 0 (fj (exF (sB (forWI (wb w r))) (aY (wb w r) B)))) 192 0x4000400044004400440000004400440044004000400000004400000044004400440044004000400040004000430041004300000041004100430041004200000042004200420000004200000000004100000041004100000040000000000040004000000041000000410041000000400000000000400040004000000003004000400040000000030040000000400040000000400040 [0,4]
noncomputable def tBr(a b₀:Nat)(r:Bool)(m:Nat):=rr (qd (wb w r) s [B,l+322] [fWI (wb w r).params τ v x (l+322) m n nt 9 1,lstO (cL τ (some (0,a,b₀))) z] [] 60 [] c .own 0 (fj (exF (sB (forWI (wb w r))) (aY (wb w r) B)))) 192 0x4000400044004400440000004400440044004000400000004400000044004400440044004000400040004000430041004300000041004100430041004200000042004200420000004200000000004100000041004100000040000000000040004000000041000000410041000000400000000000400040004000000003004000400040000000030040000000400040000000400040 (.fin .next) [True,True] [some (fWI (wb w r).params (tk [τ 0,τ 1,τ 2,τ 3,τ 4,τ 5,τ 6,τ 7,τ 8,s.toks+17,τ 10,s.toks+1,τ 12,s.toks+4,τ 14,τ 15,τ 16,τ 17,τ 18,τ 19,τ 22,s.toks+8,s.toks+16]) v x (s.heap.objs.size+2) 0 (n+1) (nt+1) 9 1),some (lstO (cL (tk [τ 0,τ 1,τ 2,τ 3,τ 4,τ 5,τ 6,τ 7,τ 8,s.toks+17,τ 10,s.toks+1,τ 12,s.toks+4,τ 14,τ 15,τ 16,τ 17,τ 18,τ 19,τ 22,s.toks+8,s.toks+16]) (some (m,b₀,1))) 0)] 5 19
theorem tBe(a b₀:Nat):∀r m,m<13→0<m→tBl w s B v l nt z n x τ c a b₀ r m=tBr w s B v l nt z n x τ c a b₀ r m:=by
  refine mC (p:=fun r m=>0<m→tBl w s B v l nt z n x τ c a b₀ r m=tBr w s B v l nt z n x τ c a b₀ r m) ?_ ?_ ?_ ?_ ?_ ?_ ?_ ?_ ?_ ?_ ?_ ?_ ?_<;>intro r h<;>first|exact absurd h (Nat.lt_irrefl 0)|(apply bCase ?_ ?_ r<;>kernel_rfl)
noncomputable def tCl(a b₀:Nat)(r:Bool)(m:Nat):=rl (qd (wb w r) s [B,l+322] [fWI (wb w r).params τ v x (l+322) m n nt 9 1,lstO (cL τ (some (m,a,b₀))) z] [] 60 [] c .own 0 (fj (exF (sB (forWI (wb w r))) (aY (wb w r) B)))) 116 0x400040004100410041000000410041004100400040000000030041000000410041004100410040004000000041000000410041000000400000000000400040004000000003004000400040000000030040000000400040000000400040 [0,1]
noncomputable def tCr(a b₀:Nat)(r:Bool)(m:Nat):=rr (qd (wb w r) s [B,l+322] [fWI (wb w r).params τ v x (l+322) m n nt 9 1,lstO (cL τ (some (m,a,b₀))) z] [] 60 [] c .own 0 (fj (exF (sB (forWI (wb w r))) (aY (wb w r) B)))) 116 0x400040004100410041000000410041004100400040000000030041000000410041004100410040004000000041000000410041000000400000000000400040004000000003004000400040000000030040000000400040000000400040 (.fin .next) [True,True,True] [some (fWI (wb w r).params (tk [τ 0,τ 1,τ 2,τ 3,τ 4,τ 5,τ 6,τ 7,τ 8,s.toks+10,τ 10,s.toks+1,τ 12,s.toks+4,τ 14,τ 15,τ 16,τ 17,τ 18,τ 19,τ 20,τ 21,s.toks+9]) v x (l+322) 0 (n+1) (nt+1) 9 1),some (lstO (cL (tk [τ 0,τ 1,τ 2,τ 3,τ 4,τ 5,τ 6,τ 7,τ 8,s.toks+10,τ 10,s.toks+1,τ 12,s.toks+4,τ 14,τ 15,τ 16,τ 17,τ 18,τ 19,τ 20,τ 21,s.toks+9]) (some (m,a,b₀+1))) z)] 2 12
theorem tCe(a b₀:Nat):∀r m,m<13→tCl w s B v l nt z n x τ c a b₀ r m=tCr w s B v l nt z n x τ c a b₀ r m:=by
  refine mC (p:=fun r m=>tCl w s B v l nt z n x τ c a b₀ r m=tCr w s B v l nt z n x τ c a b₀ r m) ?_ ?_ ?_ ?_ ?_ ?_ ?_ ?_ ?_ ?_ ?_ ?_ ?_<;>intro r<;>apply bCase ?_ ?_ r<;>kernel_rfl
end
noncomputable def wtab:Option (Nat×Nat×Nat)→Nat→Option (Option (Nat×Nat×Nat))
  |none,b=>if b<13 then some (some (b,0,1)) else none
  |some (m,a,r),b=>if b<13 then (if b=m then some (some (m,a,r+1)) else if m=0 then some (some (b,r,1)) else none) else none
noncomputable def wst:Option (Nat×Nat×Nat)→Nat→Nat→List Nat→Option (Option (Nat×Nat×Nat)×Nat×Nat)
  |st,b,nt,[]=>some (st,b,nt)
  |st,b,nt,c::cs=>if c=32 then wst st (b+1) nt cs else if c=9 then (match wtab st b with|some st'=>wst st' 0 (nt+1) cs|none=>none) else none
theorem bdT{w:ag}{s:aa}{A:ai}{E:Value→aa→Prop}{Q:Flow→aa→Prop}{B v b l nt z:Nat}{n:Int}{x:Str}{τ:Nat→Nat}{st st':Option (Nat×Nat×Nat)}(W:KTH w s.heap)(hh:A.handled=none)(room:A.depth+60<recursionLimit)(hB:322≤B)
    (hf:s.heap.get? B=some (fWI w.params τ v x (l+322) b n nt 9 1)) (hl:s.heap.get? (l+322)=some (lstO (cL τ st) z)) (hs:wtab st b=some st')
    (kk:∀s' τ' l' z' n',Nxt [B,l+322] s s'→s'.heap.get? B=some (fWI w.params τ' v x (l'+322) 0 n' (nt+1) 9 1)→s'.heap.get? (l'+322)=some (lstO (cL τ' st') z')→(l'=l∨s.heap.objs.size≤l'+322)→Q .next s'):
    wpAny (model pw w) A (execs (sB (forWI w)) (aY w B)) Q E s:=by
  obtain ⟨w,r,rfl⟩:=bM w
  have nB:B≠l+322:=ne_cls hf hl cFL
  obtain ⟨q,hq⟩:∃q,s.heap.objs.size+2=q+322:=(aW (ad W.2 (aw _ _)))
  have ext:∀s',Nxt [B,l+322] s s'→∀τ' n',s'.heap.get? B=some (fWI (wb w r).params τ' v x (s.heap.objs.size+2) 0 n' (nt+1) 9 1)→s'.heap.get? (s.heap.objs.size+2)=some (lstO (cL τ' st') 0)→Q .next s':=fun s' x1 τ' n' g1 g2=>by
    rw [hq] at g1 g2
    exact kk s' _ q _ _ x1 g1 g2 (.inr (by lia))
  have hM:High [B,l+322]:=High.cons (.inl hB) (High.one (ab _ _))
  have nd:[B,l+322].Nodup:=List.nodup_cons.mpr ⟨notin1 nB,az _⟩
  have hb:b<13:=by
    by_cases hb:b<13
    · exact hb
    · cases st<;>simp [wtab,hb] at hs
  cases st with
  |none=>
    simp only [wtab,if_pos hb,Option.some.injEq] at hs
    subst hs
    refine aT [B,l+322] [] 60 W hh (.cons hf (.cons hl .nil)) .nil hM nd dj0 room rfl [] fun A₀ c q1 hq1 uA₀=> ?_
    subst hq1;exact am _ _ _ _ _ _ _ (tAe w s B v l nt z n x τ c r b hb) (side_cons trivial (side_cons trivial no_side)) fun s1 x1 g1=>ext s1 x1 _ _ (g1 0) (g1 1)
  |some y=>
    obtain ⟨m,a,b₀⟩:=y
    by_cases e:b=m
    · simp only [wtab,if_pos hb,if_pos e,Option.some.injEq] at hs
      subst hs e
      refine aT [B,l+322] [] 60 W hh (.cons hf (.cons hl .nil)) .nil hM nd dj0 room rfl [] fun A₀ c q1 hq1 uA₀=> ?_
      subst hq1;exact am _ _ _ _ _ _ _ (tCe w s B v l nt z n x τ c a b₀ r b hb) (side_cons trivial (side_cons trivial (side_cons trivial no_side))) fun s1 x1 g1=>kk s1 _ l _ _ x1 (g1 0) (g1 1) (.inl rfl)
    · by_cases e0:m=0
      · simp only [wtab,if_pos hb,if_neg e,if_pos e0,Option.some.injEq] at hs
        subst hs e0
        refine aT [B,l+322] [] 60 W hh (.cons hf (.cons hl .nil)) .nil hM nd dj0 room rfl [] fun A₀ c q1 hq1 uA₀=> ?_
        subst hq1;exact am _ _ _ _ _ _ _ (tBe w s B v l nt z n x τ c a b₀ r b hb (Nat.pos_of_ne_zero e)) (side_cons trivial (side_cons trivial no_side)) fun s1 x1 g1=>ext s1 x1 _ _ (g1 0) (g1 1)
      · simp only [wtab,if_pos hb,if_neg e,if_neg e0] at hs
        cases hs
noncomputable def Oth(K:List (Addr×Obj)):Prop:=∀p∈K,p.2.cls≠.type "frame"∧p.2.cls≠.type "list"∧p.2.cls≠.type "str_ascii_iterator"
theorem Led.off{s s':aa}{mods:List Addr}{K:List (Addr×Obj)}(L:Led s.heap K)(X:Nxt mods s s')(hK:Oth K)(h:∀a∈mods,∃o,s.heap.get? a=some o∧(o.cls= .type "frame"∨o.cls= .type "list"∨o.cls= .type "str_ascii_iterator")):Led s'.heap K:=fun p hp=>X.keep (L p hp) fun hm=>by
  obtain ⟨o,e,ho⟩:=h _ hm
  have e2:=L p hp
  rw [e] at e2
  have e3:=Option.some.inj e2
  obtain ⟨h1,h2,h3⟩:=hK p hp
  rw [←e3] at h1 h2 h3
  rcases ho with ho|ho|ho
  · exact h1 ho
  · exact h2 ho
  · exact h3 ho
theorem Led.off1{s s':aa}{a:Addr}{o:Obj}{K:List (Addr×Obj)}(L:Led s.heap K)(X:Nxt [a] s s')(hK:Oth K)(e:s.heap.get? a=some o)(ho:o.cls= .type "frame"∨o.cls= .type "list"∨o.cls= .type "str_ascii_iterator"):Led s'.heap K:=
  L.off X hK fun b hb=>by rw [List.mem_singleton.mp hb];exact ⟨o,e,ho⟩
theorem ws_loop{w:ag}{A:ai}{R:Result→aa→Prop}{B it v b' nt':Nat}{x:Str}{tx:Tok}{s0:aa}{mods:List Addr}{K:List (Addr×Obj)}{st':Option (Nat×Nat×Nat)}(hK:Oth K)(hh:A.handled=none)(room:A.depth+60<recursionLimit)(h0:322≤s0.heap.objs.size)(hB:s0.heap.objs.size≤B)(hit:s0.heap.objs.size≤it)
    (kk:∀s τ l z n e,KTH w s.heap→Nxt mods s0 s→s.heap.get? B=some (fWI w.params τ v x (l+322) b' n nt' e 1)→s.heap.get? (l+322)=some (lstO (cL τ st') z)→s0.heap.objs.size≤l+322→Led s.heap K→R (.ok .next) s):
    ∀(cs:List Nat) (j:Nat) (st:Option (Nat×Nat×Nat)) (b nt l z e k:Nat) (n:Int) {s:aa} {τ:Nat→Nat},x.cps.toList.drop j=cs→KTH w s.heap→Nxt mods s0 s→s.heap.get? B=some (fWI w.params τ v x (l+322) b n nt e k)→s.heap.get? (l+322)=some (lstO (cL τ st) z)→s0.heap.objs.size≤l+322→
      s.heap.get? it=some (cN x tx j)→wst st b nt cs=some (st',b',nt')→Led s.heap K→(cs=[]→k=1)→codeAny (model pw w) A (forC (forWI w) (.ref it) (aY w B)) R s
  |[],j,st,b,nt,l,z,e,k,n,s,τ,hj,W,X,f,hl,ll,hi,hw,LK,k1=>by
    have cf:∀k,(fWI w.params τ v x (l+322) b n nt e k).cls= .type "frame":=fun k=>by cases k<;>rfl
    have nB:B∉[it]:=notin1 (ne_cls f hi (by rw [cf];exact (show Value.type "frame"≠Value.type "str_ascii_iterator" by decide)))
    have nl:l+322∉[it]:=notin1 (ne_cls hl hi (show Value.type "list"≠Value.type "str_ascii_iterator" by decide))
    have hn:x.cps[j]? =none:=by
      rw [←Array.getElem?_toList]
      exact List.getElem?_eq_none (List.drop_eq_nil_iff.mp hj)
    unfold wst at hw
    cases hw
    obtain rfl:=k1 rfl
    refine aV (str_end hh hi hn fun s1 x1=>wpAny_execs_nil ?_)
    have x2:Nxt (it::mods) s0 s1:=(X.weak (ao (by simp))).trans (x1.weak (ao (by simp)))
    exact kk s1 τ l z n e (W.nxt x1 (High.one (ad h0 hit))) (x2.drop hit) (x1.keep f nB) (x1.keep hl nl) ll (LK.off1 x1 hK hi (.inr (.inr rfl)))
  |c::cs,j,st,b,nt,l,z,e,k,n,s,τ,hj,W,X,f,hl,ll,hi,hw,LK,k1=>by
    have cf:∀τ b n nt e k,(fWI w.params τ v x (l+322) b n nt e k).cls= .type "frame":=fun τ b n nt e k=>by cases k<;>rfl
    have nB:B∉[it]:=notin1 (ne_cls f hi (by rw [cf];exact (show Value.type "frame"≠Value.type "str_ascii_iterator" by decide)))
    have nl:l+322∉[it]:=notin1 (ne_cls hl hi (show Value.type "list"≠Value.type "str_ascii_iterator" by decide))
    have nI:it∉[B,l+322]:=notin2 (ne_cls hi f (by rw [cf];exact (show Value.type "str_ascii_iterator"≠Value.type "frame" by decide))) (ne_cls hi hl (show Value.type "str_ascii_iterator"≠Value.type "list" by decide))
    have nlB:l+322∉[B]:=notin1 (ne_cls hl f (by rw [cf];exact (show Value.type "list"≠Value.type "frame" by decide)))
    have nIB:it∉[B]:=fun h=>nI (by rw [List.mem_singleton.mp h];exact .head _)
    have hj':=ch hj
    have hs:x.cps[j]? =some c:=by rw [←Array.getElem?_toList];exact hj'.1
    have hB2:=ad h0 hB
    refine aV (str_item hi hs fun s1 x1 i1=>dM (asgW (W.nxt x1 (High.one (ad h0 hit))) hh room hB2 (x1.keep f nB) fun s2 x2 f2=> ?_))
    have W2:=(W.nxt x1 (High.one (ad h0 hit))).nxt x2 (High.one hB2)
    have X2:Nxt (it::B::mods) s0 s2:=(X.weak (ao (by simp))).trans ((x1.weak (ao (by simp))).trans (x2.weak (ao (by simp))))
    have X2:=(X2.drop hit).drop hB
    have i2:=x2.keep i1 nIB
    have l2:=x2.keep (x1.keep hl nl) nlB
    have L2:=(LK.off1 x1 hK hi (.inr (.inr rfl))).off1 x2 hK (x1.keep f nB) (.inl (cf _ _ _ _ _ _))
    unfold wst at hw
    by_cases h32:c=32
    · rw [if_pos h32] at hw
      subst h32
      refine bdS W2 hh room hB2 f2 fun s3 x3 f3=> ?_
      have X3:Nxt (B::mods) s0 s3:=(X2.weak (ao (by simp))).trans (x3.weak (ao (by simp)))
      have X3:=X3.drop hB
      refine ws_loop hK hh room h0 hB hit kk cs (j+1) st (b+1) nt l z 32 1 (n+1) hj'.2 (W2.nxt x3 (High.one hB2)) X3 f3 ?_ ll (x3.keep i2 nIB) hw (L2.off1 x3 hK f2 (.inl (cf _ _ _ _ _ _))) (fun _=>rfl)
      have l3:=x3.keep l2 nlB
      exact (by rw [l3];cases st with|none=>rfl|some y=>obtain ⟨m,a,r⟩:=y;cases m<;>rfl)
    · rw [if_neg h32] at hw
      by_cases h9:c=9
      · rw [if_pos h9] at hw
        subst h9
        cases hq:wtab st b with
        |none=>rw [hq] at hw;cases hw
        |some st2=>
          rw [hq] at hw
          refine bdT (st:=st) (τ:=_) W2 hh room hB2 f2 (by rw [l2];cases st with|none=>rfl|some y=>obtain ⟨m,a,r⟩:=y;cases m<;>rfl) hq fun s3 τ' l' z' n' x3 f3 l3 hl'=> ?_
          have X3:Nxt (B::(l+322)::mods) s0 s3:=(X2.weak (ao (by simp))).trans (x3.weak (ao (by simp)))
          have X3:=(X3.drop hB).drop ll
          refine ws_loop hK hh room h0 hB hit kk cs (j+1) st2 0 (nt+1) l' z' 9 1 n' hj'.2 (W2.nxt x3 (High.cons (.inl hB2) (High.one (ab _ _)))) X3 f3 l3 ?_ (x3.keep i2 nI) hw (L2.off x3 hK fun a ha=> ?_) (fun _=>rfl)
          · rcases hl' with rfl|h
            · exact ll
            · exact ad X2.heap.size h
          rcases List.mem_cons.mp ha with rfl|ha
          · exact ⟨_,f2,.inl (cf _ _ _ _ _ _)⟩
          · rw [List.mem_singleton.mp ha];exact ⟨_,l2,.inr (.inl rfl)⟩
      · rw [if_neg h9] at hw
        cases hw
theorem lC{p:List Value→Prop}(h0:p [])(h1:∀a0,p [a0])(h2:∀a0 a1,p [a0,a1])(h3:∀a0 a1 a2,p [a0,a1,a2])(h4:∀a0 a1 a2 a3,p [a0,a1,a2,a3])(h5:∀a0 a1 a2 a3 a4,p [a0,a1,a2,a3,a4])(h6:∀a0 a1 a2 a3 a4 a5,p [a0,a1,a2,a3,a4,a5])(h7:∀a0 a1 a2 a3 a4 a5 a6,p [a0,a1,a2,a3,a4,a5,a6])(h8:∀a0 a1 a2 a3 a4 a5 a6 a7,p [a0,a1,a2,a3,a4,a5,a6,a7])(h9:∀a0 a1 a2 a3 a4 a5 a6 a7 a8,p [a0,a1,a2,a3,a4,a5,a6,a7,a8])(h10:∀a0 a1 a2 a3 a4 a5 a6 a7 a8 a9,p [a0,a1,a2,a3,a4,a5,a6,a7,a8,a9])(h11:∀a0 a1 a2 a3 a4 a5 a6 a7 a8 a9 a10,p [a0,a1,a2,a3,a4,a5,a6,a7,a8,a9,a10])(h12:∀a0 a1 a2 a3 a4 a5 a6 a7 a8 a9 a10 a11,p [a0,a1,a2,a3,a4,a5,a6,a7,a8,a9,a10,a11])(h13:∀a0 a1 a2 a3 a4 a5 a6 a7 a8 a9 a10 a11 a12,p [a0,a1,a2,a3,a4,a5,a6,a7,a8,a9,a10,a11,a12]):∀l,l.length<14→p l
  |[],_=>h0
  |[a0],_=>h1 a0
  |[a0,a1],_=>h2 a0 a1
  |[a0,a1,a2],_=>h3 a0 a1 a2
  |[a0,a1,a2,a3],_=>h4 a0 a1 a2 a3
  |[a0,a1,a2,a3,a4],_=>h5 a0 a1 a2 a3 a4
  |[a0,a1,a2,a3,a4,a5],_=>h6 a0 a1 a2 a3 a4 a5
  |[a0,a1,a2,a3,a4,a5,a6],_=>h7 a0 a1 a2 a3 a4 a5 a6
  |[a0,a1,a2,a3,a4,a5,a6,a7],_=>h8 a0 a1 a2 a3 a4 a5 a6 a7
  |[a0,a1,a2,a3,a4,a5,a6,a7,a8],_=>h9 a0 a1 a2 a3 a4 a5 a6 a7 a8
  |[a0,a1,a2,a3,a4,a5,a6,a7,a8,a9],_=>h10 a0 a1 a2 a3 a4 a5 a6 a7 a8 a9
  |[a0,a1,a2,a3,a4,a5,a6,a7,a8,a9,a10],_=>h11 a0 a1 a2 a3 a4 a5 a6 a7 a8 a9 a10
  |[a0,a1,a2,a3,a4,a5,a6,a7,a8,a9,a10,a11],_=>h12 a0 a1 a2 a3 a4 a5 a6 a7 a8 a9 a10 a11
  |[a0,a1,a2,a3,a4,a5,a6,a7,a8,a9,a10,a11,a12],_=>h13 a0 a1 a2 a3 a4 a5 a6 a7 a8 a9 a10 a11 a12
  |_::_::_::_::_::_::_::_::_::_::_::_::_::_::l,h=>absurd h (by simp only [List.length_cons];lia)
theorem tuple_call{w:ag}{s:aa}{A:ai}{R:Result→aa→Prop}{l z:Nat}{xs:List Value}(W:KTH w s.heap)(hh:A.handled=none)(room:A.depth+70<recursionLimit)(hl:s.heap.get? (l+322)=some (lstO xs z))(hx:xs.length<14)
    (k:∀s' y,Nxt [] s s'→s.heap.objs.size≤y+322→s'.heap.get? (y+322)=some (aX xs)→R (.ok (.ret (.ref (y+322)))) s'):
    codeAny (model pw w) A (.call (.type "tuple") ⟨[.ref (l+322)],[]⟩) R s:=by
  refine segC _ [] [(l+322,_)] 60 W hh .nil (.cons hl .nil) ac nn0 dn0 (rmz room rfl) rfl [] fun q1 hq1=> ?_
  refine av (c':=(.builtin "proto.collect" ⟨[.ref (l+322)],[]⟩)) (d:=10) (u:=20) 4 0x10000 [] [] [] 0 0 (by apply cW1 q1 w<;>first|apply hq1|(intro w;kernel_rfl)) no_side fun s1 x1 _ A' R' hA dA uA res=> ?_
  refine fv (.inl rfl) (x1.keep0 hl) rfl rfl (by lia) fun s2 y n x2 hy l2=> ?_
  have W2:=(W.nxt x1 ac).nxt x2 ac
  obtain ⟨y,rfl⟩:∃y',y=y'+322:=⟨y - 322,by have:=(W.nxt x1 ac).2;lia⟩
  refine Rsm.go (lim:=60) res [] [(y+322,_)] W2 .nil (.cons l2 .nil) ac nn0 dn0 (rmz room rfl) rfl [] fun q2 hq2=> ?_
  refine am (f:=(.ret (.ref s2.heap.objs.size))) 10 0x4000000040004000400001 [0] [] [some (aX xs)] 1 0 (by apply elq q2 _ hq2;apply elq q1 _ hq1;apply lC ?_ ?_ ?_ ?_ ?_ ?_ ?_ ?_ ?_ ?_ ?_ ?_ ?_ ?_ xs hx<;>intros<;>kernel_rfl) no_side fun s3 x3 g3=> ?_
  obtain ⟨q,hq⟩:∃q,s2.heap.objs.size=q+322:=(aW W2.2)
  have g3:s3.heap.get? s2.heap.objs.size=_:=(g3 0)
  rw [hq] at g3⊢
  exact k s3 q (x1.trans (x2.trans x3)) (by rw [←hq];exact (x1.trans x2).heap.size) g3
noncomputable def WS(P:ae)(h:Heap)(v d:Nat)(st:Option (Nat×Nat×Nat))(b nt:Nat):Prop:=∃(τ:Nat→Nat) (n:Int) (x:Str) (p:Bool) (g c:Nat) (N:Nat),h.get? (v+322)=some (wsO (d+322))∧h.get? (d+322)=some ⟨.type "dict",none,.dict #[en P (S "raw") (τ 30) (.str x (τ 31)),en P (S "n") (τ 32) (.int n (τ 33)),en P (S "nt") (τ 34) (.int (U nt) (τ 35)),en P (S "norm") (τ 36) (.ref (g+322)),en P (S "is_simple") (τ 37) (.bool p)] N,#[]⟩∧h.get? (g+322)=some (aX [.ref (c+322),.int (U b) (τ 38)])∧h.get? (c+322)=some (aX (cL τ st))
theorem len_lst{w:ag}{s:aa}{A:ai}{R:Result→aa→Prop}{a n:Nat}{xs:List Value}(ha:s.heap.get? a=some (lstO xs n))(l:xs.length<2^20)
    (k:∀s' t,Nxt [] s s'→R (.ok (.ret (.int (U xs.length) t))) s'):codeAny (model pw w) A (.call (.builtin "len") ⟨[.ref a],[]⟩) R s:=by
  have hl:s.heap.IsList a xs.toArray:=⟨_,ha,rfl,_,rfl⟩
  refine codeAny_of_tree ?_
  show wpAny _ A.in1 (do checkBuiltinCall "len" ⟨[.ref a],[]⟩;again (.builtin "len" ⟨[.ref a],[]⟩)) _ _ s
  refine af (wpAny_of_eq (args_len1 _) (wpAny_pure ⟨plainId_quiet plain_len _,codeAny_builtin entry_len ?_⟩))
  rw [Around.under_plainId plain_len]
  unfold Builtin.«len»
  refine af (m:=oneArg "len" _) (wpAny_pure ?_)
  refine af (m := callSpecial? (.ref a) (Str.ofString "__len__")) (wpAny_callSpecial?_slot (name := Str.ofString "__len__") hl.typeIs slot_list_len
    (wpAny_call_entry slot_list_len hl.typeIs entry_list_len ?_ (args_list_len _)))
  show wpAny _ _ (do retInt (←seqSize a)) _ _ s
  unfold seqSize
  refine af (af (wpAny_load ha ?_))
  refine wpAny_pure (af (wpAny_mkInt (wpAny_pure ⟨_,rfl,?_⟩)))
  refine af (wpAny_holding (wpAny_pure ?_))
  refine af (wpAny_letGo ?_)
  show wpAny _ _ (if ((xs.toArray.size:Nat):Int)<0 then _ else _) _ _ _
  have e:xs.toArray.size=xs.length:=List.size_toArray
  rw [e,if_neg (by lia)]
  show wpAny _ _ (if ((xs.length:Nat):Int)≥2^63 then _ else _) _ _ _
  rw [if_neg (by lia)]
  exact af (wpAny_mkInt (wpAny_pure (k _ _ ⟨Ext.refl _ _,GX.refl _,rfl,rfl⟩)))
theorem eO:∀(cs:List Nat) (st:Option (Nat×Nat×Nat)) (b nt:Nat) {st':Option (Nat×Nat×Nat)} {b' nt':Nat},wst st b nt cs=some (st',b',nt')→(∀y∈st,y.1<13)→∀y∈st',y.1<13
  |[],st,b,nt,st',b',nt',h,q=>by unfold wst at h;cases h;exact q
  |c::cs,st,b,nt,st',b',nt',h,q=>by
    unfold wst at h
    by_cases h1:c=32
    · rw [if_pos h1] at h;exact eO cs st (b+1) nt h q
    · rw [if_neg h1] at h
      by_cases h2:c=9
      · rw [if_pos h2] at h
        cases e:wtab st b with
        |none=>rw [e] at h;cases h
        |some st2=>
          rw [e] at h
          refine eO cs st2 0 (nt+1) h ?_
          intro y hy
          have hb:b<13:=by
            by_cases hb:b<13
            · exact hb
            · cases st<;>simp [wtab,hb] at e
          cases st with
          |none=>simp only [wtab,if_pos hb,Option.some.injEq] at e;subst e;cases hy;exact hb
          |some z=>
            obtain ⟨m,a,r⟩:=z
            have hm:=q _ rfl
            simp only [wtab,if_pos hb] at e
            split at e
            · cases e;cases hy;exact hm
            · split at e
              · cases e;cases hy;exact hb
              · cases e
      · rw [if_neg h2] at h;cases h
theorem cL_le{τ:Nat→Nat}{st:Option (Nat×Nat×Nat)}(h:∀y∈st,y.1<13):(cL τ st).length≤13:=by
  cases st with
  |none=>exact Nat.zero_le _
  |some y=>
    obtain ⟨m,a,r⟩:=y
    have:=h _ rfl
    cases m with
    |zero=>exact (by decide:1≤13)
    |succ m=>unfold cL;simp only [List.length_cons,aA,List.length_replicate,List.length_nil] at *;lia
theorem cL_len{τ:Nat→Nat}{cs:List Nat}{st:Option (Nat×Nat×Nat)}{b nt:Nat}(h:wst none 0 0 cs=some (st,b,nt)):(cL τ st).length<14:=
  Nat.lt_succ_of_le (cL_le (eO cs none 0 0 h (fun _ h=>by cases h)))
theorem bC2{p:Bool→Bool→Prop}(h1:p false false)(h2:p false true)(h3:p true false)(h4:p true true)(a b:Bool):p a b:=by cases a<;>cases b<;>assumption
noncomputable def tkW(τ:Nat→Nat)(l:List Nat):Nat→Nat:=fun i=>if i<30 then τ i else tk l (i - 30)
theorem winit_spec{w:ag}{s:aa}{A:ai}{R:Result→aa→Prop}{x:Str}{tx:Tok}{v d b' nt':Nat}{st':Option (Nat×Nat×Nat)}(W:KTH w s.heap)(hh:A.handled=none)(room:A.depth+80<recursionLimit)(ha:x.cps.all (· <128)=true)(hv:s.heap.get? (v+322)=some (wsO (d+322)))(hd:s.heap.get? (d+322)=some ⟨.type "dict",none,.dict #[] 0,#[]⟩)
    (hw:wst none 0 0 x.cps.toList=some (st',b',nt')) (hne:x.cps.toList≠[]) (k:∀s',Nxt [d+322] s s'→WS w.params s'.heap v d st' b' nt'→R (.ok (.ret .none)) s'):
    codeAny (model pw w) A (.call (.ref 234) ⟨[.ref (v+322),.str x tx],[]⟩) R s:=by
  refine open_winit W hh (rmz room rfl) fun s1 B x1 W1 hB f1=> ?_
  have hB2:=bo W hB
  have d1:=x1.keep0 hd
  have v1:=x1.keep0 hv
  refine aT [B,d+322] [(v+322,_)] 60 W1 hh (.cons f1 (.cons d1 .nil)) (.cons v1 .nil) (High.cons (.inl hB2) (High.one (ab _ _))) (List.nodup_cons.mpr ⟨notin1 (ne_cls f1 d1 cFD),az _⟩) (dj1 (notin2 (ne_cls v1 f1 (cRT _ _)) (ne_cls v1 d1 (cRT _ _)))) (rmo room rfl) rfl [] fun A₀ c q1 hq1 uA₀=> ?_
  refine av (c':=(.call (.builtin "str.__iter__") ⟨[.str x tx],[]⟩)) (d:=0) (u:=10) 173 0x410000000100010000000000000001000000000000000000010040004000400040004000400040004000400040004000400040004500430043004200430043000000430043004300430042004300430000004300430043004300420043004300000043004300430000004200420042004200000000000000000000000000000000000000000000000000000000000000000000000000410041004100000001000000000000000100000001000000000001000000000000000100400040 [0,1,6] [] [some (fWI w.params (tk [s.toks,s.toks+1,tx,s1.toks+4,464,s1.toks+5,463,s1.toks+6,s1.toks+8,s1.toks+7,s1.toks+9,s1.toks+7,s1.toks+10,s1.toks+7]) v x (s1.heap.objs.size+4) 0 0 0 0 0),some (⟨.type "dict",none,.dict #[ew w "raw" (s1.toks+1) (.str x tx)] 1,#[]⟩),some (lstO [] 0)] 7 12 (by apply cW1 q1 w<;>first|apply hq1|(intro w;kernel_rfl)) no_side fun s2 x2 g2 A' R' hA dA uA res=> ?_
  have dA:A'.depth≤A.depth+1:=dA
  have W2:=W1.nxt x2 (High.cons (.inl hB2) (High.one (ab _ _)))
  refine dl ha fun s3 x3 i3=> ?_
  have W3:=W2.nxt x3 ac
  refine Rsm.go (lim:=60) res [] [(s2.heap.objs.size,_)] W3 .nil (.cons i3 .nil) ac nn0 dn0 (rmo room rfl) rfl [] fun q2 hq2=> ?_
  refine av (c':=(forC (forWI w) (.ref s2.heap.objs.size) (aY w B))) (d:=0) (u:=10) 1 0x1 [] [] [] 0 0 (by apply cW2 q2 q1 w<;>first|apply hq2|apply hq1|(intro w;kernel_rfl)) no_side fun s4 x4 _ A2 R2 hA2 dA2 uA2 res2=> ?_
  have dA2:A2.depth≤A.depth+1:=dA2
  have x34:=x3.trans x4
  have f4:=x34.keep0 (g2 0)
  have c4:s4.heap.get? (s1.heap.objs.size+4)=some (lstO [] 0):=x34.keep0 (g2 2)
  have d4:=x34.keep0 (g2 1)
  have hc:s.heap.objs.size≤s1.heap.objs.size+4:=ad x1.heap.size (aw _ _)
  obtain ⟨q,hq⟩:∃q,s1.heap.objs.size+4=q+322:=(aW (ad W1.2 (aw _ _)))
  rw [hq] at f4 c4 hc
  have X4:Nxt (B::[d+322]) s s4:=x1.nil.trans ((x2.weak (ao (by simp))).trans x34.nil)
  have X4:=X4.drop hB
  have W4:=W3.nxt x4 ac
  have K4:Led s4.heap [(v+322,wsO (d+322)),(d+322,_)]:= .cons (x34.keep0 (x2.keep v1 (notin2 (ne_cls v1 f1 (cRT _ _)) (ne_cls v1 d1 (cRT _ _))))) (.cons d4 .nil)
  refine ws_loop (s0:=s) (mods:=[d+322]) (K:=[(v+322,wsO (d+322)),(d+322,_)]) ?_ hA2 (rm room dA2 rfl) W.2 hB (ad x1.heap.size x2.heap.size) (fun s5 τ l z n e W5 X5 f5 l5 ll K5=> ?_) x.cps.toList 0 none 0 0 q 0 0 0 0 rfl W4 X4 f4 c4 hc (x4.keep0 i3) hw K4 (fun h=>absurd h hne)
  · intro p hp
    rcases List.mem_cons.mp hp with rfl|hp
    · exact ⟨cRT _ _,cRT _ _,cRT _ _⟩
    · rw [List.mem_singleton.mp hp];exact ⟨(by decide:Value.type "dict"≠.type "frame"),(by decide:Value.type "dict"≠.type "list"),(by decide:Value.type "dict"≠.type "str_ascii_iterator")⟩
  have v5:=K5 _ (.head _)
  have d5:=K5 _ (.tail _ (.head _))
  refine Rsm.go (lim:=60) res2 [d+322] [(B,_),(l+322,_),(v+322,_)] W5 (.cons d5 .nil) (.cons f5 (.cons l5 (.cons v5 .nil))) (High.one (ab _ _)) (az _) (djc (notin1 (ne_cls f5 d5 cFD)) (djc (notin1 (ne_cls l5 d5 (Ne.symm cDL))) (dj1 (notin1 (ne_cls v5 d5 (cRT _ _)))))) (rmo room rfl) rfl [] fun q3 hq3=> ?_
  refine av (c':=(.call (.type "tuple") ⟨[.ref (l+322)],[]⟩)) (d:=0) (u:=10) 66 0x1000000000040004000400000000300000000000000030000000300000000000300000000000000030001000100400040004000000003000000000000000300000003000000000003000000000000000300010001 [0] [] [some (⟨.type "dict",none,.dict #[ew w "raw" (s1.toks+1) (.str x tx),ew w "n" (s5.toks+1) (.int n (τ 11)),ew w "nt" (s5.toks+3) (.int (U nt') (τ 13))] 3,#[]⟩)] 1 4 (by apply cW3 q3 q2 q1 w<;>first|apply hq3|apply hq2|apply hq1|(intro w;kernel_rfl)) no_side fun s6 x6 g6 A3 R3 hA3 dA3 uA3 res3=> ?_
  have dA3:A3.depth≤A.depth+1:=dA3
  have nBd:B≠d+322:=ne_cls f5 d5 cFD
  have nld:l+322≠d+322:=ne_cls l5 d5 (Ne.symm cDL)
  have nvd:v+322≠d+322:=ne_cls v5 d5 (cRT _ _)
  have d6:s6.heap.get? (d+322)=some _:=(g6 0)
  have W6:=W5.nxt x6 (High.one (ab _ _))
  refine tuple_call W6 hA3 (rm room dA3 rfl) (x6.keep l5 (notin1 nld)) (cL_len hw) fun s7 y x7 hy y7=> ?_
  have x57:Nxt [d+322] s5 s7:=x6.trans x7.nil
  have d7:=x7.keep0 d6
  have W7:=W6.nxt x7 ac
  refine Rsm.go (lim:=60) res3 [d+322] [(B,_),(v+322,_)] W7 (.cons d7 .nil) (.cons (x57.keep f5 (notin1 nBd)) (.cons (x57.keep v5 (notin1 nvd)) .nil)) (High.one (ab _ _)) (az _) (djc (notin1 nBd) (dj1 (notin1 nvd))) (rmo room rfl) rfl [] fun q4 hq4=> ?_
  refine av (c':=(.call (.builtin "len") ⟨[.ref (l+322)],[]⟩)) (d:=0) (u:=10) 38 0x10000000000400040004000000002000000000000000200000002000000000002000000000000000200010001 [0,1] [] [some (⟨.type "dict",none,.dict #[ew w "raw" (s1.toks+1) (.str x tx),ew w "n" (s5.toks+1) (.int n (τ 11)),ew w "nt" (s5.toks+3) (.int (U nt') (τ 13)),ew w "norm" (s7.toks+1) (.ref s7.heap.objs.size)] 4,#[]⟩),some (aX [.ref (y+322),.int (U b') (τ 9)])] 2 2 (by apply cW4 q4 q3 q2 q1 w<;>first|apply hq4|apply hq3|apply hq2|apply hq1|(intro w;kernel_rfl)) no_side fun s8 x8 g8 A4 R4 hA4 dA4 uA4 res4=> ?_
  have dA4:A4.depth≤A.depth+1:=dA4
  obtain ⟨q,hq⟩:∃q,s7.heap.objs.size=q+322:=(aW W7.2)
  have d8:s8.heap.get? (d+322)=some _:=(g8 0)
  have q8:s8.heap.get? s7.heap.objs.size=some _:=(g8 1)
  rw [hq] at d8 q8
  have x58:Nxt [d+322] s5 s8:=x57.trans x8
  have W8:=W7.nxt x8 (High.one (ab _ _))
  refine len_lst (x58.keep l5 (notin1 nld)) (aC (cL_len hw) (by decide)) fun s9 tl x9=> ?_
  have W9:=W8.nxt x9 ac
  have x59:Nxt [d+322] s5 s9:=x58.trans x9.nil
  have nqd:q+322≠d+322:=ne_cls q8 d8 (Ne.symm cDT)
  refine Rsm.go (lim:=60) res4 [d+322] [(B,_),(v+322,_)] W9 (.cons (x9.keep0 d8) .nil) (.cons (x59.keep f5 (notin1 nBd)) (.cons (x59.keep v5 (notin1 nvd)) .nil)) (High.one (ab _ _)) (az _) (djc (notin1 nBd) (dj1 (notin1 nvd))) (rmo room rfl) rfl [] fun q5 hq5=> ?_
  obtain ⟨p,hp⟩:∃p,decide ((U ((cL τ st').length))≤1)=p:=⟨_,rfl⟩
  refine am (f:= .next) 32 (cond p 0x400040004000000002000000000000000200000002000000000002000000000000000200010001000d 0x400040004000000002000000000000000200000002000000000002000000000000000200010000000d) [0] [decide ((U ((cL τ st').length))≤1)=p] [some (⟨.type "dict",none,.dict #[ew w "raw" (s1.toks+1) (.str x tx),ew w "n" (s5.toks+1) (.int n (τ 11)),ew w "nt" (s5.toks+3) (.int (U nt') (τ 13)),ew w "norm" (s7.toks+1) (.ref (q+322)),ew w "is_simple" (s9.toks+2) (.bool p)] 5,#[]⟩)] 1 3 (by clear hp;apply elq q5 _ hq5;apply elq q4 _ hq4;apply elq q3 _ hq3;apply elq q2 _ hq2;apply elq q1 _ hq1;apply wW ?_ w;intro w b;apply bC2 ?_ ?_ ?_ ?_ b p<;>kernel_rfl) (side_cons hp no_side) fun s10 x10 g10=> ?_
  have d10:s10.heap.get? (d+322)=some _:=(g10 0)
  have x5F:Nxt [d+322] s5 s10:=x59.trans x10
  have y10:=((x8.trans x9.nil).trans x10).keep y7 (notin1 (ne_cls y7 d7 (Ne.symm cDT)))
  refine k s10 (X5.trans x5F) ⟨tkW τ [s1.toks+1,tx,s5.toks+1,τ 11,s5.toks+3,τ 13,s7.toks+1,s9.toks+2,τ 9],n,x,p,q,y,5,x5F.keep v5 (notin1 nvd),d10,x10.keep (x9.keep0 q8) (notin1 nqd),?_⟩
  rw [y10]
  cases st' with
  |none=>rfl
  |some z=>obtain ⟨m,a,r⟩:=z;cases m<;>rfl
theorem bits64{a:Int}(h:a.natAbs<2^62):Builtin.Int.intBits a≤64:=by
  unfold Builtin.Int.intBits
  split
  · lia
  · rename_i h'
    have h0:a.natAbs≠0:=fun e=>h' (by rw [beq_iff_eq];lia)
    have:=(Nat.log2_lt h0).mpr h
    lia
theorem natBits{a:Nat}(h:a<2^62):Builtin.Int.intBits (U a)≤64:=bits64 h
theorem cb(q L:Nat)(h:q<16)(k:L<16):Builtin.Range.small (U q) (U L) 1=true∧Builtin.Range.rangeSize (U q) (U L) 1=U (L - q):=by
  have:∀q<16,∀L<16,Builtin.Range.small (U q) (U L) 1=true∧Builtin.Range.rangeSize (U q) (U L) 1=U (L - q):=by decide+kernel
  exact this q h L k
theorem fdiv_nat(j q:Nat):Int.fdiv (U j) (U q)=U (j / q):=by
  cases j with
  |zero=>rw [Nat.zero_div];cases q<;>rfl
  |succ j=>rfl
theorem tup_get{w:ag}{s:aa}{A:ai}{R:Result→aa→Prop}{l k:Nat}{u:Tok}{xs:List Value}{y:Value}(hl:s.heap.get? l=some (aX xs))(hy:xs[k]? =some y)(hk:k<2^62)(h:R (.ok (.ret y)) s):
    codeAny (model pw w) A (.call (.builtin "tuple.__getitem__") ⟨[.ref l,.int (U k) u],[]⟩) R s:=by
  have hT:s.TypeIs (.ref l) "tuple":=⟨_,hl,rfl⟩
  have lt:k<xs.toArray.size:=by rw [List.size_toArray];exact (List.getElem?_eq_some_iff.mp hy).1
  refine codeAny_call_builtin F.slot_tuple_getitem.plain F.entry_tuple_getitem (F.slot_tuple_getitem.check _ _ _ _ _ _ _ _ hT (F.args_tuple_getitem_2 _ _) (PySem.MeetsSeq.tuple_getitem_at l xs.toArray 0 (U k) u k y (by simp only [Int.ofNat_eq_natCast];lia) (by simp only [Int.ofNat_eq_natCast];lia) ?_ (by simpa using hy) pw w A R s ⟨hl,h⟩))
  unfold seqIndex?
  simp only [Int.ofNat_eq_natCast]
  split<;>simp_all<;>lia
noncomputable def forIN(w:ag):Stmt:=aF (cV w) 2
noncomputable def fIN(P:ae)(τ:Nat→Nat)(v q c b:Nat)(il:Int)(i:Int):Nat→Obj
  |0=>frO [en P (S "self") (τ 0) (.ref (v+322)),en P (S "tabsize") (τ 1) (.int (U q) (τ 2)),en P (S "count") (τ 3) (.ref (c+322)),en P (S "trailing") (τ 4) (.int (U b) (τ 5)),en P (S "il") (τ 6) (.int il (τ 7))]
  |_=>frO [en P (S "self") (τ 0) (.ref (v+322)),en P (S "tabsize") (τ 1) (.int (U q) (τ 2)),en P (S "count") (τ 3) (.ref (c+322)),en P (S "trailing") (τ 4) (.int (U b) (τ 5)),en P (S "il") (τ 6) (.int il (τ 7)),en P (S "i") (τ 8) (.int i (τ 9))]
theorem inT{w:ag}{s:aa}{A:ai}{E:Value→aa→Prop}{Q:Flow→aa→Prop}{B v q c b0 k j y:Nat}{il e:Int}{it:Value}{τ:Nat→Nat}{t u:Tok}{xs:List Value}(W:KTH w s.heap)(hh:A.handled=none)(room:A.depth+60<recursionLimit)(hB:322≤B)
    (hf:s.heap.get? B=some (fIN w.params τ v q c b0 il e k)) (hc:s.heap.get? (c+322)=some (aX xs)) (hj:xs[j]? =some (.int (U y) u)) (lj:j<2^20) (ly:y<2^20) (q0:q≠0) (lq:q<2^20)
    (kk:∀s' τ',Nxt [B] s s'→s'.heap.get? B=some (fIN w.params τ' v q c b0 (il+Int.fdiv (U j) (U q) * U y) (U j) 1)→Q .next s'):
    wpAny (model pw w) A (letOwnedTupleGo (sT (forIN w)) it (.int (U j) t)>>=fun _=>assign (sT (forIN w)) (bF w B) (.int (U j) t)>>=fun _=>execs (sB (forIN w)) (bF w B)) Q E s:=by
  have cf:∀k,(fIN w.params τ v q c b0 il e k).cls= .type "frame":=fun k=>by cases k<;>rfl
  have nc:c+322∉[B]:=notin1 (ne_cls hc hf (by rw [cf];exact Ne.symm cFT))
  refine bL [B] [(c+322,_)] 60 W hh (.cons hf .nil) (.cons hc .nil) (High.one hB) (az _) (dj1 nc) room rfl [] fun A₀ c' Q1 hQ1 uA₀=> ?_
  refine av (c':=(.call (.builtin "tuple.__getitem__") ⟨[.ref (c+322),.int (U j) t],[]⟩)) (d:=0) (u:=10) 25 0x100010001004000400000000600400040004000400040 [0] [(¬((U (q))==0)=true∧¬(PySem.Builtin.divisionGoesByPylong (U j) (U (q)))=true)] [some (fIN w.params (tk [τ 0,τ 1,τ 2,τ 3,τ 4,τ 5,τ 6,τ 7,bi k s.toks (τ 8),t]) v q c b0 il (U j) 1)] 1 2 (by apply kW1 Q1 w k<;>first|apply hQ1|(intros;kernel_rfl)) (side_cons ⟨by simp only [beq_iff_eq,Int.ofNat_eq_natCast];lia,no_pylong _ _ (by simp only [Int.ofNat_eq_natCast,Int.natAbs_natCast];lia) (by simp only [Int.ofNat_eq_natCast,Int.natAbs_natCast];lia)⟩ no_side) fun s1 x1 g1 A' R' hA dA uA res=> ?_
  have W1:=W.nxt x1 (High.one hB)
  have f1:s1.heap.get? B=_:=(g1 0)
  refine tup_get (x1.keep hc nc) hj (ah ‹_› (by decide)) ?_
  refine Rsm.go (lim:=60) res [B] [] W1 (.cons f1 .nil) .nil (High.one hB) (az _) dj0 room rfl [] fun Q2 hQ2=> ?_
  refine am (f:= .next) 13 0x4000400000000300000002 [0] [True,IntMulOk (Int.fdiv (U j) (U q)) (U y)] [some (fIN w.params (tk [τ 0,τ 1,τ 2,τ 3,τ 4,τ 5,τ 6,s1.toks+1,bi k s.toks (τ 8),t]) v q c b0 (il+Int.fdiv (U j) (U q) * U y) (U j) 1)] 1 3 (by apply kW2 Q2 Q1 w k<;>first|apply hQ2|apply hQ1|(intros;kernel_rfl)) (side_cons trivial (side_cons (.of_right (natBits (ah ‹_› (by decide)))) no_side)) fun s2 x2 g2=>kk s2 _ (x1.trans x2) (g2 0)
theorem in_loop{w:ag}{A:ai}{R:Result→aa→Prop}{B it v q c b0 m a r:Nat}{τ':Nat→Nat}(hh:A.handled=none)(room:A.depth+60<recursionLimit)(hB:322≤B)(hit:322≤it)(lm:m<13)(lr:r<100)(q1:2≤q)(lq:q<100)(mq:m<2 * q):
    ∀(n j il:Nat) (e:Int) (k:Nat) {s:aa} {τ:Nat→Nat},q≤j→j+n=m+1∨n=0→KTH w s.heap→s.heap.get? B=some (fIN w.params τ v q c b0 (U il) e k)→s.heap.get? (c+322)=some (aX (cL τ' (some (m,a,r))))→s.heap.get? it=some (bs (U j) (U n) 1)→
      (∀s' τ e k,Nxt [B,it] s s'→s'.heap.get? B=some (fIN w.params τ v q c b0 (U (il+if n=0 then 0 else r)) e k)→R (.ok .next) s')→codeAny (model pw w) A (forC (forIN w) (.ref it) (bF w B)) R s
  |0,j,il,e,k,s,τ,hj,hn,W,f,hc,hi,kk=>by
    have cf:∀k,(fIN w.params τ v q c b0 (U il) e k).cls= .type "frame":=fun k=>by cases k<;>rfl
    have nB:B∉[it]:=notin1 (ne_cls f hi (by rw [cf];exact (show Value.type "frame"≠Value.type "range_iterator" by decide)))
    refine aV (bX W hh room hi hit fun s1 x1=>wpAny_execs_nil ?_)
    exact kk s1 τ e k (x1.weak (ao (by simp))) (x1.keep f nB)
  |n+1,j,il,e,k,s,τ,hj,hn,W,f,hc,hi,kk=>by
    have cf:∀τ il e k,(fIN w.params τ v q c b0 il e k).cls= .type "frame":=fun τ il e k=>by cases k<;>rfl
    have nB:B∉[it]:=notin1 (ne_cls f hi (by rw [cf];exact (show Value.type "frame"≠Value.type "range_iterator" by decide)))
    have nc:c+322∉[it]:=notin1 (ne_cls hc hi (show Value.type "tuple"≠Value.type "range_iterator" by decide))
    have hn:j+(n+1)=m+1:=hn.resolve_right (aQ n)
    refine aV (bJ W hh room hi hit fun s1 x1 i1=> ?_)
    have W1:=W.nxt x1 (High.one hit)
    have ej:∃t,(cL τ' (some (m,a,r)))[j]? =some (.int (U (if n=0 then r else 0)) t):=by
      obtain ⟨m,rfl⟩:∃m',m=m'+1:=⟨m - 1,by lia⟩
      obtain ⟨j,rfl⟩:∃j',j=j'+1:=⟨j - 1,by lia⟩
      unfold cL
      rw [List.getElem?_cons_succ]
      by_cases h0:n=0
      · rw [if_pos h0,List.getElem?_append_right (by rw [List.length_replicate];lia),List.length_replicate,show j - m=0 by lia]
        exact ⟨_,rfl⟩
      · rw [if_neg h0,List.getElem?_append_left (by rw [List.length_replicate];lia),List.getElem?_replicate,if_pos (by lia)]
        exact ⟨_,rfl⟩
    obtain ⟨t,ej⟩:=ej
    refine inT (k:=k) W1 hh room hB (x1.keep f nB) (x1.keep hc nc) ej (by lia) (by split<;>lia) (by lia) (ah ‹_› (by decide)) fun s2 τ2 x2 f2=> ?_
    have nI:it∉[B]:=notin1 (ne_cls i1 (x1.keep f nB) (by rw [cf];exact (show Value.type "range_iterator"≠Value.type "frame" by decide)))
    have ncB:c+322∉[B]:=notin1 (ne_cls (x1.keep hc nc) (x1.keep f nB) (by rw [cf];exact Ne.symm cFT))
    have ed:Int.fdiv (U j) (U q)=1:=by
      rw [fdiv_nat,Nat.div_eq_of_lt_le (by lia) (by lia) (k:=1)];rfl
    have e2:(U il+Int.fdiv (U j) (U q) * U (if n=0 then r else 0))=U (il+if n=0 then r else 0):=by
      rw [ed,Int.one_mul];rfl
    rw [e2] at f2
    have x02:Nxt [B,it] s s2:=(x1.weak (ao (by simp))).trans (x2.weak (ao (by simp)))
    have e3:U j+1=U (j+1):=rfl
    rw [e3] at i1
    refine in_loop hh room hB hit lm lr q1 lq mq n (j+1) (il+if n=0 then r else 0) _ 1 (by lia) (.inl (by lia)) (W1.nxt x2 (High.one hB)) f2 (x2.keep (x1.keep hc nc) ncB) (x2.keep i1 nI) fun s' τ e k X f'=>kk s' τ e k (x02.trans X) ?_
    rw [if_neg (aQ n)]
    by_cases h0:n=0
    · rw [if_pos h0,if_pos h0] at f';exact f'
    · rw [if_neg h0,if_neg h0] at f';exact f'
theorem len_tup{w:ag}{s:aa}{A:ai}{R:Result→aa→Prop}{a:Nat}{xs:List Value}(ha:s.heap.get? a=some (aX xs))(l:xs.length<2^20)
    (k:∀s' t,Nxt [] s s'→R (.ok (.ret (.int (U xs.length) t))) s'):codeAny (model pw w) A (.call (.builtin "len") ⟨[.ref a],[]⟩) R s:=by
  have ht:IsTup s.heap a xs.toArray:=⟨_,ha,rfl,0,rfl⟩
  refine codeAny_of_tree ?_
  show wpAny _ A.in1 (do checkBuiltinCall "len" ⟨[.ref a],[]⟩;again (.builtin "len" ⟨[.ref a],[]⟩)) _ _ s
  refine af (wpAny_of_eq (args_len1 _) (wpAny_pure ⟨plainId_quiet plain_len _,codeAny_builtin entry_len ?_⟩))
  rw [Around.under_plainId plain_len]
  unfold Builtin.«len»
  refine af (m:=oneArg "len" _) (wpAny_pure ?_)
  refine af (m := callSpecial? (.ref a) (Str.ofString "__len__")) (wpAny_callSpecial?_slot (name := Str.ofString "__len__") ht.typeIs slot_tuple_len
    (wpAny_call_entry slot_tuple_len ht.typeIs entry_tuple_len ?_ (args_tuple_len _)))
  show wpAny _ _ (do retInt (←Builtin.Tuple.tupleItemsOf (.ref a)).size) _ _ s
  refine af (tupleItemsOf_ ht ?_)
  refine af (wpAny_mkInt (wpAny_pure ⟨_,rfl,?_⟩))
  refine af (wpAny_holding (wpAny_pure ?_))
  refine af (wpAny_letGo ?_)
  show wpAny _ _ (if ((xs.toArray.size:Nat):Int)<0 then _ else _) _ _ _
  have e:xs.toArray.size=xs.length:=List.size_toArray
  rw [e,if_neg (by lia)]
  show wpAny _ _ (if ((xs.length:Nat):Int)≥2^63 then _ else _) _ _ _
  rw [if_neg (by lia)]
  exact af (wpAny_mkInt (wpAny_pure (k _ _ ⟨Ext.refl _ _,GX.refl _,rfl,rfl⟩)))
theorem indent_spec{w:ag}{s:aa}{A:ai}{R:Result→aa→Prop}{v d tl nt q tq m a r:Nat}(W:KTH w s.heap)(hh:A.handled=none)(room:A.depth+80<recursionLimit)(F:WS w.params s.heap v d (some (m,a,r)) tl nt)(lm:m<13)(lr:r<100)(q1:2≤q)(lq:q<8)(mq:m<2 * q)(lt:nt<100)
    (k:∀s' t,Nxt [] s s'→R (.ok (.ret (.int (U (tl+q * ((if q≤m then r else 0)+nt))) t))) s'):
    codeAny (model pw w) A (.call (.ref 248) ⟨[.ref (v+322),.int (U q) tq],[]⟩) R s:=by
  obtain ⟨τ,n,x,p,g,c,N,hv,hd,hg,hc⟩:=F
  refine open_indent W hh (rmz room rfl) fun s1 B x1 W1 hB f1=> ?_
  have hB2:=bo W hB
  have nw:∀{a':Nat} {o:Obj},s.heap.get? a'=some o→a'∉[B]:=fun h=>notin1 (ay (ah (an h) hB))
  refine aT [B] [(v+322,_),(d+322,_),(g+322,_)] 60 W1 hh (.cons f1 .nil) (.cons (x1.keep0 hv) (.cons (x1.keep0 hd) (.cons (x1.keep0 hg) .nil))) (High.one hB2) (az _) (djc (nw hv) (djc (nw hd) (dj1 (nw hg)))) (rmo room rfl) rfl [] fun A₀ c' Q1 hQ1 uA₀=> ?_
  refine av (c':=(.call (.builtin "len") ⟨[.ref (c+322)],[]⟩)) (d:=0) (u:=10) 101 0x4000000000004000000000004000400040004000400040004300410041000300410041000000410041004100410003004100410000004100410041004100030041004100000041004100410000000300030003000300020000000100010000000000000001000000000000000000010040 [0] [] [some (fIN w.params (tk [s.toks,s.toks+1,tq,s1.toks+1,s1.toks+2,τ 38,s1.toks+4,s1.toks+3]) v q c tl 0 0 0)] 4 5 (by apply cW1 Q1 w<;>first|apply hQ1|(intro w;kernel_rfl)) no_side fun s2 x2 g2 A' R' hA dA uA res=> ?_
  have dA:A'.depth≤A.depth+1:=dA
  have W2:=W1.nxt x2 (High.one hB2)
  have f2:s2.heap.get? B=_:=(g2 0)
  refine len_tup (x2.keep (x1.keep0 hc) (nw hc)) (aH (cL_le (by intro y hy;cases hy;exact lm)) (by decide)) fun s3 t x3=> ?_
  have W3:=W2.nxt x3 ac
  have el:(cL τ (some (m,a,r))).length=m+1:=by cases m<;>simp [cL]
  rw [el]
  refine Rsm.go (lim:=60) res [] [(B,_)] W3 .nil (.cons (x3.keep0 f2) .nil) ac nn0 dn0 (rmo room rfl) rfl [] fun Q2 hQ2=> ?_
  refine av (c':=(.call (.builtin "range.__iter__") ⟨[.ref s3.heap.objs.size],[]⟩)) (d:=0) (u:=10) 22 0x4000400040000000400040004000000000 [0] [] [some (⟨.type "range",none,.fields #[.int (U q) tq,.int (U (m+1)) t,.int 1 s3.toks],#[]⟩)] 1 1 (by apply cW2 Q2 Q1 w<;>first|apply hQ2|apply hQ1|(intro w;kernel_rfl)) no_side fun s4 x4 g4 A2 R2 hA2 dA2 uA2 res2=> ?_
  have W4:=W3.nxt x4 ac
  refine bd (g4 0) (cb q (m+1) (ah ‹_› (by decide)) (by lia)).1 (cb q (m+1) (ah ‹_› (by decide)) (by lia)).2 fun s5 x5 i5=> ?_
  have W5:=W4.nxt x5 ac
  refine Rsm.go (lim:=60) res2 [] [(s4.heap.objs.size,_)] W5 .nil (.cons i5 .nil) ac nn0 dn0 (rmo room rfl) rfl [] fun Q3 hQ3=> ?_
  refine av (c':=(forC (forIN w) (.ref s4.heap.objs.size) (bF w B))) (d:=0) (u:=10) 1 0x1 [] [] [] 0 0 (by apply cW3 Q3 Q2 Q1 w<;>first|apply hQ3|apply hQ2|apply hQ1|(intro w;kernel_rfl)) no_side fun s6 x6 _ A3 R3 hA3 dA3 uA3 res3=> ?_
  have dA3:A3.depth≤A.depth+1:=dA3
  have x26:=x3.trans (x4.trans (x5.trans x6))
  have W6:=W5.nxt x6 ac
  refine in_loop (τ':=τ) (m:=m) (a:=a) (r:=r) hA3 (rm room dA3 rfl) hB2 (bo W4 (al _)) lm lr q1 (ah ‹_› (by decide)) mq (m+1 - q) q 0 0 0 (al _) (by lia) W6 (x26.keep0 f2) (x26.keep0 (x2.keep (x1.keep0 hc) (nw hc))) (x6.keep0 i5) fun s7 τ7 e7 k7 x7 f7=> ?_
  rw [Nat.zero_add] at f7
  generalize hy:(if m+1 - q=0 then 0 else r)=y at f7
  have x07:Nxt [B,s4.heap.objs.size] s s7:=x1.nil.trans ((x2.weak (ao (by simp))).trans (x26.nil.trans x7))
  have l4:s.heap.objs.size≤s4.heap.objs.size:=ad x1.heap.size (ad x2.heap.size (ad x3.heap.size x4.heap.size))
  have x07:=(x07.drop hB).drop l4
  refine Rsm.go (lim:=60) res3 [] [(B,_),(v+322,_),(d+322,_)] (W.nxt x07 ac) .nil (.cons f7 (.cons (x07.keep0 hv) (.cons (x07.keep0 hd) .nil))) ac nn0 dn0 (rmo room rfl) rfl [] fun Q4 hQ4=> ?_
  refine am (f:=(.ret (.int (U tl+U q * (U y+U nt)) (s7.toks+3)))) 35 0x3000000020000000300030000000200020000000000000002000000000000000000020001000100010001 [] [True,IntMulOk (U q) (U y+U nt),True] [] 0 4 (by apply kW4 Q4 Q3 Q2 Q1 w k7<;>first|apply hQ4|apply hQ3|apply hQ2|apply hQ1|(intros;kernel_rfl)) (side_cons trivial (side_cons (.of_left (natBits (ah ‹_› (by decide)))) (side_cons trivial no_side))) fun s8 x8 _=> ?_
  have e:y=if q≤m then r else 0:=by rw [←hy];split<;>split<;>lia
  have z:=k s8 (s7.toks+3) (x07.trans x8)
  rw [←e] at z
  exact z
theorem call_arg{M:Model}{A:ai}{E:Value→aa→Prop}{Q:Value→aa→Prop}{s:aa}{pos:Pos}{f:Value}{first:List Value}{m:Sem Value}
    (h:wpAny M A m (fun v s₁=>wpAny M A (callWith pos f first [(false,pure v)] []) Q E s₁) E s):wpAny M A (callWith pos f first [(false,m)] []) Q E s:=fun Γ p hΓ=>by
  have z:=h Γ p hΓ
  unfold callWith PySem.evalArgs spliced
  rw [Sem.wp_bind',Sem.wp_holding,Sem.wp_bind',Sem.wp_bind']
  refine Sem.wp_mono M Γ m (fun v p₁ s₁ h₁=> ?_) (fun _ _ _ x=>x) p s z
  have y:=h₁ Γ p₁ hΓ
  unfold callWith PySem.evalArgs spliced at y
  rw [Sem.wp_bind',Sem.wp_holding,Sem.wp_bind',Sem.wp_bind'] at y
  exact y
noncomputable def forRK(w:ag):Stmt:=aF (dK w) 1
noncomputable def bRK(w:ag)(k:Nat):Stmt:=aF (sB (forRK w)) k
structure RkV where
  p:Nat
  q:Nat
  ba:Nat
  ru:Nat
  ta:Nat
noncomputable def tRK(P:ae)(τ:Nat→Nat)(j ty L:Nat)(st:Int):Nat→Nat→List DictEntry
  |0,0=>[]
  |1,0=>[en P (S "step") (τ 11) (.int (U j) (τ 12)),en P (S "typed") (τ 13) (.int (U ty) (τ 14))]
  |2,0=>[en P (S "step") (τ 11) (.int (U j) (τ 12)),en P (S "typed") (τ 13) (.int (U ty) (τ 14)),en P (S "lead") (τ 15) (.ref (L+322))]
  |_,_=>[en P (S "step") (τ 11) (.int (U j) (τ 12)),en P (S "typed") (τ 13) (.int (U ty) (τ 14)),en P (S "lead") (τ 15) (.ref (L+322)),en P (S "stops") (τ 16) (.int st (τ 17))]
noncomputable def fRK(P:ae)(τ:Nat→Nat)(V:RkV)(l j ty L:Nat)(st:Int)(i k:Nat):Obj:=frO ([en P (S "p") (τ 0) (.int (U V.p) (τ 1)),en P (S "q") (τ 2) (.int (U V.q) (τ 3)),en P (S "bare") (τ 4) (.int (U V.ba) (τ 5)),en P (S "runs") (τ 6) (.int (U V.ru) (τ 7)),en P (S "tail") (τ 8) (.int (U V.ta) (τ 9)),en P (S "ranks") (τ 10) (.ref (l+322))]++tRK P τ j ty L st i k)
theorem rkT{w:ag}{s:aa}{A:ai}{E:Value→aa→Prop}{Q:Flow→aa→Prop}{B rr l m j j0 ty0 L k:Nat}{st:Int}{V:RkV}{xs:List Value}{it:Value}{τ:Nat→Nat}{t u:Tok}(W:KTH w s.heap)(hh:A.handled=none)(room:A.depth+70<recursionLimit)(hB:322≤B)
    (hf:s.heap.get? B=some (fRK w.params τ V l j0 ty0 L st 0 k)) (hl:s.heap.get? (l+322)=some (lstO xs m)) (nl:l+322∉[B]) (hj:xs[j]? =some (.int (U rr) u)) (lj:j<2^62)
    (kk:∀s' τ',Nxt [B] s s'→s'.heap.get? B=some (fRK w.params τ' V l j (rr+V.p) L st 1 k)→Q .next s'):
    wpAny (model pw w) A (letOwnedTupleGo (sT (forRK w)) it (.int (U j) t)>>=fun _=>assign (sT (forRK w)) (bk w B) (.int (U j) t)>>=fun _=>execs [bRK w 0] (bk w B)) Q E s:=by
  refine bL [B] [(l+322,_)] 60 W hh (.cons hf .nil) (.cons hl .nil) (High.one hB) (az _) (dj1 nl) (rmz room rfl) rfl [.int (U rr) u] fun A₀ c Q1 hQ1 uA₀=> ?_
  refine am (f:= .next) 31 0x4000400000000300400000000100c800010001000100010040004000400040 [0] [True,((0≤(U (j))∧(U (j))<2^63)∧(xs:List Value).toArray[((U (j))).toNat]? =some (.int (U (rr)) u))] [some (fRK w.params (tk [τ 0,τ 1,τ 2,τ 3,τ 4,τ 5,τ 6,τ 7,τ 8,τ 9,τ 10,bi k s.toks (τ 11),t,bi k (s.toks+2) (τ 13),s.toks+1,τ 15,τ 16,τ 17]) V l j (rr+V.p) L st 1 k)] 1 3 (by apply kW1 Q1 w k<;>first|apply hQ1|(intros;kernel_rfl)) (side_cons trivial (side_cons ⟨⟨Int.natCast_nonneg _,Int.ofNat_lt.mpr (aC lj (by decide))⟩,by simpa using hj⟩ no_side)) fun s1 x1 g1=>kk s1 _ x1 (g1 0)
theorem foldl_app:∀(l:List (Array Nat)) (a:Array Nat),(l.foldl (· ++ ·) a).toList=a.toList++(l.map (·.toList)).flatten
  |[],a=>by simp
  |x::l,a=>by rw [List.foldl_cons,foldl_app l];simp
theorem mulL(x:Str)(n:Nat):(Txt.mul x (U n)).cps.toList=(List.replicate n x.cps.toList).flatten:=by
  unfold Txt.mul
  by_cases h1:U n<1
  · rw [if_pos h1]
    have:n=0:=by simp only [Int.ofNat_eq_natCast] at h1;lia
    subst this;rfl
  · rw [if_neg h1]
    by_cases h2:(U n==1||x.length==0)=true
    · rw [if_pos h2]
      rcases (Bool.or_eq_true _ _).mp h2 with h|h
      · have:n=1:=by have:=beq_iff_eq.mp h;simp only [Int.ofNat_eq_natCast] at this;lia
        subst this;simp
      · have h:=beq_iff_eq.mp h
        have:x.cps.toList=[]:=List.eq_nil_of_length_eq_zero (by rw [Array.length_toList];exact h)
        rw [this];simp
    · rw [if_neg h2,foldl_app];simp
theorem addL(x y:Str):(x++y).cps.toList=x.cps.toList++y.cps.toList:=Array.toList_append
theorem lenL(x:Str):x.length=x.cps.toList.length:=(Array.length_toList).symm
noncomputable def ldS(V:RkV)(ty:Nat):Str:=(Txt.mul (S "\t") (U V.ba)++Txt.mul (Txt.mul (S " ") (U ty)++S "\t") (U V.ru))++Txt.mul (S " ") (U V.ta)
theorem SL1:(S "\t").cps.toList=[9]:=by kernel_rfl
theorem SL2:(S " ").cps.toList=[32]:=by kernel_rfl
theorem flat1(n c:Nat):(List.replicate n [c]).flatten=List.replicate n c:=by
  induction n with
  |zero=>rfl
  |succ n ih=>rw [List.replicate_succ,List.flatten_cons,ih];rfl
theorem ldS_L(V:RkV)(ty:Nat):(ldS V ty).cps.toList=(List.replicate V.ba 9++(List.replicate V.ru (List.replicate ty 32++[9])).flatten)++List.replicate V.ta 32:=by
  unfold ldS
  rw [addL,addL,mulL,mulL,addL,mulL,mulL,SL1,SL2,flat1,flat1,flat1]
theorem wst_sp(st:Option (Nat×Nat×Nat))(nt:Nat)(cs:List Nat):∀(n b:Nat),wst st b nt (List.replicate n 32++cs)=wst st (b+n) nt cs
  |0,b=>rfl
  |n+1,b=>by
    rw [List.replicate_succ,List.cons_append,wst,if_pos rfl,wst_sp st nt cs n (b+1)]
    congr 1;lia
theorem wst_end(st:Option (Nat×Nat×Nat))(nt n b:Nat):wst st b nt (List.replicate n 32)=some (st,b+n,nt):=by
  have:=wst_sp st nt [] n b
  rw [List.append_nil] at this
  rw [this,wst]
theorem wst_tab(st:Option (Nat×Nat×Nat))(b nt:Nat)(cs:List Nat):wst st b nt (9::cs)=match wtab st b with|some st'=>wst st' 0 (nt+1) cs|none=>none:=by
  rw [wst,if_neg (by decide),if_pos rfl]<;>cases wtab st b<;>rfl
theorem ldS_wst(V:RkV)(ty:Nat)(hb:V.ba≤2)(h1:1≤V.ru)(h2:V.ru≤2)(t1:1≤ty)(t2:ty<13):wst none 0 0 (ldS V ty).cps.toList=some (some (ty,V.ba,V.ru),V.ta,V.ba+V.ru):=by
  rw [ldS_L]
  obtain ⟨p,q,ba,ru,ta⟩:=V
  dsimp only at *
  have hne:ty≠0:=aJ ‹_›
  have w0:wtab none 0=some (some (0,0,1)):=rfl
  have w1:wtab (some (0,0,1)) 0=some (some (0,0,2)):=rfl
  have w2:wtab none ty=some (some (ty,0,1)):=by unfold wtab;exact if_pos t2
  have w3:∀r,wtab (some (0,0,r)) ty=some (some (ty,r,1)):=fun r=>by simp only [wtab,if_pos t2,if_neg hne,if_true]
  have w4:∀a,wtab (some (ty,a,1)) ty=some (some (ty,a,2)):=fun a=>by simp only [wtab,if_pos t2,if_true]
  have hba:ba=0∨ba=1∨ba=2:=by lia
  have hru:ru=1∨ru=2:=by lia
  rcases hba with rfl | rfl | rfl <;> rcases hru with rfl | rfl <;>
    simp only [List.replicate_succ,List.replicate_zero,List.nil_append,List.cons_append,List.flatten_cons,List.flatten_nil,List.append_nil,List.append_assoc,wst_tab,wst_sp,wst_end,w0,w1,w2,w3,w4,Nat.zero_add]
theorem flat_len(l:List Nat):∀n,(List.replicate n l).flatten.length=n * l.length
  |0=>by simp
  |n+1=>by rw [List.replicate_succ,List.flatten_cons,aA,flat_len l n,Nat.succ_mul];lia
theorem ldS_len(V:RkV)(ty:Nat)(hb:V.ba≤2)(h2:V.ru≤2)(h3:V.ta≤2)(t2:ty<13):(Txt.mul (S "\t") (U V.ba)).length≤40∧(Txt.mul (S " ") (U ty)).length≤13∧(Txt.mul (Txt.mul (S " ") (U ty)++S "\t") (U V.ru)).length≤40∧(Txt.mul (S " ") (U V.ta)).length≤40∧(Txt.mul (S " ") (U ty)++S "\t").length≤40∧(Txt.mul (S "\t") (U V.ba)++Txt.mul (Txt.mul (S " ") (U ty)++S "\t") (U V.ru)).length≤80:=by
  have hr:V.ru * (ty+1)≤2 * 13:=Nat.mul_le_mul h2 (ah ‹_› (by decide))
  simp only [lenL,addL,mulL,SL1,SL2,flat1,aA,flat_len,List.length_replicate,List.length_cons,List.length_nil,Nat.zero_add]
  lia
theorem mulOk1(x:Str)(n:Nat)(hx:x.length≤40)(hn:n≤20):MulOk x (U n):=by
  unfold MulOk Builtin.Str.tooLong
  have e24:sizeLine=2^24:=rfl
  refine ⟨by simp only [Int.ofNat_eq_natCast,Bool.or_eq_false_iff,decide_eq_false_iff_not];lia,fun h _=> ?_,fun h _=> ?_⟩
  · intro q
    have h1:(1:Int)≤n:=by simp only [Int.ofNat_eq_natCast] at h;lia
    have h2:(2^63 - 1:Int) / 20≤(2^63 - 1) / (U n):=by
      have:∀n≤20,1≤n→(2^63 - 1:Int) / 20≤(2^63 - 1) / (U n):=by decide
      exact this n hn (by lia)
    have:(2^63 - 1:Int) / 20=461168601842738790:=by decide
    lia
  · rw [decide_eq_false_iff_not,e24]
    have:x.length * n≤40 * 20:=Nat.mul_le_mul hx hn
    simp only [Int.ofNat_eq_natCast,Int.toNat_natCast]
    lia
theorem eN:∀(cs:List Nat) (st:Option (Nat×Nat×Nat)) (b nt:Nat) {r:Option (Nat×Nat×Nat)×Nat×Nat},wst st b nt cs=some r→∀c∈cs,c<128
  |[],_,_,_,_,_,_,h=>by cases h
  |c::cs,st,b,nt,r,h,x,hx=>by
    unfold wst at h
    by_cases h1:c=32
    · rw [if_pos h1] at h
      rcases List.mem_cons.mp hx with rfl|hx
      · rw [h1];decide
      · exact eN cs _ _ _ h x hx
    · rw [if_neg h1] at h
      by_cases h2:c=9
      · rw [if_pos h2] at h
        rcases List.mem_cons.mp hx with rfl|hx
        · rw [h2];decide
        · cases e:wtab st b with
          |none=>rw [e] at h;cases h
          |some st2=>rw [e] at h;exact eN cs _ _ _ h x hx
      · rw [if_neg h2] at h;cases h
theorem wst_ascii{x:Str}{st:Option (Nat×Nat×Nat)}{b nt:Nat}{r:Option (Nat×Nat×Nat)×Nat×Nat}(h:wst st b nt x.cps.toList=some r):x.cps.all (· <128)=true:=by
  rw [←Array.all_toList,List.all_eq_true]
  exact fun c hc=>decide_eq_true (eN _ _ _ _ h c hc)
theorem wst_ne{x:Str}{y:Nat×Nat×Nat}{b nt:Nat}(h:wst none 0 0 x.cps.toList=some (some y,b,nt)):x.cps.toList≠[]:=fun e=>by
  rw [e,wst] at h
  cases h
theorem SB_mul{w:ag}{A:ai}{E:Value→aa→Prop}{s:aa}{x:Str}{t u:Tok}{Q:Value→aa→Prop}(n:Nat)(hx:x.length≤40)(hn:n≤20)(h:∀t' k,Q (.str (Txt.mul x (U n)) t') {s with toks:=k}):wpAny (model pw w) A (binaryOp .Mult (.str x t) (.int (U n) u)) Q E s:=SB.mul (mulOk1 x n hx hn) h
theorem fRK_dict(P:ae)(τ:Nat→Nat)(V:RkV)(l j ty L:Nat)(st:Int):∀k,isDictO (fRK P τ V l j ty L st 1 k)=true:=k2 (by kernel_rfl) (fun k=>by kernel_rfl)
theorem fRK_get(P:ae)(τ:Nat→Nat)(V:RkV)(l j ty L:Nat)(st:Int):∀k,nsFind (dictO (fRK P τ V l j ty L st 1 k)) "typed"=some (.int (U ty) (τ 14))∧nsFind (dictO (fRK P τ V l j ty L st 1 k)) "bare"=some (.int (U V.ba) (τ 5))∧nsFind (dictO (fRK P τ V l j ty L st 1 k)) "runs"=some (.int (U V.ru) (τ 7))∧nsFind (dictO (fRK P τ V l j ty L st 1 k)) "tail"=some (.int (U V.ta) (τ 9)):=
  k2 ⟨by kernel_rfl,by kernel_rfl,by kernel_rfl,by kernel_rfl⟩ (fun k=>⟨by kernel_rfl,by kernel_rfl,by kernel_rfl,by kernel_rfl⟩)
theorem WS.keep0{P:ae}{s s':aa}{v d:Nat}{st:Option (Nat×Nat×Nat)}{b nt:Nat}(F:WS P s.heap v d st b nt)(x:Nxt [] s s'):WS P s'.heap v d st b nt:=by
  obtain ⟨τ,n,y,p,g,c,N,h1,h2,h3,h4⟩:=F
  exact ⟨τ,n,y,p,g,c,N,x.keep0 h1,x.keep0 h2,x.keep0 h3,x.keep0 h4⟩
theorem WS.keepB{P:ae}{s s':aa}{v d B:Nat}{st:Option (Nat×Nat×Nat)}{b nt:Nat}{o:Obj}(F:WS P s.heap v d st b nt)(x:Nxt [B] s s')(hB:s.heap.get? B=some o)(ho:o.cls= .type "frame"):WS P s'.heap v d st b nt:=by
  obtain ⟨τ,n,y,p,g,c,N,h1,h2,h3,h4⟩:=F
  exact ⟨τ,n,y,p,g,c,N,x.keep h1 (notin1 (ne_cls h1 hB (by rw [ho];exact cRT _ _))),x.keep h2 (notin1 (ne_cls h2 hB (by rw [ho];exact Ne.symm cFD))),x.keep h3 (notin1 (ne_cls h3 hB (by rw [ho];exact Ne.symm cFT))),x.keep h4 (notin1 (ne_cls h4 hB (by rw [ho];exact Ne.symm cFT)))⟩
theorem rkC{w:ag}{s:aa}{A:ai}{E:Value→aa→Prop}{Q:Value→aa→Prop}{pos:Pos}{x:Str}{t:Tok}{b nt:Nat}{st:Option (Nat×Nat×Nat)}(W:KTH w s.heap)(hh:A.handled=none)(room:A.depth+90<recursionLimit)(ha:x.cps.all (· <128)=true)(hw:wst none 0 0 x.cps.toList=some (st,b,nt))(hne:x.cps.toList≠[])
    (k:∀s' v d,Nxt [] s s'→WS w.params s'.heap v d st b nt→s.heap.objs.size≤v+322→Q (.ref (v+322)) s'):
    wpAny (model pw w) A (callWith pos (.ref 279) [] [(false,pure (.str x t))] []) Q E s:=by
  rw [PySem.W.Fast.te8289420714989923916]
  refine segV [] [] 60 W hh .nil .nil ac aD dj0 (rmz room rfl) rfl [] fun A₀ c Q1 hQ1 uA₀=> ?_
  refine av (c':=(.call (.ref 234) ⟨[.ref (s.heap.objs.size+1),.str x t],[]⟩)) (d:=5) (u:=20) 44 0x41000000410000000000000000000000000000000000000000000000000000000000000000000000000000000000000000000000000000000000000000000100000000 [0,1] [] [some (nilD w.params),some (⟨.ref 279,(some s.heap.objs.size),.plain,#[]⟩)] 2 0 (by apply cW1 Q1 w<;>first|apply hQ1|(intro w;kernel_rfl)) no_side fun s1 x1 g1 A' R' hA dA uA res=> ?_
  have dA:A'.depth≤A.depth+5:=dA
  obtain ⟨d,hd⟩:∃d,s.heap.objs.size=d+322:=(aW W.2)
  have W1:=W.nxt x1 ac
  have d1:s1.heap.get? s.heap.objs.size=_:=(g1 0)
  have v1:s1.heap.get? (s.heap.objs.size+1)=_:=(g1 1)
  rw [hd] at d1 v1
  have e1:d+322+1=d+1+322:=by lia
  rw [e1] at v1
  rw [hd,e1]
  refine winit_spec W1 hA (rm room dA rfl) ha v1 d1 hw hne fun s2 x2 F2=> ?_
  refine Rsm.go (lim:=60) res [] [] (W1.nxt x2 (High.one (ab _ _))) .nil .nil ac aD dj0 (rmz room rfl) rfl [] fun Q2 hQ2=> ?_
  refine am (f:=(.ret (.ref (s.heap.objs.size+1)))) 2 0x0 [] [] [] 0 0 (by apply cW2 Q2 Q1 w<;>first|apply hQ2|apply hQ1|(intro w;kernel_rfl)) no_side fun s3 x3 _=> ?_
  have x13:Nxt [d+322] s s3:=x1.nil.trans (x2.trans x3.nil)
  show Q (.ref (s.heap.objs.size+1)) s3
  rw [hd,e1]
  exact k s3 (d+1) d (x13.drop (Nat.le_of_eq hd)) (F2.keep0 x3) (by lia)
theorem rkL{w:ag}{s:aa}{A:ai}{E:Value→aa→Prop}{Q:Flow→aa→Prop}{B l j ty L k:Nat}{st:Int}{V:RkV}{τ:Nat→Nat}(W:KTH w s.heap)(hh:A.handled=none)(room:A.depth+90<recursionLimit)(hB:322≤B)
    (hf:s.heap.get? B=some (fRK w.params τ V l j ty L st 1 k)) (hb:V.ba≤2) (h1:1≤V.ru) (h2:V.ru≤2) (h3:V.ta≤2) (t1:1≤ty) (t2:ty<13)
    (kk:∀s' τ' v d,Nxt [B] s s'→s'.heap.get? B=some (fRK w.params τ' V l j ty v st 2 k)→WS w.params s'.heap v d (some (ty,V.ba,V.ru)) V.ta (V.ba+V.ru)→Q .next s'):
    wpAny (model pw w) A (execs [bRK w 1] (bk w B)) Q E s:=by
  have hl:=ldS_len V ty hb h2 h3 t2
  have ns:=dy hf (fRK_dict ..)
  have gt:=fRK_get w.params τ V l j ty L st k
  have sz:∀{a b:Nat},a≤80→b≤80→a+b≤sizeLine:=fun h1 h2=>ad (Nat.add_le_add h1 h2) (by decide)
  have lt:(S "\t").length≤80:=by decide
  refine wpAny_execs_cons (wpAny_Assign_Name (wpAny_Call_ofName (cQ W rfl (by kernel_rfl) rfl (v:= .ref 279) (by kernel_rfl) (by decide) (call_arg ?_))) rfl)
  refine wpAny_BinOp (wpAny_BinOp (wpAny_BinOp (wpAny_Constant_str ?_)))
  refine be rfl (by kernel_rfl) ns (v:= .int (U V.ba) (τ 5)) gt.2.1 (by decide) (SB_mul V.ba (by decide) (ad ‹_› (by decide)) fun u1 n1=> ?_)
  refine wpAny_BinOp (wpAny_BinOp (wpAny_BinOp (wpAny_Constant_str ?_)))
  refine be rfl (by kernel_rfl) ns (v:= .int (U ty) (τ 14)) gt.1 (by decide) (SB_mul ty (by decide) (by lia) fun u2 n2=> ?_)
  refine wpAny_Constant_str (PyProof.Rows.add_str (fun u3 n3=> ?_) (sz (ad hl.2.1 (by decide)) lt))
  refine be rfl (by kernel_rfl) ns (v:= .int (U V.ru) (τ 7)) gt.2.2.1 (by decide) (SB_mul V.ru hl.2.2.2.2.1 (ad ‹_› (by decide)) fun u4 n4=> ?_)
  refine PyProof.Rows.add_str (fun u5 n5=> ?_) (sz (ad hl.1 (by decide)) (ad hl.2.2.1 (by decide)))
  refine wpAny_BinOp (wpAny_Constant_str ?_)
  refine be rfl (by kernel_rfl) ns (v:= .int (U V.ta) (τ 9)) gt.2.2.2 (by decide) (SB_mul V.ta (by decide) (ad ‹_› (by decide)) fun u6 n6=> ?_)
  refine PyProof.Rows.add_str (fun u7 n7=> ?_) (sz hl.2.2.2.2.2 (ad hl.2.2.2.1 (by decide)))
  have hw:=ldS_wst V ty hb h1 h2 t1 t2
  refine rkC (x:=ldS V ty) (s:={s with toks:=n7}) W hh room (wst_ascii hw) hw (wst_ne hw) fun s1 v d x1 F1 _=> ?_
  have x01:Nxt [] s s1:=(nxt_toks s n7).trans x1
  have f1:=x01.keep0 hf
  rw [PySem.W.Fast.te7998390705656384164]
  refine segU [B] [] 60 (W.nxt x01 ac) hh (.cons f1 .nil) .nil (High.one hB) (az _) dj0 (rmz room rfl) rfl [] fun A₀ c Q1 hQ1 uA₀=> ?_
  refine am (f:= .next) 4 0x400040 [0] [] [some (fRK w.params (tk [τ 0,τ 1,τ 2,τ 3,τ 4,τ 5,τ 6,τ 7,τ 8,τ 9,τ 10,τ 11,τ 12,τ 13,τ 14,bi k s1.toks (τ 15),τ 16,τ 17]) V l j ty v st 2 k)] 1 1 (by apply elq Q1 _ hQ1;apply k2 ?_ ?_ k<;>first|kernel_rfl|(intro k;kernel_rfl)) no_side fun s2 x2 g2=> ?_
  have cf:(fRK w.params τ V l j ty L st 1 k).cls= .type "frame":=rfl
  exact wpAny_execs_nil (kk s2 _ v d (x01.nil.trans x2) (g2 0) (F1.keepB x2 f1 cf))
theorem rk_num(q ba ru ta ty iv:Nat)(hiv:ta+q * ((if q≤ty then ru else 0)+(ba+ru))=iv)(q1:2≤q)(q2:q<8)(h1:1≤ru)(h2:ru≤2)(tq:ty<2 * q):
    U q * U ru = U (q * ru) ∧ ¬ ((U (q * ru) == 0) = true) ∧ U iv - (U q * U ba + U ta) = U (q * ru * (if q ≤ ty then 2 else 1)) ∧ (U (q * ru * (if q ≤ ty then 2 else 1))).natAbs < 2 ^ 62 ∧ (U (q * ru)).natAbs < 2 ^ 62 ∧
      U ty - U q * (Int.fdiv (U iv - (U q * U ba+U ta)) (U q * U ru) - 1)=U (ty % q):=by
  have e1:U q * U ru=U (q * ru):=rfl
  have pos:0<q * ru:=Nat.mul_pos (au ‹_›) (Nat.succ_le_of_lt ‹_›)
  have le:q * ru≤7 * 2:=Nat.mul_le_mul (Nat.le_of_lt_succ ‹_›) h2
  have e2:U iv - (U q * U ba+U ta)=U (q * ru * (if q≤ty then 2 else 1)):=by
    have:iv=q * ba+ta+q * ru * (if q≤ty then 2 else 1):=by
      rw [←hiv]
      split
      · rw [Nat.mul_add,Nat.mul_add];lia
      · rw [Nat.mul_add,Nat.mul_add,Nat.mul_zero];lia
    rw [this]
    show ((q * ba+ta+q * ru * (if q≤ty then 2 else 1):Nat):Int) - ((q:Int) * ba+ta)=_
    rw [Int.natCast_add,Int.natCast_add,Int.natCast_mul q ba]
    show _=((q * ru * (if q≤ty then 2 else 1):Nat):Int)
    lia
  refine ⟨e1,?_,e2,?_,?_,?_⟩
  · rw [beq_iff_eq]
    intro h
    have:q * ru=0:=Int.ofNat.inj h
    lia
  · show q * ru * (if q≤ty then 2 else 1)<2^62
    split<;>lia
  · show q * ru<2^62
    lia
  · rw [e1,e2,fdiv_nat,Nat.mul_div_cancel_left _ pos]
    split
    · rename_i h
      have:ty % q=ty - q:=by rw [Nat.mod_eq_sub_mod h,Nat.mod_eq_of_lt (by lia)]
      rw [this]
      show (ty:Int) - (q:Int) * (2 - 1)=((ty - q:Nat):Int)
      lia
    · rename_i h
      rw [Nat.mod_eq_of_lt (by lia)]
      show (ty:Int) - (q:Int) * (1 - 1)=(ty:Int)
      lia
theorem WS.off{P:ae}{s s':aa}{v d:Nat}{st:Option (Nat×Nat×Nat)}{b nt:Nat}{mods:List Addr}(F:WS P s.heap v d st b nt)(x:Nxt mods s s')(h:∀a∈mods,∃o,s.heap.get? a=some o∧(o.cls= .type "frame"∨o.cls= .type "list")):WS P s'.heap v d st b nt:=by
  obtain ⟨τ,n,y,p,g,c,N,h1,h2,h3,h4⟩:=F
  have go:∀{a:Nat} {o:Obj},s.heap.get? a=some o→o.cls≠.type "frame"→o.cls≠.type "list"→s'.heap.get? a=some o:=fun e q1 q2=>x.keep e fun hm=>by
    obtain ⟨o',e',ho⟩:=h _ hm
    rw [e] at e'
    have:=Option.some.inj e'
    subst this
    exact ho.elim q1 q2
  exact ⟨τ,n,y,p,g,c,N,go h1 (cRT _ _) (cRT _ _),go h2 (Ne.symm cFD) cDL,go h3 (Ne.symm cFT) (Ne.symm cLT),go h4 (Ne.symm cFT) (Ne.symm cLT)⟩
theorem rkE{w:ag}{s:aa}{A:ai}{E:Value→aa→Prop}{Q:Flow→aa→Prop}{B l m j ty L k d:Nat}{st:Int}{V:RkV}{τ:Nat→Nat}{xs:List Value}(W:KTH w s.heap)(hh:A.handled=none)(room:A.depth+90<recursionLimit)(hB:322≤B)
    (hf:s.heap.get? B=some (fRK w.params τ V l j ty L st 2 k)) (F:WS w.params s.heap L d (some (ty,V.ba,V.ru)) V.ta (V.ba+V.ru)) (hl:s.heap.get? (l+322)=some (lstO xs m)) (hx:xs.length<10)
    (hb:V.ba≤2) (h1:1≤V.ru) (h2:V.ru≤2) (h3:V.ta≤2) (t1:1≤ty) (t2:ty<13) (q1:2≤V.q) (q2:V.q<8) (tq:ty<2 * V.q)
    (kk:∀s' τ' st' t m',Nxt [B,l+322] s s'→s'.heap.get? B=some (fRK w.params τ' V l j ty L st' 3 k)→s'.heap.get? (l+322)=some (lstO (xs++[.int (U (ty % V.q)) t]) m')→Q .next s'):
    wpAny (model pw w) A (execs [bRK w 2,bRK w 3] (bk w B)) Q E s:=by
  have F0:=F
  obtain ⟨τ',n,y,p,g,c,N,hv,hd,hg,hc⟩:=F
  have cf:(fRK w.params τ V l j ty L st 2 k).cls= .type "frame":=rfl
  have nB:B≠l+322:=ne_cls hf hl cFL
  have hM:High [B,l+322]:=High.cons (.inl hB) (High.one (ab _ _))
  have nd:[B,l+322].Nodup:=List.nodup_cons.mpr ⟨notin1 nB,az _⟩
  refine aT [B,l+322] [(L+322,_),(d+322,_)] 60 W hh (.cons hf (.cons hl .nil)) (.cons hv (.cons hd .nil)) hM nd (djc (notin2 (ne_cls hv hf (cRT _ _)) (ne_cls hv hl (cRT _ _))) (dj1 (notin2 (ne_cls hd hf (Ne.symm cFD)) (ne_cls hd hl cDL)))) (rmz room rfl) rfl [] fun A₀ c' Q1 hQ1 uA₀=> ?_
  refine av (c':=(.call (.ref 248) ⟨[.ref (L+322),.int (U (V.q)) (τ 3)],[]⟩)) (d:=0) (u:=10) 28 0x40000200010000000000000000000100000000000000010000000000000001004000000000 [0,1] [] [some (fRK w.params τ V l j ty L st 2 k),some (lstO xs m)] 2 0 (by apply kW1 Q1 w k<;>first|apply hQ1|(intros;kernel_rfl)) no_side fun s1 x1 g1 A' R' hA dA uA res=> ?_
  have dA:A'.depth≤A.depth+0:=dA
  have W1:=W.nxt x1 hM
  have F1:=F0.off x1 fun a ha=>by
    rcases List.mem_cons.mp ha with rfl|ha
    · exact ⟨_,hf,.inl cf⟩
    · rw [List.mem_singleton.mp ha];exact ⟨_,hl,.inr rfl⟩
  have f1:s1.heap.get? B=_:=(g1 0)
  have l1:s1.heap.get? (l+322)=_:=(g1 1)
  refine indent_spec W1 hA (rm room dA rfl) F1 t2 (by lia) q1 q2 tq (by lia) fun s2 u x2=> ?_
  have W2:=W1.nxt x2 ac
  obtain ⟨iv,hiv⟩:∃iv,V.ta+V.q * ((if V.q≤ty then V.ru else 0)+(V.ba+V.ru))=iv:=⟨_,rfl⟩
  rw [hiv]
  refine Rsm.go (lim:=60) res [B,l+322] [] W2 (.cons (x2.keep0 f1) (.cons (x2.keep0 l1) .nil)) .nil hM nd dj0 (rmz room rfl) rfl [] fun Q2 hQ2=> ?_
  have num:=rk_num V.q V.ba V.ru V.ta ty iv hiv q1 q2 h1 h2 tq
  have sz:(xs:List Value).toArray.size≤sizeLine:=by rw [List.size_toArray];exact ad (au hx) (by decide)
  have bq:Builtin.Int.intBits (U V.q)≤64:=natBits (aC q2 (by decide))
  refine am (f:= .next) 131 0x4100d2004100000004004400440044004400440044000000000000000000020000000400400040004000000041004100410041004000400040000000060043004300430043004300430000000000000000000200400040000000040042004200420042004200420000000000000000000300400000000200400040 [0,1] [((xs:List Value).toArray.size≤sizeLine),True,IntMulOk (U V.q) ((Int.fdiv (U iv - (U V.q * U V.ba+U V.ta)) (U V.q * U V.ru)) - 1),True,(¬((U V.q * U V.ru)==0)=true∧¬(PySem.Builtin.divisionGoesByPylong (U iv - (U V.q * U V.ba+U V.ta)) (U V.q * U V.ru))=true),IntMulOk (U V.q) (U V.ru),True,True,IntMulOk (U V.q) (U V.ba)] [some (fRK w.params (tk [τ 0,τ 1,τ 2,τ 3,τ 4,τ 5,τ 6,τ 7,τ 8,τ 9,τ 10,τ 11,τ 12,τ 13,τ 14,τ 15,bi k (s2.toks+9) (τ 16),s2.toks+8]) V l j ty L (Int.fdiv (U iv - (U V.q * U V.ba+U V.ta)) (U V.q * U V.ru)) 3 k),some (lstO (xs++[.int (U ty - U V.q * ((Int.fdiv (U iv - (U V.q * U V.ba+U V.ta)) (U V.q * U V.ru)) - 1)) (s2.toks+15)]) (m+1))] 5 16 (by apply kW2 Q2 Q1 w k<;>first|apply hQ2|apply hQ1|(intros;kernel_rfl)|skip) (side_cons sz (side_cons trivial (side_cons (.of_left bq) (side_cons trivial (side_cons ⟨?_,?_⟩ (side_cons (.of_left bq) (side_cons trivial (side_cons trivial (side_cons (.of_left bq) no_side))))))))) fun s3 x3 g3=> ?_
  · rw [num.1];exact num.2.1
  · rw [num.1,num.2.2.1];exact no_pylong _ _ num.2.2.2.1 num.2.2.2.2.1
  · have l3:s3.heap.get? (l+322)=_:=(g3 1)
    rw [num.2.2.2.2.2] at l3
    exact kk s3 _ _ _ _ (x1.trans (x2.nil.trans x3)) (g3 0) l3
theorem turn_cut2{w:ag}{s:aa}{A:ai}{E:Value→aa→Prop}{Q:Flow→aa→Prop}{target:Expr}{it v:Value}{env:Env}(pre post:List Stmt)
    (h:wpAny (model pw w) A (letOwnedTupleGo target it v>>=fun _=>assign target env v>>=fun _=>execs pre env) (fun f s'=>match f with| .next=>wpAny (model pw w) A (execs post env) Q E s'|f=>Q f s') E s):
    wpAny (model pw w) A (letOwnedTupleGo target it v>>=fun _=>assign target env v>>=fun _=>execs (pre++post) env) Q E s:=by
  intro Γ p hΓ
  have z:=h Γ p hΓ
  simp only [Sem.wp_bind'] at z⊢
  refine Sem.wp_mono _ Γ _ (fun _ p' s' z=> ?_) (fun _ _ _ z=>z) _ _ z
  refine Sem.wp_mono _ Γ _ (fun _ p' s' z=> ?_) (fun _ _ _ z=>z) _ _ z
  refine wp_cut (Sem.wp_mono _ Γ _ (fun f p' s' z=> ?_) (fun _ _ _ z=>z) _ _ z)
  cases f with
  |next=>exact z Γ p' hΓ
  |_=>exact z
noncomputable def RKl(p q n:Nat)(xs:List Value):Prop:=xs.length=n+1∧∀j,j≤n→∃t,xs[j]? =some (.int (U (j * p % q)) t)
theorem RKl.snoc{p q n:Nat}{xs:List Value}{t:Tok}(h:RKl p q n xs):RKl p q (n+1) (xs++[.int (U ((n * p % q+p) % q)) t]):=by
  refine ⟨by rw [aA,h.1];rfl,fun j hj=> ?_⟩
  rcases Nat.lt_or_ge n j with h1|h1
  · have e:j=n+1:=Nat.le_antisymm hj h1
    subst e
    refine ⟨t,?_⟩
    rw [List.getElem?_append_right (Nat.le_of_eq h.1),h.1,Nat.sub_self,Nat.mod_add_mod,Nat.succ_mul]
    rfl
  · obtain ⟨t,e⟩:=h.2 j h1
    exact ⟨t,by rw [List.getElem?_append_left (by rw [h.1];exact Nat.lt_succ_of_le h1)];exact e⟩
theorem rk_loop{w:ag}{A:ai}{R:Result→aa→Prop}{B it l:Nat}{V:RkV}(hh:A.handled=none)(room:A.depth+90<recursionLimit)(hB:322≤B)(hit:322≤it)
    (hb:V.ba≤2) (h1:1≤V.ru) (h2:V.ru≤2) (h3:V.ta≤2) (q1:2≤V.q) (q2:V.q<8) (p1:1≤V.p) (p2:V.p<V.q):
    ∀(n j j0 ty L k m:Nat) (st:Int) (xs:List Value) {s:aa} {τ:Nat→Nat},j+n=V.q→RKl V.p V.q j xs→KTH w s.heap→s.heap.get? B=some (fRK w.params τ V l j0 ty L st 0 k)→s.heap.get? (l+322)=some (lstO xs m)→s.heap.get? it=some (bs (U j) (U n) 1)→
      (∀s' τ' j0 ty L st k xs m,Nxt [B,it,l+322] s s'→s'.heap.get? B=some (fRK w.params τ' V l j0 ty L st 0 k)→RKl V.p V.q V.q xs→s'.heap.get? (l+322)=some (lstO xs m)→R (.ok .next) s')→codeAny (model pw w) A (forC (forRK w) (.ref it) (bk w B)) R s
  |0,j,j0,ty,L,k,m,st,xs,s,τ,hj,hx,W,f,hl,hi,kk=>by
    have nB:B∉[it]:=notin1 (ne_cls f hi (show Value.type "frame"≠Value.type "range_iterator" by decide))
    have nl:l+322∉[it]:=notin1 (ne_cls hl hi (show Value.type "list"≠Value.type "range_iterator" by decide))
    have e:j=V.q:=hj
    refine aV (bX W hh (rmz room rfl) hi hit fun s1 x1=>wpAny_execs_nil ?_)
    exact kk s1 τ j0 ty L st k xs m (x1.weak (ao (by simp))) (x1.keep f nB) (e▸hx) (x1.keep hl nl)
  |n+1,j,j0,ty,L,k,m,st,xs,s,τ,hj,hx,W,f,hl,hi,kk=>by
    have nB:B∉[it]:=notin1 (ne_cls f hi (show Value.type "frame"≠Value.type "range_iterator" by decide))
    have nl:l+322∉[it]:=notin1 (ne_cls hl hi (show Value.type "list"≠Value.type "range_iterator" by decide))
    have nlB:l+322∉[B]:=notin1 (ne_cls hl f (Ne.symm cFL))
    have nI:it∉[B,l+322]:=notin2 (ne_cls hi f (show Value.type "range_iterator"≠Value.type "frame" by decide)) (ne_cls hi hl (show Value.type "range_iterator"≠Value.type "list" by decide))
    have nIB:it∉[B]:=fun h=>nI (by rw [List.mem_singleton.mp h];exact .head _)
    obtain ⟨u,hju⟩:=hx.2 j (al j)
    have rl:j * V.p % V.q<V.q:=Nat.mod_lt _ (au ‹_›)
    refine aV (bJ W hh (rmz room rfl) hi hit fun s1 x1 i1=> ?_)
    have W1:=W.nxt x1 (High.one hit)
    have g:wpAny (model pw w) A (letOwnedTupleGo (sT (forRK w)) (.ref it) (.int (U j) s.toks)>>=fun _=>assign (sT (forRK w)) (bk w B) (.int (U j) s.toks)>>=fun _=>execs ([bRK w 0]++([bRK w 1]++[bRK w 2,bRK w 3])) (bk w B)) (fun f s₃=>match f with
            | .next| .cont=>codeAny (model pw w) A (forC (forRK w) (.ref it) (bk w B)) R s₃
            | .brk=>R (.ok .next) s₃
            | .ret v=>R (.ok (.ret v)) s₃) noE s1:= ?_
    · exact g
    refine turn_cut2 _ _ (rkT W1 hh (rmz room rfl) hB (x1.keep f nB) (x1.keep hl nl) nlB hju (by lia) fun s2 τ2 x2 f2=> ?_)
    have W2:=W1.nxt x2 (High.one hB)
    refine aN [bRK w 1] [bRK w 2,bRK w 3] (rkL W2 hh room hB f2 hb h1 h2 h3 (by lia) (by lia) fun s3 τ3 v d x3 f3 F3=> ?_)
    have W3:=W2.nxt x3 (High.one hB)
    refine rkE W3 hh room hB f3 F3 (x3.keep (x2.keep (x1.keep hl nl) nlB) nlB) (by rw [hx.1];lia) hb h1 h2 h3 (by lia) (by lia) q1 q2 (by lia) fun s4 τ4 st4 t4 m4 x4 f4 l4=> ?_
    have hM:High [B,l+322]:=High.cons (.inl hB) (High.one (ab _ _))
    have x04:Nxt [B,it,l+322] s s4:=(x1.weak (ao (by simp))).trans (((x2.trans x3).weak (ao (by simp))).trans (x4.weak (ao (by simp))))
    have e4:fRK w.params τ4 V l j (j * V.p % V.q+V.p) v st4 3 k=fRK w.params τ4 V l j (j * V.p % V.q+V.p) v st4 0 (k+1):=by cases k<;>rfl
    rw [e4] at f4
    have e3:U j+1=U (j+1):=rfl
    rw [e3] at i1
    exact rk_loop hh room hB hit hb h1 h2 h3 q1 q2 p1 p2 n (j+1) j _ v (k+1) m4 st4 _ (by lia) hx.snoc (W3.nxt x4 hM) f4 l4 (x4.keep (x3.keep (x2.keep i1 nIB) nIB) nI) fun s' τ' j0 ty L st k xs m X=>kk s' τ' j0 ty L st k xs m (x04.trans X)
theorem zero_range(q:Nat)(h:q<16):Builtin.Range.small (U 0) (U q) 1=true∧Builtin.Range.rangeSize (U 0) (U q) 1=U q:=cb 0 q (by decide) h
theorem ranks_spec{w:ag}{s:aa}{A:ai}{R:Result→aa→Prop}{V:RkV}{t0 t1 t2 t3 t4:Tok}(W:KTH w s.heap)(hh:A.handled=none)(room:A.depth+95<recursionLimit)
    (hb:V.ba≤2) (h1:1≤V.ru) (h2:V.ru≤2) (h3:V.ta≤2) (q1:2≤V.q) (q2:V.q<8) (p1:1≤V.p) (p2:V.p<V.q)
    (k:∀s' l xs m,Nxt [] s s'→s.heap.objs.size≤l+322→RKl V.p V.q V.q xs→s'.heap.get? (l+322)=some (lstO xs m)→R (.ok (.ret (.ref (l+322)))) s'):
    codeAny (model pw w) A (.call (.ref 290) ⟨[.int (U V.p) t0,.int (U V.q) t1,.int (U V.ba) t2,.int (U V.ru) t3,.int (U V.ta) t4],[]⟩) R s:=by
  refine open_ranks W hh (rmz room rfl) fun s1 B x1 W1 hB f1=> ?_
  have hB2:=bo W hB
  refine aT [B] [] 60 W1 hh (.cons f1 .nil) .nil (High.one hB2) (az _) dj0 (rmo room rfl) rfl [] fun A₀ c Q1 hQ1 uA₀=> ?_
  refine av (c':=(.call (.builtin "range.__iter__") ⟨[.ref (s1.heap.objs.size+1)],[]⟩)) (d:=0) (u:=10) 40 0x420042004200000042004200420000000000400000000000400040 [0,1,2] [] [some (frO [ew w "p" s.toks (.int (U V.p) t0),ew w "q" (s.toks+1) (.int (U V.q) t1),ew w "bare" (s.toks+2) (.int (U V.ba) t2),ew w "runs" (s.toks+3) (.int (U V.ru) t3),ew w "tail" (s.toks+4) (.int (U V.ta) t4),ew w "ranks" (s1.toks+1) (.ref s1.heap.objs.size)]),some (lstO [.int 0 s1.toks] 0),some (⟨.type "range",none,.fields #[.int 0 (s1.toks+2),.int (U V.q) t1,.int 1 (s1.toks+3)],#[]⟩)] 3 4 (by apply cW1 Q1 w<;>first|apply hQ1|(intro w;kernel_rfl)) no_side fun s2 x2 g2 A' R' hA dA uA res=> ?_
  obtain ⟨l,hl⟩:∃l,s1.heap.objs.size=l+322:=(aW W1.2)
  have f2:s2.heap.get? B=_:=(g2 0)
  have l2:s2.heap.get? s1.heap.objs.size=_:=(g2 1)
  have r2:s2.heap.get? (s1.heap.objs.size+1)=_:=(g2 2)
  rw [hl] at f2 l2
  have W2:=W1.nxt x2 (High.one hB2)
  have zr:=zero_range V.q (aC q2 (by decide))
  refine bd r2 zr.1 zr.2 fun s3 x3 i3=> ?_
  have W3:=W2.nxt x3 ac
  refine Rsm.go (lim:=60) res [] [(s2.heap.objs.size,_)] W3 .nil (.cons i3 .nil) ac nn0 dn0 (rmo room rfl) rfl [] fun Q2 hQ2=> ?_
  refine av (c':=(forC (forRK w) (.ref s2.heap.objs.size) (bk w B))) (d:=0) (u:=10) 1 0x1 [] [] [] 0 0 (by apply cW2 Q2 Q1 w<;>first|apply hQ2|apply hQ1|(intro w;kernel_rfl)) no_side fun s4 x4 _ A2 R2 hA2 dA2 uA2 res2=> ?_
  have dA2:A2.depth≤A.depth+1:=dA2
  have x24:=x3.trans x4
  have W4:=W3.nxt x4 ac
  refine rk_loop hA2 (rm room dA2 rfl) hB2 (bo W2 (al _)) hb h1 h2 h3 q1 q2 p1 p2 V.q 0 0 0 0 0 0 0 _ (τ:=tk [s.toks,t0,s.toks+1,t1,s.toks+2,t2,s.toks+3,t3,s.toks+4,t4,s1.toks+1]) (Nat.zero_add _) ⟨rfl,fun j hj=> ?_⟩ W4 (x24.keep0 f2) (x24.keep0 l2) (x4.keep0 i3) fun s5 τ5 j5 ty5 L5 st5 k5 xs m x5 f5 hx l5=> ?_
  · obtain rfl:j=0:=Nat.le_zero.mp hj
    exact ⟨s1.toks,by rw [Nat.zero_mul,Nat.zero_mod];rfl⟩
  have ll:s.heap.objs.size≤l+322:=hl▸x1.heap.size
  have X5:Nxt [B,s2.heap.objs.size,l+322] s s5:=x1.nil.trans ((x2.weak (ao (by simp))).trans (x24.nil.trans x5))
  have X5:=((X5.drop hB).drop (ad x1.heap.size x2.heap.size)).drop ll
  refine Rsm.go (lim:=60) res2 [] [(B,_)] (W.nxt X5 ac) .nil (.cons f5 .nil) ac nn0 dn0 (rmo room rfl) rfl [] fun Q3 hQ3=> ?_
  refine am (f:=(.ret (.ref (l+322)))) 3 0x1 [] [] [] 0 0 (by apply kW3 Q3 Q2 Q1 w k5<;>first|apply hQ3|apply hQ2|apply hQ1|(intros;kernel_rfl)) no_side fun s6 x6 _=>k s6 l xs m (X5.trans x6) ll hx (x6.keep0 l5)
noncomputable def forLI(w:ag):Stmt:=aF (fm w) 1
structure LiV where
  l:Nat
  p:Nat
  sp:Nat
  wh:Str
  ot:Str
noncomputable def tLI(P:ae)(τ:Nat→Nat)(kk c a e:Nat):Nat→List DictEntry
  |0=>[]
  |_=>[en P (S "k") (τ 12) (.int (U kk) (τ 13)),en P (S "letter") (τ 14) (.str ⟨#[c]⟩ (τ 15)),en P (S "word") (τ 16) (.str ⟨#[a,c,e]⟩ (τ 17))]
noncomputable def fLI(P:ae)(τ:Nat→Nat)(V:LiV)(l2 kk c a e k:Nat):Obj:=frO ([en P (S "ranks") (τ 0) (.ref (V.l+322)),en P (S "p") (τ 2) (.int (U V.p) (τ 3)),en P (S "spot") (τ 4) (.int (U V.sp) (τ 5)),en P (S "whites") (τ 6) (.str V.wh (τ 7)),en P (S "others") (τ 8) (.str V.ot (τ 9)),en P (S "line") (τ 10) (.ref (l2+322))]++tLI P τ kk c a e k)
noncomputable def ltS:Bool→Str
  |true=>S "b"
  |false=>S "a"
noncomputable def ltc:Bool→Nat
  |true=>98
  |false=>97
noncomputable def aq{α:Type}(f:Bool→Bool→Bool→Nat→α)(b d e:Bool)(k:Nat):α:=f b d e k
theorem q4{α:Type}{f g:Bool→Bool→Bool→Nat→α}(h:∀b d e,aq f b d e 0=aq g b d e 0∧∀k,aq f b d e (k+1)=aq g b d e (k+1))(b d e:Bool)(k:Nat):f b d e k=g b d e k:=by
  cases k
  · exact (h b d e).1
  · exact (h b d e).2 _
theorem li_ix{xs:List Value}{j:Nat}{v:Value}(h:xs[j]? =some v)(l:j<8):((0:Int)≤U (j+1) - 1∧U (j+1) - 1<2^63)∧(xs:List Value).toArray[(U (j+1) - 1).toNat]? =some v:=by
  have e:U (j+1) - 1=U j:=by show ((j+1:Nat):Int) - 1=j;lia
  rw [e]
  exact ⟨⟨Int.natCast_nonneg _,Int.ofNat_lt.mpr (aC l (by decide))⟩,by simpa using h⟩
theorem li_ik{xs:List Value}{j:Nat}{v:Value}(h:xs[j+1]? =some v)(l:j<8):((0:Int)≤U (j+1)∧U (j+1)<2^63)∧(xs:List Value).toArray[(U (j+1)).toNat]? =some v:=
  ⟨⟨Int.natCast_nonneg _,Int.ofNat_lt.mpr (aC (Nat.succ_lt_succ l) (by decide))⟩,by simpa using h⟩
theorem li_sg{r a:Nat}(l:r<7)(e:a=48+r):((decide (U r< -(2^63:Int))||decide (U r≥2^63))=false∧∃c,(seqIndex? (U r) ((S "0123456"):Str).length).bind (((S "0123456"):Str).cps[·]?)=some c∧(⟨#[a]⟩:Str)=⟨#[c]⟩):=by
  subst e
  have:∀r<7,(decide (U r< -(2^63:Int))||decide (U r≥2^63))=false∧(seqIndex? (U r) ((S "0123456"):Str).length).bind (((S "0123456"):Str).cps[·]?)=some (48+r):=by decide+kernel
  exact ⟨(this r l).1,_,(this r l).2,rfl⟩
theorem liA{w:ag}{s:aa}{A:ai}{E:Value→aa→Prop}{Q:Flow→aa→Prop}{B l2 kk0 c0 a0 e0 m m2 j r r' a a' t0 t1 k:Nat}{V:LiV}{xs:List Value}{it:Value}{τ:Nat→Nat}{t:Tok}{D:List PD}(W:KTH w s.heap)(hh:A.handled=none)(room:A.depth+70<recursionLimit)(hB:322≤B)
    (hf:s.heap.get? B=some (fLI w.params τ V l2 kk0 c0 a0 e0 k)) (hl:s.heap.get? (V.l+322)=some (lstO xs m)) (h2:s.heap.get? (l2+322)=some (lstO (refsD D) m2)) (nl:V.l≠l2) (l8:D.length<8) (lj:j<8) (hj:xs[j]? =some (.int (U r') t1)) (hk:xs[j+1]? =some (.int (U r) t0)) (lr:r<7) (lr':r'<7) (ea:a=48+r) (ea':a'=48+r') {d1 d3:Bool} (h1:decide (U r<U r'+U V.p)=d1) (h3:(U r'==U V.sp)=d3) (hg:decide (1<(U (j+1)))=true)
    (kk:∀s' τ' y f tf tp m',Nxt [B,l2+322] s s'→f=cond d3 V.wh V.ot→s.heap.objs.size≤y+322→s'.heap.get? B=some (fLI w.params τ' V l2 (j+1) (ltc d1) a' a 1)→s'.heap.get? (l2+322)=some (lstO (refsD D++[.ref (y+322)]) m')→s'.heap.get? (y+322)=some (aX [.str f tf,.str ⟨#[a',ltc d1,a]⟩ tp])→Q .next s'):
    wpAny (model pw w) A (letOwnedTupleGo (sT (forLI w)) it (.int (U (j+1)) t)>>=fun _=>assign (sT (forLI w)) (bA w B) (.int (U (j+1)) t)>>=fun _=>execs (sB (forLI w)) (bA w B)) Q E s:=by
  have nB:B≠l2+322:=ne_cls hf h2 cFL
  have hM:High [B,l2+322]:=High.cons (.inl hB) (High.one (ab _ _))
  have nd:[B,l2+322].Nodup:=List.nodup_cons.mpr ⟨notin1 nB,az _⟩
  have iT:(((0:Int)≤(U (j+1)) - 1∧(U (j+1)) - 1<2^63)∧(xs:List Value).toArray[((U (j+1)) - 1).toNat]? =some (.int (U r') t1)):=li_ix hj lj
  have iK:((0≤(U (j+1))∧(U (j+1))<2^63)∧(xs:List Value).toArray[(U (j+1)).toNat]? =some (.int (U r) t0)):=li_ik hk lj
  have sG:((decide (U r< -(2^63:Int))||decide (U r≥2^63))=false∧∃c,(seqIndex? (U r) ((S "0123456"):Str).length).bind (((S "0123456"):Str).cps[·]?)=some c∧(⟨#[a]⟩:Str)=⟨#[c]⟩):=li_sg lr ea
  have sG':((decide (U r'< -(2^63:Int))||decide (U r'≥2^63))=false∧∃c,(seqIndex? (U r') ((S "0123456"):Str).length).bind (((S "0123456"):Str).cps[·]?)=some c∧(⟨#[a']⟩:Str)=⟨#[c]⟩):=li_sg lr' ea'
  have sz:(((refsD D):List Value).toArray.size≤sizeLine):=by rw [List.size_toArray];unfold refsD;rw [ak];exact ad (au l8) (by decide)
  have w3:((⟨#[a']⟩++ltS d1)++⟨#[a]⟩:Str).length≤sizeLine:=by cases d1<;>(show 3≤2^24;decide)
  have w2:(⟨#[a']⟩++ltS d1:Str).length≤sizeLine:=by cases d1<;>(show 2≤2^24;decide)
  refine bL [B,l2+322] [(V.l+322,_)] 60 W hh (.cons hf (.cons h2 .nil)) (.cons hl .nil) hM nd (dj1 (notin2 (ne_cls hl hf (Ne.symm cFL)) (fun e=>nl (Nat.add_right_cancel e)))) (rmz room rfl) rfl [.int (U r) t0,.int (U r') t1,.str ⟨#[a']⟩ 0,.str ⟨#[a]⟩ 0] fun A₀ c Q1 hQ1 uA₀=> ?_
  refine am (f:= .next) 151 (0x4100d20041004000400000001000400001000100c8000100010001000100000004004000400001000e00400041004100410041004000400040000000140003000000ca0000000100c80001000100010001004000400000001400400002000000ca0001000100c800010001000100010000000400400040004000400000000c0000000300400001000100c8000100010001000100000004004000400000000100c800010001000100010040004000400040+cond d1 0x100000000000000000000000000000000000000000000000000000000000000000000000000000000000000000000000000000000 0+cond d3 0x100000000000000000000000000000000000000000000000000000000000000000000000000000000000000000000000000000000000000000000000000000000000000000000000000000000000000000000000000000000000000000000000000000000000000000000000000000000000000000000000000000000000000000000000000000000000000000000000000000000000000000000000000000000000000000000 0) [0,1,2] [(((refsD D):List Value).toArray.size≤sizeLine),((U r'==U V.sp)=d3),((0≤(U (j+1)) - 1∧(U (j+1)) - 1<2^63)∧(xs:List Value).toArray[((U (j+1)) - 1).toNat]? =some (.int (U r') t1)),True,decide (1<(U (j+1)))=true,((⟨#[a']⟩++ltS d1)++⟨#[a]⟩:Str).length≤sizeLine,((decide (U r< -(2^63:Int))||decide (U r≥2^63))=false∧∃c,(seqIndex? (U r) ((S "0123456"):Str).length).bind (((S "0123456"):Str).cps[·]?)=some c∧(⟨#[a]⟩:Str)=⟨#[c]⟩),((0≤(U (j+1))∧(U (j+1))<2^63)∧(xs:List Value).toArray[(U (j+1)).toNat]? =some (.int (U r) t0)),(⟨#[a']⟩++ltS d1:Str).length≤sizeLine,((decide (U r'< -(2^63:Int))||decide (U r'≥2^63))=false∧∃c,(seqIndex? (U r') ((S "0123456"):Str).length).bind (((S "0123456"):Str).cps[·]?)=some c∧(⟨#[a']⟩:Str)=⟨#[c]⟩),((0≤(U (j+1)) - 1∧(U (j+1)) - 1<2^63)∧(xs:List Value).toArray[((U (j+1)) - 1).toNat]? =some (.int (U r') t1)),True,decide (U r<U r'+U V.p)=d1,True,((0≤(U (j+1)) - 1∧(U (j+1)) - 1<2^63)∧(xs:List Value).toArray[((U (j+1)) - 1).toNat]? =some (.int (U r') t1)),True,((0≤(U (j+1))∧(U (j+1))<2^63)∧(xs:List Value).toArray[(U (j+1)).toNat]? =some (.int (U r) t0))] [some (fLI w.params (tk [τ 0,τ 1,τ 2,τ 3,τ 4,τ 5,τ 6,τ 7,τ 8,τ 9,τ 10,τ 11,bi k s.toks (τ 12),t,bi k (s.toks+5) (τ 14),s.toks+4,bi k (s.toks+14) (τ 16),s.toks+13]) V l2 (j+1) (ltc d1) a' a 1),some (lstO (refsD D++[.ref s.heap.objs.size]) (m2+1)),some (aX [.str (cond d3 V.wh V.ot) (cond d3 (τ 7) (τ 9)),.str ⟨#[a',ltc d1,a]⟩ (s.toks+13)])] 3 18 (by apply elq Q1 _ hQ1;apply wW ?_ w;intro w b;apply q4 ?_ b d1 d3 k;intro b d e;cases b<;>cases d<;>cases e<;>exact ⟨by kernel_rfl,fun k=>by kernel_rfl⟩) (side_cons sz (side_cons h3 (side_cons iT (side_cons trivial (side_cons hg (side_cons w3 (side_cons sG (side_cons iK (side_cons w2 (side_cons sG' (side_cons iT (side_cons trivial (side_cons h1 (side_cons trivial (side_cons iT (side_cons trivial (side_cons iK no_side))))))))))))))))) fun s1 x1 g1=> ?_
  obtain ⟨y,hy⟩:∃y,s.heap.objs.size=y+322:=(aW W.2)
  have g2:s1.heap.get? (l2+322)=_:=(g1 1)
  have g3:s1.heap.get? s.heap.objs.size=_:=(g1 2)
  rw [hy] at g2 g3
  exact kk s1 _ y _ _ _ _ x1 rfl (Nat.le_of_eq hy) (g1 0) g2 g3
theorem liB{w:ag}{s:aa}{A:ai}{E:Value→aa→Prop}{Q:Flow→aa→Prop}{B l2 kk0 c0 a0 e0 m m2 j r r' a a' t0 t1 k:Nat}{V:LiV}{xs:List Value}{it:Value}{τ:Nat→Nat}{t:Tok}{D:List PD}(W:KTH w s.heap)(hh:A.handled=none)(room:A.depth+70<recursionLimit)(hB:322≤B)
    (hf:s.heap.get? B=some (fLI w.params τ V l2 kk0 c0 a0 e0 k)) (hl:s.heap.get? (V.l+322)=some (lstO xs m)) (h2:s.heap.get? (l2+322)=some (lstO (refsD D) m2)) (nl:V.l≠l2) (l8:D.length<8) (lj:j<8) (hj:xs[j]? =some (.int (U r') t1)) (hk:xs[j+1]? =some (.int (U r) t0)) (lr:r<7) (lr':r'<7) (ea:a=48+r) (ea':a'=48+r') {d1:Bool} (h1:decide (U r<U r'+U V.p)=d1) (hg:decide (1<(U (j+1)))=false)
    (kk:∀s' τ' y f tf tp m',Nxt [B,l2+322] s s'→f=V.ot→s.heap.objs.size≤y+322→s'.heap.get? B=some (fLI w.params τ' V l2 (j+1) (ltc d1) a' a 1)→s'.heap.get? (l2+322)=some (lstO (refsD D++[.ref (y+322)]) m')→s'.heap.get? (y+322)=some (aX [.str f tf,.str ⟨#[a',ltc d1,a]⟩ tp])→Q .next s'):
    wpAny (model pw w) A (letOwnedTupleGo (sT (forLI w)) it (.int (U (j+1)) t)>>=fun _=>assign (sT (forLI w)) (bA w B) (.int (U (j+1)) t)>>=fun _=>execs (sB (forLI w)) (bA w B)) Q E s:=by
  obtain ⟨d3,_⟩:∃d:Bool,True:=⟨true,trivial⟩
  have nB:B≠l2+322:=ne_cls hf h2 cFL
  have hM:High [B,l2+322]:=High.cons (.inl hB) (High.one (ab _ _))
  have nd:[B,l2+322].Nodup:=List.nodup_cons.mpr ⟨notin1 nB,az _⟩
  have iT:(((0:Int)≤(U (j+1)) - 1∧(U (j+1)) - 1<2^63)∧(xs:List Value).toArray[((U (j+1)) - 1).toNat]? =some (.int (U r') t1)):=li_ix hj lj
  have iK:((0≤(U (j+1))∧(U (j+1))<2^63)∧(xs:List Value).toArray[(U (j+1)).toNat]? =some (.int (U r) t0)):=li_ik hk lj
  have sG:((decide (U r< -(2^63:Int))||decide (U r≥2^63))=false∧∃c,(seqIndex? (U r) ((S "0123456"):Str).length).bind (((S "0123456"):Str).cps[·]?)=some c∧(⟨#[a]⟩:Str)=⟨#[c]⟩):=li_sg lr ea
  have sG':((decide (U r'< -(2^63:Int))||decide (U r'≥2^63))=false∧∃c,(seqIndex? (U r') ((S "0123456"):Str).length).bind (((S "0123456"):Str).cps[·]?)=some c∧(⟨#[a']⟩:Str)=⟨#[c]⟩):=li_sg lr' ea'
  have sz:(((refsD D):List Value).toArray.size≤sizeLine):=by rw [List.size_toArray];unfold refsD;rw [ak];exact ad (au l8) (by decide)
  have w3:((⟨#[a']⟩++ltS d1)++⟨#[a]⟩:Str).length≤sizeLine:=by cases d1<;>(show 3≤2^24;decide)
  have w2:(⟨#[a']⟩++ltS d1:Str).length≤sizeLine:=by cases d1<;>(show 2≤2^24;decide)
  refine bL [B,l2+322] [(V.l+322,_)] 60 W hh (.cons hf (.cons h2 .nil)) (.cons hl .nil) hM nd (dj1 (notin2 (ne_cls hl hf (Ne.symm cFL)) (fun e=>nl (Nat.add_right_cancel e)))) (rmz room rfl) rfl [.int (U r) t0,.int (U r') t1,.str ⟨#[a']⟩ 0,.str ⟨#[a]⟩ 0] fun A₀ c Q1 hQ1 uA₀=> ?_
  refine am (f:= .next) 130 (0x4100d20041004000400000000e00400041004100410041004000400040000000140003000000ca0000000100c80001000100010001004000400000001400400002000000ca0001000100c800010001000100010000000400400040004000400000000c0000000300400001000100c8000100010001000100000004004000400000000100c800010001000100010040004000400040+cond d1 0x100000000000000000000000000000000000000000000000000000000000000000000000000000000000000000000000000000000 0) [0,1,2] [(((refsD D):List Value).toArray.size≤sizeLine),decide (1<(U (j+1)))=false,((⟨#[a']⟩++ltS d1)++⟨#[a]⟩:Str).length≤sizeLine,((decide (U r< -(2^63:Int))||decide (U r≥2^63))=false∧∃c,(seqIndex? (U r) ((S "0123456"):Str).length).bind (((S "0123456"):Str).cps[·]?)=some c∧(⟨#[a]⟩:Str)=⟨#[c]⟩),((0≤(U (j+1))∧(U (j+1))<2^63)∧(xs:List Value).toArray[(U (j+1)).toNat]? =some (.int (U r) t0)),(⟨#[a']⟩++ltS d1:Str).length≤sizeLine,((decide (U r'< -(2^63:Int))||decide (U r'≥2^63))=false∧∃c,(seqIndex? (U r') ((S "0123456"):Str).length).bind (((S "0123456"):Str).cps[·]?)=some c∧(⟨#[a']⟩:Str)=⟨#[c]⟩),((0≤(U (j+1)) - 1∧(U (j+1)) - 1<2^63)∧(xs:List Value).toArray[((U (j+1)) - 1).toNat]? =some (.int (U r') t1)),True,decide (U r<U r'+U V.p)=d1,True,((0≤(U (j+1)) - 1∧(U (j+1)) - 1<2^63)∧(xs:List Value).toArray[((U (j+1)) - 1).toNat]? =some (.int (U r') t1)),True,((0≤(U (j+1))∧(U (j+1))<2^63)∧(xs:List Value).toArray[(U (j+1)).toNat]? =some (.int (U r) t0))] [some (fLI w.params (tk [τ 0,τ 1,τ 2,τ 3,τ 4,τ 5,τ 6,τ 7,τ 8,τ 9,τ 10,τ 11,bi k s.toks (τ 12),t,bi k (s.toks+5) (τ 14),s.toks+4,bi k (s.toks+14) (τ 16),s.toks+13]) V l2 (j+1) (ltc d1) a' a 1),some (lstO (refsD D++[.ref s.heap.objs.size]) (m2+1)),some (aX [.str (V.ot) (τ 9),.str ⟨#[a',ltc d1,a]⟩ (s.toks+13)])] 3 16 (by apply elq Q1 _ hQ1;apply wW ?_ w;intro w b;apply q4 ?_ b d1 d3 k;intro b d e;cases b<;>cases d<;>cases e<;>exact ⟨by kernel_rfl,fun k=>by kernel_rfl⟩) (side_cons sz (side_cons hg (side_cons w3 (side_cons sG (side_cons iK (side_cons w2 (side_cons sG' (side_cons iT (side_cons trivial (side_cons h1 (side_cons trivial (side_cons iT (side_cons trivial (side_cons iK no_side)))))))))))))) fun s1 x1 g1=> ?_
  obtain ⟨y,hy⟩:∃y,s.heap.objs.size=y+322:=(aW W.2)
  have g2:s1.heap.get? (l2+322)=_:=(g1 1)
  have g3:s1.heap.get? s.heap.objs.size=_:=(g1 2)
  rw [hy] at g2 g3
  exact kk s1 _ y _ _ _ _ x1 rfl (Nat.le_of_eq hy) (g1 0) g2 g3
noncomputable def liP(rk:Nat→Nat)(p sp:Nat)(wh ot:Str)(j:Nat):Str×Str:=(cond (decide (1<j+1)) (cond (rk j==sp) wh ot) ot,⟨#[48+rk j,ltc (decide (rk (j+1)<rk j+p)),48+rk (j+1)]⟩)
noncomputable def lineP(rk:Nat→Nat)(p sp:Nat)(wh ot:Str)(n:Nat):List (Str×Str):=(List.range n).map (liP rk p sp wh ot)
theorem lineP_succ(rk:Nat→Nat)(p sp:Nat)(wh ot:Str)(n:Nat):lineP rk p sp wh ot (n+1)=lineP rk p sp wh ot n++[liP rk p sp wh ot n]:=by
  unfold lineP;rw [List.range_succ,List.map_append];rfl
theorem Pts.off{s s':aa}{mods:List Addr}{D:List PD}(h:Pts s.heap D)(x:Nxt mods s s')(q:∀a∈mods,∃o,s.heap.get? a=some o∧o.cls≠.type "tuple"):Pts s'.heap D:=fun d hd=>x.keep (h d hd) fun hm=>by
  obtain ⟨o,e,ho⟩:=q _ hm
  rw [h d hd] at e
  cases e
  exact ho rfl
theorem Pts.off1{s s':aa}{a:Addr}{o:Obj}{D:List PD}(h:Pts s.heap D)(x:Nxt [a] s s')(e:s.heap.get? a=some o)(n:o.cls≠.type "tuple"):Pts s'.heap D:=h.off x fun b hb=>by
  rw [List.mem_singleton.mp hb];exact ⟨o,e,n⟩
theorem ofd(a b:Nat):decide (U a<U b)=decide (a<b):=decide_eq_decide.mpr Int.ofNat_lt
theorem ofe(a b:Nat):(U a==U b)=(a==b):=by
  by_cases h:a=b
  · subst h;rw [beq_self_eq_true,beq_self_eq_true]
  · rw [beq_eq_false_iff_ne.mpr h,beq_eq_false_iff_ne.mpr (fun q=>h (Int.ofNat.inj q))]
theorem li_loop{w:ag}{A:ai}{R:Result→aa→Prop}{B it l2 m q:Nat}{V:LiV}{xs:List Value}{rk:Nat→Nat}(hh:A.handled=none)(room:A.depth+70<recursionLimit)(hB:322≤B)(hit:322≤it)(nl:V.l≠l2)(q2:q<8)(hx:∀j,j≤q→∃t,xs[j]? =some (.int (U (rk j)) t))(hr:∀j,j≤q→rk j<7):
    ∀(n j kk0 c0 a0 e0 k m2:Nat) (D:List PD) {s:aa} {τ:Nat→Nat},j+n=q→fp D=lineP rk V.p V.sp V.wh V.ot j→Pts s.heap D→KTH w s.heap→s.heap.get? B=some (fLI w.params τ V l2 kk0 c0 a0 e0 k)→s.heap.get? (V.l+322)=some (lstO xs m)→s.heap.get? (l2+322)=some (lstO (refsD D) m2)→s.heap.get? it=some (bs (U (j+1)) (U n) 1)→
      (∀s' τ' kk0 c0 a0 e0 k m2 D,Nxt [B,it,l2+322] s s'→fp D=lineP rk V.p V.sp V.wh V.ot q→Pts s'.heap D→s'.heap.get? B=some (fLI w.params τ' V l2 kk0 c0 a0 e0 k)→s'.heap.get? (l2+322)=some (lstO (refsD D) m2)→R (.ok .next) s')→codeAny (model pw w) A (forC (forLI w) (.ref it) (bA w B)) R s
  |0,j,kk0,c0,a0,e0,k,m2,D,s,τ,hj,hD,hp,W,f,hl,h2,hi,kk=>by
    have nB:B∉[it]:=notin1 (ne_cls f hi (show Value.type "frame"≠Value.type "range_iterator" by decide))
    have n2:l2+322∉[it]:=notin1 (ne_cls h2 hi (show Value.type "list"≠Value.type "range_iterator" by decide))
    have e:j=q:=hj
    refine aV (bX W hh (rmz room rfl) hi hit fun s1 x1=>wpAny_execs_nil ?_)
    exact kk s1 τ kk0 c0 a0 e0 k m2 D (x1.weak (ao (by simp))) (e▸hD) (hp.off1 x1 hi (show Value.type "range_iterator"≠Value.type "tuple" by decide)) (x1.keep f nB) (x1.keep h2 n2)
  |n+1,j,kk0,c0,a0,e0,k,m2,D,s,τ,hj,hD,hp,W,f,hl,h2,hi,kk=>by
    have nB:B∉[it]:=notin1 (ne_cls f hi (show Value.type "frame"≠Value.type "range_iterator" by decide))
    have n2:l2+322∉[it]:=notin1 (ne_cls h2 hi (show Value.type "list"≠Value.type "range_iterator" by decide))
    have n3:V.l+322∉[it]:=notin1 (ne_cls hl hi (show Value.type "list"≠Value.type "range_iterator" by decide))
    have jq:j<q:=by lia
    obtain ⟨t1,e1⟩:=hx j (au jq)
    obtain ⟨t0,e0'⟩:=hx (j+1) jq
    have lD:D.length=j:=by rw [←bQ,hD];unfold lineP;rw [ak,List.length_range]
    refine aV (bJ W hh (rmz room rfl) hi hit fun s1 x1 i1=> ?_)
    have W1:=W.nxt x1 (High.one hit)
    have p1:=hp.off1 x1 hi (show Value.type "range_iterator"≠Value.type "tuple" by decide)
    have f1:=x1.keep f nB
    have l1:=x1.keep hl n3
    have h1:=x1.keep h2 n2
    have nI:it∉[B,l2+322]:=notin2 (ne_cls hi f (show Value.type "range_iterator"≠Value.type "frame" by decide)) (ne_cls hi h2 (show Value.type "range_iterator"≠Value.type "list" by decide))
    have nL:V.l+322∉[B,l2+322]:=notin2 (ne_cls hl f (Ne.symm cFL)) (fun e=>nl (Nat.add_right_cancel e))
    have hM:High [B,l2+322]:=High.cons (.inl hB) (High.one (ab _ _))
    have j8:j<8:=aC jq q2
    have fin:∀s2 τ2 y f' tf tp m',Nxt [B,l2+322] s1 s2→f'=(liP rk V.p V.sp V.wh V.ot j).1→s2.heap.get? B=some (fLI w.params τ2 V l2 (j+1) (ltc (decide (rk (j+1)<rk j+V.p))) (48+rk j) (48+rk (j+1)) 1)→s2.heap.get? (l2+322)=some (lstO (refsD D++[.ref (y+322)]) m')→s2.heap.get? (y+322)=some (aX [.str f' tf,.str ⟨#[48+rk j,ltc (decide (rk (j+1)<rk j+V.p)),48+rk (j+1)]⟩ tp])→
        codeAny (model pw w) A (forC (forLI w) (.ref it) (bA w B)) R s2:=by
      intro s2 τ2 y f' tf tp m' x2 ef g1 g2 g3
      have x02:Nxt [B,it,l2+322] s s2:=(x1.weak (ao (by simp))).trans (x2.weak (ao (by simp)))
      have p2:=p1.off x2 fun a ha=>by
        rcases List.mem_cons.mp ha with rfl|ha
        · exact ⟨_,f1,cFT⟩
        · rw [List.mem_singleton.mp ha];exact ⟨_,h1,cLT⟩
      have er:refsD D++[.ref (y+322)]=refsD (D++[⟨y,f',tf,⟨#[48+rk j,ltc (decide (rk (j+1)<rk j+V.p)),48+rk (j+1)]⟩,tp⟩]):=by unfold refsD;rw [List.map_append];rfl
      rw [er] at g2
      refine li_loop hh room hB hit nl q2 hx hr n (j+1) (j+1) _ _ _ 1 m' (D++[⟨y,f',tf,⟨#[48+rk j,ltc (decide (rk (j+1)<rk j+V.p)),48+rk (j+1)]⟩,tp⟩]) (by lia) (by rw [cv,hD,lineP_succ,ef];rfl) ?_ (W1.nxt x2 hM) g1 (x2.keep l1 nL) g2 (x2.keep i1 nI) fun s' τ' kk0 c0 a0 e0 k m2 D X=>kk s' τ' kk0 c0 a0 e0 k m2 D (x02.trans X)
      intro d hd
      rcases List.mem_append.mp hd with h|h
      · exact p2 d h
      · rw [List.mem_singleton.mp h];exact g3
    by_cases hj0:1<j+1
    · exact liA (k:=k) W1 hh room hB f1 l1 h1 nl (by lia) j8 e1 e0' (hr _ jq) (hr _ (au jq)) rfl rfl (ofd _ _) (ofe _ _) (decide_eq_true (Int.ofNat_lt.mpr hj0)) fun s2 τ2 y f' tf tp m' x2 ef _ g1 g2 g3=>fin s2 τ2 y f' tf tp m' x2 (by rw [ef];unfold liP;rw [decide_eq_true hj0];rfl) g1 g2 g3
    · exact liB (k:=k) W1 hh room hB f1 l1 h1 nl (by lia) j8 e1 e0' (hr _ jq) (hr _ (au jq)) rfl rfl (ofd _ _) (decide_eq_false (fun q=>hj0 (Int.ofNat_lt.mp q))) fun s2 τ2 y f' tf tp m' x2 ef _ g1 g2 g3=>fin s2 τ2 y f' tf tp m' x2 (by rw [ef];unfold liP;rw [decide_eq_false hj0];rfl) g1 g2 g3
theorem line_spec{w:ag}{s:aa}{A:ai}{R:Result→aa→Prop}{V:LiV}{t1 t2 t3 t4 m q:Nat}{xs:List Value}{rk:Nat→Nat}(W:KTH w s.heap)(hh:A.handled=none)(room:A.depth+80<recursionLimit)(hl:s.heap.get? (V.l+322)=some (lstO xs m))(lx:xs.length=q+1)(q2:q<8)(hx:∀j,j≤q→∃t,xs[j]? =some (.int (U (rk j)) t))(hr:∀j,j≤q→rk j<7)
    (k:∀s' l2 m2 D,Nxt [] s s'→s.heap.objs.size≤l2+322→fp D=lineP rk V.p V.sp V.wh V.ot q→Pts s'.heap D→s'.heap.get? (l2+322)=some (lstO (refsD D) m2)→R (.ok (.ret (.ref (l2+322)))) s'):
    codeAny (model pw w) A (.call (.ref 297) ⟨[.ref (V.l+322),.int (U V.p) t1,.int (U V.sp) t2,.str V.wh t3,.str V.ot t4],[]⟩) R s:=by
  refine open_line W hh (rmz room rfl) fun s1 B x1 W1 hB f1=> ?_
  have hB2:=bo W hB
  have nL:V.l+322∉[B]:=notin1 (ay (ah (an hl) hB))
  refine aT [B] [(V.l+322,_)] 60 W1 hh (.cons f1 .nil) (.cons (x1.keep0 hl) .nil) (High.one hB2) (az _) (dj1 nL) (rmo room rfl) rfl [] fun A₀ c Q1 hQ1 uA₀=> ?_
  refine av (c':=(.call (.builtin "len") ⟨[.ref (V.l+322)],[]⟩)) (d:=0) (u:=10) 21 0x40000000000000000000400040 [0,1] [] [some (frO [ew w "ranks" s.toks (.ref (V.l+322)),ew w "p" (s.toks+1) (.int (U V.p) t1),ew w "spot" (s.toks+2) (.int (U V.sp) t2),ew w "whites" (s.toks+3) (.str V.wh t3),ew w "others" (s.toks+4) (.str V.ot t4),ew w "line" s1.toks (.ref s1.heap.objs.size)]),some (lstO [] 0)] 2 2 (by apply cW1 Q1 w<;>first|apply hQ1|(intro w;kernel_rfl)) no_side fun s2 x2 g2 A' R' hA dA uA res=> ?_
  obtain ⟨l2,hl2⟩:∃l,s1.heap.objs.size=l+322:=(aW W1.2)
  have f2:s2.heap.get? B=_:=(g2 0)
  have h2:s2.heap.get? s1.heap.objs.size=_:=(g2 1)
  rw [hl2] at f2 h2
  have W2:=W1.nxt x2 (High.one hB2)
  have l2':=x2.keep (x1.keep0 hl) nL
  refine len_lst l2' (by rw [lx];exact aC (Nat.succ_lt_succ q2) (by decide)) fun s3 t x3=> ?_
  rw [lx]
  have W3:=W2.nxt x3 ac
  refine Rsm.go (lim:=60) res [] [(B,_)] W3 .nil (.cons (x3.keep0 f2) .nil) ac nn0 dn0 (rmo room rfl) rfl [] fun Q2 hQ2=> ?_
  refine av (c':=(.call (.builtin "range.__iter__") ⟨[.ref s3.heap.objs.size],[]⟩)) (d:=0) (u:=10) 22 0x4000400040000000400040004000000000 [0] [] [some (⟨.type "range",none,.fields #[.int (U 1) (s1.toks+1),.int (U (q+1)) t,.int 1 s3.toks],#[]⟩)] 1 1 (by apply cW2 Q2 Q1 w<;>first|apply hQ2|apply hQ1|(intro w;kernel_rfl)) no_side fun s4 x4 g4 A2 R2 hA2 dA2 uA2 res2=> ?_
  have W4:=W3.nxt x4 ac
  have ur:=cb 1 (q+1) (by decide) (by lia)
  refine bd (g4 0) ur.1 ur.2 fun s5 x5 i5=> ?_
  have W5:=W4.nxt x5 ac
  refine Rsm.go (lim:=60) res2 [] [(s4.heap.objs.size,_)] W5 .nil (.cons i5 .nil) ac nn0 dn0 (rmo room rfl) rfl [] fun Q3 hQ3=> ?_
  refine av (c':=(forC (forLI w) (.ref s4.heap.objs.size) (bA w B))) (d:=0) (u:=10) 1 0x1 [] [] [] 0 0 (by apply cW3 Q3 Q2 Q1 w<;>first|apply hQ3|apply hQ2|apply hQ1|(intro w;kernel_rfl)) no_side fun s6 x6 _ A3 R3 hA3 dA3 uA3 res3=> ?_
  have dA3:A3.depth≤A.depth+1:=dA3
  have x26:=x3.trans (x4.trans (x5.trans x6))
  have W6:=W5.nxt x6 ac
  have ll:s.heap.objs.size≤l2+322:=hl2▸x1.heap.size
  have nl:V.l≠l2:=fun e=>by
    have:=ah (an hl) ll
    rw [e] at this
    exact Nat.lt_irrefl _ this
  refine li_loop hA3 (rm room dA3 rfl) hB2 (bo W4 (al _)) nl q2 hx hr q 0 0 0 0 0 0 0 [] (τ:=tk [s.toks,0,s.toks+1,t1,s.toks+2,t2,s.toks+3,t3,s.toks+4,t4,s1.toks]) (Nat.zero_add q) rfl (fun _ h=>by cases h) W6 (x26.keep0 f2) (x26.keep0 l2') (x26.keep0 h2) (x6.keep0 i5) fun s7 τ7 kk7 c7 a7 e7 k7 m7 D x7 hD hp f7 l7=> ?_
  have X7:Nxt [B,s4.heap.objs.size,l2+322] s s7:=x1.nil.trans ((x2.weak (ao (by simp))).trans (x26.nil.trans x7))
  have X7:=((X7.drop hB).drop (ad x1.heap.size (ad x2.heap.size (ad x3.heap.size x4.heap.size)))).drop ll
  refine Rsm.go (lim:=60) res3 [] [(B,_)] (W.nxt X7 ac) .nil (.cons f7 .nil) ac nn0 dn0 (rmo room rfl) rfl [] fun Q4 hQ4=> ?_
  refine am (f:=(.ret (.ref (l2+322)))) 3 0x1 [] [] [] 0 0 (by apply kW4 Q4 Q3 Q2 Q1 w k7<;>first|apply hQ4|apply hQ3|apply hQ2|apply hQ1|(intros;kernel_rfl)) no_side fun s8 x8 _=>k s8 l2 m7 D (X7.trans x8) ll hD (hp.nxt0 x8) (x8.keep0 l7)
noncomputable def lcS(e:Expr):Scope:=(xP e).2.2.2
noncomputable def cmpL(e:Expr):Expr:=(xP e).1
noncomputable def callA(e:Expr):Expr:=(xP e).2.1.headD e
noncomputable def lcT(e:Expr):Expr:=match (xP e).2.2.1 with
  |g::_=>g.target
  |[]=>e
noncomputable def lcC(e:Expr):Expr:=match (xP e).2.2.1 with
  |g::_=>g.ifs.headD e0
  |[]=>e
noncomputable def cmpC(e:Expr)(it acc:Value)(cl:List (Str×Addr))(C:Addr)(env:Env):Code:= .compStart e 0 it acc (compEnvC (lcS e) cl C env)
noncomputable def lpC(e:Expr)(it acc:Value)(env:Env):Code:= .compLoop e 0 it acc env
noncomputable def lcF0(e:Expr)(it v acc:Value)(env:Env):Sem Unit:=
  PySem.W.Fast.tw1578499551869305889 (lcT e) it v>>=fun _=>PySem.W.Fast.tw17772580674575903948 (lcT e) env v>>=fun _=>evF (cmpL e) env>>=fun x=>call (.builtin "list.append") [acc,x]>>=fun _=>pure ()
noncomputable def lcF1(e:Expr)(it v acc:Value)(env:Env):Sem Unit:=
  PySem.W.Fast.tw1578499551869305889 (lcT e) it v>>=fun _=>PySem.W.Fast.tw17772580674575903948 (lcT e) env v>>=fun _=>itF (lcC e) env (evF (lcC e) env)>>=fun ok=>match ok with
    |true=>evF (cmpL e) env>>=fun x=>call (.builtin "list.append") [acc,x]>>=fun _=>pure ()
    |false=>pure ()
section
variable {w:ag} {A:ai} {s:aa} {R:Result→aa→Prop} {elt target iter c:Expr} {scope:Scope} {pos:Pos} {it acc:Value} {env:Env}
theorem cE{e:Expr}(he:e= .ListComp elt [⟨target,iter,[],0⟩] scope pos)
    (h:wpAny (model pw w) A (pyNext it) (fun r s₁=>match r with
      |none=>R (.ok .next) s₁
      |some v=>wpAny (model pw w) A (lcF0 e it v acc env) (fun _ s₂=>codeAny (model pw w) A (lpC e it acc env) R s₂) noE s₁) noE s):codeAny (model pw w) A (lpC e it acc env) R s:=by
  subst he
  refine codeAny_of_tree ?_
  show wpAny _ (A.under _) ((compTurn (.ListComp elt [⟨target,iter,[],0⟩] scope pos) 0 it acc env).onRaise (fun x=>do noteFrame x env;theTreesLotGoes x)) _ _ s
  rw [Around.under_of_weight rfl]
  refine wpAny_onRaise (wpAny_mono (E:=noE) ?_ (fun _ _ z=>z) fun _ _ z=>z.elim)
  rw [compTurn_list1]
  refine af (wpAny_standAt (af (wpAny_mono h (fun r s₁ h₁=> ?_) fun _ _ z=>z)))
  cases r with
  |none=>exact wpAny_pure h₁
  |some v=>
    unfold lcF0 at h₁
    rw [←PySem.W.Fast.te1578499551869305889,←PySem.W.Fast.te17772580674575903948,←evF_eq] at h₁
    intro Γ p hΓ
    have z:=h₁ Γ p hΓ
    simp only [Sem.wp_bind'] at z⊢
    refine Sem.wp_mono _ Γ _ (fun _ p' s' z=> ?_) (fun _ _ _ z=>z) _ _ z
    refine Sem.wp_mono _ Γ _ (fun _ p' s' z=> ?_) (fun _ _ _ z=>z) _ _ z
    refine Sem.wp_mono _ Γ _ (fun _ p' s' z=> ?_) (fun _ _ _ z=>z) _ _ z
    refine Sem.wp_mono _ Γ _ (fun _ p' s' z=> ?_) (fun _ _ _ z=>z) _ _ z
    exact ⟨rfl,z⟩
theorem cD{e:Expr}(he:e= .ListComp elt [⟨target,iter,[c],0⟩] scope pos)
    (h:wpAny (model pw w) A (pyNext it) (fun r s₁=>match r with
      |none=>R (.ok .next) s₁
      |some v=>wpAny (model pw w) A (lcF1 e it v acc env) (fun _ s₂=>codeAny (model pw w) A (lpC e it acc env) R s₂) noE s₁) noE s):codeAny (model pw w) A (lpC e it acc env) R s:=by
  subst he
  refine codeAny_of_tree ?_
  show wpAny _ (A.under _) ((compTurn (.ListComp elt [⟨target,iter,[c],0⟩] scope pos) 0 it acc env).onRaise (fun x=>do noteFrame x env;theTreesLotGoes x)) _ _ s
  rw [Around.under_of_weight rfl]
  refine wpAny_onRaise (wpAny_mono (E:=noE) ?_ (fun _ _ z=>z) fun _ _ z=>z.elim)
  rw [compTurn_list]
  refine af (wpAny_standAt (af (wpAny_mono h (fun r s₁ h₁=> ?_) fun _ _ z=>z)))
  cases r with
  |none=>exact wpAny_pure h₁
  |some v=>
    unfold lcF1 at h₁
    rw [←PySem.W.Fast.te1578499551869305889,←PySem.W.Fast.te17772580674575903948,←evF_eq,←itF_eq] at h₁
    intro Γ p hΓ
    have z:=h₁ Γ p hΓ
    simp only [Sem.wp_bind'] at z⊢
    refine Sem.wp_mono _ Γ _ (fun _ p' s' z=> ?_) (fun _ _ _ z=>z) _ _ z
    refine Sem.wp_mono _ Γ _ (fun _ p' s' z=> ?_) (fun _ _ _ z=>z) _ _ z
    simp only [List.forIn_cons,List.forIn_nil,if_true,Sem.wp_bind',Sem.wp_pure'] at z⊢
    refine Sem.wp_mono _ Γ _ (fun ok p' s' z=> ?_) (fun _ _ _ z=>z) _ _ z
    cases ok with
    |false=>exact ⟨rfl,z⟩
    |true=>
      rw [if_pos rfl]
      simp only [Sem.wp_bind'] at z⊢
      refine Sem.wp_mono _ Γ _ (fun _ p' s' z=> ?_) (fun _ _ _ z=>z) _ _ z
      refine Sem.wp_mono _ Γ _ (fun _ p' s' z=> ?_) (fun _ _ _ z=>z) _ _ z
      exact ⟨rfl,z⟩
end
noncomputable def bFO(w:ag)(k:Nat):Stmt:=aF (dh w) k
noncomputable def enF(w:ag)(B c0 c1:Nat):Env:=ek w B (c0+322) (c1+322)
noncomputable def cellO(v:Option Value):Obj:=⟨.type "cell",none,.cell v,#[]⟩
noncomputable def dcO(l:List DictEntry)(n:Nat):Obj:=⟨.type "dict",none,.dict l.toArray n,#[]⟩
noncomputable def dcT(P:ae)(τ:Nat→Nat)(f p:Str)(n:Nat):Nat→Obj
  |0=>dcO [] n
  |_=>dcO [en P (S "lead") (τ 0) (.str f (τ 1)),en P (S "word") (τ 2) (.str p (τ 3))] n
noncomputable def eTX(w:ag):Expr:=sT (bFO w 1)
noncomputable def cenv(w:ag)(e:Expr)(C B c0 c1:Nat):Env:=compEnvC (lcS e) [] (C+322) (enF w B c0 c1)
theorem txT{w:ag}{s:aa}{A:ai}{E:Value→aa→Prop}{Q:Unit→aa→Prop}{B c0 c1 C a x m n e1 e2 y1 y2 y3 i il ix k:Nat}{f' p':Str}{tf tp:Tok}{τ:Nat→Nat}{ts:List Value}{z:Bool}(W:KTH w s.heap)(hh:A.handled=none)(room:A.depth+60<recursionLimit)(hi:s.heap.get? (i+322)=some (bE il ix))(hC:s.heap.get? (C+322)=some (dcT w.params τ f' p' n k))(hn:k=0→n=0)(ha:s.heap.get? (a+322)=some (lstO ts m))(hd:s.heap.get? (x+322)=some (aX [.str (cond z (S "") ⟨#[e1,e2]⟩) tf,.str ⟨#[y1,y2,y3]⟩ tp]))(lt:ts.length<20)
    (kk:∀s' τ' n' m' t,Nxt [C+322,a+322] s s'→s'.heap.get? (C+322)=some (dcT w.params τ' (cond z (S "") ⟨#[e1,e2]⟩) ⟨#[y1,y2,y3]⟩ n' 1)→s'.heap.get? (a+322)=some (lstO (ts++[.str (cond z (S "") ⟨#[e1,e2]⟩++⟨#[y1,y2,y3]⟩) t]) m')→Q () s'):
    wpAny (model pw w) A (lcF0 (eTX w) (.ref (i+322)) (.ref (x+322)) (.ref (a+322)) (cenv w (eTX w) C B c0 c1)) Q E s:=by
  obtain ⟨d,_⟩:∃d:Bool,True:=⟨true,trivial⟩
  have cC:(dcT w.params τ f' p' n k).cls= .type "dict":=by cases k<;>rfl
  have nCa:C+322≠a+322:=ne_cls hC ha (by rw [cC];exact cDL)
  have nxC:x+322≠C+322:=ne_cls hd hC (by rw [cC];exact Ne.symm cDT)
  have niC:i+322≠C+322:=ne_cls hi hC (by rw [cC];exact (show Value.type "list_iterator"≠Value.type "dict" by decide))
  have nia:i+322≠a+322:=ne_cls hi ha (show Value.type "list_iterator"≠Value.type "list" by decide)
  have e0:(dcT w.params τ f' p' n k)=dcT w.params τ f' p' (bi k 0 n) k:=by
    cases k with
    |zero=>rw [hn rfl];rfl
    |succ k=>rfl
  rw [e0] at hC
  have sz:(ts:List Value).toArray.size≤sizeLine:=by rw [List.size_toArray];exact ad (au lt) (by decide)
  have s2:(cond z (S "") ⟨#[e1,e2]⟩++⟨#[y1,y2,y3]⟩:Str).length≤sizeLine:=by
    cases z
    · show 5≤2^24;decide
    · show 3≤2^24;decide
  refine segU [C+322,a+322] [(x+322,_),(i+322,_)] 60 W hh (.cons hC (.cons ha .nil)) (.cons hd (.cons hi .nil)) (High.cons (.inl (ab _ _)) (High.one (ab _ _))) (List.nodup_cons.mpr ⟨notin1 nCa,az _⟩) (djc (notin2 nxC (ne_cls hd ha (Ne.symm cLT))) (dj1 (notin2 niC nia))) room rfl [] fun A₀ c Q1 hQ1 uA₀=> ?_
  refine am (f:= .next) 72 0x4100d200410000001400400040004000400040004000440042004200010042004200000042004200420042000100420042000000420042004200420001004200420000004200420042000000010001000100010002 [0,1] [((ts:List Value).toArray.size≤sizeLine),((cond z (S "") ⟨#[e1,e2]⟩++⟨#[y1,y2,y3]⟩:Str).length≤sizeLine)] [some (dcT w.params (tk [bi k s.toks (τ 0),tf,bi k (s.toks+1) (τ 2),tp]) (cond z (S "") ⟨#[e1,e2]⟩) ⟨#[y1,y2,y3]⟩ (bi k 2 n) 1),some (lstO (ts++[.str (cond z (S "") ⟨#[e1,e2]⟩++⟨#[y1,y2,y3]⟩) (cond z tp (s.toks+2))]) (m+1))] 5 (cond z 2 3) (by apply elq Q1 _ hQ1;apply wW ?_ w;intro w b;apply q4 ?_ b z d k;intro b d e;cases b<;>cases d<;>cases e<;>exact ⟨by kernel_rfl,fun k=>by kernel_rfl⟩) (side_cons sz (side_cons s2 no_side)) fun s1 x1 g1=> ?_
  exact kk s1 _ _ _ _ x1 (g1 0) (g1 1)
noncomputable def bf(L:List (Str×Str)):List Str:=L.map fun x=>x.1++x.2
theorem Wrd.form{f p:Str}(h:Wrd f p):∃z e1 e2 y1 y2 y3,f=cond z (S "") ⟨#[e1,e2]⟩∧p=⟨#[y1,y2,y3]⟩:=by
  obtain ⟨⟨c1,c2,c3,e,_⟩,g⟩:=h
  rcases g with g|⟨e1,e2,g,_⟩
  · exact ⟨true,0,0,c1,c2,c3,g,e⟩
  · exact ⟨false,e1,e2,c1,c2,c3,g,e⟩
theorem cP{D:List PD}{j:Nat}{d:PD}(h:D[j]? =some d):(refsD D).toArray[j]? =some (.ref (d.a+322)):=by
  unfold refsD
  rw [List.getElem?_toArray,aI,h];rfl
theorem dc{D:List PD}{j:Nat}(h:D.length≤j):(refsD D).toArray[j]? =none:=by
  unfold refsD
  rw [List.getElem?_toArray,List.getElem?_eq_none (by rw [ak];exact h)]
theorem cLI:Value.type "list_iterator"≠Value.type "list":=by decide
theorem cDI:Value.type "dict"≠Value.type "list_iterator":=by decide
theorem cTI:Value.type "tuple"≠Value.type "list_iterator":=by decide
theorem tx_loop{w:ag}{A:ai}{R:Result→aa→Prop}{B c0 c1 C a i il m0:Nat}{DS:List PD}(hh:A.handled=none)(room:A.depth+60<recursionLimit)(ok:eH (fp DS))(l8:DS.length<8)(nal:a≠il):
    ∀(ds:List PD) (j n k m:Nat) (f' p':Str) (L:List (Str×Tok)) {s:aa} {τ:Nat→Nat},DS.drop j=ds→L.map (·.1)=bf (fp (DS.take j))→KTH w s.heap→Pts s.heap DS→s.heap.get? (il+322)=some (lstO (refsD DS) m0)→s.heap.get? (i+322)=some (bE (il+322) j)→s.heap.get? (C+322)=some (dcT w.params τ f' p' n k)→(k=0→n=0)→s.heap.get? (a+322)=some (lstO (strValues L) m)→(ds=[]→k=1)→
      (∀s' τ f' p' n m L,Nxt [i+322,C+322,a+322] s s'→s'.heap.get? (C+322)=some (dcT w.params τ f' p' n 1)→L.map (·.1)=bf (fp DS)→s'.heap.get? (a+322)=some (lstO (strValues L) m)→R (.ok .next) s')→
      codeAny (model pw w) A (lpC (eTX w) (.ref (i+322)) (.ref (a+322)) (cenv w (eTX w) C B c0 c1)) R s
  |[],j,n,k,m,f',p',L,s,τ,hj,hL,W,hp,hl,hi,hC,hn,ha,k1,kk=>by
    have lj:DS.length≤j:=List.drop_eq_nil_iff.mp hj
    have cC:(dcT w.params τ f' p' n k).cls= .type "dict":=by cases k<;>rfl
    have nC:C+322∉[i+322]:=notin1 (ne_cls hC hi (by rw [cC];exact cDI))
    have na:a+322∉[i+322]:=notin1 (ne_cls ha hi (Ne.symm cLI))
    refine cE rfl (dY hh hi hl (dc lj) fun s1 x1=> ?_)
    rw [List.take_of_length_le lj] at hL
    obtain rfl:=k1 rfl
    exact kk s1 τ f' p' n m L (x1.weak (ao (by simp))) (x1.keep hC nC) hL (x1.keep ha na)
  |d::ds,j,n,k,m,f',p',L,s,τ,hj,hL,W,hp,hl,hi,hC,hn,ha,k1,kk=>by
    have hj':=ch hj
    have cC:(dcT w.params τ f' p' n k).cls= .type "dict":=by cases k<;>rfl
    have nC:C+322∉[i+322]:=notin1 (ne_cls hC hi (by rw [cC];exact cDI))
    have na:a+322∉[i+322]:=notin1 (ne_cls ha hi (Ne.symm cLI))
    have nl:il+322∉[i+322]:=notin1 (ne_cls hl hi (Ne.symm cLI))
    have nl2:il+322∉[C+322,a+322]:=notin2 (ne_cls hl hC (by rw [cC];exact Ne.symm cDL)) (fun e=>nal (Nat.add_right_cancel e).symm)
    have ni:i+322∉[C+322,a+322]:=notin2 (ne_cls hi hC (by rw [cC];exact Ne.symm cDI)) (ne_cls hi ha cLI)
    have hd:d∈DS:=aM hj'.1
    obtain ⟨z,e1,e2,y1,y2,y3,ef,ep⟩:=(cm ok hd).form
    have lL:L.length=j:=by
      have:=congrArg List.length hL
      rw [ak] at this
      rw [this]
      unfold bf
      rw [ak,bQ,List.length_take]
      exact Nat.min_eq_left (au (List.getElem?_eq_some_iff.mp hj'.1).1)
    refine cE rfl (de hi hl (cP hj'.1) fun s1 x1 i1=> ?_)
    have W1:=W.nxt x1 (High.one (ab _ _))
    have p1:=hp.off1 x1 hi (Ne.symm cTI)
    have td:=p1 d hd
    unfold PD.o at td
    rw [ef,ep] at td
    refine txT (z:=z) (k:=k) W1 hh room i1 (x1.keep hC nC) hn (x1.keep ha na) td (by unfold strValues;rw [ak,lL];exact aC (List.getElem?_eq_some_iff.mp hj'.1).1 (aC l8 (by decide))) fun s2 τ2 n2 m2 t x2 g2 a2=> ?_
    have x02:Nxt [i+322,C+322,a+322] s s2:=(x1.weak (ao (by simp))).trans (x2.weak (ao (by simp)))
    rw [←ef,←ep] at a2
    have ea:strValues L++[.str (d.f++d.p) t]=strValues (L++[(d.f++d.p,t)]):=by unfold strValues;rw [List.map_append];rfl
    rw [ea] at a2
    have hM:High [C+322,a+322]:=High.cons (.inl (ab _ _)) (High.one (ab _ _))
    refine tx_loop hh room ok l8 nal ds (j+1) n2 1 m2 _ _ (L++[(d.f++d.p,t)]) hj'.2 ?_ (W1.nxt x2 hM) (p1.off x2 fun b hb=> ?_) (x2.keep (x1.keep hl nl) nl2) (x2.keep i1 ni) g2 (fun h=>absurd h (by decide)) a2 (fun _=>rfl) fun s' τ f' p' n m L X=>kk s' τ f' p' n m L (x02.trans X)
    · rw [List.map_append,hL,List.take_add_one,hj'.1,cv]
      unfold bf
      rw [List.map_append];rfl
    · rcases List.mem_cons.mp hb with rfl|hb
      · exact ⟨_,x1.keep hC nC,by rw [cC];exact cDT⟩
      · rw [List.mem_singleton.mp hb];exact ⟨_,x1.keep ha na,cLT⟩
noncomputable def zE(P:ae)(τ:Nat→Nat):List Str→List Value→Nat→List DictEntry
  |n::ns,v::vs,i=>en P n (τ i) v::zE P τ ns vs (i+1)
  |_,_,_=>[]
noncomputable def nmN:List Str:=[S "line",S "begin",S "behind",S "drawn",S "head",S "late",S "squares",S "due",S "texts",S "last",S "width",S "form",S "lead",S "word",S "rows",S "many",S "often",S "b",S "a",S "d",S "c",S "first",S "second",S "whole",S "x",S "y",S "z",S "number"]
noncomputable def nmL:List Str:=[S "line",S "begin",S "behind",S "drawn",S "head",S "late",S "squares",S "due",S "texts",S "last",S "width",S "form",S "lead",S "word",S "rows",S "told",S "whole"]
noncomputable def fFO(P:ae)(τ:Nat→Nat)(nm:List Str)(V:List Value):Obj:=frO (zE P τ nm V 0)
structure FoG where
  li:Nat
  rk:Nat
  dr:Nat
  sq:Nat
  bg:Nat
  bh:Nat
  H:Nat
  la:Nat
  mks:Str
  due:Int
noncomputable def b4(G:FoG)(σ:Nat→Nat):List Value:=[.ref (G.li+322),.int (U G.bg) (σ 1),.int (U G.bh) (σ 2),.ref (G.dr+322)]
noncomputable def b8(G:FoG)(σ:Nat→Nat):List Value:=b4 G σ++[.int (U G.H) (σ 4),.int (U G.la) (σ 5),.ref (G.sq+322),.int G.due (σ 7)]
noncomputable def drO(G:FoG)(t0 t1 t2 t3:Nat):Obj:=aX [.int (U G.H) t0,.int (U G.la) t1,.str G.mks t2,.ref (G.sq+322),.int G.due t3]
theorem comp_start{w:ag}{A:ai}{s:aa}{R:Result→aa→Prop}{elt target iter:Expr}{ifs:List Expr}{rest:List Comprehension}{scope:Scope}{pos:Pos}{acc:Value}{env:Env}{e:Expr}{cl:List (Str×Addr)}{C i l j:Nat}(he:e= .ListComp elt (⟨target,iter,ifs,0⟩::rest) scope pos)(hi:s.heap.IsListIter i l j)
    (h:codeAny (model pw w) A (lpC e (.ref i) acc (compEnvC (lcS e) cl C env)) R s):codeAny (model pw w) A (cmpC e (.ref i) acc cl C env) R s:=by
  subst he
  exact codeAny_compStart_list h (wpAny_pyIter_listiter hi h)
noncomputable def slD{α:Type}(D:List α)(a b:Nat):List α:=(D.drop a).take (b - a)
theorem dN{D:List PD}{a b:Nat}(h:a≤b)(l:b≤D.length):(slicePick (refsD D).toArray (some (U a)) (some (U b)) none).toList=refsD (slD D a b):=by
  have:=slicePick_run (refsD D).toArray a b (by rw [List.size_toArray];unfold refsD;rw [ak];exact l) h
  rw [show (some (U a))=some (a:Int) from rfl,show (some (U b))=some (b:Int) from rfl,this]
  unfold refsD slD
  rw [List.map_take,List.map_drop]
theorem bH{α:Type}{D:List α}{a b:Nat}{d:α}(h:d∈slD D a b):d∈D:=List.mem_of_mem_drop (List.mem_of_mem_take h)
theorem slD_len{α:Type}{D:List α}{a b:Nat}(h:a≤b)(l:b≤D.length):(slD D a b).length=b - a:=by
  unfold slD
  rw [List.length_take,List.length_drop]
  lia
theorem slD_fp(D:List PD)(a b:Nat):fp (slD D a b)=slD (fp D) a b:=by
  unfold fp slD
  rw [List.map_take,List.map_drop]
theorem cCF:Value.type "cell"≠Value.type "frame":=by decide
theorem foA{w:ag}{s:aa}{A:ai}{E:Value→aa→Prop}{Q:Flow→aa→Prop}{B c0 c1 t0 t1 t2 t3:Nat}{G:FoG}{τ σ:Nat→Nat}(W:KTH w s.heap)(hh:A.handled=none)(room:A.depth+60<recursionLimit)(hB:322≤B)(hf:s.heap.get? B=some (fFO w.params τ nmN (b4 G σ)))(h1:s.heap.get? (c1+322)=some (cellO none))(hd:s.heap.get? (G.dr+322)=some (drO G t0 t1 t2 t3))
    (kk:∀s' τ' σ' t,Nxt [B,c1+322] s s'→s'.heap.get? B=some (fFO w.params τ' nmN (b8 G σ'))→s'.heap.get? (c1+322)=some (cellO (some (.str G.mks t)))→Q .next s'):
    wpAny (model pw w) A (execs [bFO w 0] (enF w B c0 c1)) Q E s:=by
  have nB:B≠c1+322:=ne_cls hf h1 (Ne.symm cCF)
  refine aT [B,c1+322] [(G.dr+322,_)] 60 W hh (.cons hf (.cons h1 .nil)) (.cons hd .nil) (High.cons (.inl hB) (High.one (ab _ _))) (List.nodup_cons.mpr ⟨notin1 nB,az _⟩) (dj1 (notin2 (ne_cls hd hf (Ne.symm cFT)) (ne_cls hd h1 (show Value.type "tuple"≠Value.type "cell" by decide)))) room rfl [] fun A₀ c Q1 hQ1 uA₀=> ?_
  refine am (f:= .next) 112 0x4000400040004000410041004000400040004000440042004200010042004200000042004200420042000100420042000000420042004200420001004200420000004200420042004200010042004200000042004200420042000100420042000000420042004200420001004200420000004200420042000000010001000100010040 [0,1] [] [some (fFO w.params (tk [τ 0,τ 1,τ 2,τ 3,s.toks,s.toks+1,s.toks+2,s.toks+3]) nmN (b8 G (tk [0,σ 1,σ 2,0,t0,t1,0,t3]))),some (cellO (some (.str G.mks t2)))] 5 4 (by apply cW1 Q1 w<;>first|apply hQ1|(intro w;kernel_rfl)) no_side fun s1 x1 g1=>kk s1 _ _ _ x1 (g1 0) (g1 1)
theorem foB{w:ag}{s:aa}{A:ai}{E:Value→aa→Prop}{Q:Flow→aa→Prop}{B c0 c1 m:Nat}{G:FoG}{τ σ:Nat→Nat}{D:List PD}(W:KTH w s.heap)(hh:A.handled=none)(room:A.depth+80<recursionLimit)(hB:322≤B)(hf:s.heap.get? B=some (fFO w.params τ nmN (b8 G σ)))(hl:s.heap.get? (G.li+322)=some (lstO (refsD D) m))(hp:Pts s.heap D)(ok:eH (fp D))(l8:D.length<8)(hbb:G.bg<G.bh)(hb:G.bh≤D.length)
    (kk:∀s' τ' tx L m',Nxt [B] s s'→s.heap.objs.size≤tx+322→s'.heap.get? B=some (fFO w.params τ' nmN (b8 G σ++[.ref (tx+322)]))→s'.heap.get? (tx+322)=some (lstO (strValues L) m')→L.map (·.1)=bf (fp (slD D G.bg G.bh))→Q .next s'):
    wpAny (model pw w) A (execs [bFO w 1] (enF w B c0 c1)) Q E s:=by
  refine aT [B] [(G.li+322,_)] 60 W hh (.cons hf .nil) (.cons hl .nil) (High.one hB) (az _) (dj1 (notin1 (ne_cls hl hf (Ne.symm cFL)))) (rmz room rfl) rfl [] fun A₀ c Q1 hQ1 uA₀=> ?_
  refine av (c':=(.call (.builtin "list.__getitem__") ⟨[.ref (G.li+322),.ref s.heap.objs.size],[]⟩)) (d:=0) (u:=10) 12 0x100010001004000400040 [0,1] [] [some (fFO w.params τ nmN (b8 G σ)),some (⟨.type "slice",none,.fields #[.int (U G.bg) (σ 1),.int (U G.bh) (σ 2),.none],#[]⟩)] 2 0 (by apply cW1 Q1 w<;>first|apply hQ1|(intro w;kernel_rfl)) no_side fun s1 x1 g1 A' R' hA dA uA res=> ?_
  have dA:A'.depth≤A.depth+0:=dA
  have W1:=W.nxt x1 (High.one hB)
  have f1:s1.heap.get? B=_:=(g1 0)
  have l1:=x1.keep hl (notin1 (ne_cls hl hf (Ne.symm cFL)))
  refine bl (lo:=some (U G.bg)) (hi:=some (U G.bh)) W1 hA (rm room dA rfl) l1 ⟨_,(g1 1),rfl,rfl⟩ (.int _ _) (.int _ _) (by unfold refsD;rw [ak];exact ad (au l8) (by decide)) fun s2 r x2 hr r2=> ?_
  obtain ⟨r,rfl⟩:∃r',r=r'+322:=(aW (ad W1.2 (by assumption)))
  have W2:=W1.nxt x2 ac
  refine Rsm.go (lim:=60) res [B] [(r+322,_)] W2 (.cons (x2.keep0 f1) .nil) (.cons r2 .nil) (High.one hB) (az _) (dj1 (notin1 (ne_cls r2 (x2.keep0 f1) (Ne.symm cFL)))) (rmz room rfl) rfl [] fun Q2 hQ2=> ?_
  refine av (c':=cmpC (eTX w) (.ref s2.heap.objs.size) (.ref (s2.heap.objs.size+1)) [] (s2.heap.objs.size+2) (enF w B c0 c1)) (d:=0) (u:=10) 14 0x410000000100010001 [0,1,2,3] [] [some (fFO w.params τ nmN (b8 G σ)),some (bE (r+322) 0),some (lstO [] 0),some (dcO [] 0)] 4 0 (by apply cW2 Q2 Q1 w<;>first|apply hQ2|apply hQ1|(intro w;kernel_rfl)) no_side fun s3 x3 g3 A2 R2 hA2 dA2 uA2 res2=> ?_
  have dA2:A2.depth≤A.depth+0:=dA2
  obtain ⟨i,hi⟩:∃i,s2.heap.objs.size=i+322:=(aW W2.2)
  have f3:s3.heap.get? B=_:=(g3 0)
  have i3:s3.heap.get? s2.heap.objs.size=_:=(g3 1)
  have a3:s3.heap.get? (s2.heap.objs.size+1)=_:=(g3 2)
  have C3:s3.heap.get? (s2.heap.objs.size+2)=_:=(g3 3)
  have ea:s2.heap.objs.size+1=(i+1)+322:=by rw [hi]
  have eC:s2.heap.objs.size+2=(i+2)+322:=by rw [hi]
  rw [hi] at i3
  rw [ea] at a3
  rw [eC] at C3
  rw [hi,show i+322+1=(i+1)+322 by lia,show i+322+2=(i+2)+322 by lia]
  have W3:=W2.nxt x3 (High.one hB)
  have nr:r+322∉[B]:=notin1 (ne_cls r2 (x2.keep0 f1) (Ne.symm cFL))
  rw [dN (au hbb) hb] at r2
  have hp3:Pts s3.heap (slD D G.bg G.bh):=fun d h=>x3.keep (x2.keep0 (x1.keep (hp d (bH h)) (notin1 (ne_cls (hp d (bH h)) hf (Ne.symm cFT))))) (notin1 (ne_cls (hp d (bH h)) hf (Ne.symm cFT)))
  have ls:(slD D G.bg G.bh).length=G.bh - G.bg:=slD_len (au hbb) hb
  have hne:slD D G.bg G.bh≠[]:=fun e=>by rw [e] at ls;have:0=G.bh - G.bg:=ls;lia
  have lr:r+322<i+322:=hi▸an r2
  refine comp_start rfl (i:=i+322) ⟨_,i3,rfl,rfl⟩ (tx_loop (DS:=slD D G.bg G.bh) (il:=r) hA2 (rm room dA2 rfl) (fun x hx=>ok x (bH (slD_fp D _ _▸hx))) (by rw [ls];lia) (by lia) _ 0 0 0 0 (S "") (S "") [] (τ:=tk []) rfl rfl W3 hp3 (x3.keep r2 nr) i3 C3 (fun _=>rfl) a3 (fun h=>absurd h hne) fun s4 τ4 f4' p4' n4 m4 L x4 C4 hL a4=> ?_)
  have W4:=W3.nxt x4 (High.cons (.inl (ab _ _)) (High.cons (.inl (ab _ _)) (High.one (ab _ _))))
  have lB:B<i+322:=hi▸an (x2.keep0 f1)
  have n3:B∉[i+322,i+2+322,i+1+322]:=d9 (ay lB) (ay (ah lB (by lia))) (ay (ah lB (aK _)))
  rw [←eC] at C4
  rw [←ea] at a4
  have nBC:B∉[s2.heap.objs.size+2]:=notin1 (ay (ah (an (x2.keep0 f1)) (aw _ _)))
  have naB:s2.heap.objs.size+1∉[B,s2.heap.objs.size+2]:=notin2 (aJ (ah (an (x2.keep0 f1)) (aw _ _))) (ay (aO _))
  have hM4:High [B,s2.heap.objs.size+2]:=High.cons (.inl hB) (High.one (ad W2.2 (aw _ _)))
  refine Rsm.go (lim:=60) res2 [B,s2.heap.objs.size+2] [(s2.heap.objs.size+1,_)] W4 (.cons (x4.keep f3 n3) (.cons C4 .nil)) (.cons a4 .nil) hM4 (List.nodup_cons.mpr ⟨nBC,az _⟩) (dj1 naB) (rmz room rfl) rfl [] fun Q3 hQ3=> ?_
  refine am (f:= .next) 18 0x410041004100410041004100400040 [0] [] [some (fFO w.params (tk [τ 0,τ 1,τ 2,τ 3,τ 4,τ 5,τ 6,τ 7,s4.toks]) nmN (b8 G σ++[.ref (s2.heap.objs.size+1)]))] 2 1 (by apply cW3 Q3 Q2 Q1 w<;>first|apply hQ3|apply hQ2|apply hQ1|(intro w;kernel_rfl)) no_side fun s5 x5 g5=> ?_
  have f5:s5.heap.get? B=_:=(g5 0)
  rw [ea] at f5
  have a5:=x5.keep a4 naB
  rw [ea] at a5
  have l2:s.heap.objs.size≤s2.heap.objs.size:=ad x1.heap.size x2.heap.size
  have X:Nxt [s2.heap.objs.size+2,i+322,i+1+322,B] s s5:=(x1.weak (ao (by simp))).trans (x2.nil.trans ((x3.weak (ao (by simp))).trans ((eC▸x4:Nxt [i+322,s2.heap.objs.size+2,i+1+322] s3 s4).weak (ao (by simp))|>.trans (x5.weak (ao (by simp))))))
  have X:=((X.drop (ad l2 (aw _ _))).drop (hi▸l2)).drop (ea▸ad l2 (aw _ _))
  exact kk s5 _ (i+1) L m4 X (ea▸ad l2 (aw _ _)) f5 a5 hL
theorem lst_last{w:ag}{s:aa}{A:ai}{R:Result→aa→Prop}{l n:Nat}{u:Tok}{xs:List Value}{y:Value}(hl:s.heap.get? l=some (lstO (xs++[y]) n))(h:R (.ok (.ret y)) s):
    codeAny (model pw w) A (.call (.builtin "list.__getitem__") ⟨[.ref l,.int (-1) u],[]⟩) R s:=by
  have hT:s.TypeIs (.ref l) "list":=⟨_,hl,rfl⟩
  have hz:(xs++[y]).toArray.size=xs.length+1:=by rw [List.size_toArray,aA];rfl
  have hx:(xs++[y]).toArray[(-1+((xs++[y]).toArray.size:Int)).toNat]? =some y:=by
    rw [hz,show (-1+((xs.length+1:Nat):Int)).toNat=xs.length by lia]
    simp
  refine codeAny_call_builtin F.slot_list_getitem.plain F.entry_list_getitem (F.slot_list_getitem.check _ _ _ _ _ _ _ _ hT (F.args_list_getitem_2 _ _) ?_)
  show wpAny _ _ (Builtin.List.listSubscript? (.int (-1) u)>>=_) _ _ s
  refine af (wpAny_listSubscript_int (fitsIndex_neg (by decide) (by decide)) ?_)
  have hidx:=seqIndex_neg (k:= -1) (n:=(xs++[y]).toArray.size) (by decide) (by rw [hz];lia)
  show wpAny _ _ ((Builtin.List.listItems (.ref l)>>=fun xs=>pure ((seqIndex? (Int.negSucc 0) xs.size).bind fun i=>xs[i]?.map (i, ·)))>>=_) _ _ s
  refine af (af ?_)
  show wpAny _ _ (seqItems? (.ref l)>>=_) _ _ s
  refine af (wpAny_seqItems hl rfl (wpAny_pure (wpAny_pure ?_)))
  have e:(Int.negSucc 0)= -1:=rfl
  rw [e,hidx]
  simp only [Option.bind_some,hx,Option.map_some]
  exact wpAny_pure h
theorem len_str{w:ag}{s:aa}{A:ai}{R:Result→aa→Prop}{x:Str}{t:Tok}(l:x.length<2^20)
    (k:∀s' u,Nxt [] s s'→R (.ok (.ret (.int (U x.length) u))) s'):codeAny (model pw w) A (.call (.builtin "len") ⟨[.str x t],[]⟩) R s:=by
  refine codeAny_of_tree ?_
  show wpAny _ A.in1 (do checkBuiltinCall "len" ⟨[.str x t],[]⟩;again (.builtin "len" ⟨[.str x t],[]⟩)) _ _ s
  refine af (wpAny_of_eq (args_len1 _) (wpAny_pure ⟨plainId_quiet plain_len _,codeAny_builtin entry_len ?_⟩))
  rw [Around.under_plainId plain_len]
  unfold Builtin.«len»
  refine af (m:=oneArg "len" _) (wpAny_pure ?_)
  refine af (m := callSpecial? (.str x t) (Str.ofString "__len__")) (wpAny_callSpecial?_slot (name := Str.ofString "__len__") (typeIs_str s x t) slot_str_len
    (wpAny_call_entry slot_str_len (typeIs_str s x t) entry_str_len ?_ (args_str_len _)))
  show wpAny _ _ (retInt x.length) _ _ s
  refine af (wpAny_mkInt (wpAny_pure ⟨_,rfl,?_⟩))
  refine af (wpAny_holding (wpAny_pure ?_))
  refine af (wpAny_letGo ?_)
  show wpAny _ _ (if ((x.length:Nat):Int)<0 then _ else _) _ _ _
  rw [if_neg (by lia)]
  show wpAny _ _ (if ((x.length:Nat):Int)≥2^63 then _ else _) _ _ _
  rw [if_neg (by lia)]
  exact af (wpAny_mkInt (wpAny_pure (k _ _ ⟨Ext.refl _ _,GX.refl _,rfl,rfl⟩)))
noncomputable def wdP(G:FoG)(J x:Str):Int:=((U G.H+U J.length) - U x.length)+(U G.la * (U x.length - 1))
theorem foC{w:ag}{s:aa}{A:ai}{E:Value→aa→Prop}{Q:Flow→aa→Prop}{B c0 c1 tx m tl tmk:Nat}{G:FoG}{τ σ:Nat→Nat}{L:List (Str×Tok)}{x:Str}(W:KTH w s.heap)(hh:A.handled=none)(room:A.depth+130<recursionLimit)(hB:322≤B)(hf:s.heap.get? B=some (fFO w.params τ nmN (b8 G σ++[.ref (tx+322)])))(ht:s.heap.get? (tx+322)=some (lstO (strValues (L++[(x,tl)])) m))(l8:L.length<8)(lla:G.la<4)(lx:x.length<2^20)(hc:s.heap.get? (c1+322)=some (cellO (some (.str G.mks tmk))))(ok:JoinOk (S "") ((L++[(x,tl)]).map (·.1))=true)(lJ:(Txt.join (S "") ((L++[(x,tl)]).map (·.1))).length<2^20)
    (kk:∀s' τ' v y l a d t3 t4,Nxt [B] s s'→s.heap.objs.size≤v+322→s.heap.objs.size≤y+322→s.heap.objs.size≤l+322→s.heap.objs.size≤a+322→s.heap.objs.size≤d+322→s'.heap.get? B=some (fFO w.params τ' nmN (b8 G σ++[.ref (tx+322),.int (U x.length) t3,.int (wdP G (Txt.join (S "") ((L++[(x,tl)]).map (·.1))) x) t4,.ref (v+322)]))→VF w.params s'.heap v y l a d (wdP G (Txt.join (S "") ((L++[(x,tl)]).map (·.1))) x) G.mks [] [] G.H→Q .next s'):
    wpAny (model pw w) A (execs [bFO w 2,bFO w 3,bFO w 4] (enF w B c0 c1)) Q E s:=by
  have nt:=notin1 (ne_cls ht hf (Ne.symm cFL))
  have nc:=notin1 (ne_cls hc hf cCF)
  refine aT [B] [(tx+322,_)] 60 W hh (.cons hf .nil) (.cons ht .nil) (High.one hB) (az _) (dj1 nt) (rmz room rfl) rfl [] fun A₀ c Q1 hQ1 uA₀=> ?_
  refine av (c':=(.call (.builtin "list.__getitem__") ⟨[.ref (tx+322),.int (-1) (s.toks+1)],[]⟩)) (d:=0) (u:=10) 16 0x1000100010000004000000000 [0] [] [some (fFO w.params τ nmN (b8 G σ++[.ref (tx+322)]))] 1 2 (by apply cW1 Q1 w<;>first|apply hQ1|(intro w;kernel_rfl)) no_side fun s1 x1 g1 A' R' hA dA uA res=> ?_
  have dA:A'.depth≤A.depth+0:=dA
  have f1:s1.heap.get? B=_:=(g1 0)
  have t1:=x1.keep ht nt
  have eL:strValues (L++[(x,tl)])=strValues L++[.str x tl]:=by unfold strValues;rw [List.map_append];rfl
  refine lst_last (xs:=strValues L) (y:= .str x tl) (eL▸t1) ?_
  have W1:=W.nxt x1 (High.one hB)
  have c1':=x1.keep hc nc
  refine Rsm.go (lim:=60) res [B] [(tx+322,_)] W1 (.cons f1 .nil) (.cons t1 .nil) (High.one hB) (az _) (dj1 nt) (rmz room rfl) rfl [] fun Q2 hQ2=> ?_
  refine av (c':=(.call (.builtin "len") ⟨[.str x tl],[]⟩)) (d:=0) (u:=10) 1 0x0 [0] [] [some (fFO w.params τ nmN (b8 G σ++[.ref (tx+322)]))] 1 0 (by apply cW2 Q2 Q1 w<;>first|apply hQ2|apply hQ1|(intro w;kernel_rfl)) no_side fun s2 x2 g2 A' R' hA dA uA res2=> ?_
  have f2:s2.heap.get? B=_:=(g2 0)
  refine len_str lx fun s3 t3 x3=> ?_
  have W3:=W1.nxt (x2.trans x3.nil) (High.one hB)
  refine Rsm.go (lim:=60) res2 [B] [(tx+322,_)] W3 (.cons (x3.keep0 f2) .nil) (.cons (x3.keep0 (x2.keep t1 nt)) .nil) (High.one hB) (az _) (dj1 nt) (rmz room rfl) rfl [] fun Q3 hQ3=> ?_
  refine av (c':=(.call (.builtin "str.join") ⟨[.str (S "") (s3.toks+1),.ref (tx+322)],[]⟩)) (d:=0) (u:=10) 20 0x4000000000004000400040 [0] [] [some (fFO w.params (tk [τ 0,τ 1,τ 2,τ 3,τ 4,τ 5,τ 6,τ 7,τ 8,s3.toks]) nmN (b8 G σ++[.ref (tx+322),.int (U (x.length)) t3]))] 1 2 (by apply cW3 Q3 Q2 Q1 w<;>first|apply hQ3|apply hQ2|apply hQ1|(intro w;kernel_rfl)) no_side fun s4 x4 g4 A' R' hA dA uA res3=> ?_
  have f4:s4.heap.get? B=_:=(g4 0)
  have t4':=x4.keep (x3.keep0 (x2.keep t1 nt)) nt
  refine bG (L++[(x,tl)]) t4' ok fun s5 t5 x5=> ?_
  have W5:=W3.nxt (x4.trans x5.nil) (High.one hB)
  obtain ⟨J,eJ⟩:∃J,J=Txt.join (S "") ((L++[(x,tl)]).map (·.1)):=⟨_,rfl⟩
  rw [←eJ] at lJ⊢
  refine Rsm.go (lim:=60) res3 [B] [] W5 (.cons (x5.keep0 f4) .nil) .nil (High.one hB) (az _) dj0 (rmz room rfl) rfl [] fun Q4 hQ4=> ?_
  refine av (c':=(.call (.builtin "len") ⟨[.str J t5],[]⟩)) (d:=0) (u:=10) 2 0x0 [0] [] [some (fFO w.params (tk [τ 0,τ 1,τ 2,τ 3,τ 4,τ 5,τ 6,τ 7,τ 8,s3.toks]) nmN (b8 G σ++[.ref (tx+322),.int (U (x.length)) t3]))] 1 0 (by apply cW4 Q4 Q3 Q2 Q1 w<;>first|apply hQ4|apply hQ3|apply hQ2|apply hQ1|(intro w;kernel_rfl)) no_side fun s6 x6 g6 A' R' hA dA uA res4=> ?_
  have f6:s6.heap.get? B=_:=(g6 0)
  refine len_str lJ fun s7 t7 x7=> ?_
  have W7:=W5.nxt (x6.trans x7.nil) (High.one hB)
  refine Rsm.go (lim:=60) res4 [B] [(c1+322,_)] W7 (.cons (x7.keep0 f6) .nil) (.cons (x7.keep0 (x6.keep (x5.keep0 (x4.keep (x3.keep0 (x2.keep c1' nc)) nc)) nc)) .nil) (High.one hB) (az _) (dj1 nc) (rmz room rfl) rfl [] fun Q5 hQ5=> ?_
  refine av (c':=(.call (.ref 35) ⟨[.ref (s7.heap.objs.size+1),.int (U (G.H)) (σ 4),.int ((((U (G.H))+(U (J.length))) - (U (x.length)))+((U (G.la)) * ((U (x.length)) - 1))) (s7.toks+5),.str (S "\t") (s7.toks+7),.str (G.9) tmk],[]⟩)) (d:=5) (u:=20) 84 0x420000004200000000000000000000000000000000000000000000000000000000000000000000000000000000000000000000000000000000000000000001000000000001004000400000004000400000000300000002000000040040004000000004004000000003 [0,1,2] [True,IntMulOk (U (G.la)) ((U (x.length)) - 1),True,True,True] [some (fFO w.params (tk [τ 0,τ 1,τ 2,τ 3,τ 4,τ 5,τ 6,τ 7,τ 8,s3.toks,s7.toks+6]) nmN (b8 G σ++[.ref (tx+322),.int (U (x.length)) t3,.int ((((U (G.H))+(U (J.length))) - (U (x.length)))+((U (G.la)) * ((U (x.length)) - 1))) (s7.toks+5)])),some (⟨.type "dict",none,.dict #[] 0,#[]⟩),some (⟨.ref 94,(some s7.heap.objs.size),.plain,#[]⟩)] 3 8 (by apply cW5 Q5 Q4 Q3 Q2 Q1 w<;>first|apply hQ5|apply hQ4|apply hQ3|apply hQ2|apply hQ1|(intro w;kernel_rfl)) (side_cons trivial (side_cons (.of_left (natBits (aC lla (by decide)))) (side_cons trivial (side_cons trivial (side_cons trivial no_side))))) fun s8 x8 g8 A' R' hA dA uA res5=> ?_
  have dA:A'.depth≤A.depth+5:=dA
  obtain ⟨i,hi⟩:∃i,s7.heap.objs.size=i+322:=(aW W7.2)
  have f8:s8.heap.get? B=_:=(g8 0)
  have d8:s8.heap.get? s7.heap.objs.size=_:=(g8 1)
  have v8:s8.heap.get? (s7.heap.objs.size+1)=_:=(g8 2)
  have e1:s7.heap.objs.size+1=(i+1)+322:=by rw [hi]
  rw [e1] at v8
  rw [hi] at v8 d8
  rw [e1]
  have W8:=W7.nxt x8 (High.one hB)
  refine vinit_spec W8 hA (rm room dA rfl) v8 d8 fun s9 l y z x9 F9 lz9 yz9 zz9=> ?_
  have lB:B<i+322:=hi▸an (x7.keep0 f6)
  have f9:=x9.keep f8 (notin1 (ay lB))
  refine Rsm.go (lim:=60) res5 [B] [(s7.heap.objs.size+1,_)] (W8.nxt x9 (High.one (ab _ _))) (.cons f9 .nil) (.cons (e1▸F9.hv) .nil) (High.one hB) (az _) (dj1 (notin1 (aJ (Nat.lt_succ_of_lt (an (x7.keep0 f6)))))) (rmz room rfl) rfl [] fun Q6 hQ6=> ?_
  refine am (f:= .next) 9 0x400040 [0] [] [some (fFO w.params (tk [τ 0,τ 1,τ 2,τ 3,τ 4,τ 5,τ 6,τ 7,τ 8,s3.toks,s7.toks+6,s9.toks]) nmN (b8 G σ++[.ref (tx+322),.int (U (x.length)) t3,.int ((((U (G.H))+(U (J.length))) - (U (x.length)))+((U (G.la)) * ((U (x.length)) - 1))) (s7.toks+5),.ref (s7.heap.objs.size+1)]))] 1 1 (by apply cW6 Q6 Q5 Q4 Q3 Q2 Q1 w<;>first|apply hQ6|apply hQ5|apply hQ4|apply hQ3|apply hQ2|apply hQ1|(intro w;kernel_rfl)) no_side fun s10 x10 g10=> ?_
  have l7:s.heap.objs.size≤s7.heap.objs.size:=ad (ad x1.heap.size x2.heap.size) (ad (ad x3.heap.size x4.heap.size) (ad x5.heap.size (ad x6.heap.size x7.heap.size)))
  have l8':s.heap.objs.size≤s8.heap.objs.size:=ad l7 x8.heap.size
  have X:Nxt [i+322,B] s s10:=((x1.trans (x2.trans (x3.nil.trans (x4.trans (x5.nil.trans (x6.trans (x7.nil.trans x8))))))).weak (fun _ h=> .tail _ h)).trans ((x9.weak (fun _ h=>(List.mem_singleton.mp h)▸.head _)).trans (x10.weak (fun _ h=> .tail _ h)))
  have f10:s10.heap.get? B=_:=(g10 0)
  rw [e1] at f10
  rw [eJ] at F9 f10
  exact kk s10 _ (i+1) i l y z _ _ (X.drop (hi▸l7)) (e1▸Nat.le_succ_of_le l7) (hi▸l7) (ad l8' lz9) (ad l8' yz9) (ad l8' zz9) f10 (F9.off x10 f9 "frame" rfl (by decide))
noncomputable def b12(G:FoG)(σ:Nat→Nat)(tx:Nat)(a9 a10:Value)(v:Nat):List Value:=b8 G σ++[.ref (tx+322),a9,a10,.ref (v+322)]
noncomputable def fFD(P:ae)(τ σ:Nat→Nat)(G:FoG)(tx:Nat)(a9 a10:Value)(v:Nat)(f p:Str):Nat→Obj
  |0=>frO [en P (S "line") (τ 0) (.ref (G.li+322)),en P (S "begin") (τ 1) (.int (U G.bg) (σ 1)),en P (S "behind") (τ 2) (.int (U G.bh) (σ 2)),en P (S "drawn") (τ 3) (.ref (G.dr+322)),en P (S "head") (τ 4) (.int (U G.H) (σ 4)),en P (S "late") (τ 5) (.int (U G.la) (σ 5)),en P (S "squares") (τ 6) (.ref (G.sq+322)),en P (S "due") (τ 7) (.int G.due (σ 7)),en P (S "texts") (τ 8) (.ref (tx+322)),en P (S "last") (τ 9) (a9),en P (S "width") (τ 10) (a10),en P (S "form") (τ 11) (.ref (v+322))]
  |_=>frO [en P (S "line") (τ 0) (.ref (G.li+322)),en P (S "begin") (τ 1) (.int (U G.bg) (σ 1)),en P (S "behind") (τ 2) (.int (U G.bh) (σ 2)),en P (S "drawn") (τ 3) (.ref (G.dr+322)),en P (S "head") (τ 4) (.int (U G.H) (σ 4)),en P (S "late") (τ 5) (.int (U G.la) (σ 5)),en P (S "squares") (τ 6) (.ref (G.sq+322)),en P (S "due") (τ 7) (.int G.due (σ 7)),en P (S "texts") (τ 8) (.ref (tx+322)),en P (S "last") (τ 9) (a9),en P (S "width") (τ 10) (a10),en P (S "form") (τ 11) (.ref (v+322)),en P (S "lead") (τ 12) (.str f (τ 14)),en P (S "word") (τ 13) (.str p (τ 15))]
theorem fFD_cls{P:ae}{τ σ:Nat→Nat}{G:FoG}{tx:Nat}{a9 a10:Value}{v:Nat}{f p:Str}{k:Nat}:(fFD P τ σ G tx a9 a10 v f p k).cls= .type "frame":=by cases k<;>rfl
theorem fdT{w:ag}{s:aa}{A:ai}{E:Value→aa→Prop}{Q:Flow→aa→Prop}{B c0 c1 tx v x0 i il ix k la ya n:Nat}{tv:Nat→Nat}{Wd:Int}{mk:Str}{a9 a10:Value}{G:FoG}{τ σ:Nat→Nat}{f p f0 p0:Str}{tf tp d:Nat}{mods:List Addr}{I:aa→Prop}(W:KTH w s.heap)(hh:A.handled=none)(room:A.depth+60<recursionLimit)(hB:322≤B)(hf:s.heap.get? B=some (fFD w.params τ σ G tx a9 a10 v f0 p0 k))(hd:s.heap.get? (d+322)=some (aX [.str f tf,.str p tp]))(hv:s.heap.get? (v+322)=some (vfO (x0+322)))(hx:s.heap.get? (x0+322)=some (vfD w.params tv Wd mk la ya n))(hi:s.heap.get? (i+322)=some (bE il ix))(hm:High mods)(nB:B∉mods)(nv:v+322∉mods)
    (call:∀s1 A' R',A'.handled=none→A'.depth≤A.depth+0→A'.units≤A.units+60→Nxt [B] s s1→(∀s2,Nxt mods s1 s2→I s2→R' (.ok (.ret .none)) s2)→codeAny (model pw w) A' (.call (.ref 91) ⟨[.ref (v+322),.str f tf,.str p tp],[]⟩) R' s1)
    (kk:∀s1 s2 s' τ',Nxt [B] s s1→Nxt mods s1 s2→I s2→Nxt [] s2 s'→s'.heap.get? B=some (fFD w.params τ' σ G tx a9 a10 v f p 1)→Q .next s'):
    wpAny (model pw w) A (letOwnedTupleGo (sT (bFO w 5)) (.ref (i+322)) (.ref (d+322))>>=fun _=>assign (sT (bFO w 5)) (enF w B c0 c1) (.ref (d+322))>>=fun _=>execs (sB (bFO w 5)) (enF w B c0 c1)) Q E s:=by
  have nd:=notin1 (ne_cls hd hf (by rw [fFD_cls];exact Ne.symm cFT))
  have ni:=notin1 (ne_cls hi hf (by rw [fFD_cls];exact show Value.type "list_iterator"≠Value.type "frame" by decide))
  have nxB:x0+322∉[B]:=notin1 (ne_cls hx hf (by rw [fFD_cls];exact (show Value.type "dict"≠Value.type "frame" by decide)))
  have nvB:v+322∉[B]:=notin1 (ne_cls hv hf (by rw [fFD_cls];exact cRT _ _))
  refine bL [B] [(d+322,_),(v+322,_),(x0+322,_),(i+322,_)] 60 W hh (.cons hf .nil) (.cons hd (.cons hv (.cons hx (.cons hi .nil)))) (High.one hB) (az _) (djc nd (djc nvB (djc nxB (dj1 ni)))) room rfl [] fun A₀ c Q1 hQ1 uA₀=> ?_
  refine av (c':=(.call (.ref 91) ⟨[.ref (v+322),.str f tf,.str p tp],[]⟩)) (d:=0) (u:=10) 87 0x4000400003000200000000000000000002000000000000000200000000000000020040004000400040004000430041004100010041004100000041004100410041000100410041000000410041004100410001004100410000004100410041000000010001000100010004 [0] [] [some (fFD w.params (tk [τ 0,τ 1,τ 2,τ 3,τ 4,τ 5,τ 6,τ 7,τ 8,τ 9,τ 10,τ 11,bi k s.toks (τ 12),bi k (s.toks+1) (τ 13),tf,tp]) σ G tx a9 a10 v f p 1)] 4 2 (by apply kW1 Q1 w k<;>first|apply hQ1|(intros;kernel_rfl)) no_side fun s1 x1 g1 A' R' hA dA uA res=> ?_
  have f1:s1.heap.get? B=_:=(g1 0)
  have W1:=W.nxt x1 (High.one hB)
  refine call s1 A' R' hA dA (by lia) x1 fun s2 x2 i2=> ?_
  have v2:=x2.keep (x1.keep hv nvB) nv
  refine Rsm.go (lim:=60) res [] [] (W1.nxt x2 hm) .nil .nil ac aD dj0 room rfl [] fun Q2 hQ2=> ?_
  refine am (f:= .next) 1 0x0 [] [] [] 0 0 (by apply kW2 Q2 Q1 w k<;>first|apply hQ2|apply hQ1|(intros;kernel_rfl)) no_side fun s3 x3 _=> ?_
  exact kk s1 s2 s3 _ x1 x2 i2 x3 (x3.keep0 (x2.keep f1 nB))
noncomputable def foldP(L:List (Str×Str))(H:Nat)(mk:Str):List Str×List (Str×Str):=match findP L mk.cps.toList with
  |some i=>([textP (L.take i)],L.drop i)
  |none=>if H=0 then ([],L) else ([textP L.dropLast],[(if (L.getLast?.getD (S "",S "")).1=S "" then S " " else (L.getLast?.getD (S "",S "")).1,(L.getLast?.getD (S "",S "")).2)])
theorem high5{y z l:Nat}:High [y+322,z+322,l+322,140,147]:=High.cons (.inl (ab _ _)) (High.cons (.inl (ab _ _)) (High.cons (.inl (ab _ _)) (High.cons (.inr (.inl rfl)) (High.one' (.inr rfl)))))
theorem VF.n5{P:ae}{h:Heap}{v x l y z:Nat}{Wd:Int}{mk:Str}{ls:List Value}{D:List PD}{H:Nat}(F:VF P h v x l y z Wd mk ls D H){a:Nat}{o:Obj}{T:String}(hb:h.get? a=some o)(l4:322≤a)(hc:o.cls= .type T)(ht:("dict"==T|| "list"==T)=false):a∉[y+322,z+322,l+322,140,147]:=by
  simp only [Bool.or_eq_false_iff,beq_eq_false_iff_ne] at ht
  obtain ⟨n1,hl⟩:=F.hl
  obtain ⟨n2,ha⟩:=F.ha
  obtain ⟨u0,u1,n3,hd⟩:=F.hd
  exact dz (ne_cls hb ha (by rw [hc];exact cTR _ _)) (ne_cls hb hd (by rw [hc];exact fun e=>ht.1 (Value.type.inj e).symm)) (ne_cls hb hl (by rw [hc];exact fun e=>ht.2 (Value.type.inj e).symm)) l4
theorem fd_loop{w:ag}{A:ai}{R:Result→aa→Prop}{B c0 c1 tx v x0 l y z i il m0:Nat}{a9 a10:Value}{G:FoG}{σ:Nat→Nat}{DS:List PD}{Wd:Int}(hh:A.handled=none)(room:A.depth+200<recursionLimit)(hu:A.units+800<cLine)(hB:322≤B)(ok:eH (fp DS))(l8:DS.length<8)(lH:G.H<100)(hk:G.mks.cps.all (· <128)=true)(nil':il≠l)(hover:Wd<((G.H+lenP (fp DS):Nat):Int))(hfit:∀j,j+1<DS.length→((G.H+lenP (fp (DS.take (j+1))):Nat):Int)≤Wd):
    ∀(ds:List PD) (j k:Nat) (d:PD) (f p:Str) (D:List PD) {s:aa} {τ:Nat→Nat},DS.drop j=d::ds→KTH w s.heap→Tabs s.heap→Pts s.heap DS→s.heap.get? B=some (fFD w.params τ σ G tx a9 a10 v f p k)→s.heap.get? (il+322)=some (lstO (refsD DS) m0)→s.heap.get? (i+322)=some (bE (il+322) j)→VF w.params s.heap v x0 l y z Wd G.mks [] D G.H→fp D=fp (DS.take j)→
      (∀s' τ' f p ls D',Nxt [B,i+322,y+322,z+322,l+322,140,147] s s'→Tabs s'.heap→s'.heap.get? B=some (fFD w.params τ' σ G tx a9 a10 v f p 1)→VF w.params s'.heap v x0 l y z Wd G.mks (strValues ls) D' 0→(ls.map (·.1),fp D')=foldP (fp DS) G.H G.mks→R (.ok .next) s')→
      codeAny (model pw w) A (forC (bFO w 5) (.ref (i+322)) (enF w B c0 c1)) R s
  |ds,j,k,d,f,p,D,s,τ,hj,W,T,hp,hf,hl,hi,F,hD,kk=>by
    have hj':=ch hj
    have nB:B∉[i+322]:=notin1 (ne_cls hf hi (by rw [fFD_cls];exact (show Value.type "frame"≠Value.type "list_iterator" by decide)))
    have hd:d∈DS:=aM hj'.1
    have okd:=cm ok hd
    have lj:j<DS.length:=(List.getElem?_eq_some_iff.mp hj'.1).1
    have lD:D.length=j:=by rw [←bQ,hD,bQ,List.length_take];exact Nat.min_eq_left (au lj)
    refine aV (de hi hl (cP hj'.1) fun s1 x1 i1=> ?_)
    have hI:High [i+322]:=High.one (ab _ _)
    have W1:=W.nxt x1 hI
    have p1:=hp.off1 x1 hi (Ne.symm cTI)
    have T1:=T.nxtH x1 (fun c hc=>by rw [List.mem_singleton.mp hc];exact ab _ _)
    have F1:=F.off x1 hi "list_iterator" rfl (by decide)
    have f1:=x1.keep hf nB
    obtain ⟨_,_,hx1⟩:=F1.hx
    have n5B:B∉[y+322,z+322,l+322,140,147]:=F1.n5 f1 hB fFD_cls (by decide)
    have n5v:v+322∉[y+322,z+322,l+322,140,147]:=dz (ne_cls F1.hv F1.ha.choose_spec (show Value.ref 94≠Value.ref 178 by decide)) (ne_cls F1.hv F1.hd.choose_spec.choose_spec.choose_spec (cRT _ _)) (ne_cls F1.hv F1.hl.choose_spec (cRT _ _)) (ab _ _)
    have hMB:High [B]:=High.one hB
    have hb1:∀c∈[B],322≤c:=fun c hc=>by rw [List.mem_singleton.mp hc];exact hB
    have eT:fp (DS.take (j+1))=fp D++[(d.f,d.p)]:=by rw [List.take_add_one,hj'.1,cv,hD];rfl
    have nIB:i+322∉[B]:=notin1 (ne_cls i1 f1 (by rw [fFD_cls];exact (show Value.type "list_iterator"≠Value.type "frame" by decide)))
    have n5i:i+322∉[y+322,z+322,l+322,140,147]:=F1.n5 i1 (ab _ _) rfl (by decide)
    have l1:=x1.keep hl (notin1 (ne_cls hl hi (Ne.symm cLI)))
    have nlB:il+322∉[B]:=notin1 (ne_cls l1 f1 (by rw [fFD_cls];exact Ne.symm cFL))
    have n5l:il+322∉[y+322,z+322,l+322,140,147]:=dz (ne_cls l1 F1.ha.choose_spec (cTR _ _)) (ne_cls l1 F1.hd.choose_spec.choose_spec.choose_spec (Ne.symm cDL)) (fun e=>nil' (Nat.add_right_cancel e)) (ab _ _)
    have w1:∀x∈[i+322],x∈[B,i+322,y+322,z+322,l+322,140,147]:=fun x h=> .tail _ ((List.mem_singleton.mp h)▸.head _)
    have w2:∀x∈[B],x∈[B,i+322,y+322,z+322,l+322,140,147]:=fun x h=>(List.mem_singleton.mp h)▸.head _
    have w3:∀x∈[y+322,z+322,l+322,140,147],x∈[B,i+322,y+322,z+322,l+322,140,147]:=fun x h=> .tail _ (.tail _ h)
    have okD:eH (fp D):=fun x hx=>by rw [hD] at hx;obtain ⟨e,he,rfl⟩:=List.mem_map.mp hx;exact ok _ (List.mem_map.mpr ⟨e,List.mem_of_mem_take he,rfl⟩)
    cases ds with
    |nil=>
      have eL:j+1=DS.length:=by
        have:=congrArg List.length hj
        rw [List.length_drop] at this
        have:DS.length - j=1:=this
        lia
      rw [List.take_of_length_le (Nat.le_of_eq eL.symm)] at eT
      refine fdT (k:=k) (I:=fun s2=>∃ls D',Tabs s2.heap∧VF w.params s2.heap v x0 l y z Wd G.mks (strValues ls) D' 0∧(ls.map (·.1),fp D')=foldP (fp DS) G.H G.mks) W1 hh (rmz room rfl) hB f1 (p1 d hd) F1.hv hx1 i1 high5 n5B n5v (fun s2 A' R' hA dA uA x2 k2=> ?_) fun s2 s3 s4 τ4 x2 x3 ⟨ls,D',T3,F3,e3⟩ x4 f4=> ?_
      · refine chunk_over (W1.nxt x2 hMB) hA (rm room dA rfl) (rm hu uA rfl) (T1.nxtH x2 hb1) (F1.off x2 f1 "frame" fFD_cls (by decide)) (by lia) lH (Nat.zero_le _) hk okD okd (by rw [←eT];exact hover) ?_ ?_ ?_
        · intro s3 i0 D' tk0 e e' x3 T3 F3
          exact k2 s3 x3 ⟨[(_,tk0)],D',T3,F3,by rw [←eT] at e e';rw [←eT];unfold foldP;rw [e,e'];rfl⟩
        · intro s3 D' e h0 e' x3 T3 F3
          exact k2 s3 x3 ⟨[],D',T3,F3,by rw [←eT] at e e';unfold foldP;rw [e,e',h0];rfl⟩
        · intro s3 D' tk0 e h0 e' x3 T3 F3
          exact k2 s3 x3 ⟨[(_,tk0)],D',T3,F3,by rw [eT];unfold foldP;rw [e,e',List.dropLast_concat,List.getLast?_concat,if_neg h0];rfl⟩
      · have W4:=((W1.nxt x2 hMB).nxt x3 high5).nxt x4 ac
        have i4:=x4.keep0 (x3.keep (x2.keep i1 nIB) n5i)
        have l4:=x4.keep0 (x3.keep (x2.keep l1 nlB) n5l)
        refine aV (dY hh i4 l4 (dc (by lia)) fun s5 x5=>wpAny_execs_nil ?_)
        exact kk s5 τ4 d.f d.p ls D' ((x1.weak w1).trans ((x2.weak w2).trans ((x3.weak w3).trans (x4.nil.trans (x5.weak w1))))) ((T3.nxt0 x4).nxtH x5 (fun c hc=>by rw [List.mem_singleton.mp hc];exact ab _ _)) (x5.keep f4 nB) ((F3.keep0 x4).off x5 i4 "list_iterator" rfl (by decide)) e3
    |cons e ds=>
      have l2:j+1<DS.length:=by
        have:=congrArg List.length hj
        rw [List.length_drop] at this
        have:DS.length - j=ds.length+1+1:=this
        lia
      refine fdT (k:=k) (I:=fun s2=>∃a,Tabs s2.heap∧VF w.params s2.heap v x0 l y z Wd G.mks [] (D++[⟨a,d.f,d.tf,d.p,d.tp⟩]) G.H) W1 hh (rmz room rfl) hB f1 (p1 d hd) F1.hv hx1 i1 high5 n5B n5v (fun s2 A' R' hA dA uA x2 k2=> ?_) fun s2 s3 s4 τ4 x2 x3 ⟨a,T3,F3⟩ x4 f4=> ?_
      · refine chunk_fits (W1.nxt x2 hMB) hA (rm room dA rfl) (T1.nxtH x2 hb1) (F1.off x2 f1 "frame" fFD_cls (by decide)) (by lia) (fun x hx=>(cm okD hx).small) okd.small.1 okd.small.2 lH ?_ fun s3 a x3 T3 F3=>k2 s3 (x3.weak fun c hc=>(List.mem_cons.mp hc).elim (fun h=>h▸.head _) fun h=>(List.mem_singleton.mp h)▸.tail _ (.tail _ (.tail _ (.head _)))) ⟨a,T3,F3⟩
        have:=hfit j l2
        rw [eT] at this
        have e1:lenP (fp D++[(d.f,d.p)])=lenD D+d.f.length+d.p.length:=by rw [lenP_fp];unfold lenP;rw [List.map_append,List.sum_append];show _+(d.f.length+d.p.length+0)=_;lia
        rw [e1,←Nat.add_assoc,←Nat.add_assoc] at this
        exact this
      · have h5:∀{c:Nat} {o:Obj},s1.heap.get? c=some o→o.cls= .type "tuple"→322≤c→c∉[B]∧c∉[y+322,z+322,l+322,140,147]:=fun hc e lc=>⟨notin1 (ne_cls hc f1 (by rw [e,fFD_cls];exact Ne.symm cFT)),F1.n5 hc lc e (by decide)⟩
        have p4:Pts s4.heap DS:=fun d hd=>x4.keep0 (x3.keep (x2.keep (p1 d hd) (h5 (p1 d hd) rfl (ab _ _)).1) (h5 (p1 d hd) rfl (ab _ _)).2)
        exact fd_loop hh room hu hB ok l8 lH hk nil' hover hfit ds (j+1) 1 e d.f d.p _ hj'.2 (((W1.nxt x2 hMB).nxt x3 high5).nxt x4 ac) (T3.nxt0 x4) p4 f4 (x4.keep0 (x3.keep (x2.keep l1 nlB) n5l)) (x4.keep0 (x3.keep (x2.keep i1 nIB) n5i)) (F3.keep0 x4) (by rw [eT,cv];rfl) fun s' τ' f p ls D' X=>kk s' τ' f p ls D' ((x1.weak w1).trans ((x2.weak w2).trans ((x3.weak w3).trans (x4.nil.trans X))))
theorem foD{w:ag}{s:aa}{A:ai}{E:Value→aa→Prop}{Q:Flow→aa→Prop}{B c0 c1 tx v x0 l y z m:Nat}{a9 a10:Value}{G:FoG}{τ σ:Nat→Nat}{D:List PD}{Wd:Int}(W:KTH w s.heap)(hh:A.handled=none)(room:A.depth+200<recursionLimit)(hu:A.units+900<cLine)(hB:322≤B)(T:Tabs s.heap)(hf:s.heap.get? B=some (fFO w.params τ nmN (b12 G σ tx a9 a10 v)))(hl:s.heap.get? (G.li+322)=some (lstO (refsD D) m))(hp:Pts s.heap D)(ok:eH (fp D))(l8:D.length<8)(hbb:G.bg<G.bh)(hb:G.bh≤D.length)(F:VF w.params s.heap v x0 l y z Wd G.mks [] [] G.H)
    (lH:G.H<100) (hk:G.mks.cps.all (· <128)=true) (hover:Wd<((G.H+lenP (fp (slD D G.bg G.bh)):Nat):Int)) (hfit:∀j,j+1<(slD D G.bg G.bh).length→((G.H+lenP (fp ((slD D G.bg G.bh).take (j+1))):Nat):Int)≤Wd)
    (kk:∀s' τ' f p ls D',Nxt [B,y+322,z+322,l+322,140,147] s s'→Tabs s'.heap→s'.heap.get? B=some (fFD w.params τ' σ G tx a9 a10 v f p 1)→VF w.params s'.heap v x0 l y z Wd G.mks (strValues ls) D' 0→(ls.map (·.1),fp D')=foldP (fp (slD D G.bg G.bh)) G.H G.mks→Q .next s'):
    wpAny (model pw w) A (execs [bFO w 5] (enF w B c0 c1)) Q E s:=by
  have nl:=notin1 (ne_cls hl hf (Ne.symm cFL))
  refine aT [B] [(G.li+322,_)] 60 W hh (.cons hf .nil) (.cons hl .nil) (High.one hB) (az _) (dj1 nl) (rmz room rfl) rfl [] fun A₀ c Q1 hQ1 uA₀=> ?_
  refine av (c':=(.call (.builtin "list.__getitem__") ⟨[.ref (G.1+322),.ref s.heap.objs.size],[]⟩)) (d:=0) (u:=10) 12 0x100010001004000400040 [0,1] [] [some (fFO w.params τ nmN (b8 G σ++[.ref (tx+322),a9,a10,.ref (v+322)])),some (⟨.type "slice",none,.fields #[.int (U (G.bg)) (σ 1),.int (U (G.bh)) (σ 2),.none],#[]⟩)] 2 0 (by apply cW1 Q1 w<;>first|apply hQ1|(intro w;kernel_rfl)) no_side fun s1 x1 g1 A' R' hA dA uA res1=> ?_
  have dA:A'.depth≤A.depth+0:=dA
  have W1:=W.nxt x1 (High.one hB)
  have f1:s1.heap.get? B=_:=(g1 0)
  have l1:=x1.keep hl nl
  refine bl (lo:=some (U G.bg)) (hi:=some (U G.bh)) W1 hA (rm room dA rfl) l1 ⟨_,(g1 1),rfl,rfl⟩ (.int _ _) (.int _ _) (by unfold refsD;rw [ak];exact ad (au l8) (by decide)) fun s2 r x2 hr r2=> ?_
  obtain ⟨r,rfl⟩:∃r',r=r'+322:=(aW (ad W1.2 (by assumption)))
  have W2:=W1.nxt x2 ac
  refine Rsm.go (lim:=60) res1 [B] [(r+322,_)] W2 (.cons (x2.keep0 f1) .nil) (.cons r2 .nil) (High.one hB) (az _) (dj1 (notin1 (ne_cls r2 (x2.keep0 f1) (Ne.symm cFL)))) (rmz room rfl) rfl [] fun Q2 hQ2=> ?_
  refine av (c':=(forC (bFO w 5) (.ref s2.heap.objs.size) (enF w B c0 c1))) (d:=0) (u:=10) 11 0x410000000100010001 [0,1] [] [some (fFO w.params τ nmN (b8 G σ++[.ref (tx+322),a9,a10,.ref (v+322)])),some (⟨.type "list_iterator",none,.fields #[.ref (r+322),.int 0 0],#[]⟩)] 2 0 (by apply cW2 Q2 Q1 w<;>first|apply hQ2|apply hQ1|(intro w;kernel_rfl)) no_side fun s3 x3 g3 A2 R2 hA2 dA2 uA2 res2=> ?_
  have dA2:A2.depth≤A.depth+0:=dA2
  have uA2:A2.units≤A.units+60:=by lia
  obtain ⟨i,hi⟩:∃i,s2.heap.objs.size=i+322:=(aW W2.2)
  have f3:s3.heap.get? B=some (fFD w.params τ σ G tx a9 a10 v (S "") (S "") 0):=(g3 0)
  have i3:s3.heap.get? s2.heap.objs.size=_:=(g3 1)
  rw [hi] at i3
  rw [hi]
  have hMB:High [B]:=High.one hB
  have W3:=W2.nxt x3 hMB
  rw [dN (au hbb) hb] at r2
  have nr:r+322∉[B]:=notin1 (ne_cls r2 (x2.keep0 f1) (Ne.symm cFL))
  have hb1:∀c∈[B],322≤c:=fun c hc=>by rw [List.mem_singleton.mp hc];exact hB
  have ls:(slD D G.bg G.bh).length=G.bh - G.bg:=slD_len (au hbb) hb
  have hne:∃d ds,slD D G.bg G.bh=d::ds:=by
    cases e:slD D G.bg G.bh with
    |nil=>rw [e] at ls;have:0=G.bh - G.bg:=ls;lia
    |cons d ds=>exact ⟨d,ds,rfl⟩
  obtain ⟨d,ds,ed⟩:=hne
  have nt:∀d∈slD D G.bg G.bh,d.a+322∉[B]:=fun d h=>notin1 (ne_cls (hp d (bH h)) hf (Ne.symm cFT))
  have hp3:Pts s3.heap (slD D G.bg G.bh):=fun d h=>x3.keep (x2.keep0 (x1.keep (hp d (bH h)) (nt d h))) (nt d h)
  have F3:=((F.off x1 hf "frame" rfl (by decide)).keep0 x2).off x3 (x2.keep0 f1) "frame" rfl (by decide)
  have T3:=((T.nxtH x1 hb1).nxt0 x2).nxtH x3 hb1
  have nrl:r≠l:=fun e=>Nat.lt_irrefl _ (ah (an (F.off x1 hf "frame" rfl (by decide)).hl.choose_spec) (e▸hr))
  have lB:B<i+322:=hi▸an (x2.keep0 f1)
  refine fd_loop (i:=i) (il:=r) (DS:=slD D G.bg G.bh) hA2 (rm room dA2 rfl) (by lia) hB (fun x hx=>ok x (bH (slD_fp D _ _▸hx))) (by rw [ls];lia) lH hk nrl hover hfit ds 0 0 d (S "") (S "") [] ed W3 T3 hp3 f3 (x3.keep r2 nr) i3 F3 rfl fun s4 τ4 f p L D' x4 T4 f4 F4 e4=> ?_
  have W4:=W3.nxt x4 (High.cons (.inl hB) (High.cons (.inl (ab _ _)) high5))
  refine Rsm.go (lim:=60) res2 [] [] W4 .nil .nil ac aD dj0 (rmz room rfl) rfl [] fun Q3 hQ3=> ?_
  refine am (f:= .next) 0 0x0 [] [] [] 0 0 (by apply cW3 Q3 Q2 Q1 w<;>first|apply hQ3|apply hQ2|apply hQ1|(intro w;kernel_rfl)) no_side fun s5 x5 g5=> ?_
  have w1:∀x∈[B],x∈[i+322,B,y+322,z+322,l+322,140,147]:=fun x h=> .tail _ ((List.mem_singleton.mp h)▸.head _)
  have X:Nxt [i+322,B,y+322,z+322,l+322,140,147] s s5:=(x1.weak w1).trans (x2.nil.trans ((x3.weak w1).trans ((x4.weak fun x h=>(List.mem_cons.mp h).elim (fun h=>h▸.tail _ (.head _)) fun h=>(List.mem_cons.mp h).elim (fun h=>h▸.head _) fun h=> .tail _ (.tail _ h)).trans x5.nil)))
  exact kk s5 τ4 f p L D' (X.drop (hi▸ad x1.heap.size x2.heap.size)) (T4.nxt0 x5) (x5.keep0 f4) (F4.keep0 x5) e4
theorem nxt_push(s:aa)(k:Nat)(o:Obj):Nxt [] s {s with toks:=k,heap:=s.heap.push o}:=⟨⟨fun b o e _=>Heap.get?_push_of_some _ e,by rw [Heap.size_push];exact aK _⟩,GX.refl _,rfl,rfl⟩
theorem str_split{w:ag}{s:aa}{A:ai}{R:Result→aa→Prop}{x y:Str}{t u:Tok}(hx:x.length<2^20)(hy:(y.length==0)=false)
    (k:∀s' r L m,Nxt [] s s'→s.heap.objs.size≤r→L.map (·.1)=Txt.split x y→s'.heap.get? r=some (lstO (strValues L) m)→R (.ok (.ret (.ref r))) s'):
    codeAny (model pw w) A (.call (.builtin "str.split") ⟨[.str x t,.str y u],[]⟩) R s:=by
  have one:Txt.split x y=[x]→R (.ok (.ret (.ref s.heap.objs.size))) {s with heap:=s.heap.push {cls:= .type "list",data:= .seq [Value.str x t].toArray}}:=fun e=>
    k _ _ [(x,t)] 0 (nxt_push s s.toks _) (al _) e.symm (Heap.get?_push_size _ rfl)
  have go:∀{S:PySem.Spec},Meets (Builtin.«str.split» ⟨[.str x t,.str y u],[]⟩) S→S A R s→codeAny (model pw w) A (.call (.builtin "str.split") ⟨[.str x t,.str y u],[]⟩) R s:=fun g h=>
    codeAny_call_builtin F.slot_str_split.plain F.entry_str_split (F.slot_str_split.check _ _ _ _ _ _ _ _ (typeIs_str _ _ _) (F.args_str_split_2 _ _) (g pw w A R s h))
  have hx':x.length≤sizeLine:=ad (au hx) (by decide)
  by_cases h1:(decide (x.length<y.length)||decide (Builtin.Str.strKind x<Builtin.Str.strKind y))=true
  · exact go (meets_str_split_cannot_occur x y t u h1) (one (by unfold Txt.split;rw [if_pos h1]))
  · by_cases h2:(Builtin.Str.occurrences x y 0 x.length (x.length+1)).isEmpty=true
    · exact go (meets_str_split_not_found x y t u (Bool.eq_false_iff.mpr h1) hy h2) (one (by unfold Txt.split;rw [if_neg h1,if_pos h2]))
    · have e:Txt.split x y=Builtin.Str.partsBetween x (Builtin.Str.occurrences x y 0 x.length (x.length+1)) y.length:=by unfold Txt.split;rw [if_neg h1,if_neg h2]
      have hn:=split_le x y
      rw [e] at hn
      refine go (meets_str_split_sep x y t u (Bool.eq_false_iff.mpr h1) hy (Bool.eq_false_iff.mpr h2) hx' (ad hn (ad (Nat.add_le_add_right (au hx) 2) (by decide)))) ?_
      refine k _ _ (numbered s.toks (Builtin.Str.partsBetween x (Builtin.Str.occurrences x y 0 x.length (x.length+1)) y.length)) 0 (nxt_push s _ _) (al _) (by rw [numbered_texts,e]) ?_
      rw [←strsFrom_eq]
      exact Heap.get?_push_size _ rfl
theorem ee(c:Nat)(p q:Str)(r:List Str):(Str.join ⟨#[c]⟩ (p::q::r)).cps.toList=p.cps.toList++c::(Str.join ⟨#[c]⟩ (q::r)).cps.toList:=by
  show (p++⟨#[c]⟩++Str.join ⟨#[c]⟩ (q::r)).cps.toList=_
  simp only [Str.cps_append,Array.toList_append,List.append_assoc]
  rfl
theorem cons_free{a b r s:List Nat}{c:Nat}(h:a++c::r=b++c::s)(ha:c∉a)(hb:c∉b):a=b∧r=s:=by
  induction a generalizing b with
  |nil=>cases b with
    |nil=>exact ⟨rfl,List.tail_eq_of_cons_eq h⟩
    |cons y b=>exact absurd (List.head_eq_of_cons_eq h▸.head _) hb
  |cons x a ih=>cases b with
    |nil=>exact absurd (List.head_eq_of_cons_eq h▸.head _) ha
    |cons y b=>
      obtain ⟨e1,e2⟩:=ih (List.tail_eq_of_cons_eq h) (fun h=>ha (.tail _ h)) (fun h=>hb (.tail _ h))
      exact ⟨by rw [e1,List.head_eq_of_cons_eq h],e2⟩
theorem free_uniq(c:Nat):∀(P T:List Str),P≠[]→T≠[]→(∀p∈P,c∉p.cps.toList)→(∀p∈T,c∉p.cps.toList)→Str.join ⟨#[c]⟩ P=Str.join ⟨#[c]⟩ T→P=T
  |[],_,h,_,_,_,_=>absurd rfl h
  |_,[],_,h,_,_,_=>absurd rfl h
  |[p],[t],_,_,_,_,e=>by rw [show p=t from e]
  |[p],t::t'::T,_,_,hp,_,e=>by
    have:p.cps.toList=t.cps.toList++c::_:=(congrArg (fun x:Str=>x.cps.toList) e).trans (ee c t t' T)
    exact absurd (by rw [this];exact aE _ (.head _)) (hp p (.head _))
  |p::p'::P,[t],_,_,_,ht,e=>by
    have:t.cps.toList=p.cps.toList++c::_:=(congrArg (fun x:Str=>x.cps.toList) e).symm.trans (ee c p p' P)
    exact absurd (by rw [this];exact aE _ (.head _)) (ht t (.head _))
  |p::p'::P,t::t'::T,_,_,hp,ht,e=>by
    have h:=(ee c p p' P).symm.trans ((congrArg (fun x:Str=>x.cps.toList) e).trans (ee c t t' T))
    obtain ⟨e1,e2⟩:=cons_free h (hp p (.head _)) (ht t (.head _))
    have e3:=free_uniq c (p'::P) (t'::T) (fun h=>by cases h) (fun h=>by cases h) (fun x hx=>hp x (.tail _ hx)) (fun x hx=>ht x (.tail _ hx)) (Str.ext' (Array.toList_inj.mp e2))
    rw [e3,Str.ext' (Array.toList_inj.mp e1)]
theorem split_join{c:Nat}{T:List Str}(h0:T≠[])(ht:∀p∈T,c∉p.cps.toList):Txt.split (Txt.join ⟨#[c]⟩ T) ⟨#[c]⟩=T:=by
  refine free_uniq c _ _ (fun e=> ?_) h0 (StrLaws.split_free _ c) ht ?_
  · have:=split_pos (Txt.join ⟨#[c]⟩ T) ⟨#[c]⟩
    rw [e] at this
    exact Nat.not_lt_zero _ this
  · rw [StrLaws.join_split]
    exact StrLaws.glued_eq_join _ _
theorem join0:∀ts:List Str,(Txt.join (S "") ts).cps.toList=ts.flatMap fun t=>t.cps.toList:=fun ts=>by
  have e0:(S "").cps= #[]:=by decide+kernel
  have g:∀(r:List Str) (a:Array Nat),(r.foldl (fun acc p=>acc++(S "").cps++p.cps) a).toList=a.toList++r.flatMap fun t=>t.cps.toList:=by
    intro r
    induction r with
    |nil=>intro a;exact (List.append_nil _).symm
    |cons t r ih=>intro a;rw [List.foldl_cons,ih,e0,Array.append_empty,Array.toList_append,List.flatMap_cons,List.append_assoc]
  cases ts with
  |nil=>rfl
  |cons t r=>exact g r t.cps
theorem bT(L:List (Str×Str)):(textP L).cps.toList=L.flatMap fun x=>x.1.cps.toList++x.2.cps.toList:=by
  unfold textP
  rw [join0,List.flatMap_map]
  refine congrArg (fun f=>L.flatMap f) (funext fun x=> ?_)
  rw [join0,List.flatMap_cons,List.flatMap_cons,List.flatMap_nil,List.append_nil]
noncomputable def Wr1(f p:Str):Prop:=f.length≤2∧(∀c∈f.cps.toList,c<124)∧∃c1 c2 c3,p=⟨#[c1,c2,c3]⟩∧Unicode.isSpace c3=false∧c1<124∧c2<124∧c3<124
theorem Wr1.free{f p:Str}(h:Wr1 f p):∀c∈f.cps.toList++p.cps.toList,c<124:=by
  obtain ⟨_,h2,c1,c2,c3,rfl,_,k1,k2,k3⟩:=h
  intro c hc
  rcases List.mem_append.mp hc with hc|hc
  · exact h2 c hc
  · rcases List.mem_cons.mp hc with rfl|hc
    · exact k1
    · rcases List.mem_cons.mp hc with rfl|hc
      · exact k2
      · rw [List.mem_singleton.mp hc];exact k3
theorem Wr1.ok{f p:Str}(h:Wr1 f p):((f==S " ")&&(p==S ""))=false∧PyData.strOk f=true∧PyData.strOk p=true∧f.length<2^20∧p.length=3:=by
  have hf:=h.free
  obtain ⟨h1,h2,c1,c2,c3,rfl,h3,k1,k2,k3⟩:=h
  refine ⟨?_,?_,?_,aH h1 (by decide),rfl⟩
  · have e:((⟨#[c1,c2,c3]⟩:Str)==S "")=false:=by
      rw [beq_eq_false_iff_ne]
      intro q
      exact absurd (congrArg Str.length q) (by show ¬(3=0);decide)
    rw [e,Bool.and_false]
  · unfold PyData.strOk
    rw [←Array.all_toList,List.all_eq_true]
    exact fun c hc=>decide_eq_true (aC (h2 c hc) (by decide))
  · unfold PyData.strOk
    rw [←Array.all_toList,List.all_eq_true]
    exact fun c hc=>decide_eq_true (aC (hf c (aE _ hc)) (by decide))
theorem dw{L:List (Str×Str)}(h:∀x∈L,Wr1 x.1 x.2):∀c∈(textP L).cps.toList,c<124:=by
  rw [bT]
  intro c hc
  obtain ⟨x,hx,hc⟩:=List.mem_flatMap.mp hc
  exact (h x hx).free c hc
theorem cX(L:List (Str×Str)):(textP L).length=lenP L:=by
  show (textP L).cps.size=_
  rw [←Array.length_toList,bT,List.length_flatMap]
  unfold lenP
  refine congrArg List.sum (List.map_congr_left fun x _=> ?_)
  rw [aA,Array.length_toList,Array.length_toList];rfl
theorem lenP_le{L:List (Str×Str)}(h:∀x∈L,Wr1 x.1 x.2):lenP L≤L.length * 5:=by
  have:=eQ (l:=L.map fun x=>x.1.length+x.2.length) (k:=5) fun y hy=>by
    obtain ⟨x,hx,rfl⟩:=List.mem_map.mp hy
    have:=(h x hx).ok.2.2.2.2
    have:=(h x hx).1
    lia
  rw [ak] at this
  exact this
theorem textP_space{L:List (Str×Str)}(h:∀x∈L,Wr1 x.1 x.2)(h0:L≠[]):0<lenP L∧(decide ((textP L).length>0)&&(textP L).cps.all Unicode.isSpace)=false:=by
  cases L with
  |nil=>exact absurd rfl h0
  |cons x L=>
    have hx:=h x (.head _)
    refine ⟨?_,?_⟩
    · have:=hx.ok.2.2.2.2
      unfold lenP
      rw [List.map_cons,List.sum_cons]
      lia
    · obtain ⟨_,_,c1,c2,c3,e,h3,_⟩:=hx
      rw [Bool.and_eq_false_iff]
      refine .inr ?_
      rw [←Array.all_toList,bT,List.all_eq_false]
      exact ⟨c3,by rw [List.flatMap_cons,e];exact aB _ (aE _ (.tail _ (.tail _ (.head _)))),by rw [h3];exact Bool.false_ne_true⟩
noncomputable def vk:List Value→Nat→Value
  |[],_=> .none
  |x::_,0=>x
  |_::l,n+1=>vk l n
noncomputable def b15(G:FoG)(σ:Nat→Nat)(a:Nat→Value)(tx rw:Nat):List Value:=b8 G σ++[.ref (tx+322),a 9,a 10,a 11,a 12,a 13,.ref (rw+322)]
theorem c9{sep:Str}{ts:List Str}(h:∀t∈ts,t.length≤100)(l:ts.length≤9)(ls:sep.length≤1):JoinOk sep ts=true:=by
  unfold JoinOk
  rw [StrLaws.joinFits (B:=100) h (ad (Nat.add_le_add (Nat.mul_le_mul_right _ l) (Nat.mul_le_mul l ls)) (by decide))]
  rfl
theorem foE{w:ag}{s:aa}{A:ai}{E:Value→aa→Prop}{Q:Flow→aa→Prop}{B c0 c1 tx v x0 l y z:Nat}{a9 a10:Value}{G:FoG}{τ σ:Nat→Nat}{f0 p0:Str}{ls:List (Str×Tok)}{D:List PD}{Wd:Int}(W:KTH w s.heap)(hh:A.handled=none)(room:A.depth+190<recursionLimit)(hu:A.units+600<cLine)(hB:322≤B)(T:Tabs s.heap)(hf:s.heap.get? B=some (fFD w.params τ σ G tx a9 a10 v f0 p0 1))(F:VF w.params s.heap v x0 l y z Wd G.mks (strValues ls) D 0)
    (hw:∀x∈fp D,Wr1 x.1 x.2) (h0:D≠[]) (l8:D.length<8) (hls:∀t∈ls.map (·.1),(∀c∈t.cps.toList,c<124)∧t.length≤100) (ll:ls.length≤8)
    (kk:∀s' τ' a rw L m,Nxt [B,y+322,z+322,l+322,140,147] s s'→Tabs s'.heap→s.heap.objs.size≤rw+322→s'.heap.get? B=some (fFO w.params τ' nmN (b15 G σ a tx rw))→s'.heap.get? (rw+322)=some (lstO (strValues L) m)→L.map (·.1)=ls.map (·.1)++[textP (fp D)]→Q .next s'):
    wpAny (model pw w) A (execs [bFO w 6] (enF w B c0 c1)) Q E s:=by
  obtain ⟨D,d,rfl⟩:∃D' d,D=D'++[d]:=⟨_,_,(List.dropLast_concat_getLast h0).symm⟩
  have hd:=(hw (d.f,d.p) (List.mem_map.mpr ⟨d,aE _ (.head _),rfl⟩)).ok
  have sp:=textP_space hw (fun e=>h0 (List.map_eq_nil_iff.mp e))
  have fr:∀t∈ls.map (·.1)++[textP (fp (D++[d]))],(∀c∈t.cps.toList,c<124)∧t.length≤100:=fun t ht=>by
    rcases List.mem_append.mp ht with h|h
    · exact hls t h
    · rw [List.mem_singleton.mp h]
      refine ⟨dw hw,?_⟩
      have:=lenP_le hw
      rw [cX]
      rw [bQ] at this
      lia
  have le:(ls.map (·.1)++[textP (fp (D++[d]))]).length≤9:=by rw [aA,ak];exact Nat.add_le_add_right ll 1
  have ok:JoinOk (S "|") (ls.map (·.1)++[textP (fp (D++[d]))])=true:=c9 (fun t ht=>(fr t ht).2) le (by decide+kernel)
  have jl:(Txt.join (S "|") (ls.map (·.1)++[textP (fp (D++[d]))])).length<2^20:=by
    have e:Txt.join (S "|") (ls.map (·.1)++[textP (fp (D++[d]))])=Str.join (S "|") (ls.map (·.1)++[textP (fp (D++[d]))]):=StrLaws.glued_eq_join _ _
    rw [e]
    refine aH (StrLaws.join_length_le _ _) (aH (Nat.add_le_add (StrLaws.sumLen_le (B:=100) _ fun t ht=>(fr t ht).2) (al _)) ?_)
    rw [show (S "|").length=1 by decide+kernel]
    lia
  obtain ⟨_,_,hx⟩:=F.hx
  have nv:=notin1 (ne_cls F.hv hf (by rw [fFD_cls];exact cRT _ _))
  have nx:=notin1 (ne_cls hx hf (by rw [fFD_cls];exact (show Value.type "dict"≠Value.type "frame" by decide)))
  refine aT [] [(B,_),(v+322,_),(x0+322,_)] 60 W hh .nil (.cons hf (.cons F.hv (.cons hx .nil))) ac nn0 dn0 (rmz room rfl) rfl [] fun A₀ c Q1 hQ1 uA₀=> ?_
  refine av (c':=(.call (.ref 42) ⟨[.ref (v+322),.str (S "|") s.toks],[]⟩)) (d:=0) (u:=10) 23 0x3000200000000000000000002000000000000000200000000000000020001 [] [] [] 0 1 (by apply cW1 Q1 w<;>first|apply hQ1|(intro w;kernel_rfl)) no_side fun s1 x1 g1 A' R' hA dA uA res1=> ?_
  have dA:A'.depth≤A.depth+0:=dA
  have hMB:High [B]:=High.one hB
  have hb1:∀c∈[B],322≤c:=fun c hc=>by rw [List.mem_singleton.mp hc];exact hB
  have f1:s1.heap.get? B=some (fFD w.params τ σ G tx a9 a10 v f0 p0 1):=x1.keep0 hf
  have F1:=F.keep0 x1
  have W1:=W.nxt x1 ac
  refine vstr_spec W1 hA (rm room dA rfl) (um hu (ad uA₀ (aw _ 0)) uA rfl) (T.nxt0 x1) F1 hd.1 hd.2.1 hd.2.2.1 (by rw [aA] at l8;exact Nat.lt_of_succ_lt_succ l8) (fun e he=>⟨((hw (e.f,e.p) (List.mem_map.mpr ⟨e,he,rfl⟩)).ok).2.2.2.1,by rw [((hw (e.f,e.p) (List.mem_map.mpr ⟨e,he,rfl⟩)).ok).2.2.2.2];decide⟩) (by decide) ll (.inr (by rw [lenP_fp,cw];exact sp)) (by rw [cw];exact ok) fun s2 t2 x2 T2=> ?_
  rw [cw]
  have n5:=F1.n5 f1 hB fFD_cls (by decide)
  have f2:=x2.keep f1 n5
  have W2:=W1.nxt x2 high5
  obtain ⟨J,eJ⟩:∃J,J=Txt.join (S "|") (ls.map (·.1)++[textP (fp (D++[d]))]):=⟨_,rfl⟩
  rw [←eJ] at jl⊢
  refine Rsm.go (lim:=60) res1 [] [] W2 .nil .nil ac aD dj0 (rmz room rfl) rfl [] fun Q2 hQ2=> ?_
  refine av (c':=(.call (.builtin "str.split") ⟨[.str J t2,.str (S "|") s2.toks],[]⟩)) (d:=0) (u:=10) 5 0x0 [] [] [] 0 1 (by apply cW2 Q2 Q1 w<;>first|apply hQ2|apply hQ1|(intro w;kernel_rfl)) no_side fun s3 x3 g3 A' R' hA dA uA res2=> ?_
  refine str_split jl (by decide+kernel) fun s4 r L m x4 lr eL r4=> ?_
  obtain ⟨r,rfl⟩:∃r',r=r'+322:=⟨r - 322,by have:=(W2.nxt x3 ac).2;lia⟩
  have f4:=x4.keep0 (x3.keep0 f2)
  refine Rsm.go (lim:=60) res2 [B] [(r+322,_)] (W2.nxt (x3.trans x4) ac) (.cons f4 .nil) (.cons r4 .nil) (High.one hB) (az _) (dj1 (notin1 (ne_cls r4 f4 (by rw [fFD_cls];exact Ne.symm cFL)))) (rmz room rfl) rfl [] fun Q3 hQ3=> ?_
  refine am (f:= .next) 8 0x400040 [0] [] [some (fFO w.params (tk [τ 0,τ 1,τ 2,τ 3,τ 4,τ 5,τ 6,τ 7,τ 8,τ 9,τ 10,τ 11,τ 12,τ 13,s4.toks]) nmN (b15 G σ (vk [.none,.none,.none,.none,.none,.none,.none,.none,.none,a9,a10,.ref (v+322),.str f0 (τ 14),.str p0 (τ 15)]) tx r))] 1 1 (by apply cW3 Q3 Q2 Q1 w<;>first|apply hQ3|apply hQ2|apply hQ1|(intro w;kernel_rfl)) no_side fun s5 x5 g5=> ?_
  have l2:s.heap.objs.size≤s2.heap.objs.size:=ad x1.heap.size x2.heap.size
  have w2:∀x∈[y+322,z+322,l+322,140,147],x∈[B,y+322,z+322,l+322,140,147]:=fun x h=> .tail _ h
  have w1:∀x∈[B],x∈[B,y+322,z+322,l+322,140,147]:=fun x h=>(List.mem_singleton.mp h)▸.head _
  have T4:=(T2.nxt0 x3).nxt0 x4
  have e:L.map (·.1)=ls.map (·.1)++[textP (fp (D++[d]))]:=by
    rw [eL,eJ,show S "|"=(⟨#[124]⟩:Str) by decide+kernel]
    exact split_join (fun h=>List.append_ne_nil_of_right_ne_nil _ (List.cons_ne_nil _ _) h) fun t ht h=>absurd ((fr t ht).1 124 h) (Nat.lt_irrefl _)
  exact kk s5 _ _ r L m (x1.nil.trans ((x2.weak w2).trans (x3.nil.trans (x4.nil.trans (x5.weak w1))))) (T4.nxtH x5 (fun c hc=>by rw [List.mem_singleton.mp hc];exact hB)) (ad l2 (ad x3.heap.size lr)) (g5 0) (x5.keep r4 (notin1 (ne_cls r4 f4 (by rw [fFD_cls];exact Ne.symm cFL)))) e
noncomputable def eqL{α:Type}(ke:α→α→Bool):List α→List α→Bool
  |[],[]=>true
  |x::X,y::Y=>ke x y&&eqL ke X Y
  |_,_=>false
noncomputable def eqE{α:Type}(ke:α→α→Bool)(X Y:List α)(j:Nat):Bool:=match X[j]?,Y[j]? with
  |some x,some y=>ke x y
  |_,_=>false
theorem fe{α:Type}(ke:α→α→Bool):∀X Y:List α,X.length=Y.length→(List.range X.length).all (eqE ke X Y)=eqL ke X Y
  |[],[],_=>rfl
  |[],_::_,h=>by cases h
  |_::_,[],h=>by cases h
  |x::X,y::Y,h=>by
    rw [List.length_cons,List.range_succ_eq_map,List.all_cons,List.all_map]
    show (ke x y&&(List.range X.length).all (eqE ke X Y))=_
    rw [fe ke X Y (Nat.succ.inj h)];rfl
theorem eqL_len{α:Type}(ke:α→α→Bool):∀X Y:List α,X.length≠Y.length→eqL ke X Y=false
  |[],[],h=>absurd rfl h
  |[],_::_,_=>rfl
  |_::_,[],_=>rfl
  |x::X,y::Y,h=>by
    show (ke x y&&eqL ke X Y)=false
    rw [eqL_len ke X Y (fun e=>h (congrArg Nat.succ e)),Bool.and_false]
section
open PySem.SeqAt
variable {w:ag} {s:aa} {A:ai} {R:Result→aa→Prop} {α:Type}
theorem eqE_at{f:α→Value}{ke:α→α→Bool}(he:∀A s x y,EqAt A s (f x) (f y) (ke x y))(X Y:List α)(j:Nat)(h1:j<(X.map f).toArray.size)(h2:j<(Y.map f).toArray.size):EqAt A.in1 s (X.map f).toArray[j] (Y.map f).toArray[j] (eqE ke X Y j):=by
  rw [List.size_toArray,ak] at h1 h2
  have e1:X[j]? =some X[j]:=aG h1
  have e2:Y[j]? =some Y[j]:=aG h2
  unfold eqE
  rw [e1,e2]
  simp only [List.getElem_toArray,List.getElem_map]
  exact he _ _ _ _
theorem lst_eq{E Q:Value→aa→Prop}{f:α→Value}{ke:α→α→Bool}(he:∀A s x y,EqAt A s (f x) (f y) (ke x y)){X Y:List α}{a b n m:Nat}(ha:s.heap.get? a=some (lstO (X.map f) n))(hb:s.heap.get? b=some (lstO (Y.map f) m))(hu:A.units<cLine)
    (h:Q (.bool (eqL ke X Y)) s):wpAny (model pw w) A (compareOp .Eq (.ref a) (.ref b)) Q E s:=by
  have la:s.heap.IsList a (X.map f).toArray:=⟨_,ha,rfl,_,rfl⟩
  have lb:s.heap.IsList b (Y.map f).toArray:=⟨_,hb,rfl,_,rfl⟩
  by_cases hl:X.length=Y.length
  · refine RcAt.lists la lb (by simp only [List.size_toArray,ak,hl]) hu (fun j h1 h2=>eqE_at he X Y j h1 h2) pw w E Q ?_
    rw [show (X.map f).toArray.size=X.length by simp only [List.size_toArray,ak],fe ke X Y hl]
    exact h
  · refine RcAt.lists_lengths la lb (bne_iff_ne.mpr (by simpa only [List.size_toArray,ak] using hl)) hu pw w E Q ?_
    rw [eqL_len ke X Y hl] at h
    exact h
theorem lst_ne{E Q:Value→aa→Prop}{f:α→Value}{ke:α→α→Bool}(he:∀A s x y,EqAt A s (f x) (f y) (ke x y)){X Y:List α}{a b n m:Nat}(ha:s.heap.get? a=some (lstO (X.map f) n))(hb:s.heap.get? b=some (lstO (Y.map f) m))(hu:A.units<cLine)
    (h:Q (.bool (!(eqL ke X Y))) s):wpAny (model pw w) A (compareOp .NotEq (.ref a) (.ref b)) Q E s:=by
  have la:s.heap.IsList a (X.map f).toArray:=⟨_,ha,rfl,_,rfl⟩
  have lb:s.heap.IsList b (Y.map f).toArray:=⟨_,hb,rfl,_,rfl⟩
  by_cases hl:X.length=Y.length
  · refine RcNeAt.lists la lb (by simp only [List.size_toArray,ak,hl]) hu (fun j h1 h2=>eqE_at he X Y j h1 h2) pw w E Q ?_
    rw [show (X.map f).toArray.size=X.length by simp only [List.size_toArray,ak],fe ke X Y hl]
    exact h
  · refine RcNeAt.lists_lengths la lb (bne_iff_ne.mpr (by simpa only [List.size_toArray,ak] using hl)) hu pw w E Q ?_
    rw [eqL_len ke X Y hl] at h
    exact h
noncomputable def strV(x:Str×Tok):Value:= .str x.1 x.2
noncomputable def fD(x:Int×Tok):Value:= .int x.1 x.2
theorem cS{β:Type}[DecidableEq β](g:α→β):∀X Y:List α,eqL (fun x y=>decide (g x=g y)) X Y=decide (X.map g=Y.map g)
  |[],[]=>rfl
  |[],_::_=>(decide_eq_false (fun h=>by cases h)).symm
  |_::_,[]=>(decide_eq_false (fun h=>by cases h)).symm
  |x::X,y::Y=>by
    show (decide (g x=g y)&&eqL _ X Y)=_
    rw [cS g X Y,List.map_cons,List.map_cons,←Bool.decide_and]
    exact decide_eq_decide.mpr ⟨fun h=>by rw [h.1,h.2],fun h=>⟨List.head_eq_of_cons_eq h,List.tail_eq_of_cons_eq h⟩⟩
theorem strV_eq(A:ai)(s:aa)(x y:Str×Tok):EqAt A s (strV x) (strV y) (decide (x.1=y.1)):=by
  have:=EqAt.str_str (A:=A) (s:=s) x.1 x.2 y.1 y.2
  have e:(x.1==y.1)=decide (x.1=y.1):=by rw [Bool.eq_iff_iff,beq_iff_eq,decide_eq_true_iff]
  exact e▸this
theorem intV_eq(A:ai)(s:aa)(x y:Int×Tok):EqAt A s (fD x) (fD y) (decide (x.1=y.1)):=EqAt.int_int (A:=A) (s:=s) x.1 x.2 y.1 y.2
theorem strs_eq{E Q:Value→aa→Prop}{L M:List (Str×Tok)}{a b n m:Nat}(ha:s.heap.get? a=some (lstO (strValues L) n))(hb:s.heap.get? b=some (lstO (strValues M) m))(hu:A.units<cLine)
    (h:Q (.bool (decide (L.map (·.1)=M.map (·.1)))) s):wpAny (model pw w) A (compareOp .Eq (.ref a) (.ref b)) Q E s:=
  lst_eq strV_eq ha hb hu (by rw [cS (fun x:Str×Tok=>x.1)];exact h)
theorem strs_ne{E Q:Value→aa→Prop}{L M:List (Str×Tok)}{a b n m:Nat}(ha:s.heap.get? a=some (lstO (strValues L) n))(hb:s.heap.get? b=some (lstO (strValues M) m))(hu:A.units<cLine)
    (h:Q (.bool (!(decide (L.map (·.1)=M.map (·.1))))) s):wpAny (model pw w) A (compareOp .NotEq (.ref a) (.ref b)) Q E s:=
  lst_ne strV_eq ha hb hu (by rw [cS (fun x:Str×Tok=>x.1)];exact h)
theorem ints_eq{E Q:Value→aa→Prop}{L M:List (Int×Tok)}{a b n m:Nat}(ha:s.heap.get? a=some (lstO (L.map fD) n))(hb:s.heap.get? b=some (lstO (M.map fD) m))(hu:A.units<cLine)
    (h:Q (.bool (decide (L.map (·.1)=M.map (·.1)))) s):wpAny (model pw w) A (compareOp .Eq (.ref a) (.ref b)) Q E s:=
  lst_eq intV_eq ha hb hu (by rw [cS (fun x:Int×Tok=>x.1)];exact h)
theorem ints_ne{E Q:Value→aa→Prop}{L M:List (Int×Tok)}{a b n m:Nat}(ha:s.heap.get? a=some (lstO (L.map fD) n))(hb:s.heap.get? b=some (lstO (M.map fD) m))(hu:A.units<cLine)
    (h:Q (.bool (!(decide (L.map (·.1)=M.map (·.1))))) s):wpAny (model pw w) A (compareOp .NotEq (.ref a) (.ref b)) Q E s:=
  lst_ne intV_eq ha hb hu (by rw [cS (fun x:Int×Tok=>x.1)];exact h)
end
noncomputable def eKS(w:ag):Expr:=cmpL (sT (bFO w 7))
noncomputable def dcK(P:ae)(τ:Nat→Nat)(k n:Nat):Nat→Obj
  |0=>dcO [] n
  |_=>dcO [en P (S "k") (τ 0) (.int (U k) (τ 1))] n
noncomputable def clK(c0 c1:Nat):List (Str×Addr):=[(S "ranks",c0+322),(S "marks",c1+322)]
noncomputable def cenvC(w:ag)(e:Expr)(cl:List (Str×Addr))(C B c0 c1:Nat):Env:=compEnvC (lcS e) cl (C+322) (enF w B c0 c1)
theorem li_ij{xs:List Value}{j:Nat}{v:Value}(h:xs[j]? =some v)(l:j<8):((0:Int)≤U j∧U j<2^63)∧(xs:List Value).toArray[(U j).toNat]? =some v:=
  ⟨⟨Int.natCast_nonneg _,Int.ofNat_lt.mpr (aC l (by decide))⟩,by simpa using h⟩
theorem ksT{w:ag}{s:aa}{A:ai}{E:Value→aa→Prop}{Q:Unit→aa→Prop}{B c0 c1 C a m n tmk rk m0 j r k0 k:Nat}{it:Value}{t0:Tok}{mks:Str}{τ:Nat→Nat}{ts xs:List Value}{t:Tok}(W:KTH w s.heap)(hh:A.handled=none)(room:A.depth+60<recursionLimit)(hC:s.heap.get? (C+322)=some (dcK w.params τ k0 n k))(hn:k=0→n=0)(ha:s.heap.get? (a+322)=some (lstO ts m))(h0:s.heap.get? (c0+322)=some (cellO (some (.ref (rk+322)))))(h1:s.heap.get? (c1+322)=some (cellO (some (.str mks tmk))))(hr:s.heap.get? (rk+322)=some (lstO xs m0))(hx:xs[j]? =some (.int (U r) t0))(lm:mks.length<2^20)(lt:ts.length<20)(nra:rk≠a)(lj:j<8)
    (kk:∀s' τ' n' m' ts',Nxt [C+322,a+322] s s'→s'.heap.get? (C+322)=some (dcK w.params τ' j n' 1)→s'.heap.get? (a+322)=some (lstO ts' m')→ts'=(if r<mks.length then ts++[.int (U j) t] else ts)→Q () s'):
    wpAny (model pw w) A (lcF1 (eKS w) it (.int (U j) t) (.ref (a+322)) (cenvC w (eKS w) (clK c0 c1) C B c0 c1)) Q E s:=by
  have cC:(dcK w.params τ k0 n k).cls= .type "dict":=by cases k<;>rfl
  have nCa:C+322≠a+322:=ne_cls hC ha (by rw [cC];exact cDL)
  have q0:∀{y:Nat} {o:Option Value},s.heap.get? y=some (cellO o)→y∉[C+322,a+322]:=fun h=>notin2 (ne_cls h hC (by rw [cC];exact (show Value.type "cell"≠Value.type "dict" by decide))) (ne_cls h ha (show Value.type "cell"≠Value.type "list" by decide))
  have n0:=q0 h0
  have n1:=q0 h1
  have nr:rk+322∉[C+322,a+322]:=notin2 (ne_cls hr hC (by rw [cC];exact Ne.symm cDL)) (fun e=>nra (Nat.add_right_cancel e))
  have e0:dcK w.params τ k0 n k=dcK w.params τ k0 (bi k 0 n) k:=by
    cases k with
    |zero=>rw [hn rfl];rfl
    |succ k=>rfl
  rw [e0] at hC
  have hM:High [C+322,a+322]:=High.cons (.inl (ab _ _)) (High.one (ab _ _))
  have nd:[C+322,a+322].Nodup:=List.nodup_cons.mpr ⟨notin1 nCa,az _⟩
  have sz:(ts:List Value).toArray.size≤sizeLine:=by rw [List.size_toArray];exact ad (au lt) (by decide)
  refine segU [C+322,a+322] [(c0+322,_),(c1+322,_),(rk+322,_)] 60 W hh (.cons hC (.cons ha .nil)) (.cons h0 (.cons h1 (.cons hr .nil))) hM nd (djc n0 (djc n1 (dj1 nr))) room rfl [.int (U r) t0] fun A₀ c Q1 hQ1 uA₀=> ?_
  refine av (c':=(.call (.builtin "len") ⟨[.str mks tmk],[]⟩)) (d:=0) (u:=10) 24 0x2000000000000000300c800030003000300030040000100400040 [0,1] [((0≤(U (j))∧(U (j))<2^63)∧(xs:List Value).toArray[((U (j))).toNat]? =some (.int (U (r)) t0))] [some (dcK w.params (tk [bi k s.toks (τ 0),t]) j (bi k 1 n) 1),some (lstO ts m)] 2 1 (by apply kW1 Q1 w k<;>first|apply hQ1|(intros;kernel_rfl)) (side_cons (li_ij hx lj) no_side) fun s1 x1 g1 A' R' hA dA uA res1=> ?_
  have C1:s1.heap.get? (C+322)=_:=(g1 0)
  have a1:s1.heap.get? (a+322)=_:=(g1 1)
  refine len_str lm fun s2 t2 x2=> ?_
  have W2:=W.nxt (x1.trans x2.nil) hM
  by_cases hd:U r<U mks.length
  · refine Rsm.go (lim:=60) res1 [C+322,a+322] [] W2 (.cons (x2.keep0 C1) (.cons (x2.keep0 a1) .nil)) .nil hM nd dj0 room rfl [] fun Q2 hQ2=> ?_
    refine am (f:= .next) 10 0x4100d2004100400001000c [0,1] [((ts:List Value).toArray.size≤sizeLine),(decide ((U (r))<(U (mks.length)))=true)] [some (dcK w.params (tk [bi k s.toks (τ 0),t]) j (bi k 1 n) 1),some (lstO (ts++[.int (U j) t]) (m+1))] 2 0 (by apply kW2 Q2 Q1 w k<;>first|apply hQ2|apply hQ1|(intros;kernel_rfl)) (side_cons sz (side_cons (decide_eq_true hd) no_side)) fun s3 x3 g3=> ?_
    exact kk s3 _ _ _ _ (x1.trans (x2.nil.trans x3)) (g3 0) (g3 1) (if_pos (Int.ofNat_lt.mp hd)).symm
  · refine Rsm.go (lim:=60) res1 [C+322,a+322] [] W2 (.cons (x2.keep0 C1) (.cons (x2.keep0 a1) .nil)) .nil hM nd dj0 room rfl [] fun Q2 hQ2=> ?_
    refine am (f:= .next) 5 0xc [0,1] [(decide ((U (r))<(U (mks.length)))=false)] [some (dcK w.params (tk [bi k s.toks (τ 0),t]) j (bi k 1 n) 1),some (lstO ts m)] 2 0 (by apply kW2 Q2 Q1 w k<;>first|apply hQ2|apply hQ1|(intros;kernel_rfl)) (side_cons (decide_eq_false hd) no_side) fun s3 x3 g3=> ?_
    exact kk s3 _ _ _ _ (x1.trans (x2.nil.trans x3)) (g3 0) (g3 1) (if_neg (fun h=>hd (Int.ofNat_lt.mpr h))).symm
theorem ks_loop{w:ag}{A:ai}{R:Result→aa→Prop}{B c0 c1 C a it tmk rk m0 N:Nat}{mks:Str}{xs:List Value}{rf:Nat→Nat}(hh:A.handled=none)(room:A.depth+70<recursionLimit)(hit:322≤it)(lm:mks.length<2^20)(nra:rk≠a)(hx:∀j,j<N→∃t,xs[j]? =some (.int (U (rf j)) t))(lN:N≤8):
    ∀(n j k k0 nn m:Nat) (L:List (Int×Tok)) {s:aa} {τ:Nat→Nat},j+n≤N→L.length+n<20→KTH w s.heap→s.heap.get? (C+322)=some (dcK w.params τ k0 nn k)→(k=0→nn=0)→s.heap.get? (a+322)=some (lstO (L.map fD) m)→s.heap.get? (c0+322)=some (cellO (some (.ref (rk+322))))→s.heap.get? (c1+322)=some (cellO (some (.str mks tmk)))→s.heap.get? (rk+322)=some (lstO xs m0)→s.heap.get? it=some (bs (U j) (U n) 1)→
      (∀s' (L':List (Int×Tok)) m' τ' k' n' q',Nxt [it,C+322,a+322] s s'→s'.heap.get? (C+322)=some (dcK w.params τ' k' n' q')→(q'=0→n'=0)→s'.heap.get? (a+322)=some (lstO (L'.map fD) m')→L'.map (·.1)=L.map (·.1)++((List.range' j n).filter (fun k=>decide (rf k<mks.length))).map U→R (.ok .next) s')→
      codeAny (model pw w) A (lpC (eKS w) (.ref it) (.ref (a+322)) (cenvC w (eKS w) (clK c0 c1) C B c0 c1)) R s
  |0,j,k,k0,nn,m,L,s,τ,hj,hL,W,hC,hn,ha,h0,h1,hr,hi,kk=>by
    have na:a+322∉[it]:=notin1 (ne_cls ha hi (show Value.type "list"≠Value.type "range_iterator" by decide))
    have nC:C+322∉[it]:=notin1 (ne_cls hC hi (by cases k<;>exact (show Value.type "dict"≠Value.type "range_iterator" by decide)))
    refine cD rfl (bX W hh (rmz room rfl) hi hit fun s1 x1=> ?_)
    exact kk s1 L m τ k0 nn k (x1.weak (fun _ h=>(List.mem_singleton.mp h)▸.head _)) (x1.keep hC nC) hn (x1.keep ha na) (List.append_nil _).symm
  |n+1,j,k,k0,nn,m,L,s,τ,hj,hL,W,hC,hn,ha,h0,h1,hr,hi,kk=>by
    have cC:(dcK w.params τ k0 nn k).cls= .type "dict":=by cases k<;>rfl
    have na:a+322∉[it]:=notin1 (ne_cls ha hi (show Value.type "list"≠Value.type "range_iterator" by decide))
    have nC:C+322∉[it]:=notin1 (ne_cls hC hi (by rw [cC];exact (show Value.type "dict"≠Value.type "range_iterator" by decide)))
    have nc:∀{y:Nat} {o:Option Value},s.heap.get? y=some (cellO o)→y∉[it]:=fun h=>notin1 (ne_cls h hi (show Value.type "cell"≠Value.type "range_iterator" by decide))
    have nr:rk+322∉[it]:=notin1 (ne_cls hr hi (show Value.type "list"≠Value.type "range_iterator" by decide))
    obtain ⟨t0,ex⟩:=hx j (ah (Nat.lt_add_of_pos_right (Nat.succ_pos n)) hj)
    refine cD rfl (bJ W hh (rmz room rfl) hi hit fun s1 x1 i1=> ?_)
    have W1:=W.nxt x1 (High.one hit)
    have C1:=x1.keep hC nC
    have a1:=x1.keep ha na
    have h01:=x1.keep h0 (nc h0)
    have h11:=x1.keep h1 (nc h1)
    have r1:=x1.keep hr nr
    have q0:∀{y:Nat} {o:Option Value},s1.heap.get? y=some (cellO o)→y∉[C+322,a+322]:=fun h=>notin2 (ne_cls h C1 (by rw [cC];exact (show Value.type "cell"≠Value.type "dict" by decide))) (ne_cls h a1 (show Value.type "cell"≠Value.type "list" by decide))
    have hM:High [C+322,a+322]:=High.cons (.inl (ab _ _)) (High.one (ab _ _))
    refine ksT (k:=k) (r:=rf j) W1 hh (rmz room rfl) C1 hn a1 h01 h11 r1 ex lm (by rw [ak];lia) nra (ah (ah (Nat.lt_add_of_pos_right (Nat.succ_pos n)) hj) lN) fun s2 τ2 n2 m2 ts2 x2 C2 a2 e2=> ?_
    have e3:ts2=(if rf j<mks.length then L++[(U j,s.toks)] else L).map fD:=by
      rw [e2]
      split
      · rw [List.map_append];rfl
      · rfl
    rw [e3] at a2
    refine ks_loop hh room hit lm nra hx lN n (j+1) 1 j n2 m2 _ (ad (Nat.le_of_eq (Nat.succ_add_eq_add_succ j n)) hj) ?_ (W1.nxt x2 hM) C2 (fun h=>absurd h (by decide)) a2 (x2.keep h01 (q0 h01)) (x2.keep h11 (q0 h11)) (x2.keep r1 (notin2 (ne_cls r1 C1 (by rw [cC];exact Ne.symm cDL)) (fun e=>nra (Nat.add_right_cancel e)))) (x2.keep i1 (notin2 (ne_cls i1 C1 (by rw [cC];exact (show Value.type "range_iterator"≠Value.type "dict" by decide))) (ne_cls i1 a1 (show Value.type "range_iterator"≠Value.type "list" by decide)))) fun s' L' m' τ' k' n' q' X hC' hq' ha' e'=>kk s' L' m' τ' k' n' q' ((x1.weak (fun _ h=>(List.mem_singleton.mp h)▸.head _)).trans ((x2.weak (fun _ h=> .tail _ h)).trans X)) hC' hq' ha' ?_
    · split
      · rw [aA];exact aH (Nat.le_of_eq (Nat.add_right_comm _ _ _)) hL
      · exact aH (Nat.add_le_add_left (aK n) _) hL
    · rw [e',List.range'_succ]
      by_cases h:rf j<mks.length
      · rw [if_pos h,List.filter_cons_of_pos (by exact decide_eq_true h),List.map_append,List.map_cons,List.append_assoc];rfl
      · rw [if_neg h,List.filter_cons_of_neg (by rw [decide_eq_false h];exact Bool.false_ne_true)]
theorem co{w:ag}{A:ai}{s:aa}{R:Result→aa→Prop}{elt target iter:Expr}{ifs:List Expr}{rest:List Comprehension}{scope:Scope}{pos:Pos}{acc it:Value}{env:Env}{e:Expr}{cl:List (Str×Addr)}{C:Nat}(he:e= .ListComp elt (⟨target,iter,ifs,0⟩::rest) scope pos)(hi:∀(E:Value→aa→Prop) (Q:Value→aa→Prop),Q it s→wpAny (model pw w) A (pyIter it) Q E s)
    (h:codeAny (model pw w) A (lpC e it acc (compEnvC (lcS e) cl C env)) R s):codeAny (model pw w) A (cmpC e it acc cl C env) R s:=by
  subst he
  exact codeAny_compStart_list h (hi _ _ h)
theorem cz{w:ag}{A:ai}{s:aa}{it:Nat}{x left:Int}{step:Int}(h:s.heap.get? it=some (bs x left step))(E:Value→aa→Prop)(Q:Value→aa→Prop)(q:Q (.ref it) s):wpAny (model pw w) A (pyIter (.ref it)) Q E s:=
  wpAny_pyIter_rangeiter h q
theorem foK{w:ag}{s:aa}{A:ai}{E:Value→aa→Prop}{Q:Value→aa→Prop}{B c0 c1 tx rw tmk m0:Nat}{a:Nat→Value}{G:FoG}{τ σ:Nat→Nat}{xs:List Value}(W:KTH w s.heap)(hh:A.handled=none)(room:A.depth+130<recursionLimit)(hu:A.units+200<cLine)(hB:322≤B)(hf:s.heap.get? B=some (fFO w.params τ nmN (b15 G σ a tx rw)))(h0:s.heap.get? (c0+322)=some (cellO (some (.ref (G.rk+322)))))(h1:s.heap.get? (c1+322)=some (cellO (some (.str G.mks tmk))))(lb:G.bh<9)(lm:G.mks.length<2^20){rf:Nat→Nat}(hx:∀j,j<G.bh→∃t,xs[j]? =some (.int (U (rf j)) t))(hbb:G.bg<G.bh)(hr:s.heap.get? (G.rk+322)=some (lstO xs m0))
    (kk:∀s' y (L:List (Int×Tok)) m,Nxt [] s s'→s'.heap.get? (y+322)=some (lstO (L.map fD) m)→L.map (·.1)=((List.range' (G.bg+1) (G.bh - (G.bg+1))).filter (fun k=>decide (rf k<G.mks.length))).map U→Q (.ref (y+322)) s'):
    wpAny (model pw w) A (eval (eKS w) (enF w B c0 c1)) Q E s:=by
  refine dO [] [(B,_)] 60 W hh .nil (.cons hf .nil) ac nn0 dn0 (rmz room rfl) rfl [] fun A₀ c Q1 hQ1 uA₀=> ?_
  refine av (c':=(.call (.builtin "range.__iter__") ⟨[.ref s.heap.objs.size],[]⟩)) (d:=0) (u:=10) 32 0x4000400040000000400040004000000000000100000003000100000000 [0] [True] [some (⟨.type "range",none,.fields #[.int ((U (G.bg))+1) (s.toks+1),.int (U (G.bh)) (σ 2),.int 1 (s.toks+2)],#[]⟩)] 1 3 (by apply cW1 Q1 w<;>first|apply hQ1|(intro w;kernel_rfl)) (side_cons trivial no_side) fun s1 x1 g1 A' R' hA dA uA res1=> ?_
  have W1:=W.nxt x1 ac
  have ur:=cb (G.bg+1) G.bh (aH hbb (aC lb (by decide))) (aC lb (by decide))
  refine bd (g1 0) ur.1 ur.2 fun s2 x2 i2=> ?_
  have W2:=W1.nxt x2 ac
  refine Rsm.go (lim:=60) res1 [] [(s1.heap.objs.size,_),(c0+322,_),(c1+322,_)] W2 .nil (.cons i2 (.cons (x2.keep0 (x1.keep0 h0)) (.cons (x2.keep0 (x1.keep0 h1)) .nil))) ac nn0 dn0 (rmz room rfl) rfl [] fun Q2 hQ2=> ?_
  refine av (c':=cmpC (eKS w) (.ref s1.heap.objs.size) (.ref s2.heap.objs.size) (clK c0 c1) (s2.heap.objs.size+1) (enF w B c0 c1)) (d:=0) (u:=10) 3 0x1 [0,1] [] [some (lstO [] 0),some (dcO [] 0)] 2 0 (by apply cW2 Q2 Q1 w<;>first|apply hQ2|apply hQ1|(intro w;kernel_rfl)) no_side fun s3 x3 g3 A2 R2 hA2 dA2 uA2 res2=> ?_
  obtain ⟨i,hi⟩:∃i,s1.heap.objs.size=i+322:=(aW W1.2)
  obtain ⟨y,hy⟩:∃y,s2.heap.objs.size=y+322:=(aW W2.2)
  have dA2:A2.depth≤A.depth+0:=dA2
  have W3:=W2.nxt x3 ac
  have k0:∀{p:Nat} {o:Obj},s.heap.get? p=some o→s3.heap.get? p=some o:=fun h=>x3.keep0 (x2.keep0 (x1.keep0 h))
  have a3:s3.heap.get? s2.heap.objs.size=_:=(g3 0)
  have C3:s3.heap.get? (s2.heap.objs.size+1)=_:=(g3 1)
  have eC:s2.heap.objs.size+1=(y+1)+322:=by rw [hy]
  rw [eC] at C3
  rw [hy] at a3
  rw [eC,hy]
  have nra:G.rk≠y:=fun e=>Nat.lt_irrefl _ (ah (an hr) (ad x1.heap.size (ad x2.heap.size (hy▸e▸al _))))
  refine co rfl (cz (x3.keep0 i2)) (ks_loop (N:=G.bh) (τ:=tk []) hA2 (rm room dA2 rfl) W1.2 lm nra hx (Nat.le_of_lt_succ lb) (G.bh - (G.bg+1)) (G.bg+1) 0 0 0 0 [] (Nat.le_of_eq (Nat.add_sub_of_le hbb)) (by show 0+_<20;omega) W3 C3 (fun _=>rfl) a3 (k0 h0) (k0 h1) (k0 hr) (x3.keep0 i2) fun s4 L m4 τ4 k4 n4 q4 x4 C4 hq4 a4 e4=> ?_)
  have hM4:High [s1.heap.objs.size,y+1+322,y+322]:=High.cons (.inl W1.2) (High.cons (.inl (ab _ _)) (High.one (ab _ _)))
  rw [←eC] at C4
  have nB:B∉[s1.heap.objs.size,y+1+322,y+322]:=d9 (ay (an (x1.keep0 hf))) (eC▸ay (Nat.lt_succ_of_lt (an (x2.keep0 (x1.keep0 hf))))) (hy▸ay (an (x2.keep0 (x1.keep0 hf))))
  have nBC:B∉[s2.heap.objs.size+1]:=notin1 (ay (Nat.lt_succ_of_lt (an (x2.keep0 (x1.keep0 hf)))))
  have naC:y+322∉[s2.heap.objs.size+1]:=notin1 (hy▸ay (aO _))
  have hMC:High [s2.heap.objs.size+1]:=High.one (ad W2.2 (aK _))
  have W4:=W3.nxt x4 hM4
  have fin:∀s5,Nxt [s2.heap.objs.size+1] s4 s5→Q (.ref s2.heap.objs.size) s5:=fun s5 x5=>by
    have X:Nxt [s1.heap.objs.size,s2.heap.objs.size,s2.heap.objs.size+1] s s5:=x1.nil.trans (x2.nil.trans (x3.nil.trans ((x4.weak fun c h=>by rw [←eC,←hy] at h;rcases List.mem_cons.mp h with rfl|h;exact .head _;rcases List.mem_cons.mp h with rfl|h;exact .tail _ (.tail _ (.head _));rw [List.mem_singleton.mp h];exact .tail _ (.head _)).trans (x5.weak fun c h=>by rw [List.mem_singleton.mp h];exact .tail _ (.tail _ (.head _))))))
    rw [hy]
    exact kk s5 y L m4 (((X.drop x1.heap.size).drop (ad x1.heap.size x2.heap.size)).drop (ad (ad x1.heap.size x2.heap.size) (aK _))) (x5.keep a4 naC) e4
  rcases q4 with _|q4
  · refine Rsm.go (lim:=60) res2 [s2.heap.objs.size+1] [(B,_)] W4 (.cons C4 .nil) (.cons (x4.keep (k0 hf) nB) .nil) hMC (az _) (dj1 nBC) (rmz room rfl) rfl [] fun Q3 hQ3=> ?_
    refine am (f:=(.ret (.ref s2.heap.objs.size))) 1 0x40 [0] [] [some (⟨.type "dict",none,.dict #[] n4,#[]⟩)] 1 0 (by apply cW3 Q3 Q2 Q1 w<;>first|apply hQ3|apply hQ2|apply hQ1|(intro w;kernel_rfl)) no_side fun s5 x5 _=>fin s5 x5
  · refine Rsm.go (lim:=60) res2 [s2.heap.objs.size+1] [(B,_)] W4 (.cons C4 .nil) (.cons (x4.keep (k0 hf) nB) .nil) hMC (az _) (dj1 nBC) (rmz room rfl) rfl [] fun Q3 hQ3=> ?_
    refine am (f:=(.ret (.ref s2.heap.objs.size))) 5 0x4000400040 [0] [] [some (⟨.type "dict",none,.dict #[] (n4+1),#[]⟩)] 1 0 (by apply cW3 Q3 Q2 Q1 w<;>first|apply hQ3|apply hQ2|apply hQ1|(intro w;kernel_rfl)) no_side fun s5 x5 _=>fin s5 x5
noncomputable def hitsK(rf:Nat→Nat)(G:FoG):List Nat:=(List.range' (G.bg+1) (G.bh - (G.bg+1))).filter fun k=>decide (rf k<G.mks.length)
theorem foT{w:ag}{s:aa}{A:ai}{E:Value→aa→Prop}{Q:Flow→aa→Prop}{B c0 c1 tx rw tmk m0:Nat}{a:Nat→Value}{G:FoG}{τ σ:Nat→Nat}{xs:List Value}(W:KTH w s.heap)(hh:A.handled=none)(room:A.depth+130<recursionLimit)(hu:A.units+200<cLine)(hB:322≤B)(hf:s.heap.get? B=some (fFO w.params τ nmN (b15 G σ a tx rw)))(h0:s.heap.get? (c0+322)=some (cellO (some (.ref (G.rk+322)))))(h1:s.heap.get? (c1+322)=some (cellO (some (.str G.mks tmk))))(lb:G.bh<9)(lm:G.mks.length<2^20){rf:Nat→Nat}(hx:∀j,j<G.bh→∃t,xs[j]? =some (.int (U (rf j)) t))(hbb:G.bg<G.bh)(hr:s.heap.get? (G.rk+322)=some (lstO xs m0))
    (k1:hitsK rf G=[]→∀s',Nxt [] s s'→wpAny (model pw w) A (execs (sB (bFO w 7)) (enF w B c0 c1)) Q E s') (k0:hitsK rf G≠[]→∀s',Nxt [] s s'→Q .next s'):
    wpAny (model pw w) A (execs [bFO w 7] (enF w B c0 c1)) Q E s:=by
  refine wpAny_execs_cons (wpAny_If (wpAny_isTrue_Compare1 (foK W hh room hu hB hf h0 h1 lb lm hx hbb hr fun s1 y L m x1 a1 e1=> ?_)))
  have W1:=W.nxt x1 ac
  refine wpAny_mono (dO [] [] 60 W1 hh .nil .nil ac nn0 dn0 (rmz room rfl) rfl [] (E:=E) (Q:=fun v' s'=>∃a n,v'= .ref a∧s'.heap.get? a=some (lstO (([]:List (Int×Tok)).map fD) n)∧Nxt [] s1 s') fun A₀ c Q1 hQ1 _=> ?_) (fun v2 s2 h2=> ?_) fun _ _ e=>e
  · refine am (f:=(.ret (.ref s1.heap.objs.size))) 2 0x0 [0] [] [some (lstO [] 0)] 1 0 (by apply cW1 Q1 w<;>first|apply hQ1|(intro w;kernel_rfl)) no_side fun s3 x3 g3=>⟨_,0,rfl,(g3 0),x3⟩
  · obtain ⟨a,n,rfl,a2,x2⟩:=h2
    refine ints_eq (x2.keep0 a1) a2 (by lia) (wpAny_truthy_bool ?_)
    have hd:decide (L.map (·.1)=([]:List (Int×Tok)).map (·.1))=decide (hitsK rf G=[]):=by
      rw [e1]
      exact decide_eq_decide.mpr List.map_eq_nil_iff
    rw [hd]
    by_cases h:hitsK rf G=[]
    · rw [decide_eq_true h]
      exact wpAny_mono (k1 h s2 (x1.trans x2)) (fun f s' z=>by cases f<;>first|exact wpAny_execs_nil z|exact z) fun _ _ e=>e
    · rw [decide_eq_false h]
      exact wpAny_execs_nil (wpAny_execs_nil (k0 h s2 (x1.trans x2)))
noncomputable def bLF(w:ag)(k:Nat):Stmt:=aF (sB (bFO w 7)) k
theorem lf0{w:ag}{s:aa}{A:ai}{E:Value→aa→Prop}{Q:Flow→aa→Prop}{B c0 c1 tx m rw:Nat}{a:Nat→Value}{G:FoG}{τ σ:Nat→Nat}{L:List (Str×Tok)}(W:KTH w s.heap)(hh:A.handled=none)(room:A.depth+60<recursionLimit)(hB:322≤B)(hf:s.heap.get? B=some (fFO w.params τ nmN (b15 G σ a tx rw)))(ht:s.heap.get? (tx+322)=some (lstO (strValues L) m))(ok:JoinOk (S "") (L.map (·.1))=true)
    (kk:∀s' τ' td t,Nxt [B] s s'→s.heap.objs.size≤td+322→s'.heap.get? B=some (fFO w.params τ' nmL (b15 G σ a tx rw++[.ref (td+322)]))→s'.heap.get? (td+322)=some (lstO (strValues [(Txt.join (S "") (L.map (·.1)),t)]) 0)→Q .next s'):
    wpAny (model pw w) A (execs [bLF w 0] (enF w B c0 c1)) Q E s:=by
  refine aT [] [(B,_),(tx+322,_)] 60 W hh .nil (.cons hf (.cons ht .nil)) ac nn0 dn0 (rmz room rfl) rfl [] fun A₀ c Q1 hQ1 uA₀=> ?_
  refine av (c':=(.call (.builtin "str.join") ⟨[.str (S "") s.toks,.ref (tx+322)],[]⟩)) (d:=0) (u:=10) 8 0x1 [] [] [] 0 1 (by apply cW1 Q1 w<;>first|apply hQ1|(intro w;kernel_rfl)) no_side fun s1 x1 g1 A' R' hA dA uA res1=> ?_
  have W1:=W.nxt x1 ac
  refine bG L (x1.keep0 ht) ok fun s2 t2 x2=> ?_
  obtain ⟨J,eJ⟩:∃J,J=Txt.join (S "") (L.map (·.1)):=⟨_,rfl⟩
  rw [←eJ] at kk⊢
  refine Rsm.go (lim:=60) res1 [B] [] (W1.nxt x2 ac) (.cons (x2.keep0 (x1.keep0 hf)) .nil) .nil (High.one hB) (az _) dj0 (rmz room rfl) rfl [] fun Q2 hQ2=> ?_
  refine am (f:= .next) 9 0x400040 [0,1] [] [some (fFO w.params (tk [τ 0,τ 1,τ 2,τ 3,τ 4,τ 5,τ 6,τ 7,τ 8,τ 9,τ 10,τ 11,τ 12,τ 13,τ 14,s2.toks]) nmL (b15 G σ a tx rw++[.ref s2.heap.objs.size])),some (lstO [.str J t2] 0)] 2 1 (by apply cW2 Q2 Q1 w<;>first|apply hQ2|apply hQ1|(intro w;kernel_rfl)) no_side fun s3 x3 g3=> ?_
  obtain ⟨td,hd⟩:∃td,s2.heap.objs.size=td+322:=⟨s2.heap.objs.size - 322,by have:=(W1.nxt x2 ac).2;lia⟩
  have f3:s3.heap.get? B=_:=(g3 0)
  have t3:s3.heap.get? s2.heap.objs.size=_:=(g3 1)
  rw [hd] at f3 t3
  exact kk s3 _ td t2 (x1.nil.trans (x2.nil.trans x3)) (hd▸ad x1.heap.size x2.heap.size) f3 t3
theorem lf1a{w:ag}{s:aa}{A:ai}{E:Value→aa→Prop}{Q:Flow→aa→Prop}{B c0 c1 tx rw td:Nat}{a:Nat→Value}{G:FoG}{τ σ:Nat→Nat}(W:KTH w s.heap)(hh:A.handled=none)(room:A.depth+60<recursionLimit)(hf:s.heap.get? B=some (fFO w.params τ nmL (b15 G σ a tx rw++[.ref (td+322)])))(h0:G.H=0)
    (kk:∀s',Nxt [] s s'→Q .next s'):
    wpAny (model pw w) A (execs [bLF w 1] (enF w B c0 c1)) Q E s:=by
  refine aT [] [(B,_)] 60 W hh .nil (.cons hf .nil) ac nn0 dn0 (rmz room rfl) rfl [] fun A₀ c Q1 hQ1 uA₀=> ?_
  refine am (f:= .next) 8 0xe0001 [] [(decide (0<(U (G.H)))=false)] [] 0 1 (by apply cW1 Q1 w<;>first|apply hQ1|(intro w;kernel_rfl)) (side_cons (decide_eq_false (by rw [h0];decide)) no_side) fun s1 x1 _=>kk s1 x1
theorem li_ib{D:List PD}{n:Nat}{d:PD}(h:D[n - 1]? =some d)(n0:0<n)(l:n<9):((0:Int)≤U n - 1∧U n - 1<2^63)∧((refsD D):List Value).toArray[(U n - 1).toNat]? =some (.ref (d.a+322)):=by
  obtain ⟨j,rfl⟩:∃j,n=j+1:=⟨n - 1,(Nat.sub_add_cancel n0).symm⟩
  have e:U (j+1) - 1=U j:=by show ((j+1:Nat):Int) - 1=j;lia
  rw [e]
  exact ⟨⟨Int.natCast_nonneg _,Int.ofNat_lt.mpr (aC (Nat.lt_of_succ_lt l) (by decide))⟩,cP h⟩
theorem pick_init(L:List (Str×Tok))(x:Str×Tok):(slicePick (strValues (L++[x])).toArray none (some (-1)) none).toList=strValues L:=by
  have hz:(strValues (L++[x])).toArray.size=L.length+1:=by unfold strValues;rw [List.size_toArray,ak,aA];rfl
  have e:slicePick (strValues (L++[x])).toArray none (some (-1)) none=slicePick (strValues (L++[x])).toArray none (some (L.length:Int)) none:=by
    unfold slicePick
    have:sliceBounds none (some (-1)) none (L.length+1)=sliceBounds none (some (L.length:Int)) none (L.length+1):=by
      simp only [sliceBounds,Option.getD_none]
      have h2:¬((L.length:Int)<0):=by lia
      simp only [h2,if_false,if_true,show (-1:Int)<0 by decide,show (1:Int)>0 by decide]
      congr 1
      congr 1
      lia
    rw [hz,this]
  rw [e,slicePick_upto _ _ (by rw [hz];exact aK _)]
  unfold strValues
  simp
theorem lf1b{w:ag}{s:aa}{A:ai}{E:Value→aa→Prop}{Q:Flow→aa→Prop}{B c0 c1 tx rw td m m2:Nat}{a:Nat→Value}{G:FoG}{τ σ:Nat→Nat}{L:List (Str×Tok)}{x:Str×Tok}{D:List PD}{d:PD}(W:KTH w s.heap)(hh:A.handled=none)(room:A.depth+130<recursionLimit)(hB:322≤B)(hf:s.heap.get? B=some (fFO w.params τ nmL (b15 G σ a tx rw++[.ref (td+322)])))(h0:0<G.H)(ht:s.heap.get? (tx+322)=some (lstO (strValues (L++[x])) m))(ok:JoinOk (S "") (L.map (·.1))=true)(l8:L.length<8)(hl:s.heap.get? (G.li+322)=some (lstO (refsD D) m2))(hd:D[G.bh - 1]? =some d)(hp:s.heap.get? (d.a+322)=some d.o)(okd:Wrd d.f d.p)(b0:0<G.bh)(b8:G.bh<9)
    (kk:∀s' τ' td t u,Nxt [B] s s'→s.heap.objs.size≤td+322→s'.heap.get? B=some (fFO w.params τ' nmL (b15 G σ a tx rw++[.ref (td+322)]))→s'.heap.get? (td+322)=some (lstO (strValues [(Txt.join (S "") (L.map (·.1)),t),((if d.f=S "" then S " " else d.f)++d.p,u)]) 0)→Q .next s'):
    wpAny (model pw w) A (execs [bLF w 1] (enF w B c0 c1)) Q E s:=by
  have n1:=notin1 (ne_cls ht hf (Ne.symm cFL))
  have n2:=notin1 (ne_cls hl hf (Ne.symm cFL))
  have n3:=notin1 (ne_cls hp hf (Ne.symm cFT))
  refine aT [] [(B,_),(tx+322,_)] 60 W hh .nil (.cons hf (.cons ht .nil)) ac nn0 dn0 (rmz room rfl) rfl [] fun A₀ c Q1 hQ1 uA₀=> ?_
  refine av (c':=(.call (.builtin "list.__getitem__") ⟨[.ref (tx+322),.ref s.heap.objs.size],[]⟩)) (d:=0) (u:=10) 26 0x200020002000000010001000e0001 [0] [(decide (0<(U (G.H)))=true)] [some (⟨.type "slice",none,.fields #[.none,.int (-1) (s.toks+3),.none],#[]⟩)] 1 4 (by apply cW1 Q1 w<;>first|apply hQ1|(intro w;kernel_rfl)) (side_cons (decide_eq_true (Int.ofNat_lt.mpr h0)) no_side) fun s1 x1 g1 A' R' hA dA uA res1=> ?_
  have dA:A'.depth≤A.depth+0:=dA
  have W1:=W.nxt x1 ac
  refine bl (lo:=none) (hi:=some (-1)) W1 hA (rm room dA rfl) (x1.keep0 ht) ⟨_,(g1 0),rfl,rfl⟩ .none (.int _ _) (by rw [show (strValues (L++[x])).length=L.length+1 by unfold strValues;rw [ak,aA];rfl];exact ad (Nat.succ_le_succ (au l8)) (by decide)) fun s2 r x2 hr r2=> ?_
  obtain ⟨r,rfl⟩:∃r',r=r'+322:=(aW (ad W1.2 (by assumption)))
  have eP:(slicePick (strValues (L++[x])).toArray none (some (-1)) none).toList=strValues L:=pick_init L x
  rw [eP] at r2
  have x12:=x1.trans x2
  have W2:=W.nxt x12 ac
  refine Rsm.go (lim:=60) res1 [] [(r+322,_)] W2 .nil (.cons r2 .nil) ac nn0 dn0 (rmz room rfl) rfl [] fun Q2 hQ2=> ?_
  refine av (c':=(.call (.builtin "str.join") ⟨[.str (S "") (s.4+1),.ref (r+322)],[]⟩)) (d:=0) (u:=10) 2 0x0 [] [] [] 0 0 (by apply cW2 Q2 Q1 w<;>first|apply hQ2|apply hQ1|(intro w;kernel_rfl)) no_side fun s3 x3 g3 A' R' hA dA uA res2=> ?_
  have W3:=W2.nxt x3 ac
  refine bG L (x3.keep0 r2) ok fun s4 t4 x4=> ?_
  obtain ⟨J,eJ⟩:∃J,J=Txt.join (S "") (L.map (·.1)):=⟨_,rfl⟩
  rw [←eJ] at kk⊢
  have x14:=x12.trans (x3.trans x4)
  have W4:=W.nxt x14 ac
  obtain ⟨z,e1,e2,y1,y2,y3,ef,ep⟩:=okd.form
  have p4:=x14.keep0 hp
  unfold PD.o at p4
  have iK:=li_ib hd b0 b8
  obtain ⟨td',ht4⟩:∃td,s4.heap.objs.size=td+322:=(aW W4.2)
  cases z
  · rw [ef,ep] at p4
    rw [if_neg (by rw [ef];exact (fun e=>absurd (congrArg Str.length e) (show ¬(2=0) by decide))),ef,ep] at kk
    refine Rsm.go (lim:=60) res2 [B] [(G.li+322,_),(d.a+322,_)] W4 (.cons (x14.keep0 hf) .nil) (.cons (x14.keep0 hl) (.cons p4 .nil)) (High.one hB) (az _) (djc n2 (dj1 n3)) (rmz room rfl) rfl [.ref (d.a+322)] fun Q3 hQ3=> ?_
    refine am (f:= .next) 74 0x4000400000001400000002000000020002000200020000000100c80001000100010001000000040040004000000018000000000002000000020002000200020000000100c800010001000100010000000400400040 [0,1] [((⟨#[e1,e2]⟩++⟨#[y1,y2,y3]⟩:Str).length≤sizeLine),((0≤((U (G.bh)) - 1)∧((U (G.bh)) - 1)<2^63)∧((refsD D):List Value).toArray[(((U (G.bh)) - 1)).toNat]? =some (.ref (d.a+322))),True,True,((0≤((U (G.bh)) - 1)∧((U (G.bh)) - 1)<2^63)∧((refsD D):List Value).toArray[(((U (G.bh)) - 1)).toNat]? =some (.ref (d.a+322))),True] [some (fFO w.params τ nmL (b15 G σ a tx rw++[.ref s4.heap.objs.size])),some (lstO [.str J t4,.str (⟨#[e1,e2]⟩++⟨#[y1,y2,y3]⟩) (s4.toks+8)] 0)] 2 10 (by apply cW3 Q3 Q2 Q1 w<;>first|apply hQ3|apply hQ2|apply hQ1|(intro w;kernel_rfl)) (side_cons (show 5≤2^24 by decide) (side_cons iK (side_cons trivial (side_cons trivial (side_cons iK (side_cons trivial no_side)))))) fun s5 x5 g5=> ?_
    have f5:s5.heap.get? B=_:=(g5 0)
    have t5:s5.heap.get? s4.heap.objs.size=_:=(g5 1)
    rw [ht4] at f5 t5
    exact kk s5 _ td' t4 _ (x14.nil.trans x5) (ht4▸x14.heap.size) f5 t5
  · rw [ef,ep] at p4
    rw [if_pos (show d.f=S "" from ef),ep] at kk
    refine Rsm.go (lim:=60) res2 [B] [(G.li+322,_),(d.a+322,_)] W4 (.cons (x14.keep0 hf) .nil) (.cons (x14.keep0 hl) (.cons p4 .nil)) (High.one hB) (az _) (djc n2 (dj1 n3)) (rmz room rfl) rfl [.ref (d.a+322)] fun Q3 hQ3=> ?_
    refine am (f:= .next) 77 0x4000400000001400000002000000020002000200020000000100c8000100010001000100000004004000400000000000000002000000020002000200020000000100c800010001000100010000000400400040 [0,1] [(((S " ")++⟨#[y1,y2,y3]⟩:Str).length≤sizeLine),((0≤((U (G.bh)) - 1)∧((U (G.bh)) - 1)<2^63)∧((refsD D):List Value).toArray[(((U (G.bh)) - 1)).toNat]? =some (.ref (d.a+322))),True,((0≤((U (G.bh)) - 1)∧((U (G.bh)) - 1)<2^63)∧((refsD D):List Value).toArray[(((U (G.bh)) - 1)).toNat]? =some (.ref (d.a+322))),True] [some (fFO w.params τ nmL (b15 G σ a tx rw++[.ref s4.heap.objs.size])),some (lstO [.str J t4,.str ((S " ")++⟨#[y1,y2,y3]⟩) (s4.toks+9)] 0)] 2 11 (by apply cW3 Q3 Q2 Q1 w<;>first|apply hQ3|apply hQ2|apply hQ1|(intro w;kernel_rfl)) (side_cons (show 4≤2^24 by decide) (side_cons iK (side_cons trivial (side_cons iK (side_cons trivial no_side))))) fun s5 x5 g5=> ?_
    have f5:s5.heap.get? B=_:=(g5 0)
    have t5:s5.heap.get? s4.heap.objs.size=_:=(g5 1)
    rw [ht4] at f5 t5
    exact kk s5 _ td' t4 _ (x14.nil.trans x5) (ht4▸x14.heap.size) f5 t5
noncomputable abbrev M4:=Int×Int×Int×Int
noncomputable def mulM(m n:M4):M4:=(m.1 * n.1+m.2.1 * n.2.2.1,m.1 * n.2.1+m.2.1 * n.2.2.2,m.2.2.1 * n.1+m.2.2.2 * n.2.2.1,m.2.2.1 * n.2.1+m.2.2.2 * n.2.2.2)
noncomputable def m4O(m:M4)(t:Nat→Nat):Obj:=aX [.int m.1 (t 0),.int m.2.1 (t 1),.int m.2.2.1 (t 2),.int m.2.2.2 (t 3)]
noncomputable def Bd4(m:M4):Prop:=∀x∈[m.1,m.2.1,m.2.2.1,m.2.2.2],Bd (2^20) x
noncomputable def sqO(P:ae)(t0 t1 sa sb n:Nat):Obj:=⟨.type "dict",none,.dict #[en P (S "a") t0 (.ref (sa+322)),en P (S "b") t1 (.ref (sb+322))] n,#[]⟩
noncomputable def b17(G:FoG)(σ:Nat→Nat)(a:Nat→Value)(tx rw td wh:Nat):List Value:=b15 G σ a tx rw++[.ref (td+322),.ref (wh+322)]
theorem sq_get{w:ag}{s:aa}{A:ai}{R:Result→aa→Prop}{q t0 t1 sa sb n:Nat}{t:Tok}{z:Bool}(hq:s.heap.get? (q+322)=some (sqO w.params t0 t1 sa sb n))
    (k:∀s',Nxt [] s s'→R (.ok (.ret (.ref (cond z sb sa+322)))) s'):codeAny (model pw w) A (.call (.builtin "dict.__getitem__") ⟨[.ref (q+322),.str ⟨#[ltc z]⟩ t],[]⟩) R s:=by
  have hT:s.TypeIs (.ref (q+322)) "dict":=⟨_,hq,rfl⟩
  have hm:s.heap.MapOf (strKind pw w) (q+322) (fun k=>findBy Value.isStrOf #[ew w "a" t0 (.ref (sa+322)),ew w "b" t1 (.ref (sb+322))] k):=by
    refine ⟨_,_,n,hq,⟨rfl,rfl,rfl⟩,rfl,fun e he=> ?_,fun _=>rfl⟩
    rcases List.mem_cons.mp (Array.mem_toList_iff.mpr he) with rfl|he
    · exact ⟨S "a",by kernel_rfl,rfl⟩
    · rw [List.mem_singleton.mp he];exact ⟨S "b",by kernel_rfl,rfl⟩
  refine codeAny_call_builtin F.slot_dict_getitem.plain F.entry_dict_getitem (F.slot_dict_getitem.check _ _ _ _ _ _ _ _ hT (F.args_dict_getitem_2 _ _) (meets_dict_getitem (strKind pw w) (k:=⟨#[ltc z]⟩) (q+322) (by cases z<;>kernel_rfl) A R s ⟨_,.ref (cond z sb sa+322),hm,by cases z<;>kernel_rfl,k _ (nxt_toks s _)⟩))
theorem lf2{w:ag}{s:aa}{A:ai}{E:Value→aa→Prop}{Q:Flow→aa→Prop}{B c0 c1 tx rw td:Nat}{a:Nat→Value}{G:FoG}{τ σ:Nat→Nat}(W:KTH w s.heap)(hh:A.handled=none)(room:A.depth+60<recursionLimit)(hB:322≤B)(hf:s.heap.get? B=some (fFO w.params τ nmL (b15 G σ a tx rw++[.ref (td+322)])))
    (kk:∀s' τ' wh t,Nxt [B] s s'→s.heap.objs.size≤wh+322→s'.heap.get? B=some (fFO w.params τ' nmL (b17 G σ a tx rw td wh))→s'.heap.get? (wh+322)=some (m4O (1,0,0,1) t)→Q .next s'):
    wpAny (model pw w) A (execs [bLF w 2] (enF w B c0 c1)) Q E s:=by
  refine aT [B] [] 60 W hh (.cons hf .nil) .nil (High.one hB) (az _) dj0 (rmz room rfl) rfl [] fun A₀ c Q1 hQ1 uA₀=> ?_
  refine am (f:= .next) 14 0x400040 [0,1] [] [some (fFO w.params (tk [τ 0,τ 1,τ 2,τ 3,τ 4,τ 5,τ 6,τ 7,τ 8,τ 9,τ 10,τ 11,τ 12,τ 13,τ 14,τ 15,s.toks+4]) nmL (b15 G σ a tx rw++[.ref (td+322),.ref s.heap.objs.size])),some (m4O (1,0,0,1) (tk [s.toks,s.toks+1,s.toks+2,s.toks+3]))] 2 5 (by apply cW1 Q1 w<;>first|apply hQ1|(intro w;kernel_rfl)) no_side fun s1 x1 g1=> ?_
  obtain ⟨wh,hw⟩:∃wh,s.heap.objs.size=wh+322:=(aW W.2)
  have f1:s1.heap.get? B=_:=(g1 0)
  have w1:s1.heap.get? s.heap.objs.size=_:=(g1 1)
  rw [hw] at f1 w1
  exact kk s1 _ wh _ x1 (Nat.le_of_eq hw) f1 w1
theorem lfT{w:ag}{s:aa}{A:ai}{E:Value→aa→Prop}{Q:Flow→aa→Prop}{B c0 c1 tx rw td wh i il ix sa sb n t0 t1 d y1 y3:Nat}{f:Str}{tf tp:Tok}{z:Bool}{a:Nat→Value}{G:FoG}{τ σ ta tb tw:Nat→Nat}{ma mb m:M4}(W:KTH w s.heap)(hh:A.handled=none)(room:A.depth+110<recursionLimit)(hB:322≤B)(hf:s.heap.get? B=some (fFO w.params τ nmL (b17 G σ a tx rw td wh)))(hd:s.heap.get? (d+322)=some (aX [.str f tf,.str ⟨#[y1,ltc z,y3]⟩ tp]))(hq:s.heap.get? (G.sq+322)=some (sqO w.params t0 t1 sa sb n))(ha:s.heap.get? (sa+322)=some (m4O ma ta))(hb:s.heap.get? (sb+322)=some (m4O mb tb))(hw:s.heap.get? (wh+322)=some (m4O m tw))(hi:s.heap.get? (i+322)=some (bE il ix))(ba:Bd4 ma)(bb:Bd4 mb)(bm:Bd4 m)
    (kk:∀s' τ' a' wh' t',Nxt [B] s s'→s'.heap.get? B=some (fFO w.params τ' nmL (b17 G σ a' tx rw td wh'))→s'.heap.get? (wh'+322)=some (m4O (mulM m (cond z mb ma)) t')→Q .next s'):
    wpAny (model pw w) A (letOwnedTupleGo (sT (bLF w 3)) (.ref (i+322)) (.ref (d+322))>>=fun _=>assign (sT (bLF w 3)) (enF w B c0 c1) (.ref (d+322))>>=fun _=>execs (sB (bLF w 3)) (enF w B c0 c1)) Q E s:=by
  have nd:=notin1 (ne_cls hd hf (Ne.symm cFT))
  have nq:=notin1 (ne_cls hq hf (show Value.type "dict"≠Value.type "frame" by decide))
  have ni:=notin1 (ne_cls hi hf (show Value.type "list_iterator"≠Value.type "frame" by decide))
  refine bL [B] [(d+322,_),(G.sq+322,_),(i+322,_)] 60 W hh (.cons hf .nil) (.cons hd (.cons hq (.cons hi .nil))) (High.one hB) (az _) (djc nd (djc nq (dj1 ni))) (rmz room rfl) rfl [] fun A₀ c Q1 hQ1 uA₀=> ?_
  refine av (c':=(.call (.builtin "dict.__getitem__") ⟨[.ref (G.sq+322),.str ⟨#[ltc z]⟩ (s.toks+3)],[]⟩)) (d:=0) (u:=10) 80 0x20002000200000040004000400000004000400040004000430041004100010041004100000041004100410041000100410041000000410041004100410001004100410000004100410041000000010001000100010003 [0] [] [some (fFO w.params τ nmL (b17 G σ (vk [.none,.none,.none,.none,.none,.none,.none,.none,.none,a 9,a 10,a 11,.str f tf,.str ⟨#[y1,ltc z,y3]⟩ tp]) tx rw td wh))] 4 4 (by apply cW1 Q1 w<;>first|apply hQ1|(intro w;kernel_rfl)) no_side fun s1 x1 g1 A' R' hA dA uA res1=> ?_
  have f1:s1.heap.get? B=_:=(g1 0)
  have W1:=W.nxt x1 (High.one hB)
  refine sq_get (x1.keep hq nq) fun s2 x2=> ?_
  refine Rsm.go (lim:=60) res1 [] [(B,_)] (W1.nxt x2 ac) .nil (.cons (x2.keep0 f1) .nil) ac nn0 dn0 (rmz room rfl) rfl [] fun Q2 hQ2=> ?_
  refine av (c':=(.call (.ref 304) ⟨[.ref (wh+322),.ref (cond z sb sa+322)],[]⟩)) (d:=0) (u:=10) 2 0x0 [] [] [] 0 0 (by apply cW2 Q2 Q1 w<;>first|apply hQ2|apply hQ1|(intro w;kernel_rfl)) no_side fun s3 x3 g3 A' R' hA dA uA res2=> ?_
  have dA:A'.depth≤A.depth+0:=dA
  have x13:=x2.trans x3
  have W3:=W1.nxt x13 ac
  have e0:∀{p:Nat} {m:M4} {t:Nat→Nat},s.heap.get? (p+322)=some (m4O m t)→s3.heap.get? (p+322)=some (m4O m t):=fun h=>x13.keep0 (x1.keep h (notin1 (ne_cls h hf (Ne.symm cFT))))
  have hz:s3.heap.get? (cond z sb sa+322)=some (m4O (cond z mb ma) (cond z tb ta)):=by cases z;exact e0 ha;exact e0 hb
  have bz:Bd4 (cond z mb ma):=by cases z;exact ba;exact bb
  refine times_spec W3 (rm room dA rfl) hA (e0 hw) hz bm bz fun s4 r u0 u1 u2 u3 x4 lr r4=> ?_
  obtain ⟨r,rfl⟩:∃r',r=r'+322:=(aW (ad W3.2 (by assumption)))
  have x14:=x13.trans x4
  refine Rsm.go (lim:=60) res2 [B] [] (W1.nxt x14 ac) (.cons (x14.keep0 f1) .nil) .nil (High.one hB) (az _) dj0 (rmz room rfl) rfl [] fun Q3 hQ3=> ?_
  refine am (f:= .next) 8 0x400040 [0] [] [some (fFO w.params (tk [τ 0,τ 1,τ 2,τ 3,τ 4,τ 5,τ 6,τ 7,τ 8,τ 9,τ 10,τ 11,τ 12,τ 13,τ 14,τ 15,τ 16]) nmL (b17 G σ (vk [.none,.none,.none,.none,.none,.none,.none,.none,.none,a 9,a 10,a 11,.str f tf,.str ⟨#[y1,ltc z,y3]⟩ tp]) tx rw td r))] 1 1 (by apply cW3 Q3 Q2 Q1 w<;>first|apply hQ3|apply hQ2|apply hQ1|(intro w;kernel_rfl)) no_side fun s5 x5 g5=> ?_
  have rB:r+322∉[B]:=notin1 (ne_cls r4 (x14.keep0 f1) (Ne.symm cFT))
  exact kk s5 _ _ r (tk [u0,u1,u2,u3]) (x1.trans (x14.nil.trans x5)) (g5 0) (x5.keep r4 rB)
noncomputable def zP(p:Str):Bool:=p.cps[1]? ==some 98
noncomputable def Let(p:Str):Prop:=∃y1 z y3,p=⟨#[y1,ltc z,y3]⟩
theorem Let.eq{p:Str}(h:Let p):∃y1 y3,p=⟨#[y1,ltc (zP p),y3]⟩:=by
  obtain ⟨y1,z,y3,rfl⟩:=h
  refine ⟨y1,y3,?_⟩
  cases z<;>rfl
noncomputable def prodP(ma mb:M4):M4→List (Str×Str)→M4
  |m,[]=>m
  |m,x::L=>prodP ma mb (mulM m (cond (zP x.2) mb ma)) L
theorem prodP_app(ma mb:M4):∀(L K:List (Str×Str)) (m:M4),prodP ma mb m (L++K)=prodP ma mb (prodP ma mb m L) K
  |[],_,_=>rfl
  |x::L,K,m=>prodP_app ma mb L K _
theorem lf_loop{w:ag}{A:ai}{R:Result→aa→Prop}{B c0 c1 tx rw td i il sa sb n t0 t1 m0:Nat}{G:FoG}{σ ta tb:Nat→Nat}{ma mb:M4}{DS:List PD}(hh:A.handled=none)(room:A.depth+110<recursionLimit)(hB:322≤B)(ba:Bd4 ma)(bb:Bd4 mb)(bP:∀j,Bd4 (prodP ma mb (1,0,0,1) (fp (DS.take j))))(okl:∀d∈DS,Let d.p):
    ∀(ds:List PD) (j wh:Nat) (a:Nat→Value) {s:aa} {τ tw:Nat→Nat},DS.drop j=ds→KTH w s.heap→Pts s.heap DS→s.heap.get? B=some (fFO w.params τ nmL (b17 G σ a tx rw td wh))→s.heap.get? (G.sq+322)=some (sqO w.params t0 t1 sa sb n)→s.heap.get? (sa+322)=some (m4O ma ta)→s.heap.get? (sb+322)=some (m4O mb tb)→s.heap.get? (wh+322)=some (m4O (prodP ma mb (1,0,0,1) (fp (DS.take j))) tw)→s.heap.get? (il+322)=some (lstO (refsD DS) m0)→s.heap.get? (i+322)=some (bE (il+322) j)→
      (∀s' τ' a' wh' t',Nxt [B,i+322] s s'→s'.heap.get? B=some (fFO w.params τ' nmL (b17 G σ a' tx rw td wh'))→s'.heap.get? (wh'+322)=some (m4O (prodP ma mb (1,0,0,1) (fp DS)) t')→R (.ok .next) s')→
      codeAny (model pw w) A (forC (bLF w 3) (.ref (i+322)) (enF w B c0 c1)) R s
  |[],j,wh,a,s,τ,tw,hj,W,hp,hf,hq,ha,hb,hw,hl,hi,kk=>by
    have lj:DS.length≤j:=List.drop_eq_nil_iff.mp hj
    have nB:B∉[i+322]:=notin1 (ne_cls hf hi (show Value.type "frame"≠Value.type "list_iterator" by decide))
    refine aV (dY hh hi hl (dc lj) fun s1 x1=>wpAny_execs_nil ?_)
    rw [List.take_of_length_le lj] at hw
    exact kk s1 τ a wh tw (x1.weak (fun _ h=> .tail _ h)) (x1.keep hf nB) (x1.keep hw (notin1 (ne_cls hw hi cTI)))
  |d::ds,j,wh,a,s,τ,tw,hj,W,hp,hf,hq,ha,hb,hw,hl,hi,kk=>by
    have hj':=ch hj
    have hd:d∈DS:=aM hj'.1
    obtain ⟨y1,y3,ep⟩:=(okl d hd).eq
    have nB:B∉[i+322]:=notin1 (ne_cls hf hi (show Value.type "frame"≠Value.type "list_iterator" by decide))
    refine aV (de hi hl (cP hj'.1) fun s1 x1 i1=> ?_)
    have W1:=W.nxt x1 (High.one (ab _ _))
    have p1:=hp.off1 x1 hi (Ne.symm cTI)
    have f1:=x1.keep hf nB
    have td1:=p1 d hd
    unfold PD.o at td1
    rw [ep] at td1
    have q1:∀{p:Nat} {m:M4} {t:Nat→Nat},s.heap.get? (p+322)=some (m4O m t)→s1.heap.get? (p+322)=some (m4O m t):=fun h=>x1.keep h (notin1 (ne_cls h hi cTI))
    have hq1:=x1.keep hq (notin1 (ne_cls hq hi cDI))
    refine lfT (z:=zP d.p) W1 hh room hB f1 td1 hq1 (q1 ha) (q1 hb) (q1 hw) i1 ba bb (bP j) fun s2 τ2 a2 wh2 t2 x2 f2 w2=> ?_
    have q2:∀{p:Nat} {m:M4} {t:Nat→Nat},s1.heap.get? (p+322)=some (m4O m t)→s2.heap.get? (p+322)=some (m4O m t):=fun h=>x2.keep h (notin1 (ne_cls h f1 (Ne.symm cFT)))
    have eP:mulM (prodP ma mb (1,0,0,1) (fp (DS.take j))) (cond (zP d.p) mb ma)=prodP ma mb (1,0,0,1) (fp (DS.take (j+1))):=by
      rw [List.take_add_one,hj'.1,cv,prodP_app];rfl
    rw [eP] at w2
    exact lf_loop hh room hB ba bb bP okl ds (j+1) wh2 a2 hj'.2 (W1.nxt x2 (High.one hB)) (p1.off1 x2 f1 cFT) f2 (x2.keep hq1 (notin1 (ne_cls hq1 f1 (show Value.type "dict"≠Value.type "frame" by decide)))) (q2 (q1 ha)) (q2 (q1 hb)) w2 (x2.keep (x1.keep hl (notin1 (ne_cls hl hi (Ne.symm cLI)))) (notin1 (ne_cls (x1.keep hl (notin1 (ne_cls hl hi (Ne.symm cLI)))) f1 (Ne.symm cFL)))) (x2.keep i1 (notin1 (ne_cls i1 f1 (show Value.type "list_iterator"≠Value.type "frame" by decide)))) fun s' τ' a' wh' t' X=>kk s' τ' a' wh' t' ((x1.weak (fun _ h=> .tail _ h)).trans ((x2.weak (fun _ h=>(List.mem_singleton.mp h)▸.head _)).trans X))
theorem lf3{w:ag}{s:aa}{A:ai}{E:Value→aa→Prop}{Q:Flow→aa→Prop}{B c0 c1 tx rw td wh sa sb n t0 t1 m:Nat}{a:Nat→Value}{G:FoG}{τ σ ta tb tw:Nat→Nat}{ma mb:M4}{D:List PD}(W:KTH w s.heap)(hh:A.handled=none)(room:A.depth+130<recursionLimit)(hB:322≤B)(hf:s.heap.get? B=some (fFO w.params τ nmL (b17 G σ a tx rw td wh)))(hl:s.heap.get? (G.li+322)=some (lstO (refsD D) m))(hp:Pts s.heap D)(l8:D.length<8)(hbb:G.bg<G.bh)(hb:G.bh≤D.length)(hq:s.heap.get? (G.sq+322)=some (sqO w.params t0 t1 sa sb n))(ha:s.heap.get? (sa+322)=some (m4O ma ta))(hb':s.heap.get? (sb+322)=some (m4O mb tb))(hw:s.heap.get? (wh+322)=some (m4O (1,0,0,1) tw))(ba:Bd4 ma)(bb:Bd4 mb)(bP:∀j,Bd4 (prodP ma mb (1,0,0,1) (fp ((slD D G.bg G.bh).take j))))(okl:∀d∈D,Let d.p)
    (kk:∀s' τ' a' wh' t',Nxt [B] s s'→s'.heap.get? B=some (fFO w.params τ' nmL (b17 G σ a' tx rw td wh'))→s'.heap.get? (wh'+322)=some (m4O (prodP ma mb (1,0,0,1) (fp (slD D G.bg G.bh))) t')→Q .next s'):
    wpAny (model pw w) A (execs [bLF w 3] (enF w B c0 c1)) Q E s:=by
  refine aT [] [(B,_),(G.li+322,_)] 60 W hh .nil (.cons hf (.cons hl .nil)) ac nn0 dn0 (rmz room rfl) rfl [] fun A₀ c Q1 hQ1 uA₀=> ?_
  refine av (c':=(.call (.builtin "list.__getitem__") ⟨[.ref (G.1+322),.ref s.heap.objs.size],[]⟩)) (d:=0) (u:=10) 12 0x200020002000100010001 [0] [] [some (⟨.type "slice",none,.fields #[.int (U (G.bg)) (σ 1),.int (U (G.bh)) (σ 2),.none],#[]⟩)] 1 0 (by apply cW1 Q1 w<;>first|apply hQ1|(intro w;kernel_rfl)) no_side fun s1 x1 g1 A' R' hA dA uA res1=> ?_
  have dA:A'.depth≤A.depth+0:=dA
  have W1:=W.nxt x1 ac
  refine bl (lo:=some (U G.bg)) (hi:=some (U G.bh)) W1 hA (rm room dA rfl) (x1.keep0 hl) ⟨_,(g1 0),rfl,rfl⟩ (.int _ _) (.int _ _) (by unfold refsD;rw [ak];exact ad (au l8) (by decide)) fun s2 r x2 hr r2=> ?_
  obtain ⟨r,rfl⟩:∃r',r=r'+322:=(aW (ad W1.2 (by assumption)))
  have x12:=x1.trans x2
  have W2:=W.nxt x12 ac
  refine Rsm.go (lim:=60) res1 [] [(r+322,_)] W2 .nil (.cons r2 .nil) ac nn0 dn0 (rmz room rfl) rfl [] fun Q2 hQ2=> ?_
  refine av (c':=(forC (bLF w 3) (.ref s2.heap.objs.size) (enF w B c0 c1))) (d:=0) (u:=10) 11 0x400000000100010001 [0] [] [some (⟨.type "list_iterator",none,.fields #[.ref (r+322),.int 0 0],#[]⟩)] 1 0 (by apply cW2 Q2 Q1 w<;>first|apply hQ2|apply hQ1|(intro w;kernel_rfl)) no_side fun s3 x3 g3 A2 R2 hA2 dA2 uA2 res2=> ?_
  have dA2:A2.depth≤A.depth+0:=dA2
  obtain ⟨i,hi⟩:∃i,s2.heap.objs.size=i+322:=(aW W2.2)
  have i3:s3.heap.get? s2.heap.objs.size=some (bE (r+322) 0):=(g3 0)
  rw [hi] at i3
  rw [hi]
  have x13:=x12.trans x3
  rw [dN (au hbb) hb] at r2
  have lB:B<i+322:=hi▸an (x12.keep0 hf)
  refine lf_loop hA2 (rm room dA2 rfl) hB ba bb bP (fun d h=>okl d (bH h)) (slD D G.bg G.bh) 0 wh a rfl (W.nxt x13 ac) (fun d h=>x13.keep0 (hp d (bH h))) (x13.keep0 hf) (x13.keep0 hq) (x13.keep0 ha) (x13.keep0 hb') (x13.keep0 hw) (x3.keep0 r2) i3 fun s4 τ4 a4 wh4 t4 x4 f4 w4=> ?_
  have W4:=(W.nxt x13 ac).nxt x4 (High.cons (.inl hB) (High.one (ab _ _)))
  refine Rsm.go (lim:=60) res2 [] [] W4 .nil .nil ac aD dj0 (rmz room rfl) rfl [] fun Q3 hQ3=> ?_
  refine am (f:= .next) 0 0x0 [] [] [] 0 0 (by apply cW3 Q3 Q2 Q1 w<;>first|apply hQ3|apply hQ2|apply hQ1|(intro w;kernel_rfl)) no_side fun s5 x5 _=> ?_
  have X:Nxt [i+322,B] s s5:=x13.nil.trans ((x4.weak fun c h=>(List.mem_cons.mp h).elim (fun h=>h▸.tail _ (.head _)) fun h=>(List.mem_singleton.mp h)▸.head _).trans x5.nil)
  exact kk s5 τ4 a4 wh4 t4 (X.drop (hi▸x12.heap.size)) (x5.keep0 f4) (x5.keep0 w4)
theorem lf4{w:ag}{s:aa}{A:ai}{E:Value→aa→Prop}{Q:Flow→aa→Prop}{B c0 c1 tx rw td wh m m2:Nat}{a:Nat→Value}{G:FoG}{τ σ:Nat→Nat}{L M:List (Str×Tok)}(W:KTH w s.heap)(hh:A.handled=none)(room:A.depth+60<recursionLimit)(hu:A.units<cLine)(hf:s.heap.get? B=some (fFO w.params τ nmL (b17 G σ a tx rw td wh)))(h1:s.heap.get? (rw+322)=some (lstO (strValues L) m))(h2:s.heap.get? (td+322)=some (lstO (strValues M) m2))(he:L.map (·.1)=M.map (·.1))
    (kk:∀s',Nxt [] s s'→Q (.ret (.ref (wh+322))) s'):
    wpAny (model pw w) A (execs [bLF w 4] (enF w B c0 c1)) Q E s:=by
  refine wpAny_execs_cons (wpAny_Return_some (wpAny_IfExp (wpAny_isTrue_Compare1 (wpAny_mono (dO [] [(B,_)] 60 W hh .nil (.cons hf .nil) ac nn0 dn0 (rmz room rfl) rfl [] (E:=E) (Q:=fun v' s'=>v'= .ref (rw+322)∧Nxt [] s s') fun A₀ c Q1 hQ1 _=> ?_) (fun v1 s1 h1'=> ?_) fun _ _ e=>e))))
  · refine am (f:=(.ret (.ref (rw+322)))) 2 0x1 [] [] [] 0 0 (by apply cW1 Q1 w<;>first|apply hQ1|(intro w;kernel_rfl)) no_side fun s2 x2 _=>⟨rfl,x2⟩
  · obtain ⟨rfl,x1⟩:=h1'
    refine wpAny_mono (dO [] [(B,_)] 60 (W.nxt x1 ac) hh .nil (.cons (x1.keep0 hf) .nil) ac nn0 dn0 (rmz room rfl) rfl [] (E:=E) (Q:=fun v' s'=>v'= .ref (td+322)∧Nxt [] s1 s') fun A₀ c Q1 hQ1 _=> ?_) (fun v2 s2 h2'=> ?_) fun _ _ e=>e
    · refine am (f:=(.ret (.ref (td+322)))) 2 0x1 [] [] [] 0 0 (by apply cW1 Q1 w<;>first|apply hQ1|(intro w;kernel_rfl)) no_side fun s3 x3 _=>⟨rfl,x3⟩
    · obtain ⟨rfl,x2⟩:=h2'
      have x12:=x1.trans x2
      refine strs_eq (x12.keep0 h1) (x12.keep0 h2) hu (wpAny_truthy_bool ?_)
      rw [decide_eq_true he,if_pos rfl]
      refine dO [] [(B,_)] 60 (W.nxt x12 ac) hh .nil (.cons (x12.keep0 hf) .nil) ac nn0 dn0 (rmz room rfl) rfl [] fun A₀ c Q1 hQ1 _=> ?_
      refine am (f:=(.ret (.ref (wh+322)))) 2 0x1 [] [] [] 0 0 (by apply cW1 Q1 w<;>first|apply hQ1|(intro w;kernel_rfl)) no_side fun s4 x4 _=>kk s4 (x12.trans x4)
noncomputable def eMT(w:ag):Expr:=callA (sT (bFO w 8))
theorem mtT{w:ag}{s:aa}{A:ai}{E:Value→aa→Prop}{Q:Unit→aa→Prop}{B c0 c1 C a x m n y1 y3 i il ix k:Nat}{z:Bool}{f f' p':Str}{tf tp:Tok}{τ:Nat→Nat}{ts:List Value}(W:KTH w s.heap)(hh:A.handled=none)(room:A.depth+60<recursionLimit)(hi:s.heap.get? (i+322)=some (bE il ix))(hC:s.heap.get? (C+322)=some (dcT w.params τ f' p' n k))(hn:k=0→n=0)(ha:s.heap.get? (a+322)=some (lstO ts m))(hd:s.heap.get? (x+322)=some (aX [.str f tf,.str ⟨#[y1,ltc z,y3]⟩ tp]))(lt:ts.length<20)
    (kk:∀s' τ' n' m',Nxt [C+322,a+322] s s'→s'.heap.get? (C+322)=some (dcT w.params τ' f ⟨#[y1,ltc z,y3]⟩ n' 1)→s'.heap.get? (a+322)=some (lstO (cond z ts (ts++[.str ⟨#[y1,ltc z,y3]⟩ tp])) m')→Q () s'):
    wpAny (model pw w) A (lcF1 (eMT w) (.ref (i+322)) (.ref (x+322)) (.ref (a+322)) (cenv w (eMT w) C B c0 c1)) Q E s:=by
  have cC:(dcT w.params τ f' p' n k).cls= .type "dict":=by cases k<;>rfl
  have nCa:C+322≠a+322:=ne_cls hC ha (by rw [cC];exact cDL)
  have nxC:x+322≠C+322:=ne_cls hd hC (by rw [cC];exact Ne.symm cDT)
  have niC:i+322≠C+322:=ne_cls hi hC (by rw [cC];exact (show Value.type "list_iterator"≠Value.type "dict" by decide))
  have nia:i+322≠a+322:=ne_cls hi ha (show Value.type "list_iterator"≠Value.type "list" by decide)
  have sz:(ts:List Value).toArray.size≤sizeLine:=by rw [List.size_toArray];exact ad (au lt) (by decide)
  have e0:(dcT w.params τ f' p' n k)=dcT w.params τ f' p' (bi k 0 n) k:=by
    cases k with
    |zero=>rw [hn rfl];rfl
    |succ k=>rfl
  rw [e0] at hC
  cases z
  · refine segU [C+322,a+322] [(x+322,_),(i+322,_)] 60 W hh (.cons hC (.cons ha .nil)) (.cons hd (.cons hi .nil)) (High.cons (.inl (ab _ _)) (High.one (ab _ _))) (List.nodup_cons.mpr ⟨notin1 nCa,az _⟩) (djc (notin2 nxC (ne_cls hd ha (Ne.symm cLT))) (dj1 (notin2 niC nia))) room rfl [] fun A₀ c Q1 hQ1 uA₀=> ?_
    refine am (f:= .next) 80 0x4100d200410040000000000040004000400040004000440042004200010042004200000042004200420042000100420042000000420042004200420001004200420000004200420042000000010001000100010002 [0,1] [((ts:List Value).toArray.size≤sizeLine)] [some (dcT w.params (tk [bi k s.toks (τ 0),tf,bi k (s.toks+1) (τ 2),tp]) f ⟨#[y1,97,y3]⟩ (bi k 2 n) 1),some (lstO (ts++[.str ⟨#[y1,97,y3]⟩ tp]) (m+1))] 5 5 (by apply kW1 Q1 w k<;>first|apply hQ1|(intros;kernel_rfl)) (side_cons sz no_side) fun s1 x1 g1=> ?_
    exact kk s1 _ _ _ x1 (g1 0) (g1 1)
  · refine segU [C+322,a+322] [(x+322,_),(i+322,_)] 60 W hh (.cons hC (.cons ha .nil)) (.cons hd (.cons hi .nil)) (High.cons (.inl (ab _ _)) (High.one (ab _ _))) (List.nodup_cons.mpr ⟨notin1 nCa,az _⟩) (djc (notin2 nxC (ne_cls hd ha (Ne.symm cLT))) (dj1 (notin2 niC nia))) room rfl [] fun A₀ c Q1 hQ1 uA₀=> ?_
    refine am (f:= .next) 75 0x40004000400040004000440042004200010042004200000042004200420042000100420042000000420042004200420001004200420000004200420042000000010001000100010002 [0,1] [] [some (dcT w.params (tk [bi k s.toks (τ 0),tf,bi k (s.toks+1) (τ 2),tp]) f ⟨#[y1,98,y3]⟩ (bi k 2 n) 1),some (lstO ts m)] 5 5 (by apply kW1 Q1 w k<;>first|apply hQ1|(intros;kernel_rfl)) no_side fun s1 x1 g1=> ?_
    exact kk s1 _ _ _ x1 (g1 0) (g1 1)
theorem mt_loop{w:ag}{A:ai}{R:Result→aa→Prop}{B c0 c1 C a i il m0:Nat}{DS:List PD}(hh:A.handled=none)(room:A.depth+60<recursionLimit)(okl:∀d∈DS,Let d.p)(l8:DS.length<8)(nal:a≠il):
    ∀(ds:List PD) (j n k m:Nat) (f' p':Str) (L:List (Str×Tok)) {s:aa} {τ:Nat→Nat},DS.drop j=ds→L.length≤j→L.length=((fp (DS.take j)).filter (fun x=> !(zP x.2))).length→KTH w s.heap→Pts s.heap DS→s.heap.get? (il+322)=some (lstO (refsD DS) m0)→s.heap.get? (i+322)=some (bE (il+322) j)→s.heap.get? (C+322)=some (dcT w.params τ f' p' n k)→(k=0→n=0)→s.heap.get? (a+322)=some (lstO (strValues L) m)→(ds=[]→k=1)→
      (∀s' τ f' p' n m (L:List (Str×Tok)),Nxt [i+322,C+322,a+322] s s'→s'.heap.get? (C+322)=some (dcT w.params τ f' p' n 1)→L.length=((fp DS).filter (fun x=> !(zP x.2))).length→s'.heap.get? (a+322)=some (lstO (strValues L) m)→R (.ok .next) s')→
      codeAny (model pw w) A (lpC (eMT w) (.ref (i+322)) (.ref (a+322)) (cenv w (eMT w) C B c0 c1)) R s
  |[],j,n,k,m,f',p',L,s,τ,hj,hLj,hL,W,hp,hl,hi,hC,hn,ha,k1,kk=>by
    have lj:DS.length≤j:=List.drop_eq_nil_iff.mp hj
    have cC:(dcT w.params τ f' p' n k).cls= .type "dict":=by cases k<;>rfl
    have nC:C+322∉[i+322]:=notin1 (ne_cls hC hi (by rw [cC];exact cDI))
    have na:a+322∉[i+322]:=notin1 (ne_cls ha hi (Ne.symm cLI))
    refine cD rfl (dY hh hi hl (dc lj) fun s1 x1=> ?_)
    rw [List.take_of_length_le lj] at hL
    obtain rfl:=k1 rfl
    exact kk s1 τ f' p' n m L (x1.weak (fun _ h=>(List.mem_singleton.mp h)▸.head _)) (x1.keep hC nC) hL (x1.keep ha na)
  |d::ds,j,n,k,m,f',p',L,s,τ,hj,hLj,hL,W,hp,hl,hi,hC,hn,ha,k1,kk=>by
    have hj':=ch hj
    have cC:(dcT w.params τ f' p' n k).cls= .type "dict":=by cases k<;>rfl
    have nC:C+322∉[i+322]:=notin1 (ne_cls hC hi (by rw [cC];exact cDI))
    have na:a+322∉[i+322]:=notin1 (ne_cls ha hi (Ne.symm cLI))
    have nl:il+322∉[i+322]:=notin1 (ne_cls hl hi (Ne.symm cLI))
    have nl2:il+322∉[C+322,a+322]:=notin2 (ne_cls hl hC (by rw [cC];exact Ne.symm cDL)) (fun e=>nal (Nat.add_right_cancel e).symm)
    have ni:i+322∉[C+322,a+322]:=notin2 (ne_cls hi hC (by rw [cC];exact Ne.symm cDI)) (ne_cls hi ha cLI)
    have hd:d∈DS:=aM hj'.1
    obtain ⟨y1,y3,ep⟩:=(okl d hd).eq
    refine cD rfl (de hi hl (cP hj'.1) fun s1 x1 i1=> ?_)
    have W1:=W.nxt x1 (High.one (ab _ _))
    have p1:=hp.off1 x1 hi (Ne.symm cTI)
    have td:=p1 d hd
    unfold PD.o at td
    rw [ep] at td
    have jl:=(List.getElem?_eq_some_iff.mp hj'.1).1
    refine mtT (z:=zP d.p) (k:=k) W1 hh room i1 (x1.keep hC nC) hn (x1.keep ha na) td (by unfold strValues;rw [ak];lia) fun s2 τ2 n2 m2 x2 g2 a2=> ?_
    have x02:Nxt [i+322,C+322,a+322] s s2:=(x1.weak (fun _ h=>(List.mem_singleton.mp h)▸.head _)).trans (x2.weak (fun _ h=> .tail _ h))
    have ea:cond (zP d.p) (strValues L) (strValues L++[.str ⟨#[y1,ltc (zP d.p),y3]⟩ d.tp])=strValues (cond (zP d.p) L (L++[(⟨#[y1,ltc (zP d.p),y3]⟩,d.tp)])):=by
      cases zP d.p
      · unfold strValues;rw [cond,cond,List.map_append];rfl
      · rfl
    rw [ea] at a2
    have hM:High [C+322,a+322]:=High.cons (.inl (ab _ _)) (High.one (ab _ _))
    refine mt_loop hh room okl l8 nal ds (j+1) n2 1 m2 _ _ _ hj'.2 ?_ ?_ (W1.nxt x2 hM) (p1.off x2 fun b hb=> ?_) (x2.keep (x1.keep hl nl) nl2) (x2.keep i1 ni) g2 (fun h=>absurd h (by decide)) a2 (fun _=>rfl) fun s' τ f' p' n m L X=>kk s' τ f' p' n m L (x02.trans X)
    · cases zP d.p
      · rw [cond,aA];exact Nat.succ_le_succ hLj
      · exact Nat.le_succ_of_le hLj
    · rw [List.take_add_one,hj'.1,cv,List.filter_append,aA,←hL]
      show _=L.length+([(d.f,d.p)].filter _).length
      cases h:zP d.p
      · rw [cond,aA,List.filter_cons_of_pos (by rw [h];rfl)];rfl
      · rw [cond,List.filter_cons_of_neg (by rw [h];exact Bool.false_ne_true)];rfl
    · rcases List.mem_cons.mp hb with rfl|hb
      · exact ⟨_,x1.keep hC nC,by rw [cC];exact cDT⟩
      · rw [List.mem_singleton.mp hb];exact ⟨_,x1.keep ha na,cLT⟩
theorem foH{w:ag}{s:aa}{A:ai}{E:Value→aa→Prop}{Q:Flow→aa→Prop}{B c0 c1 tx rw m:Nat}{a:Nat→Value}{G:FoG}{τ σ:Nat→Nat}{D:List PD}(W:KTH w s.heap)(hh:A.handled=none)(room:A.depth+130<recursionLimit)(hB:322≤B)(hf:s.heap.get? B=some (fFO w.params τ nmN (b15 G σ a tx rw)))(hl:s.heap.get? (G.li+322)=some (lstO (refsD D) m))(hp:Pts s.heap D)(okl:∀d∈D,Let d.p)(l8:D.length<8)(hbb:G.bg<G.bh)(hb:G.bh≤D.length)
    (kk:∀s' τ' t,Nxt [B] s s'→s'.heap.get? B=some (fFO w.params τ' nmN (b15 G σ a tx rw++[.int (U ((fp (slD D G.bg G.bh)).filter (fun x=> !(zP x.2))).length) t]))→Q .next s'):
    wpAny (model pw w) A (execs [bFO w 8] (enF w B c0 c1)) Q E s:=by
  refine aT [] [(B,_),(G.li+322,_)] 60 W hh .nil (.cons hf (.cons hl .nil)) ac nn0 dn0 (rmz room rfl) rfl [] fun A₀ c Q1 hQ1 uA₀=> ?_
  refine av (c':=(.call (.builtin "list.__getitem__") ⟨[.ref (G.1+322),.ref s.heap.objs.size],[]⟩)) (d:=0) (u:=10) 15 0x20002000200010001000100000000 [0] [] [some (⟨.type "slice",none,.fields #[.int (U (G.bg)) (σ 1),.int (U (G.bh)) (σ 2),.none],#[]⟩)] 1 0 (by apply cW1 Q1 w<;>first|apply hQ1|(intro w;kernel_rfl)) no_side fun s1 x1 g1 A' R' hA dA uA res1=> ?_
  have dA:A'.depth≤A.depth+0:=dA
  have W1:=W.nxt x1 ac
  refine bl (lo:=some (U G.bg)) (hi:=some (U G.bh)) W1 hA (rm room dA rfl) (x1.keep0 hl) ⟨_,(g1 0),rfl,rfl⟩ (.int _ _) (.int _ _) (by unfold refsD;rw [ak];exact ad (au l8) (by decide)) fun s2 r x2 hr r2=> ?_
  obtain ⟨r,rfl⟩:∃r',r=r'+322:=(aW (ad W1.2 (by assumption)))
  have x12:=x1.trans x2
  have W2:=W.nxt x12 ac
  refine Rsm.go (lim:=60) res1 [] [(r+322,_)] W2 .nil (.cons r2 .nil) ac nn0 dn0 (rmz room rfl) rfl [] fun Q2 hQ2=> ?_
  refine av (c':=cmpC (eMT w) (.ref s2.heap.objs.size) (.ref (s2.heap.objs.size+1)) [] (s2.heap.objs.size+2) (enF w B c0 c1)) (d:=0) (u:=10) 13 0x400000000100010001 [0,1,2] [] [some (bE (r+322) 0),some (lstO [] 0),some (dcO [] 0)] 3 0 (by apply cW2 Q2 Q1 w<;>first|apply hQ2|apply hQ1|(intro w;kernel_rfl)) no_side fun s3 x3 g3 A2 R2 hA2 dA2 uA2 res2=> ?_
  have dA2:A2.depth≤A.depth+0:=dA2
  obtain ⟨i,hi⟩:∃i,s2.heap.objs.size=i+322:=(aW W2.2)
  have i3:s3.heap.get? s2.heap.objs.size=_:=(g3 0)
  have a3:s3.heap.get? (s2.heap.objs.size+1)=_:=(g3 1)
  have C3:s3.heap.get? (s2.heap.objs.size+2)=_:=(g3 2)
  have ea:s2.heap.objs.size+1=(i+1)+322:=by rw [hi]
  have eC:s2.heap.objs.size+2=(i+2)+322:=by rw [hi]
  rw [hi] at i3
  rw [ea] at a3
  rw [eC] at C3
  rw [eC,ea,hi]
  have x13:=x12.trans x3
  have W3:=W.nxt x13 ac
  rw [dN (au hbb) hb] at r2
  have ls:(slD D G.bg G.bh).length=G.bh - G.bg:=slD_len (au hbb) hb
  have hne:slD D G.bg G.bh≠[]:=fun e=>by rw [e] at ls;have:0=G.bh - G.bg:=ls;lia
  have lr:r+322<i+322:=hi▸an r2
  refine comp_start rfl (i:=i+322) ⟨_,i3,rfl,rfl⟩ (mt_loop (DS:=slD D G.bg G.bh) (il:=r) hA2 (rm room dA2 rfl) (fun d h=>okl d (bH h)) (by rw [ls];lia) (by lia) _ 0 0 0 0 (S "") (S "") [] (τ:=tk []) rfl (al 0) rfl W3 (fun d h=>x13.keep0 (hp d (bH h))) (x3.keep0 r2) i3 C3 (fun _=>rfl) a3 (fun h=>absurd h hne) fun s4 τ4 f4 p4 n4 m4 L x4 C4 hL a4=> ?_)
  have hM4:High [i+322,(i+2)+322,(i+1)+322]:=High.cons (.inl (ab _ _)) (High.cons (.inl (ab _ _)) (High.one (ab _ _)))
  have W4:=W3.nxt x4 hM4
  have lB:B<i+322:=hi▸an (x12.keep0 hf)
  have n3:B∉[i+322,i+2+322,i+1+322]:=d9 (ay lB) (ay (ah lB (Nat.add_le_add_right (aw _ _) _))) (ay (ah lB (Nat.add_le_add_right (aw _ _) _)))
  have f4':=x4.keep (x13.keep0 hf) n3
  rw [←eC] at C4
  rw [←ea] at a4
  refine Rsm.go (lim:=60) res2 [s2.heap.objs.size+2] [] W4 (.cons C4 .nil) .nil (High.one (ad W2.2 (aw _ _))) (az _) dj0 (rmz room rfl) rfl [] fun Q3 hQ3=> ?_
  refine av (c':=(.call (.builtin "len") ⟨[.ref (s2.heap.objs.size+1)],[]⟩)) (d:=0) (u:=10) 11 0x4000400040004000400040 [0] [] [some (⟨.type "dict",none,.dict #[] (n4+2),#[]⟩)] 1 0 (by apply cW3 Q3 Q2 Q1 w<;>first|apply hQ3|apply hQ2|apply hQ1|(intro w;kernel_rfl)) no_side fun s5 x5 g5 A' R' hA dA uA res3=> ?_
  have naC:s2.heap.objs.size+1∉[s2.heap.objs.size+2]:=notin1 (ay (aO _))
  have nBC:B∉[s2.heap.objs.size+2]:=notin1 (ay (ah (an (x12.keep0 hf)) (aw _ _)))
  have W5:=W4.nxt x5 (High.one (ad W2.2 (aw _ _)))
  refine len_lst (x5.keep a4 naC) (by unfold strValues;rw [ak,hL];exact aH (List.length_filter_le _ _) (by rw [bQ,ls];lia)) fun s6 t6 x6=> ?_
  have eL:(strValues L).length=((fp (slD D G.bg G.bh)).filter (fun x=> !(zP x.2))).length:=by unfold strValues;rw [ak,hL]
  rw [eL]
  have f6:=x6.keep0 (x5.keep f4' nBC)
  refine Rsm.go (lim:=60) res3 [B] [] (W5.nxt x6 ac) (.cons f6 .nil) .nil (High.one hB) (az _) dj0 (rmz room rfl) rfl [] fun Q4 hQ4=> ?_
  refine am (f:= .next) 8 0x400040 [0] [] [some (fFO w.params (tk [τ 0,τ 1,τ 2,τ 3,τ 4,τ 5,τ 6,τ 7,τ 8,τ 9,τ 10,τ 11,τ 12,τ 13,τ 14,s6.toks]) nmN (b15 G σ a tx rw++[.int (U (((fp (slD D G.bg G.bh)).filter (fun x=> !(zP x.2))).length)) t6]))] 1 1 (by apply cW4 Q4 Q3 Q2 Q1 w<;>first|apply hQ4|apply hQ3|apply hQ2|apply hQ1|(intro w;kernel_rfl)) no_side fun s7 x7 g7=> ?_
  have X:Nxt [i+322,(i+2)+322,(i+1)+322,B] s s7:=x13.nil.trans ((x4.weak fun c h=>aB [B] h).trans ((x5.weak fun c h=>by rw [eC] at h;exact (List.mem_singleton.mp h)▸.tail _ (.head _)).trans (x6.nil.trans (x7.weak fun c h=>aE [i+322,(i+2)+322,(i+1)+322] h))))
  exact kk s7 _ t6 (((X.drop (hi▸x12.heap.size)).drop (eC▸ad x12.heap.size (aw _ _))).drop (ea▸ad x12.heap.size (aw _ _))) (g7 0)
theorem foI{w:ag}{s:aa}{A:ai}{E:Value→aa→Prop}{Q:Flow→aa→Prop}{B c0 c1 tx rw M:Nat}{a:Nat→Value}{G:FoG}{τ σ:Nat→Nat}{tm:Tok}(W:KTH w s.heap)(hh:A.handled=none)(room:A.depth+130<recursionLimit)(hB:322≤B)(hf:s.heap.get? B=some (fFO w.params τ nmN (b15 G σ a tx rw++[.int (U M) tm])))(hM:G.bg+M≤G.bh)(l8:G.bh<9)
    (kk:∀s' τ' t,Nxt [B] s s'→s'.heap.get? B=some (fFO w.params τ' nmN (b15 G σ a tx rw++[.int (U M) tm,.int (U (Nat.gcd M (G.bh - G.bg - M))) t]))→Q .next s'):
    wpAny (model pw w) A (execs [bFO w 9] (enF w B c0 c1)) Q E s:=by
  refine aT [] [(B,_)] 60 W hh .nil (.cons hf .nil) ac nn0 dn0 (rmz room rfl) rfl [] fun A₀ c Q1 hQ1 uA₀=> ?_
  refine av (c':=(.call (.ref 311) ⟨[.int (U (M)) tm,.int (((U (G.bh)) - (U (G.bg))) - (U (M))) (s.toks+1)],[]⟩)) (d:=0) (u:=10) 19 0x40001000000040001000100010000 [] [True,True] [] 0 2 (by apply cW1 Q1 w<;>first|apply hQ1|(intro w;kernel_rfl)) (side_cons trivial (side_cons trivial no_side)) fun s1 x1 g1 A' R' hA dA uA res1=> ?_
  have dA:A'.depth≤A.depth+0:=dA
  have W1:=W.nxt x1 ac
  have e:(U G.bh - U G.bg) - U M=((G.bh - G.bg - M:Nat):Int):=by simp only [Int.ofNat_eq_natCast];lia
  rw [e]
  refine common_spec (m:=M) W1 hA (rm room dA rfl) (by lia) (by lia) fun s2 t2 x2=> ?_
  refine Rsm.go (lim:=60) res1 [B] [] (W1.nxt x2 ac) (.cons (x2.keep0 (x1.keep0 hf)) .nil) .nil (High.one hB) (az _) dj0 (rmz room rfl) rfl [] fun Q2 hQ2=> ?_
  refine am (f:= .next) 8 0x400040 [0] [] [some (fFO w.params (tk [τ 0,τ 1,τ 2,τ 3,τ 4,τ 5,τ 6,τ 7,τ 8,τ 9,τ 10,τ 11,τ 12,τ 13,τ 14,τ 15,s2.toks]) nmN (b15 G σ a tx rw++[.int (U (M)) tm,.int (U (Nat.gcd M (G.bh - G.bg - M))) t2]))] 1 1 (by apply cW2 Q2 Q1 w<;>first|apply hQ2|apply hQ1|(intro w;kernel_rfl)) no_side fun s3 x3 g3=> ?_
  have f3:s3.heap.get? B=_:=(g3 0)
  exact kk s3 _ t2 (x1.nil.trans (x2.nil.trans x3)) f3
theorem foJ{w:ag}{s:aa}{A:ai}{E:Value→aa→Prop}{Q:Flow→aa→Prop}{B c0 c1 tx rw m u0 u1:Nat}{a:Nat→Value}{G:FoG}{τ σ:Nat→Nat}{v15 v16:Value}{r0 r1:Str}(W:KTH w s.heap)(hh:A.handled=none)(room:A.depth+130<recursionLimit)(hB:322≤B)(hf:s.heap.get? B=some (fFO w.params τ nmN (b15 G σ a tx rw++[v15,v16])))(hr:s.heap.get? (rw+322)=some (lstO [.str r0 u0,.str r1 u1] m))(k0:r0.cps.all (· <128)=true)(k1:r1.cps.all (· <128)=true)
    (kk:∀s' τ' ta tb tc td,Nxt [B] s s'→s'.heap.get? B=some (fFO w.params τ' nmN (b15 G σ a tx rw++[v15,v16,.int (U (r0.cps.toList.count 98)) tb,.int (U (r0.cps.toList.count 97)) ta,.int (U (r1.cps.toList.count 98)) td,.int (U (r1.cps.toList.count 97)) tc]))→Q .next s'):
    wpAny (model pw w) A (execs [bFO w 10,bFO w 11] (enF w B c0 c1)) Q E s:=by
  have nr:=notin1 (ne_cls hr hf (Ne.symm cFL))
  refine aT [] [(B,_),(rw+322,_)] 60 W hh .nil (.cons hf (.cons hr .nil)) ac nn0 dn0 (rmz room rfl) rfl [] fun A₀ c Q1 hQ1 uA₀=> ?_
  refine bW (c':=(.call (.ref 217) ⟨[.str r0 u0,.str (S "a") (s.toks+1)],[]⟩)) (d:=0) (u:=10) 19 0x20000000200020002000200010000 [] [] [] 0 2 (by apply cW1 Q1 w<;>first|apply hQ1|(intro w;kernel_rfl)) no_side fun s1 x1 q1 _ A' R' hA dA uA res1=> ?_
  have dA:A'.depth≤A.depth+0:=dA
  have W1:=W.nxt x1 ac
  have ea:S "a"=⟨#[97]⟩:=by decide+kernel
  have eb:S "b"=⟨#[98]⟩:=by decide+kernel
  rw [ea]
  refine cB W1 hA (rm room dA rfl) k0 (aQ _) (by rw [q1];exact aO _) fun s2 t2 x2=> ?_
  have x12:=x1.trans x2
  refine Rsm.go (lim:=60) res1 [] [(B,_),(rw+322,_)] (W.nxt x12 ac) .nil (.cons (x12.keep0 hf) (.cons (x12.keep0 hr) .nil)) ac nn0 dn0 (rmz room rfl) rfl [] fun Q2 hQ2=> ?_
  refine bW (c':=(.call (.ref 217) ⟨[.str r0 u0,.str (S "b") (s2.toks+1)],[]⟩)) (d:=0) (u:=10) 18 0x20000000200020002000200010000 [] [] [] 0 2 (by apply cW2 Q2 Q1 w<;>first|apply hQ2|apply hQ1|(intro w;kernel_rfl)) no_side fun s3 x3 q3 _ A' R' hA dA uA res2=> ?_
  have dA:A'.depth≤A.depth+0:=dA
  have x13:=x12.trans x3
  rw [eb]
  refine cB (W.nxt x13 ac) hA (rm room dA rfl) k0 (aQ _) (by rw [q3];exact aO _) fun s4 t4 x4=> ?_
  have x14:=x13.trans x4
  refine Rsm.go (lim:=60) res2 [B] [(rw+322,_)] (W.nxt x14 ac) (.cons (x14.keep0 hf) .nil) (.cons (x14.keep0 hr) .nil) (High.one hB) (az _) (dj1 nr) (rmz room rfl) rfl [] fun Q3 hQ3=> ?_
  refine bW (c':=(.call (.ref 217) ⟨[.str r1 u1,.str (S "a") (s4.toks+4)],[]⟩)) (d:=0) (u:=10) 84 0x10000000100010001000100000040000000400040004000400044004200420041004200420000004200420042004200410042004200000042004200420042004100420042000000420042004200000041004100410041 [0] [] [some (fFO w.params (tk [τ 0,τ 1,τ 2,τ 3,τ 4,τ 5,τ 6,τ 7,τ 8,τ 9,τ 10,τ 11,τ 12,τ 13,τ 14,τ 15,τ 16,s4.toks,s4.toks+1]) nmN (b15 G σ a tx rw++[v15,v16,.int (U (List.count 98 r0.cps.toList)) t4,.int (U (List.count 97 r0.cps.toList)) t2]))] 5 5 (by apply cW3 Q3 Q2 Q1 w<;>first|apply hQ3|apply hQ2|apply hQ1|(intro w;kernel_rfl)) no_side fun s5 x5 q5 g5 A' R' hA dA uA res3=> ?_
  have dA:A'.depth≤A.depth+0:=dA
  have f5:s5.heap.get? B=_:=(g5 0)
  have W5:=(W.nxt x14 ac).nxt x5 (High.one hB)
  have r5:=x5.keep (x14.keep0 hr) nr
  rw [ea]
  refine cB W5 hA (rm room dA rfl) k1 (aJ (Nat.succ_pos _)) (by rw [q5];lia) fun s6 t6 x6=> ?_
  refine Rsm.go (lim:=60) res3 [] [(B,_),(rw+322,_)] (W5.nxt x6 ac) .nil (.cons (x6.keep0 f5) (.cons (x6.keep0 r5) .nil)) ac nn0 dn0 (rmz room rfl) rfl [] fun Q4 hQ4=> ?_
  refine bW (c':=(.call (.ref 217) ⟨[.str r1 u1,.str (S "b") (s6.toks+2)],[]⟩)) (d:=0) (u:=10) 23 0x200000002000200020002000000010000 [] [] [] 0 3 (by apply cW4 Q4 Q3 Q2 Q1 w<;>first|apply hQ4|apply hQ3|apply hQ2|apply hQ1|(intro w;kernel_rfl)) no_side fun s7 x7 q7 _ A' R' hA dA uA res4=> ?_
  have dA:A'.depth≤A.depth+0:=dA
  have x67:=x6.trans x7
  rw [eb]
  refine cB (W5.nxt x67 ac) hA (rm room dA rfl) k1 (aJ (Nat.succ_pos _)) (by rw [q7];lia) fun s8 t8 x8=> ?_
  have x58:=x67.trans x8
  refine Rsm.go (lim:=60) res4 [B] [] (W5.nxt x58 ac) (.cons (x58.keep0 f5) .nil) .nil (High.one hB) (az _) dj0 (rmz room rfl) rfl [] fun Q5 hQ5=> ?_
  refine am (f:= .next) 60 0x400040004000400044004200420041004200420000004200420042004200410042004200000042004200420042004100420042000000420042004200000041004100410041 [0] [] [some (fFO w.params (tk [τ 0,τ 1,τ 2,τ 3,τ 4,τ 5,τ 6,τ 7,τ 8,τ 9,τ 10,τ 11,τ 12,τ 13,τ 14,τ 15,τ 16,s4.toks,s4.toks+1,s8.toks,s8.toks+1]) nmN (b15 G σ a tx rw++[v15,v16,.int (U (List.count 98 r0.cps.toList)) t4,.int (U (List.count 97 r0.cps.toList)) t2,.int (U (List.count 98 r1.cps.toList)) t8,.int (U (List.count 97 r1.cps.toList)) t6]))] 5 2 (by apply cW5 Q5 Q4 Q3 Q2 Q1 w<;>first|apply hQ5|apply hQ4|apply hQ3|apply hQ2|apply hQ1|(intro w;kernel_rfl)) no_side fun s9 x9 g9=> ?_
  exact kk s9 _ _ _ _ _ (x14.nil.trans (x5.trans (x58.nil.trans x9))) (g9 0)
theorem pick_take(L:List (Str×Tok))(n:Nat)(h:n≤L.length):(slicePick (strValues L).toArray none (some (n:Int)) none).toList=strValues (L.take n):=by
  rw [slicePick_upto _ _ (by unfold strValues;rw [List.size_toArray,ak];exact h)]
  unfold strValues
  simp [List.map_take]
theorem pick_drop(L:List (Str×Tok))(n:Nat)(h:n≤L.length):(slicePick (strValues L).toArray (some (n:Int)) none none).toList=strValues (L.drop n):=by
  rw [slicePick_from _ _ (by unfold strValues;rw [List.size_toArray,ak];exact h)]
  unfold strValues
  simp [List.map_drop]
theorem foR{w:ag}{s:aa}{A:ai}{E:Value→aa→Prop}{Q:Value→aa→Prop}{B c0 c1 tx rw m na nb:Nat}{a:Nat→Value}{G:FoG}{τ σ:Nat→Nat}{ta tb:Tok}{v15 v16 v19 v20:Value}{L:List (Str×Tok)}(W:KTH w s.heap)(hh:A.handled=none)(room:A.depth+130<recursionLimit)(hf:s.heap.get? B=some (fFO w.params τ nmN (b15 G σ a tx rw++[v15,v16,.int (U nb) tb,.int (U na) ta,v19,v20])))(ht:s.heap.get? (tx+322)=some (lstO (strValues L) m))(l8:L.length<9)(hle:na+nb≤L.length)(ok1:JoinOk (S "") ((L.take (na+nb)).map (·.1))=true)(ok2:JoinOk (S "") ((L.drop (na+nb)).map (·.1))=true)
    (kk:∀s' y t t',Nxt [] s s'→s'.heap.get? (y+322)=some (lstO (strValues [(Txt.join (S "") ((L.take (na+nb)).map (·.1)),t),(Txt.join (S "") ((L.drop (na+nb)).map (·.1)),t')]) 0)→Q (.ref (y+322)) s'):
    wpAny (model pw w) A (eval (callA (sT (bFO w 12))) (enF w B c0 c1)) Q E s:=by
  have lv:(strValues L).length≤100:=by unfold strValues;rw [ak];lia
  have eC:U na+U nb=((na+nb:Nat):Int):=rfl
  refine dO [] [(B,_),(tx+322,_)] 60 W hh .nil (.cons hf (.cons ht .nil)) ac nn0 dn0 (rmz room rfl) rfl [] fun A₀ c Q1 hQ1 uA₀=> ?_
  refine av (c':=(.call (.builtin "list.__getitem__") ⟨[.ref (tx+322),.ref s.heap.objs.size],[]⟩)) (d:=0) (u:=10) 18 0x20002000200000003000100010001 [0] [True] [some (⟨.type "slice",none,.fields #[.none,.int ((U (na))+(U (nb))) (s.toks+1),.none],#[]⟩)] 1 2 (by apply cW1 Q1 w<;>first|apply hQ1|(intro w;kernel_rfl)) (side_cons trivial no_side) fun s1 x1 g1 A' R' hA dA uA res1=> ?_
  have dA:A'.depth≤A.depth+0:=dA
  have W1:=W.nxt x1 ac
  refine bl (lo:=none) (hi:=some ((na+nb:Nat):Int)) W1 hA (rm room dA rfl) (x1.keep0 ht) ⟨_,(g1 0),rfl,rfl⟩ .none (.int _ _) lv fun s2 r x2 hr r2=> ?_
  rw [pick_take L _ hle] at r2
  obtain ⟨r,rfl⟩:∃r',r=r'+322:=(aW (ad W1.2 (by assumption)))
  have x12:=x1.trans x2
  refine Rsm.go (lim:=60) res1 [] [(r+322,_)] (W.nxt x12 ac) .nil (.cons r2 .nil) ac nn0 dn0 (rmz room rfl) rfl [] fun Q2 hQ2=> ?_
  refine av (c':=(.call (.builtin "str.join") ⟨[.str (S "") s.4,.ref (r+322)],[]⟩)) (d:=0) (u:=10) 2 0x0 [] [] [] 0 0 (by apply cW2 Q2 Q1 w<;>first|apply hQ2|apply hQ1|(intro w;kernel_rfl)) no_side fun s3 x3 g3 A' R' hA dA uA res2=> ?_
  have W3:=(W.nxt x12 ac).nxt x3 ac
  refine bG _ (x3.keep0 r2) ok1 fun s4 t4 x4=> ?_
  obtain ⟨J,eJ⟩:∃J,J=Txt.join (S "") ((L.take (na+nb)).map (·.1)):=⟨_,rfl⟩
  rw [←eJ] at kk⊢
  have x14:=x12.trans (x3.trans x4)
  refine Rsm.go (lim:=60) res2 [] [(B,_),(tx+322,_)] (W.nxt x14 ac) .nil (.cons (x14.keep0 hf) (.cons (x14.keep0 ht) .nil)) ac nn0 dn0 (rmz room rfl) rfl [] fun Q3 hQ3=> ?_
  refine av (c':=(.call (.builtin "list.__getitem__") ⟨[.ref (tx+322),.ref s4.heap.objs.size],[]⟩)) (d:=0) (u:=10) 18 0x20002000200000003000100010001 [0] [True] [some (⟨.type "slice",none,.fields #[.int ((U (na))+(U (nb))) (s4.toks+1),.none,.none],#[]⟩)] 1 2 (by apply cW3 Q3 Q2 Q1 w<;>first|apply hQ3|apply hQ2|apply hQ1|(intro w;kernel_rfl)) (side_cons trivial no_side) fun s5 x5 g5 A' R' hA dA uA res3=> ?_
  have dA:A'.depth≤A.depth+0:=dA
  have x15:=x14.trans x5
  have W5:=W.nxt x15 ac
  refine bl (lo:=some ((na+nb:Nat):Int)) (hi:=none) W5 hA (rm room dA rfl) (x15.keep0 ht) ⟨_,(g5 0),rfl,rfl⟩ (.int _ _) .none lv fun s6 r' x6 hr' r6=> ?_
  rw [pick_drop L _ hle] at r6
  obtain ⟨r',rfl⟩:∃r'',r'=r''+322:=(aW (ad W5.2 (by assumption)))
  have x16:=x15.trans x6
  refine Rsm.go (lim:=60) res3 [] [(r'+322,_)] (W.nxt x16 ac) .nil (.cons r6 .nil) ac nn0 dn0 (rmz room rfl) rfl [] fun Q4 hQ4=> ?_
  refine av (c':=(.call (.builtin "str.join") ⟨[.str (S "") s4.toks,.ref (r'+322)],[]⟩)) (d:=0) (u:=10) 2 0x0 [] [] [] 0 0 (by apply cW4 Q4 Q3 Q2 Q1 w<;>first|apply hQ4|apply hQ3|apply hQ2|apply hQ1|(intro w;kernel_rfl)) no_side fun s7 x7 g7 A' R' hA dA uA res4=> ?_
  have W7:=(W.nxt x16 ac).nxt x7 ac
  refine bG _ (x7.keep0 r6) ok2 fun s8 t8 x8=> ?_
  obtain ⟨K,eK⟩:∃K,K=Txt.join (S "") ((L.drop (na+nb)).map (·.1)):=⟨_,rfl⟩
  rw [←eK] at kk⊢
  have x18:=x16.trans (x7.trans x8)
  refine Rsm.go (lim:=60) res4 [] [] (W.nxt x18 ac) .nil .nil ac aD dj0 (rmz room rfl) rfl [] fun Q5 hQ5=> ?_
  refine am (f:=(.ret (.ref s8.heap.objs.size))) 2 0x0 [0] [] [some (lstO [.str J t4,.str K t8] 0)] 1 0 (by apply cW5 Q5 Q4 Q3 Q2 Q1 w<;>first|apply hQ5|apply hQ4|apply hQ3|apply hQ2|apply hQ1|(intro w;kernel_rfl)) no_side fun s9 x9 g9=> ?_
  obtain ⟨y,hy⟩:∃y,s8.heap.objs.size=y+322:=⟨s8.heap.objs.size - 322,by have:=(W.nxt x18 ac).2;lia⟩
  have g9:s9.heap.get? s8.heap.objs.size=_:=(g9 0)
  rw [hy] at g9⊢
  exact kk s9 y t4 t8 (x18.trans x9) g9
theorem foL{w:ag}{s:aa}{A:ai}{E:Value→aa→Prop}{Q:Flow→aa→Prop}{B c0 c1 tx rw m m2 na nb:Nat}{a:Nat→Value}{G:FoG}{τ σ:Nat→Nat}{ta tb:Tok}{v15 v16 v19 v20:Value}{L M:List (Str×Tok)}(W:KTH w s.heap)(hh:A.handled=none)(room:A.depth+130<recursionLimit)(hu:A.units<cLine)(hf:s.heap.get? B=some (fFO w.params τ nmN (b15 G σ a tx rw++[v15,v16,.int (U nb) tb,.int (U na) ta,v19,v20])))(ht:s.heap.get? (tx+322)=some (lstO (strValues L) m))(hr:s.heap.get? (rw+322)=some (lstO (strValues M) m2))(l8:L.length<9)(hle:na+nb≤L.length)(ok1:JoinOk (S "") ((L.take (na+nb)).map (·.1))=true)(ok2:JoinOk (S "") ((L.drop (na+nb)).map (·.1))=true)(he:M.map (·.1)=[Txt.join (S "") ((L.take (na+nb)).map (·.1)),Txt.join (S "") ((L.drop (na+nb)).map (·.1))])
    (kk:∀s',Nxt [] s s'→Q .next s'):
    wpAny (model pw w) A (execs [bFO w 12] (enF w B c0 c1)) Q E s:=by
  refine wpAny_execs_cons (wpAny_If (wpAny_isTrue_Compare1 (wpAny_mono (dO [] [(B,_)] 60 W hh .nil (.cons hf .nil) ac nn0 dn0 (rmz room rfl) rfl [] (E:=E) (Q:=fun v' s'=>v'= .ref (rw+322)∧Nxt [] s s') fun A₀ c Q1 hQ1 _=> ?_) (fun v1 s1 h1'=> ?_) fun _ _ e=>e)))
  · refine am (f:=(.ret (.ref (rw+322)))) 2 0x1 [] [] [] 0 0 (by apply cW1 Q1 w<;>first|apply hQ1|(intro w;kernel_rfl)) no_side fun s2 x2 _=>⟨rfl,x2⟩
  · obtain ⟨rfl,x1⟩:=h1'
    refine foR (W.nxt x1 ac) hh room (x1.keep0 hf) (x1.keep0 ht) l8 hle ok1 ok2 fun s2 y t t' x2 y2=> ?_
    have x12:=x1.trans x2
    refine strs_ne (x12.keep0 hr) y2 hu (wpAny_truthy_bool ?_)
    rw [decide_eq_true (show M.map (·.1)=List.map (·.1) [(Txt.join (S "") ((L.take (na+nb)).map (·.1)),t),(Txt.join (S "") ((L.drop (na+nb)).map (·.1)),t')] from he)]
    exact wpAny_execs_nil (wpAny_execs_nil (kk s2 x12))
theorem foM1{w:ag}{s:aa}{A:ai}{E:Value→aa→Prop}{Q:Flow→aa→Prop}{B c0 c1 tx rw na nb nc nd F:Nat}{a:Nat→Value}{G:FoG}{τ σ:Nat→Nat}{t15 t16 t17 t18 t19 t20:Tok}{M:Nat}(W:KTH w s.heap)(hh:A.handled=none)(room:A.depth+130<recursionLimit)(hf:s.heap.get? B=some (fFO w.params τ nmN (b15 G σ a tx rw++[.int (U M) t15,.int (U F) t16,.int (U nb) t17,.int (U na) t18,.int (U nd) t19,.int (U nc) t20])))(ho:F=1)(la:na<2^20)(lb:nb<2^20)(hdet:U na * U nd - U nb * U nc=1)
    (kk:∀s',Nxt [] s s'→Q .next s'):
    wpAny (model pw w) A (execs [bFO w 13,bFO w 14] (enF w B c0 c1)) Q E s:=by
  refine aT [] [(B,_)] 110 W hh .nil (.cons hf .nil) ac nn0 dn0 (rmz room rfl) rfl [] fun A₀ c Q1 hQ1 uA₀=> ?_
  refine am (f:= .next) 110 0xe0001000000110000000400420042004200420042004200000000000000000002004100410041004100410041000000000000000100010000000000020040004000400040004000400000000000000001000100000000000100100001 [] [(decide (1<(U F))=false),(((((U (na)) * (U (nd))) - ((U (nb)) * (U (nc)))) !=1)=false),True,IntMulOk (U (nb)) (U (nc)),IntMulOk (U (na)) (U (nd)),(((U F)==1)=true)] [] 3 12 (by apply cW1 Q1 w<;>first|apply hQ1|(intro w;kernel_rfl)) (side_cons (by rw [ho];rfl) (side_cons (by rw [hdet];rfl) (side_cons trivial (side_cons (.of_left (natBits (aC lb (by decide)))) (side_cons (.of_left (natBits (aC la (by decide)))) (side_cons (by rw [ho];rfl) no_side)))))) fun s1 x1 _=>kk s1 x1
theorem tup2_eq{w:ag}{s:aa}{A:ai}{E Q:Value→aa→Prop}{p q:Nat}{x y x' y':Int}{t u t' u':Tok}(ha:s.heap.get? p=some (aX [.int x t,.int y u]))(hb:s.heap.get? q=some (aX [.int x' t',.int y' u']))(hu:A.units<cLine)(ex:x=x')(ey:y=y')(h:Q (.bool false) s):wpAny (model pw w) A (compareOp .NotEq (.ref p) (.ref q)) Q E s:=by
  subst ex ey
  refine SeqAt.RcNeAt.tuples (items:= #[.int x t,.int y u]) (items2:= #[.int x t',.int y u']) (e:=fun _=>true) ⟨_,ha,rfl,_,rfl⟩ ⟨_,hb,rfl,_,rfl⟩ hu (fun j h1 h2=> ?_) pw w E Q h
  match j,h1,h2 with
  |0,_,_=>exact (beq_self_eq_true x)▸SeqAt.EqAt.int_int (A:=A.in1) (s:=s) x t x t'
  |1,_,_=>exact (beq_self_eq_true y)▸SeqAt.EqAt.int_int (A:=A.in1) (s:=s) y u y u'
theorem foM2{w:ag}{s:aa}{A:ai}{E:Value→aa→Prop}{Q:Flow→aa→Prop}{B c0 c1 tx rw na nb nc nd F:Nat}{a:Nat→Value}{G:FoG}{τ σ:Nat→Nat}{t15 t16 t17 t18 t19 t20:Tok}{M:Nat}(W:KTH w s.heap)(hh:A.handled=none)(room:A.depth+130<recursionLimit)(hu:A.units<cLine)(hf:s.heap.get? B=some (fFO w.params τ nmN (b15 G σ a tx rw++[.int (U M) t15,.int (U F) t16,.int (U nb) t17,.int (U na) t18,.int (U nd) t19,.int (U nc) t20])))(ho:1<F)(lF:F<2^20)(h1:U F * U nc=U M)(h2:U F * U nd=(U G.bh - U G.bg) - U M)
    (kk:∀s',Nxt [] s s'→Q .next s'):
    wpAny (model pw w) A (execs [bFO w 13,bFO w 14] (enF w B c0 c1)) Q E s:=by
  refine aN [bFO w 13] [bFO w 14] ?_
  refine aT [] [(B,_)] 60 W hh .nil (.cons hf .nil) ac nn0 dn0 (rmz room rfl) rfl [] fun A₀ c Q1 hQ1 uA₀=> ?_
  refine am (f:= .next) 8 0x100001 [] [(((U (F))==1)=false)] [] 0 1 (by apply cW1 Q1 w<;>first|apply hQ1|(intro w;kernel_rfl)) (side_cons (beq_eq_false_iff_ne.mpr fun e=>aJ ho (Int.ofNat.inj e)) no_side) fun s1 x1 _=> ?_
  have W1:=W.nxt x1 ac
  have f1:=x1.keep0 hf
  refine wpAny_execs_cons (wpAny_If (isTrue_and (wpAny_mono (segT [] [(B,_)] 60 W1 hh .nil (.cons f1 .nil) ac nn0 dn0 (rmz room rfl) rfl [] (E:=E) (Q:=fun c s'=>c=true∧Nxt [] s1 s') fun A₀ c Q1 hQ1 uA₀=> ?_) (fun v1 s2 h1'=> ?_) fun _ _ e=>e)))
  · refine am (f:=(.ret (.bool true))) 7 0x1000e0001 [] [(decide (1<(U (F)))=true)] [] 0 1 (by apply cW1 Q1 w<;>first|apply hQ1|(intro w;kernel_rfl)) (side_cons (decide_eq_true (Int.ofNat_lt.mpr ho)) no_side) fun s3 x3 _=>⟨rfl,x3⟩
  · obtain ⟨rfl,x2⟩:=h1'
    rw [if_pos rfl]
    have x12:=x1.trans x2
    refine isTrue_and (wpAny_isTrue_Compare1 (wpAny_mono (dO [] [(B,_)] 60 (W.nxt x12 ac) hh .nil (.cons (x12.keep0 hf) .nil) ac nn0 dn0 (rmz room rfl) rfl [] (E:=E) (Q:=fun v' s'=>∃p t u,v'= .ref p∧s'.heap.get? p=some (aX [.int (U F * U nc) t,.int (U F * U nd) u])∧Nxt [] s2 s') fun A₀ c Q1 hQ1 _=> ?_) (fun v1 s3 h3=> ?_) fun _ _ e=>e))
    · refine am (f:=(.ret (.ref s2.heap.objs.size))) 16 0x2000100010000000200010001 [0] [IntMulOk (U (F)) (U (nd)),IntMulOk (U (F)) (U (nc))] [some (aX [.int ((U (F)) * (U (nc))) s2.toks,.int ((U (F)) * (U (nd))) (s2.toks+1)])] 1 2 (by apply cW1 Q1 w<;>first|apply hQ1|(intro w;kernel_rfl)) (side_cons (.of_left (natBits (aC lF (by decide)))) (side_cons (.of_left (natBits (aC lF (by decide)))) no_side)) fun s4 x4 g4=>⟨_,_,_,rfl,(g4 0),x4⟩
    · obtain ⟨p,t,u,rfl,p3,x3⟩:=h3
      have x13:=x12.trans x3
      refine wpAny_mono (dO [] [(B,_)] 60 (W.nxt x13 ac) hh .nil (.cons (x13.keep0 hf) .nil) ac nn0 dn0 (rmz room rfl) rfl [] (E:=E) (Q:=fun v' s'=>∃q t u,v'= .ref q∧s'.heap.get? q=some (aX [.int (U M) t,.int ((U G.bh - U G.bg) - U M) u])∧Nxt [] s3 s') fun A₀ c Q1 hQ1 _=> ?_) (fun v1 s4 h4=> ?_) fun _ _ e=>e
      · refine am (f:=(.ret (.ref s3.heap.objs.size))) 16 0x4000100000004000100010001 [0] [True,True] [some (aX [.int (U (M)) t15,.int (((U (G.bh)) - (U (G.bg))) - (U (M))) (s3.toks+1)])] 1 2 (by apply cW1 Q1 w<;>first|apply hQ1|(intro w;kernel_rfl)) (side_cons trivial (side_cons trivial no_side)) fun s5 x5 g5=>⟨_,_,_,rfl,(g5 0),x5⟩
      · obtain ⟨q,t',u',rfl,q4,x4⟩:=h4
        refine tup2_eq (x4.keep0 p3) q4 hu h1 h2 (wpAny_truthy_bool ?_)
        exact wpAny_execs_nil (wpAny_execs_nil (kk s4 (x13.trans x4)))
theorem foN1{w:ag}{s:aa}{A:ai}{E:Value→aa→Prop}{Q:Flow→aa→Prop}{B c0 c1 tx rw na nb:Nat}{a:Nat→Value}{G:FoG}{τ σ:Nat→Nat}{t17 t18:Tok}{v15 v16 v19 v20:Value}{I:Nat→Nat→aa→Prop}(W:KTH w s.heap)(hh:A.handled=none)(room:A.depth+60<recursionLimit)(hB:322≤B)(hf:s.heap.get? B=some (fFO w.params τ nmN (b15 G σ a tx rw++[v15,v16,.int (U nb) t17,.int (U na) t18,v19,v20])))(h0:s.heap.get? (c0+322)=some (cellO (some (.ref (G.rk+322)))))
    (rec1:∀s1 A' R' t,A'.handled=none→A'.depth≤A.depth+0→A'.units≤A.units+60→Nxt [] s s1→(∀s2 f,Nxt [140,147] s1 s2→I 0 f s2→R' (.ok (.ret (.ref (f+322)))) s2)→codeAny (model pw w) A' (.call (.ref 316) ⟨[.ref (G.li+322),.ref (G.rk+322),.int (U G.bg) (σ 1),.int (U (G.bg+na+nb)) t,.ref (G.dr+322)],[]⟩) R' s1)
    (rec2:∀s1 f s2 A' R' t,A'.handled=none→A'.depth≤A.depth+0→A'.units≤A.units+60→Nxt [140,147] s s1→I 0 f s1→Nxt [B] s1 s2→(∀s3 g,Nxt [140,147] s2 s3→I 1 g s3→R' (.ok (.ret (.ref (g+322)))) s3)→codeAny (model pw w) A' (.call (.ref 316) ⟨[.ref (G.li+322),.ref (G.rk+322),.int (U (G.bg+na+nb)) t,.int (U G.bh) (σ 2),.ref (G.dr+322)],[]⟩) R' s2)
    (kk:∀s1 f s2 s3 g s' τ',Nxt [140,147] s s1→I 0 f s1→Nxt [B] s1 s2→Nxt [140,147] s2 s3→I 1 g s3→(∃o,s3.heap.get? B=some o∧o.cls= .type "frame")→Nxt [B] s3 s'→s'.heap.get? B=some (fFO w.params τ' nmN (b15 G σ a tx rw++[v15,v16,.int (U nb) t17,.int (U na) t18,v19,v20,.ref (f+322),.ref (g+322)]))→Q .next s'):
    wpAny (model pw w) A (execs [bFO w 15,bFO w 16] (enF w B c0 c1)) Q E s:=by
  have nc:=notin1 (ne_cls h0 hf cCF)
  have hMB:High [B]:=High.one hB
  have hT:High [140,147]:=High.cons (.inr (.inl rfl)) (High.one' (.inr rfl))
  have n7:∀{p:Nat},322≤p→p∉[140,147]:=fun h=>notin2 (aJ (ah (by decide) h)) (aJ (ah (by decide) h))
  refine aT [] [(B,_),(c0+322,_)] 60 W hh .nil (.cons hf (.cons h0 .nil)) ac nn0 dn0 room rfl [] fun A₀ c Q1 hQ1 uA₀=> ?_
  refine av (c':=(.call (.ref 316) ⟨[.ref (G.1+322),.ref (G.2+322),.int (U (G.bg)) (σ 1),.int (((U (G.bg))+(U (na)))+(U (nb))) (s.toks+1),.ref (G.3+322)],[]⟩)) (d:=0) (u:=10) 25 0x100000003000100000003000100010001000200010000 [] [True,True] [] 0 2 (by apply cW1 Q1 w<;>first|apply hQ1|(intro w;kernel_rfl)) (side_cons trivial (side_cons trivial no_side)) fun s1 x1 _ A' R' hA dA uA res1=> ?_
  have W1:=W.nxt x1 ac
  refine rec1 s1 A' R' _ hA dA (by lia) x1 fun s2 f x2 i2=> ?_
  have x02:Nxt [140,147] s s2:=x1.nil.trans x2
  have W2:=W.nxt x02 hT
  have f2:=x02.keep hf (n7 hB)
  have c2:=x02.keep h0 (n7 (ab _ _))
  refine Rsm.go (lim:=60) res1 [B] [(c0+322,_)] W2 (.cons f2 .nil) (.cons c2 .nil) hMB (az _) (dj1 nc) room rfl [] fun Q2 hQ2=> ?_
  refine av (c':=(.call (.ref 316) ⟨[.ref (G.1+322),.ref (G.2+322),.int (((U (G.bg))+(U (na)))+(U (nb))) (s2.toks+2),.int (U (G.bh)) (σ 2),.ref (G.3+322)],[]⟩)) (d:=0) (u:=10) 33 0x400040000000030040000000030040004000010040000000400040 [0] [True,True] [some (fFO w.params (tk [τ 0,τ 1,τ 2,τ 3,τ 4,τ 5,τ 6,τ 7,τ 8,τ 9,τ 10,τ 11,τ 12,τ 13,τ 14,τ 15,τ 16,τ 17,τ 18,τ 19,τ 20,s2.toks]) nmN (b15 G σ a tx rw++[v15,v16,.int (U (nb)) t17,.int (U (na)) t18,v19,v20,.ref (f+322)]))] 1 3 (by apply cW2 Q2 Q1 w<;>first|apply hQ2|apply hQ1|(intro w;kernel_rfl)) (side_cons trivial (side_cons trivial no_side)) fun s3 x3 g3 A' R' hA dA uA res2=> ?_
  have f3:s3.heap.get? B=_:=(g3 0)
  have W3:=W2.nxt x3 hMB
  refine rec2 s2 f s3 A' R' _ hA dA (by lia) x02 i2 x3 fun s4 g x4 i4=> ?_
  have f4:=x4.keep f3 (n7 hB)
  refine Rsm.go (lim:=60) res2 [B] [] (W3.nxt x4 hT) (.cons f4 .nil) .nil hMB (az _) dj0 room rfl [] fun Q3 hQ3=> ?_
  refine am (f:= .next) 8 0x400040 [0] [] [some (fFO w.params (tk [τ 0,τ 1,τ 2,τ 3,τ 4,τ 5,τ 6,τ 7,τ 8,τ 9,τ 10,τ 11,τ 12,τ 13,τ 14,τ 15,τ 16,τ 17,τ 18,τ 19,τ 20,s2.toks,s4.toks]) nmN (b15 G σ a tx rw++[v15,v16,.int (U (nb)) t17,.int (U (na)) t18,v19,v20,.ref (f+322),.ref (g+322)]))] 1 1 (by apply cW3 Q3 Q2 Q1 w<;>first|apply hQ3|apply hQ2|apply hQ1|(intro w;kernel_rfl)) no_side fun s5 x5 g5=>kk s2 f s3 s4 g s5 _ x02 i2 x3 x4 i4 ⟨_,f4,rfl⟩ x5 (g5 0)
noncomputable def b23(G:FoG)(σ:Nat→Nat)(a:Nat→Value)(tx rw F t16 f g:Nat)(v:Nat→Value):List Value:=b15 G σ a tx rw++[v 15,.int (U F) t16,v 17,v 18,v 19,v 20,.ref (f+322),.ref (g+322)]
theorem foN2{w:ag}{s:aa}{A:ai}{E:Value→aa→Prop}{Q:Flow→aa→Prop}{B c0 c1 tx rw F t16 f g:Nat}{a v:Nat→Value}{G:FoG}{τ σ tf tg:Nat→Nat}{m n:M4}(W:KTH w s.heap)(hh:A.handled=none)(room:A.depth+110<recursionLimit)(hB:322≤B)(hf:s.heap.get? B=some (fFO w.params τ nmN (b23 G σ a tx rw F t16 f g v)))(h1:s.heap.get? (f+322)=some (m4O m tf))(h2:s.heap.get? (g+322)=some (m4O n tg))(bm:Bd4 m)(bn:Bd4 n)
    (kk:∀s' τ' wh t',Nxt [B] s s'→s.heap.objs.size≤wh+322→s'.heap.get? B=some (fFO w.params τ' nmN (b23 G σ a tx rw F t16 f g v++[.ref (wh+322)]))→s'.heap.get? (wh+322)=some (m4O (mulM m n) t')→Q .next s'):
    wpAny (model pw w) A (execs [bFO w 17,bFO w 18] (enF w B c0 c1)) Q E s:=by
  refine aT [] [(B,_)] 60 W hh .nil (.cons hf .nil) ac nn0 dn0 (rmz room rfl) rfl [] fun A₀ c Q1 hQ1 uA₀=> ?_
  refine av (c':=(.call (.ref 304) ⟨[.ref (f+322),.ref (g+322)],[]⟩)) (d:=0) (u:=10) 16 0x10001000000010001 [] [] [] 0 0 (by apply cW1 Q1 w<;>first|apply hQ1|(intro w;kernel_rfl)) no_side fun s1 x1 g1 A' R' hA dA uA res1=> ?_
  have dA:A'.depth≤A.depth+0:=dA
  have W1:=W.nxt x1 ac
  refine times_spec W1 (rm room dA rfl) hA (x1.keep0 h1) (x1.keep0 h2) bm bn fun s2 r u0 u1 u2 u3 x2 lr r2=> ?_
  obtain ⟨r,rfl⟩:∃r',r=r'+322:=(aW (ad W1.2 (by assumption)))
  have x12:=x1.trans x2
  have f2:=x12.keep0 hf
  refine Rsm.go (lim:=60) res1 [B] [] (W.nxt x12 ac) (.cons f2 .nil) .nil (High.one hB) (az _) dj0 (rmz room rfl) rfl [] fun Q2 hQ2=> ?_
  refine am (f:= .next) 8 0x400040 [0] [] [some (fFO w.params (tk [τ 0,τ 1,τ 2,τ 3,τ 4,τ 5,τ 6,τ 7,τ 8,τ 9,τ 10,τ 11,τ 12,τ 13,τ 14,τ 15,τ 16,τ 17,τ 18,τ 19,τ 20,τ 21,τ 22,s2.toks]) nmN (b23 G σ a tx rw F t16 f g v++[.ref (r+322)]))] 1 1 (by apply cW2 Q2 Q1 w<;>first|apply hQ2|apply hQ1|(intro w;kernel_rfl)) no_side fun s3 x3 g3=> ?_
  have rB:r+322∉[B]:=notin1 (ne_cls r2 f2 (Ne.symm cFT))
  exact kk s3 _ r (tk [u0,u1,u2,u3]) (x12.nil.trans x3) (ad x1.heap.size lr) (g3 0) (x3.keep r2 rB)
noncomputable def eXY(w:ag):Expr:=sT (bFO w 19)
theorem foN3{w:ag}{s:aa}{A:ai}{E:Value→aa→Prop}{Q:Flow→aa→Prop}{B c0 c1 tx rw F t16 f g h:Nat}{a v:Nat→Value}{G:FoG}{τ σ tf tg th:Nat→Nat}{m n o:M4}(W:KTH w s.heap)(hh:A.handled=none)(room:A.depth+110<recursionLimit)(hB:322≤B)(hf:s.heap.get? B=some (fFO w.params τ nmN (b23 G σ a tx rw F t16 f g v++[.ref (h+322)])))(h1:s.heap.get? (f+322)=some (m4O m tf))(h2:s.heap.get? (g+322)=some (m4O n tg))(h3:s.heap.get? (h+322)=some (m4O o th))
    (kk:∀s' τ' tx' ty tz,Nxt [B] s s'→s'.heap.get? B=some (fFO w.params τ' nmN (b23 G σ a tx rw F t16 f g v++[.ref (h+322),.int (m.1+m.2.2.2) tx',.int (n.1+n.2.2.2) ty,.int (o.1+o.2.2.2) tz]))→Q .next s'):
    wpAny (model pw w) A (execs [bFO w 19] (enF w B c0 c1)) Q E s:=by
  obtain ⟨m0,m1,m2,m3⟩:=m
  obtain ⟨n0,n1,n2,n3⟩:=n
  obtain ⟨o0,o1,o2,o3⟩:=o
  have q1:=notin1 (ne_cls h1 hf (Ne.symm cFT))
  have q2:=notin1 (ne_cls h2 hf (Ne.symm cFT))
  have q3:=notin1 (ne_cls h3 hf (Ne.symm cFT))
  refine aT [] [(B,_)] 60 W hh .nil (.cons hf .nil) ac nn0 dn0 (rmz room rfl) rfl [] fun A₀ c Q1 hQ1 uA₀=> ?_
  refine av (c':=cmpC (eXY w) (.ref (s.heap.objs.size+1)) (.ref (s.heap.objs.size+2)) [] (s.heap.objs.size+3) (enF w B c0 c1)) (d:=0) (u:=10) 21 0x410000004000400040000100010001 [0,1,2,3] [] [some (aX [.ref (f+322),.ref (g+322),.ref (h+322)]),some (⟨.type "tuple_iterator",none,.fields #[.ref s.heap.objs.size,.int 0 0],#[]⟩),some (lstO [] 0),some (dcO [] 0)] 4 0 (by apply cW1 Q1 w<;>first|apply hQ1|(intro w;kernel_rfl)) no_side fun s1 x1 g1 A' R' hA dA uA res1=> ?_
  have dA:A'.depth≤A.depth+0:=dA
  have W1:=W.nxt x1 ac
  have t1:s1.heap.get? s.heap.objs.size=_:=(g1 0)
  have i1:s1.heap.get? (s.heap.objs.size+1)=_:=(g1 1)
  have a1:s1.heap.get? (s.heap.objs.size+2)=_:=(g1 2)
  have C1:s1.heap.get? (s.heap.objs.size+3)=_:=(g1 3)
  have hN:∀k,322≤s.heap.objs.size+k:=fun k=>ad W.2 (aw _ _)
  have nn:∀{p:Nat} {o:Obj},s.heap.get? p=some o→p∉[s.heap.objs.size+1,s.heap.objs.size+2,s.heap.objs.size+3]:=fun e=>d9 (ay (ah (an e) (aw _ _))) (ay (ah (an e) (aw _ _))) (ay (ah (an e) (aw _ _)))
  have hM:High [s.heap.objs.size+1,s.heap.objs.size+2,s.heap.objs.size+3]:=High.cons (.inl (hN 1)) (High.cons (.inl (hN 2)) (High.one (hN 3)))
  have nd:[s.heap.objs.size+1,s.heap.objs.size+2,s.heap.objs.size+3].Nodup:=by simp
  refine co rfl (fun E Q q=>wpAny_pyIter_tupleiter ⟨_,i1,rfl,rfl⟩ q) ?_
  refine segC _ [s.heap.objs.size+1,s.heap.objs.size+2,s.heap.objs.size+3] [(s.heap.objs.size,_),(f+322,_),(g+322,_),(h+322,_)] 100 W1 hA (.cons i1 (.cons a1 (.cons C1 .nil))) (.cons t1 (.cons (x1.keep0 h1) (.cons (x1.keep0 h2) (.cons (x1.keep0 h3) .nil)))) hM nd (djc (d9 (ay (Nat.lt_add_of_pos_right (by decide))) (ay (Nat.lt_add_of_pos_right (by decide))) (ay (Nat.lt_add_of_pos_right (by decide)))) (djc (nn h1) (djc (nn h2) (dj1 (nn h3))))) (rm room dA rfl) rfl [] fun Qc hQc=> ?_
  refine am (f:= .next) 247 0x4700400040000100400040000000400040004100410041000000410000000300450045004500450045004500000000000000040000000400040004000400420004000000040004000400040042000000420042004000400001004000400000004000400041004100410000004100000003004400440044004400440044000000000000000300000003000300030003004200030000000300030003000300420000004200420040004000010040004000000040004000410041004100000041000000030043004300430043004300430000000000000002000000020002000200020042000200000002000200020002004200000042004200400040000100400040000000400040 [0,1,2] [True,True,True] [some (⟨.type "tuple_iterator",none,.fields #[.none,.int 3 0],#[]⟩),some (lstO [.int (m0+m3) (s1.toks+5),.int (n0+n3) (s1.toks+11),.int (o0+o3) (s1.toks+17)] 3),some (⟨.type "dict",none,.dict #[ew w "square" s1.toks (.ref (h+322))] 1,#[]⟩)] 8 18 (by apply cW1 Qc w<;>first|apply hQc|(intro w;kernel_rfl)) (side_cons trivial (side_cons trivial (side_cons trivial no_side))) fun s2 x2 g2=> ?_
  have a2:s2.heap.get? (s.heap.objs.size+2)=_:=(g2 1)
  have C2:s2.heap.get? (s.heap.objs.size+3)=_:=(g2 2)
  have W2:=W1.nxt x2 hM
  have f2:=x2.keep (x1.keep0 hf) (nn hf)
  have lB:=an hf
  have nBC:B≠s.heap.objs.size+3:=ay (ah lB (aw _ _))
  have naB:s.heap.objs.size+2∉[B,s.heap.objs.size+3]:=notin2 (aJ (ah lB (aw _ _))) (ay (aO _))
  refine Rsm.go (lim:=60) res1 [B,s.heap.objs.size+3] [(s.heap.objs.size+2,_)] W2 (.cons f2 (.cons C2 .nil)) (.cons a2 .nil) (High.cons (.inl hB) (High.one (hN 3))) (List.nodup_cons.mpr ⟨notin1 nBC,az _⟩) (dj1 naB) (rmz room rfl) rfl [] fun Q2 hQ2=> ?_
  refine am (f:= .next) 82 0x4000400040004000400040004400420042000100420042000000420042004200420001004200420000004200420042004200010042004200000042004200420042000100420042000000420042004200000001000100010001004100410041 [0] [] [some (fFO w.params (tk [τ 0,τ 1,τ 2,τ 3,τ 4,τ 5,τ 6,τ 7,τ 8,τ 9,τ 10,τ 11,τ 12,τ 13,τ 14,τ 15,τ 16,τ 17,τ 18,τ 19,τ 20,τ 21,τ 22,τ 23,s2.toks,s2.toks+1,s2.toks+2]) nmN (b23 G σ a tx rw F t16 f g v++[.ref (h+322),.int (m0+m3) (s1.toks+5),.int (n0+n3) (s1.toks+11),.int (o0+o3) (s1.toks+17)]))] 5 3 (by apply cW2 Q2 Q1 w<;>first|apply hQ2|apply hQ1|(intro w;kernel_rfl)) no_side fun s3 x3 g3=> ?_
  have X:Nxt [s.heap.objs.size+1,s.heap.objs.size+2,s.heap.objs.size+3,B] s s3:=x1.nil.trans ((x2.weak fun c h=>aB [B] h).trans (x3.weak fun c h=>(List.mem_cons.mp h).elim (fun h=>h▸.tail _ (.tail _ (.tail _ (.head _)))) fun h=>(List.mem_singleton.mp h)▸.tail _ (.tail _ (.head _))))
  exact kk s3 _ _ _ _ (((X.drop (aw _ _)).drop (aw _ _)).drop (aw _ _)) (g3 0)
noncomputable def dn(x y z:Int):Int:=((x * x+y * y)+z * z) - (x * y) * z
theorem foN4{w:ag}{s:aa}{A:ai}{E:Value→aa→Prop}{Q:Flow→aa→Prop}{B c0 c1 tx rw F t16 f g h t1 t2 t3:Nat}{a v:Nat→Value}{G:FoG}{τ σ:Nat→Nat}{x y z:Int}(W:KTH w s.heap)(hh:A.handled=none)(room:A.depth+130<recursionLimit)(hB:322≤B)(hf:s.heap.get? B=some (fFO w.params τ nmN (b23 G σ a tx rw F t16 f g v++[.ref (h+322),.int x t1,.int y t2,.int z t3])))(bx:Bd (2^20) x)(bxy:Bd (2^20) (x * y))(bY:Bd (2^20) y)(bZ:Bd (2^20) z)(hn:dn x y z=if F=1 then G.due else 4)
    (kk:∀s',Nxt [B] s s'→Q (.ret (.ref (h+322))) s'):
    wpAny (model pw w) A (execs [bFO w 20,bFO w 21] (enF w B c0 c1)) Q E s:=by
  have ms:∀P∈[True,IntMulOk (x * y) z,IntMulOk x y,True,IntMulOk z z,True,IntMulOk y y,IntMulOk x x],P:=side_cons trivial (side_cons (cx bxy bZ) (side_cons (cx bx bY) (side_cons trivial (side_cons (cx bZ bZ) (side_cons trivial (side_cons (cx bY bY) (side_cons (cx bx bx) no_side)))))))
  by_cases hF:F=1
  · rw [if_pos hF] at hn
    refine aT [B] [] 110 W hh (.cons hf .nil) .nil (High.one hB) (az _) dj0 (rmz room rfl) rfl [] fun A₀ c Q1 hQ1 uA₀=> ?_
    refine am (f:=(.ret (.ref (h+322)))) 260 0x40000100100040000100100040004000400040000000040048004800480048004800480000000000000000000200470047004700470047004700000000000000400000000200460046004600460046004600000000000000400040000000000000000300450045004500450045004500000000000000000002004400440044004400440044000000000000004000400000000000030043004300430043004300430000000000000000000200420042004200420042004200000000000000400040000000000002004100410041004100410041000000000000004000400000000000000000 [] [((((((x * x)+(y * y))+(z * z)) - ((x * y) * z))==(G.10))=true),(((U (F))==1)=true),True,IntMulOk (x * y) z,IntMulOk x y,True,IntMulOk z z,True,IntMulOk y y,IntMulOk x x] [] 9 26 (by apply cW1 Q1 w<;>first|apply hQ1|(intro w;kernel_rfl)) (side_cons (beq_iff_eq.mpr hn) (side_cons (by rw [hF];rfl) ms)) fun s1 x1 _=>kk s1 x1
  · rw [if_neg hF] at hn
    refine aT [B] [] 110 W hh (.cons hf .nil) .nil (High.one hB) (az _) dj0 (rmz room rfl) rfl [] fun A₀ c Q1 hQ1 uA₀=> ?_
    refine am (f:=(.ret (.ref (h+322)))) 259 0x4000010010000000100040004000400040000000040048004800480048004800480000000000000000000200470047004700470047004700000000000000400000000200460046004600460046004600000000000000400040000000000000000300450045004500450045004500000000000000000002004400440044004400440044000000000000004000400000000000030043004300430043004300430000000000000000000200420042004200420042004200000000000000400040000000000002004100410041004100410041000000000000004000400000000000000000 [] [((((((x * x)+(y * y))+(z * z)) - ((x * y) * z))==4)=true),(((U (F))==1)=false),True,IntMulOk (x * y) z,IntMulOk x y,True,IntMulOk z z,True,IntMulOk y y,IntMulOk x x] [] 9 27 (by apply cW1 Q1 w<;>first|apply hQ1|(intro w;kernel_rfl)) (side_cons (beq_iff_eq.mpr hn) (side_cons (beq_eq_false_iff_ne.mpr fun e=>hF (Int.ofNat.inj e)) ms)) fun s1 x1 _=>kk s1 x1
noncomputable def slL(L:List (Str×Str))(a b:Nat):List (Str×Str):=(L.drop a).take (b - a)
structure FoC where
  L:List (Str×Str)
  rf:Nat→Nat
  H:Nat
  la:Nat
  mks:Str
  due:Int
  ma:M4
  mb:M4
noncomputable def cO(X:FoC)(bg bh:Nat):List Nat:=(List.range' (bg+1) (bh - (bg+1))).filter fun k=>decide (X.rf k<X.mks.length)
noncomputable def numA(R:List (Str×Str)):Nat:=(R.filter fun x=> !(zP x.2)).length
noncomputable def numB(R:List (Str×Str)):Nat:=(R.filter fun x=>zP x.2).length
inductive Tree (X:FoC):Nat→Nat→M4→Prop
  |leaf (bg bh:Nat) (h0:bg<bh) (hb:bh≤X.L.length) (hk:cO X bg bh=[]) (hf:findP (slL X.L bg bh) X.mks.cps.toList=none) (bP:∀j,Bd4 (prodP X.ma X.mb (1,0,0,1) ((slL X.L bg bh).take j))):Tree X bg bh (prodP X.ma X.mb (1,0,0,1) (slL X.L bg bh))
  |node (bg bh i:Nat) (m n:M4) (h0:0<i) (h1:bg+i<bh) (hb:bh≤X.L.length) (hk:cO X bg bh≠[]) (hf:findP (slL X.L bg bh) X.mks.cps.toList=some i)
    (hdet:Nat.gcd (numA (slL X.L bg bh)) (numB (slL X.L bg bh))=1→U (numA (slL X.L bg (bg+i))) * U (numB (slL X.L (bg+i) bh)) - U (numB (slL X.L bg (bg+i))) * U (numA (slL X.L (bg+i) bh))=1)
    (hmul:Nat.gcd (numA (slL X.L bg bh)) (numB (slL X.L bg bh))≠1→Nat.gcd (numA (slL X.L bg bh)) (numB (slL X.L bg bh)) * numA (slL X.L (bg+i) bh)=numA (slL X.L bg bh)∧Nat.gcd (numA (slL X.L bg bh)) (numB (slL X.L bg bh)) * numB (slL X.L (bg+i) bh)=numB (slL X.L bg bh))
    (t1:Tree X bg (bg+i) m) (t2:Tree X (bg+i) bh n) (bm:Bd4 m) (bn:Bd4 n)
    (bx:Bd (2^20) (m.1+m.2.2.2)) (bY:Bd (2^20) (n.1+n.2.2.2)) (bxy:Bd (2^20) ((m.1+m.2.2.2) * (n.1+n.2.2.2))) (bZ:Bd (2^20) ((mulM m n).1+(mulM m n).2.2.2))
    (hn:dn (m.1+m.2.2.2) (n.1+n.2.2.2) ((mulM m n).1+(mulM m n).2.2.2)=if Nat.gcd (numA (slL X.L bg bh)) (numB (slL X.L bg bh))=1 then X.due else 4):Tree X bg bh (mulM m n)
structure WrC (X:FoC):Prop where
  wr:eH X.L
  w1:∀x∈X.L,Wr1 x.1 x.2
  lt:∀x∈X.L,Let x.2
  nab:∀x∈X.L,(∀c∈x.1.cps.toList,c≠97∧c≠98)∧∃y1 z y3,x.2=⟨#[y1,ltc z,y3]⟩∧y1<97∧y3<97
  l8:X.L.length<8
  lH:X.H<100
  ll:X.la≤1
  mka:X.mks.cps.all (· <128)=true
  ml:X.mks.length<2^20
theorem numAB(R:List (Str×Str)):numA R+numB R=R.length:=by
  unfold numA numB
  induction R with
  |nil=>rfl
  |cons x R ih=>
    cases h:zP x.2
    · rw [List.filter_cons_of_pos (by rw [h];rfl),List.filter_cons_of_neg (by rw [h];exact Bool.false_ne_true),List.length_cons,List.length_cons];lia
    · rw [List.filter_cons_of_neg (by rw [h];exact Bool.false_ne_true),List.filter_cons_of_pos (by exact h),List.length_cons,List.length_cons];lia
theorem cnt_row{R:List (Str×Str)}(h:∀x∈R,(∀c∈x.1.cps.toList,c≠97∧c≠98)∧∃y1 z y3,x.2=⟨#[y1,ltc z,y3]⟩∧y1<97∧y3<97):(textP R).cps.toList.count 97=numA R∧(textP R).cps.toList.count 98=numB R:=by
  rw [bT]
  unfold numA numB
  induction R with
  |nil=>exact ⟨rfl,rfl⟩
  |cons x R ih=>
    obtain ⟨i1,i2⟩:=ih fun y hy=>h y (.tail _ hy)
    obtain ⟨h1,y1,z,y3,e,l1,l3⟩:=h x (.head _)
    have ez:zP x.2=z:=by rw [e];cases z<;>rfl
    have c0:∀d,d=97∨d=98→x.1.cps.toList.count d=0:=fun d hd=>List.count_eq_zero.mpr fun hm=>by
      rcases hd with rfl|rfl
      · exact (h1 _ hm).1 rfl
      · exact (h1 _ hm).2 rfl
    have c1:x.2.cps.toList.count 97=(cond z 0 1)∧x.2.cps.toList.count 98=(cond z 1 0):=by
      rw [e]
      show [y1,ltc z,y3].count 97=_∧[y1,ltc z,y3].count 98=_
      have a1:(y1==97)=false:=beq_eq_false_iff_ne.mpr (ay ‹_›)
      have a2:(y1==98)=false:=beq_eq_false_iff_ne.mpr (by lia)
      have b1:(y3==97)=false:=beq_eq_false_iff_ne.mpr (ay ‹_›)
      have b2:(y3==98)=false:=beq_eq_false_iff_ne.mpr (by lia)
      cases z<;>simp [List.count_cons,ltc,a1,a2,b1,b2]
    rw [List.flatMap_cons,List.count_append,List.count_append,List.count_append,List.count_append,c0 97 (.inl rfl),c0 98 (.inr rfl),c1.1,c1.2,i1,i2]
    cases z
    · rw [List.filter_cons_of_pos (by rw [ez];rfl),List.filter_cons_of_neg (by rw [ez];exact Bool.false_ne_true),List.length_cons]
      exact ⟨by simp only [cond];lia,by simp only [cond];lia⟩
    · rw [List.filter_cons_of_neg (by rw [ez];exact Bool.false_ne_true),List.filter_cons_of_pos (by exact ez),List.length_cons]
      exact ⟨by simp only [cond];lia,by simp only [cond];lia⟩
theorem lenP_app(R K:List (Str×Str)):lenP (R++K)=lenP R+lenP K:=by unfold lenP;rw [List.map_append,List.sum_append]
theorem lenP_mono{R:List (Str×Str)}{j k:Nat}(h:j≤k):lenP (R.take j)≤lenP (R.take k):=by
  obtain ⟨K,hK⟩:∃K,R.take k=R.take j++K:=⟨(R.take k).drop j,by rw [show R.take j=(R.take k).take j by rw [List.take_take,Nat.min_eq_left h],List.take_append_drop]⟩
  rw [hK,lenP_app]
  exact aw _ _
theorem wd_law{G:FoG}{R:List (Str×Str)}{y:Str×Str}{J x:Str}(hla:G.la≤1)(hJ:J.length=lenP (R++[y]))(hx:x.length=y.1.length+y.2.length)(x1:0<x.length):
    wdP G J x<((G.H+lenP (R++[y]):Nat):Int)∧∀j,j+1<(R++[y]).length→((G.H+lenP ((R++[y]).take (j+1)):Nat):Int)≤wdP G J x:=by
  have e1:lenP (R++[y])=lenP R+x.length:=by rw [lenP_app,hx];rfl
  have hl:(U G.la * (U x.length - 1)=0)∨(U G.la * (U x.length - 1)=U x.length - 1):=by
    rcases Nat.le_one_iff_eq_zero_or_eq_one.mp hla with h|h
    · rw [h];exact .inl (Int.zero_mul _)
    · rw [h];exact .inr (Int.one_mul _)
  unfold wdP
  rw [hJ,e1]
  generalize U G.la * (U x.length - 1)=q at hl
  simp only [Int.ofNat_eq_natCast] at hl⊢
  refine ⟨by lia,fun j hj=> ?_⟩
  rw [aA] at hj
  have hj:j+1≤R.length:=Nat.le_of_lt_succ hj
  have e2:(R++[y]).take (j+1)=R.take (j+1):=List.take_append_of_le_length hj
  have e3:lenP (R.take (j+1))≤lenP R:=by
    have:=lenP_mono (R:=R) hj
    rw [List.take_length] at this
    exact this
  rw [e2]
  lia
theorem ce(R:List (Str×Str)):Txt.join (S "") (bf R)=textP R:=by
  refine Str.ext' (Array.toList_inj.mp ?_)
  rw [join0,bT]
  unfold bf
  rw [List.flatMap_map]
  refine congrArg (fun f=>R.flatMap f) (funext fun x=> ?_)
  rw [Str.cps_append,Array.toList_append]
theorem dq(R K:List (Str×Str)):bf (R++K)=bf R++bf K:=List.map_append ..
theorem fp_slD(D:List PD)(a b:Nat):fp (slD D a b)=slL (fp D) a b:=slD_fp D a b
theorem cn{L:List (Str×Str)}{a b:Nat}(h:a≤b)(l:b≤L.length):(slL L a b).length=b - a:=by
  unfold slL
  rw [List.length_take,List.length_drop]
  lia
theorem cZ{L:List (Str×Str)}{a b:Nat}{x:Str×Str}(h:x∈slL L a b):x∈L:=List.mem_of_mem_drop (List.mem_of_mem_take h)
theorem slL_take{L:List (Str×Str)}{a b i:Nat}(h:a+i≤b):(slL L a b).take i=slL L a (a+i):=by
  unfold slL
  rw [List.take_take,Nat.min_eq_left (by lia),Nat.add_sub_cancel_left]
theorem slL_drop{L:List (Str×Str)}{a b i:Nat}(h:a+i≤b):(slL L a b).drop i=slL L (a+i) b:=by
  unfold slL
  rw [List.drop_take,List.drop_drop]
  congr 1
  lia
noncomputable def NxN(n:Nat)(s s':aa):Prop:=∃mods,Nxt mods s s'∧∀a∈mods,a=140∨a=147∨n≤a
theorem NxN.of{n:Nat}{mods:List Addr}{s s':aa}(x:Nxt mods s s')(h:∀a∈mods,a=140∨a=147∨n≤a):NxN n s s':=⟨mods,x,h⟩
theorem NxN.of0{n:Nat}{s s':aa}(x:Nxt [] s s'):NxN n s s':=⟨[],x,fun _ h=>by cases h⟩
theorem NxN.of1{n:Nat}{a:Addr}{s s':aa}(x:Nxt [a] s s')(h:n≤a):NxN n s s':=⟨[a],x,fun b hb=> .inr (.inr (by rw [List.mem_singleton.mp hb];exact h))⟩
theorem NxN.of7{n:Nat}{s s':aa}(x:Nxt [140,147] s s'):NxN n s s':=⟨_,x,fun b hb=>by
  rcases List.mem_cons.mp hb with h|h
  · exact .inl h
  · exact .inr (.inl (List.mem_singleton.mp h))⟩
theorem NxN.trans{n:Nat}{s s' s'':aa}(x:NxN n s s')(y:NxN n s' s''):NxN n s s'':=by
  obtain ⟨m1,x,h1⟩:=x
  obtain ⟨m2,y,h2⟩:=y
  exact ⟨m1++m2,(x.weak fun _ h=>aB _ h).trans (y.weak fun _ h=>aE _ h),fun a ha=>(List.mem_append.mp ha).elim (h1 a) (h2 a)⟩
theorem NxN.kth{n:Nat}{w:ag}{s s':aa}(x:NxN n s s')(W:KTH w s.heap)(l:322≤n):KTH w s'.heap:=by
  obtain ⟨m,x,h⟩:=x
  refine W.nxt x fun a ha=> ?_
  rcases h a ha with h|h|h
  · exact .inr (.inl h)
  · exact .inr (.inr h)
  · exact .inl (ad l h)
theorem NxN.keep{n:Nat}{s s':aa}(x:NxN n s s'){p:Nat}{o:Obj}(e:s.heap.get? p=some o)(l:322≤p)(g:p<n):s'.heap.get? p=some o:=by
  obtain ⟨m,x,h⟩:=x
  refine x.keep e fun hm=> ?_
  rcases h p hm with h|h|h
  · rw [h] at l;exact absurd l (by decide)
  · rw [h] at l;exact absurd l (by decide)
  · exact Nat.lt_irrefl _ (ah g h)
theorem NxN.fin{s s':aa}(x:NxN s.heap.objs.size s s'):Nxt [140,147] s s':=by
  obtain ⟨m,x,h⟩:=x
  refine x.less fun a ha=> ?_
  rcases h a ha with h|h|h
  · exact .inl (h▸.head _)
  · exact .inl (h▸.tail _ (.head _))
  · exact .inr (new_none h)
theorem NxN.size{n:Nat}{s s':aa}(x:NxN n s s'):s.heap.objs.size≤s'.heap.objs.size:=x.choose_spec.1.heap.size
structure FoH (w:ag) (G:FoG) (X:FoC) (D:List PD) (h:Heap):Prop where
  hl:∃m,h.get? (G.li+322)=some (lstO (refsD D) m)
  hp:Pts h D
  hr:∃xs m,h.get? (G.rk+322)=some (lstO xs m)∧∀j,j<X.L.length→∃t,xs[j]? =some (.int (U (X.rf j)) t)
  hd:∃t0 t1 t2 t3,h.get? (G.dr+322)=some (drO G t0 t1 t2 t3)
  hq:∃t0 t1 sa sb n ta tb,h.get? (G.sq+322)=some (sqO w.params t0 t1 sa sb n)∧h.get? (sa+322)=some (m4O X.ma ta)∧h.get? (sb+322)=some (m4O X.mb tb)
theorem FoH.nxt{w:ag}{G:FoG}{X:FoC}{D:List PD}{s s':aa}{n:Nat}(F:FoH w G X D s.heap)(x:NxN n s s')(g:s.heap.objs.size≤n):FoH w G X D s'.heap:=by
  have k:∀{p:Nat} {o:Obj},s.heap.get? (p+322)=some o→s'.heap.get? (p+322)=some o:=fun e=>x.keep e (ab _ _) (ah (an e) g)
  obtain ⟨⟨m,hl⟩,hp,⟨xs,m0,hr,hx⟩,⟨t0,t1,t2,t3,hd⟩,⟨u0,u1,sa,sb,u,ta,tb,hq,ha,hb⟩⟩:=F
  exact ⟨⟨m,k hl⟩,fun d h=>k (hp d h),⟨xs,m0,k hr,hx⟩,⟨t0,t1,t2,t3,k hd⟩,⟨u0,u1,sa,sb,u,ta,tb,k hq,k ha,k hb⟩⟩
theorem slD_last{D:List PD}{a b:Nat}(h:a<b)(l:b≤D.length):∃DS d,slD D a b=DS++[d]∧D[b - 1]? =some d:=by
  have hl:b - 1<D.length:=by lia
  refine ⟨slD D a (b - 1),D[b - 1],?_,aG hl⟩
  unfold slD
  have e:b - a=(b - 1 - a)+1:=by lia
  rw [e,List.take_add_one,List.getElem?_drop,show a+(b - 1 - a)=b - 1 by lia,aG hl]
  rfl
noncomputable def toldP(R:List (Str×Str))(y:Str×Str)(H:Nat):List Str:=if H=0 then [textP (R++[y])] else [textP R,(if y.1=S "" then S " " else y.1)++y.2]
theorem told_rows{R:List (Str×Str)}{y:Str×Str}{H:Nat}{mk:Str}(h:findP (R++[y]) mk.cps.toList=none):(foldP (R++[y]) H mk).1++[textP (foldP (R++[y]) H mk).2]=toldP R y H:=by
  unfold foldP toldP
  rw [h]
  by_cases h0:H=0
  · simp only [if_pos h0];rfl
  · simp only [if_neg h0,List.dropLast_concat,List.getLast?_concat,Option.getD_some]
    refine congrArg (fun x=>[textP R,x]) (Str.ext' (Array.toList_inj.mp ?_))
    rw [bT,List.flatMap_cons,List.flatMap_nil,List.append_nil,Str.cps_append,Array.toList_append]
theorem bI{R:List (Str×Str)}(h:∀x∈R,Wr1 x.1 x.2)(l8:R.length<9):JoinOk (S "") (bf R)=true:=by
  refine c9 (fun t ht=> ?_) (by unfold bf;rw [ak];lia) (by decide+kernel)
  obtain ⟨x,hx,rfl⟩:=List.mem_map.mp ht
  have h1:=(h x hx).1
  have h2:=(h x hx).ok.2.2.2.2
  rw [Str.length_append]
  lia
theorem leaf_spec{w:ag}{s0 s:aa}{A:ai}{E:Value→aa→Prop}{Q:Flow→aa→Prop}{B c0 c1 tx rw m m2:Nat}{a:Nat→Value}{G:FoG}{X:FoC}{D:List PD}{τ σ:Nat→Nat}{Lt Lr:List (Str×Tok)}(W:KTH w s.heap)(hh:A.handled=none)(room:A.depth+200<recursionLimit)(hu:A.units+900<cLine)(hB:322≤B)(F:FoH w G X D s0.heap)(hX:WrC X)(eD:fp D=X.L)(eX:X.H=G.H∧X.mks=G.mks)(hN:322≤s0.heap.objs.size)(x0:NxN s0.heap.objs.size s0 s)(hBN:s0.heap.objs.size≤B)
    (hf:s.heap.get? B=some (fFO w.params τ nmN (b15 G σ a tx rw))) (ht:s.heap.get? (tx+322)=some (lstO (strValues Lt) m)) (hr:s.heap.get? (rw+322)=some (lstO (strValues Lr) m2)) (et:Lt.map (·.1)=bf (slL X.L G.bg G.bh)) (er:Lr.map (·.1)=(foldP (slL X.L G.bg G.bh) G.H G.mks).1++[textP (foldP (slL X.L G.bg G.bh) G.H G.mks).2])
    (hbb:G.bg<G.bh) (hb:G.bh≤X.L.length) (hfi:findP (slL X.L G.bg G.bh) X.mks.cps.toList=none) (bP:∀j,Bd4 (prodP X.ma X.mb (1,0,0,1) ((slL X.L G.bg G.bh).take j))) (ba:Bd4 X.ma) (bb:Bd4 X.mb)
    (kk:∀s' r t,Nxt [B] s s'→s'.heap.get? (r+322)=some (m4O (prodP X.ma X.mb (1,0,0,1) (slL X.L G.bg G.bh)) t)→Q (.ret (.ref (r+322))) s'):
    wpAny (model pw w) A (execs (sB (bFO w 7)) (enF w B c0 c1)) Q E s:=by
  have eB:sB (bFO w 7)=[bLF w 0]++([bLF w 1]++([bLF w 2]++([bLF w 3]++[bLF w 4]))):=by kernel_rfl
  rw [eB]
  have lD:D.length=X.L.length:=by rw [←eD,bQ]
  obtain ⟨DS,d,eS,ed⟩:=slD_last hbb (lD▸hb)
  have hdD:d∈D:=aM ed
  have eR:slL X.L G.bg G.bh=fp DS++[(d.f,d.p)]:=by rw [←eD,←fp_slD,eS,cv];rfl
  have okd:Wrd d.f d.p:=hX.wr (d.f,d.p) (eD▸List.mem_map.mpr ⟨d,hdD,rfl⟩)
  have hw:∀x∈fp DS++[(d.f,d.p)],Wr1 x.1 x.2:=fun x hx=>hX.w1 x (cZ (eR▸hx))
  have l8:=hX.l8
  have lR:(fp DS++[(d.f,d.p)]).length=G.bh - G.bg:=by rw [←eR];exact cn (au hbb) hb
  have lS:(fp DS).length+1=G.bh - G.bg:=by rw [aA] at lR;exact lR
  rw [eR] at et er
  rw [told_rows (by rw [←eR,←eX.2];exact hfi)] at er
  have nB1:∀{p:Nat} {o:Obj} {s':aa},s'.heap.get? (p+322)=some o→o.cls≠.type "frame"→s'.heap.get? B=some (fFO w.params τ nmN (b15 G σ a tx rw))→p+322∉[B]:=fun h n h'=>notin1 (ne_cls h h' n)
  have ntx:tx+322∉[B]:=nB1 ht (Ne.symm cFL) hf
  have nrw:rw+322∉[B]:=nB1 hr (Ne.symm cFL) hf
  have hMB:High [B]:=High.one hB
  obtain ⟨u0,u1,sa,sb,u,ta,tb,hq0,ha0,hb0⟩:=F.hq
  have k0:∀{s':aa} {p:Nat} {o:Obj},NxN s0.heap.objs.size s0 s'→s0.heap.get? (p+322)=some o→s'.heap.get? (p+322)=some o:=fun x e=>x.keep e (ab _ _) (an e)
  obtain ⟨ml,hl0⟩:=F.hl
  have rest:∀s2 τ2 td2 (Mt:List (Str×Tok)),Nxt [B] s s2→KTH w s2.heap→s2.heap.get? B=some (fFO w.params τ2 nmL (b15 G σ a tx rw++[.ref (td2+322)]))→s2.heap.get? (rw+322)=some (lstO (strValues Lr) m2)→s2.heap.get? (td2+322)=some (lstO (strValues Mt) 0)→Mt.map (·.1)=toldP (fp DS) (d.f,d.p) G.H→wpAny (model pw w) A (execs ([bLF w 2]++([bLF w 3]++[bLF w 4])) (enF w B c0 c1)) Q E s2:=by
    intro s2 τ2 td2 Mt y2 W2 f2 r2 d2 e2
    have ntd2:td2+322∉[B]:=notin1 (ne_cls d2 f2 (Ne.symm cFL))
    refine aN [bLF w 2] _ (lf2 W2 hh (rmz room rfl) hB f2 fun s3 τ3 wh t3 x3 lwh f3 w3=> ?_)
    have z3:=y2.trans x3
    have y3:=x0.trans (.of1 z3 hBN)
    refine aN [bLF w 3] _ (lf3 (m:=ml) (ma:=X.ma) (mb:=X.mb) (D:=D) (W2.nxt x3 hMB) hh (rmz room rfl) hB f3 (k0 y3 hl0) (fun d h=>k0 y3 (F.hp d h)) (lD▸l8) hbb (lD▸hb) (k0 y3 hq0) (k0 y3 ha0) (k0 y3 hb0) w3 ba bb (by rw [show slD D G.bg G.bh=DS++[d] from eS];intro j;have:=bP j;rw [eR] at this;rw [show fp ((DS++[d]).take j)=(fp DS++[(d.f,d.p)]).take j by rw [show fp DS++[(d.f,d.p)]=fp (DS++[d]) from (cv DS [d]).symm];unfold fp;rw [List.map_take]];exact this) (fun e he=>hX.lt (e.f,e.p) (eD▸List.mem_map.mpr ⟨e,he,rfl⟩)) fun s4 τ4 a4 wh4 t4 x4 f4 w4=> ?_)
    have x24:=x3.trans x4
    refine lf4 ((W2.nxt x3 hMB).nxt x4 hMB) hh (rmz room rfl) (by lia) f4 (x24.keep r2 nrw) (x24.keep d2 ntd2) (by rw [er,e2]) fun s5 x5=>kk s5 wh4 t4 (z3.trans (x4.trans x5.nil)) ?_
    have:slL X.L G.bg G.bh=fp (slD D G.bg G.bh):=by rw [←eD,←fp_slD]
    rw [this]
    exact x5.keep0 w4
  refine aN [bLF w 0] _ (lf0 W hh (rmz room rfl) hB hf ht (by rw [et];exact bI hw (by lia)) fun s1 τ1 td t1 x1 ltd f1 d1=> ?_)
  rw [et,ce] at d1
  have y1:=x0.trans (.of1 x1 hBN)
  have W1:=W.nxt x1 hMB
  have r1:=x1.keep hr nrw
  have td1:td+322∉[B]:=notin1 (ne_cls d1 f1 (Ne.symm cFL))
  by_cases h0:G.H=0
  · refine aN [bLF w 1] _ (lf1a W1 hh (rmz room rfl) f1 h0 fun s2 x2=> ?_)
    exact rest s2 τ1 td _ (x1.trans x2.nil) (W1.nxt x2 ac) (x2.keep0 f1) (x2.keep0 r1) (x2.keep0 d1) (by unfold toldP;rw [if_pos h0];rfl)
  · obtain ⟨Ls,x,rfl⟩:∃Ls x,Lt=Ls++[x]:=by
      have:Lt≠[]:=fun e=>by rw [e] at et;have:=congrArg List.length et;rw [show (bf (fp DS++[(d.f,d.p)])).length=_ from ak ..,lR] at this;have:0=G.bh - G.bg:=this;lia
      exact ⟨_,_,(List.dropLast_concat_getLast this).symm⟩
    have eL:Ls.map (·.1)=bf (fp DS):=by
      rw [dq,List.map_append] at et
      exact (List.append_inj' et rfl).1
    have lL:Ls.length=(fp DS).length:=by have:=congrArg List.length eL;unfold bf at this;rw [ak,ak] at this;exact this
    have hw':∀x∈fp DS,Wr1 x.1 x.2:=fun x hx=>hw x (aB _ hx)
    refine aN [bLF w 1] _ (lf1b (D:=D) (m2:=ml) W1 hh (rmz room rfl) hB f1 (Nat.pos_of_ne_zero h0) (x1.keep ht ntx) (by rw [eL];exact bI hw' (by lia)) (by lia) (k0 y1 hl0) ed (k0 y1 (F.hp d hdD)) okd (by lia) (by lia) fun s2 τ2 td2 t2 u2 x2 ltd2 f2 d2=> ?_)
    exact rest s2 τ2 td2 _ (x1.trans x2) (W1.nxt x2 hMB) f2 (x2.keep r1 nrw) d2 (by unfold toldP;rw [if_neg h0,List.map_cons,eL,ce];rfl)
structure FoM (w:ag) (s:aa) (G:FoG) (X:FoC) (B c0 c1 tx rw:Nat) (a:Nat→Value) (τ σ:Nat→Nat) (Lt Lr:List (Str×Tok)) (s':aa):Prop where
  nx:NxN s.heap.objs.size s s'
  k:KTH w s'.heap
  t:Tabs s'.heap
  b:s.heap.objs.size≤B
  f:s'.heap.get? B=some (fFO w.params τ nmN (b15 G σ a tx rw))
  c:s'.heap.get? (c0+322)=some (cellO (some (.ref (G.rk+322))))
  ht:∃m,s'.heap.get? (tx+322)=some (lstO (strValues Lt) m)
  hr:∃m,s'.heap.get? (rw+322)=some (lstO (strValues Lr) m)
  et:Lt.map (·.1)=bf (slL X.L G.bg G.bh)
  er:Lr.map (·.1)=(foldP (slL X.L G.bg G.bh) G.H G.mks).1++[textP (foldP (slL X.L G.bg G.bh) G.H G.mks).2]
theorem fold_part{X:FoC}(hX:WrC X){G:FoG}{bg bh:Nat}(h0:bg<bh)(hb:bh≤X.L.length):(∀x∈(foldP (slL X.L bg bh) G.H G.mks).2,Wr1 x.1 x.2)∧((foldP (slL X.L bg bh) G.H G.mks).2).length<8∧(∀t∈(foldP (slL X.L bg bh) G.H G.mks).1,(∀c∈t.cps.toList,c<124)∧t.length≤100)∧(foldP (slL X.L bg bh) G.H G.mks).1.length≤8:=by
  have lR:=cn (au h0) hb
  have l8:=hX.l8
  have hw:∀x∈slL X.L bg bh,Wr1 x.1 x.2:=fun x hx=>hX.w1 x (cZ hx)
  have tx:∀K:List (Str×Str),(∀x∈K,Wr1 x.1 x.2)→K.length<9→∀t∈[textP K],(∀c∈t.cps.toList,c<124)∧t.length≤100:=fun K h l t ht=>by
    rw [List.mem_singleton.mp ht]
    refine ⟨dw h,?_⟩
    have:=lenP_le h
    rw [cX]
    lia
  generalize slL X.L bg bh=R at lR hw
  have hne:R≠[]:=fun e=>by rw [e] at lR;have:0=bh - bg:=lR;lia
  have fin:∀K M:List (Str×Str),(∀x∈K,x∈R)→K.length≤R.length→(∀x∈M,Wr1 x.1 x.2)→M.length≤R.length→(∀x∈M,Wr1 x.1 x.2)∧M.length<8∧(∀t∈[textP K],(∀c∈t.cps.toList,c<124)∧t.length≤100)∧[textP K].length≤8:=fun K M h1 h2 h3 h4=>⟨h3,by lia,tx K (fun x hx=>hw x (h1 x hx)) (by lia),(show 1≤8 by decide)⟩
  unfold foldP
  cases findP R G.mks.cps.toList with
  |some i=>exact fin _ _ (fun x hx=>List.mem_of_mem_take hx) (by rw [List.length_take];exact Nat.min_le_right _ _) (fun x hx=>hw x (List.mem_of_mem_drop hx)) (by rw [List.length_drop];lia)
  |none=>
    by_cases hH:G.H=0
    · simp only [if_pos hH]
      exact ⟨hw,by lia,(fun _ h=>by cases h),by decide⟩
    · simp only [if_neg hH]
      refine fin _ _ (fun x hx=>List.dropLast_subset _ hx) (by rw [List.length_dropLast];lia) (fun x hx=> ?_) (by show 1≤_;lia)
      obtain ⟨L,y,rfl⟩:∃L y,R=L++[y]:=⟨_,_,(List.dropLast_concat_getLast hne).symm⟩
      rw [List.getLast?_concat,Option.getD_some] at hx
      have hy:=hw y (aE _ (.head _))
      rw [List.mem_singleton.mp hx]
      by_cases hs:y.1=S ""
      · simp only [if_pos hs]
        exact ⟨by decide+kernel,by decide+kernel,hy.2.2⟩
      · simp only [if_neg hs]
        exact hy
noncomputable def restF(w:ag):List Stmt:=[bFO w 8,bFO w 9,bFO w 10,bFO w 11,bFO w 12,bFO w 13,bFO w 14,bFO w 15,bFO w 16,bFO w 17,bFO w 18,bFO w 19,bFO w 20,bFO w 21]
theorem fold_head{w:ag}{s:aa}{A:ai}{R:Result→aa→Prop}{G:FoG}{X:FoC}{D:List PD}{t1 t2:Tok}(W:KTH w s.heap)(hh:A.handled=none)(room:A.depth+220<recursionLimit)(hu:A.units+1000<cLine)(T:Tabs s.heap)(F:FoH w G X D s.heap)(hX:WrC X)(eD:fp D=X.L)(eX:X.H=G.H∧X.mks=G.mks∧X.la=G.la)(h0:G.bg<G.bh)(hb:G.bh≤X.L.length)(hne:(foldP (slL X.L G.bg G.bh) G.H G.mks).2≠[])
    (k1:cO X G.bg G.bh=[]→∀A' B c0 c1 tx rw a τ σ Lt Lr s',A'.handled=none→A'.depth≤A.depth+1→A'.units≤A.units+10→FoM w s G X B c0 c1 tx rw a τ σ Lt Lr s'→wpAny (model pw w) A' (execs (sB (bFO w 7)) (enF w B c0 c1)) (fun f s2=>∃v,f= .ret v∧R (.ok (.ret v)) s2) noE s')
    (k0:cO X G.bg G.bh≠[]→∀A' B c0 c1 tx rw a τ σ Lt Lr s',A'.handled=none→A'.depth≤A.depth+1→A'.units≤A.units+10→FoM w s G X B c0 c1 tx rw a τ σ Lt Lr s'→wpAny (model pw w) A' (execs (restF w) (enF w B c0 c1)) (endF R) noE s'):
    codeAny (model pw w) A (.call (.ref 316) ⟨[.ref (G.li+322),.ref (G.rk+322),.int (U G.bg) t1,.int (U G.bh) t2,.ref (G.dr+322)],[]⟩) R s:=by
  refine open_fold W hh (rmz room rfl) fun s1 B x1 W1 hB f1 hc0 hc1=> ?_
  have hN:=W.2
  have hB2:322≤B:=ad hN hB
  obtain ⟨c0,e0⟩:∃c,B+1=c+322:=⟨B+1 - 322,by lia⟩
  obtain ⟨c1,e1⟩:∃c,B+2=c+322:=⟨B+2 - 322,by lia⟩
  rw [e0] at hc0
  rw [e1] at hc1
  rw [e0,e1]
  have eB:dh w=[bFO w 0]++([bFO w 1]++([bFO w 2,bFO w 3,bFO w 4]++([bFO w 5]++([bFO w 6]++([bFO w 7]++restF w))))):=by kernel_rfl
  rw [eB]
  show wpAny _ _ (execs _ (enF w B c0 c1)) _ _ _
  obtain ⟨t0,t1',t2',t3,hd⟩:=F.hd
  have f1':s1.heap.get? B=some (fFO w.params (tk [s.toks,s.toks+1,s.toks+2,s.toks+3]) nmN (b4 G (tk [0,t1,t2]))):=f1
  have hb1:∀c∈[B],322≤c:=fun c hc=>by rw [List.mem_singleton.mp hc];exact hB2
  have hhd:(A.deeper (enF w B c0 c1)).handled=none:=hh
  have y1:NxN s.heap.objs.size s s1:= .of0 x1
  have lD:D.length=X.L.length:=by rw [←eD,bQ]
  have l8:=hX.l8
  refine aN [bFO w 0] _ (foA W1 hhd (rmo room rfl) hB2 f1' hc1 (x1.keep0 hd) fun s2 τ2 σ2 t x2 f2 c2=> ?_)
  have hMBC:High [B,c1+322]:=High.cons (.inl hB2) (High.one (ab _ _))
  have W2:=W1.nxt x2 hMBC
  have hc1N:s.heap.objs.size≤c1+322:=e1▸ad hB (aw _ _)
  have y2:NxN s.heap.objs.size s s2:=y1.trans (.of x2 fun a ha=>by
    rcases List.mem_cons.mp ha with h|h
    · exact .inr (.inr (h▸hB))
    · exact .inr (.inr ((List.mem_singleton.mp h)▸hc1N)))
  have nc0:c0+322∉[B,c1+322]:=notin2 (show c0+322≠B by lia) (show c0+322≠c1+322 by lia)
  have a2:=x2.keep hc0 nc0
  have T2:Tabs s2.heap:=(T.nxt0 x1).nxtH x2 (fun c hc=>by
    rcases List.mem_cons.mp hc with h|h
    · exact h▸hB2
    · exact (List.mem_singleton.mp h)▸ab _ _)
  have F2:=F.nxt y2 (al _)
  obtain ⟨ml,hl2⟩:=F2.hl
  have hMB:High [B]:=High.one hB2
  have okW:eH (fp D):=by rw [eD];exact hX.wr
  refine aN [bFO w 1] _ (foB W2 hhd (rmo room rfl) hB2 f2 hl2 F2.hp okW (by lia) h0 (by lia) fun s3 τ3 tx Lt mt x3 ltx f3 t3' et=> ?_)
  rw [fp_slD,eD] at et
  have lR:=cn (au h0) hb
  obtain ⟨R',y,eR⟩:∃R' y,slL X.L G.bg G.bh=R'++[y]:=by
    have:slL X.L G.bg G.bh≠[]:=fun e=>by rw [e] at lR;have:0=G.bh - G.bg:=lR;lia
    exact ⟨_,_,(List.dropLast_concat_getLast this).symm⟩
  have hw:∀x∈R'++[y],Wr1 x.1 x.2:=fun x hx=>hX.w1 x (cZ (eR▸hx))
  have hy:=hw y (aE _ (.head _))
  rw [eR] at et lR
  obtain ⟨Ls,xl,rfl⟩:∃Ls x,Lt=Ls++[x]:=by
    have:Lt≠[]:=fun e=>by rw [e,dq] at et;exact absurd et.symm (List.append_ne_nil_of_right_ne_nil _ (List.cons_ne_nil _ _))
    exact ⟨_,_,(List.dropLast_concat_getLast this).symm⟩
  obtain ⟨xs,tl⟩:=xl
  have ex:xs=y.1++y.2∧Ls.map (·.1)=bf R':=by
    rw [dq,List.map_append] at et
    have:=List.append_inj' et rfl
    exact ⟨(List.cons.inj this.2).1,this.1⟩
  have lx:xs.length=y.1.length+y.2.length:=by rw [ex.1,Str.length_append]
  have ly:=hy.ok.2.2.2.2
  have ly1:=hy.1
  have lRR:R'.length+1=G.bh - G.bg:=by rw [aA] at lR;exact lR
  have lL:Ls.length=R'.length:=by have:=congrArg List.length ex.2;unfold bf at this;rw [ak,ak] at this;exact this
  have y3:=y2.trans (.of1 x3 hB)
  have W3:=W2.nxt x3 hMB
  have n1:∀{p:Nat} {o:Option Value},s2.heap.get? p=some (cellO o)→p∉[B]:=fun h=>notin1 (ne_cls h f2 cCF)
  have a3:=x3.keep a2 (n1 a2)
  have b3:=x3.keep c2 (n1 c2)
  have T3:=T2.nxtH x3 hb1
  have jt:Txt.join (S "") ((Ls++[(xs,tl)]).map (·.1))=textP (R'++[y]):=by rw [et,ce]
  have lJ:(textP (R'++[y])).length<2^20:=by rw [cX];have:=lenP_le hw;rw [lR] at this;lia
  refine aN [bFO w 2,bFO w 3,bFO w 4] _ (foC W3 hhd (rmo room rfl) hB2 f3 t3' (by lia) (aH (eX.2.2▸hX.ll) (by decide)) (by lia) b3 (by rw [et];exact bI hw (by lia)) (by rw [jt];exact lJ) fun s4 τ4 v x0 l y' z t3 t4 x4 lv lx0 ll ly' lz f4 F4=> ?_)
  rw [jt] at f4 F4
  have wl:=wd_law (G:=G) (R:=R') (y:=y) (J:=textP (R'++[y])) (x:=xs) (eX.2.2▸hX.ll) (cX _) lx (by lia)
  have y4:=y3.trans (.of1 x4 hB)
  have W4:=W3.nxt x4 hMB
  have T4:=T3.nxtH x4 hb1
  have F4':=F.nxt y4 (al _)
  obtain ⟨ml4,hl4⟩:=F4'.hl
  have eS:fp (slD D G.bg G.bh)=R'++[y]:=by rw [fp_slD,eD,eR]
  have lS:(slD D G.bg G.bh).length=(R'++[y]).length:=by rw [←eS,bQ]
  refine aN [bFO w 5] _ (foD (a9:= .int (U xs.length) t3) (a10:= .int (wdP G (textP (R'++[y])) xs) t4) W4 hhd (rmo room rfl) (rm hu (al (A.units+3)) rfl) hB2 T4 f4 hl4 F4'.hp okW (by lia) h0 (by lia) F4 (eX.1▸hX.lH) (eX.2.1▸hX.mka) (by rw [eS];exact wl.1) (fun j hj=>by have:=wl.2 j (lS▸hj);rw [show fp ((slD D G.bg G.bh).take (j+1))=(R'++[y]).take (j+1) by rw [←eS];unfold fp;rw [List.map_take]];exact this) fun s5 τ5 f p ls D5 x5 T5 f5 F5 e5=> ?_)
  rw [eS] at e5
  have fpt:=fold_part (G:=G) hX h0 hb
  rw [eR] at fpt hne
  have e51:=congrArg Prod.fst e5
  have e52:=congrArg Prod.snd e5
  have e51:ls.map (·.1)=(foldP (R'++[y]) G.H G.mks).1:=e51
  have e52:fp D5=(foldP (R'++[y]) G.H G.mks).2:=e52
  rw [←e51,←e52] at fpt
  rw [←e52] at hne
  have n5:∀a∈[B,y'+322,z+322,l+322,140,147],a=140∨a=147∨s.heap.objs.size≤a:=fun a ha=>by
    rcases List.mem_cons.mp ha with h|ha
    · exact .inr (.inr (h▸hB))
    rcases List.mem_cons.mp ha with h|ha
    · exact .inr (.inr (h▸ad y3.size ly'))
    rcases List.mem_cons.mp ha with h|ha
    · exact .inr (.inr (h▸ad y3.size lz))
    rcases List.mem_cons.mp ha with h|ha
    · exact .inr (.inr (h▸ad y3.size ll))
    rcases List.mem_cons.mp ha with h|ha
    · exact .inl h
    · exact .inr (.inl (List.mem_singleton.mp ha))
  have hM5:High [B,y'+322,z+322,l+322,140,147]:=High.cons (.inl hB2) high5
  have y5:=y4.trans (.of x5 n5)
  have W5:=W4.nxt x5 hM5
  refine aN [bFO w 6] _ (foE W5 hhd (rmo room rfl) (rm hu (al (A.units+3)) rfl) hB2 T5 f5 F5 fpt.1 (fun e=>hne (by rw [e];rfl)) (by rw [←bQ];exact fpt.2.1) fpt.2.2.1 (by have:=fpt.2.2.2;rw [ak] at this;exact this) fun s6 τ6 a6 rw6 Lr m6 x6 T6 lrw f6 r6 er=> ?_)
  have y6:=y5.trans (.of x6 n5)
  have W6:=W5.nxt x6 hM5
  have F6:=F.nxt y6 (al _)
  obtain ⟨rx,mr,hr6,hrx⟩:=F6.hr
  have t4':s4.heap.get? (tx+322)=some (lstO (strValues (Ls++[(xs,tl)])) mt):=x4.keep t3' (notin1 (ne_cls t3' f3 (Ne.symm cFL)))
  have c4:∀{p:Nat} {o:Option Value},s3.heap.get? p=some (cellO o)→s4.heap.get? p=some (cellO o):=fun h=>x4.keep h (notin1 (ne_cls h f3 cCF))
  have np:∀{p:Nat},p<s3.heap.objs.size→322≤p→p≠B→p∉[B,y'+322,z+322,l+322,140,147]:=fun h1 h2 h3 h=>by
    rcases List.mem_cons.mp h with h|h
    · exact h3 h
    · exact dz (ay (ah h1 ly')) (ay (ah h1 lz)) (ay (ah h1 ll)) h2 h
  have k6:∀{p:Nat} {o:Obj},s4.heap.get? p=some o→p<s3.heap.objs.size→322≤p→p≠B→s6.heap.get? p=some o:=fun e h1 h2 h3=>x6.keep (x5.keep e (np h1 h2 h3)) (np h1 h2 h3)
  have t6:=k6 t4' (an t3') (ab _ _) (ne_cls t3' f3 (Ne.symm cFL))
  have a6':=k6 (c4 a3) (an a3) (ab _ _) (ne_cls a3 f3 cCF)
  have b6:=k6 (c4 b3) (an b3) (ab _ _) (ne_cls b3 f3 cCF)
  have M:∀s7,Nxt [] s6 s7→FoM w s G X B c0 c1 tx rw6 a6 τ6 σ2 (Ls++[(xs,tl)]) Lr s7:=fun s7 x7=>⟨y6.trans (.of0 x7),W6.nxt x7 ac,T6.nxt0 x7,hB,x7.keep0 f6,x7.keep0 a6',⟨_,x7.keep0 t6⟩,⟨_,x7.keep0 r6⟩,by rw [et,eR],by rw [er,e51,e52,eR]⟩
  have eh:hitsK X.rf G=cO X G.bg G.bh:=by unfold hitsK cO;rw [eX.2.1]
  refine aN [bFO w 7] _ (foT (rf:=X.rf) W6 hhd (rmo room rfl) (rm hu (al (A.units+3)) rfl) hB2 f6 a6' b6 (by lia) (eX.2.1▸hX.ml) (fun j hj=>hrx j (by lia)) h0 hr6 (fun h s7 x7=> ?_) fun h s7 x7=> ?_)
  · refine wpAny_mono (k1 (eh▸h) _ B c0 c1 tx rw6 a6 τ6 σ2 _ Lr s7 hhd (al (A.depth+1)) (show A.units+3≤A.units+10 by lia) (M s7 x7)) (fun f s8 z=> ?_) fun _ _ e=>e
    obtain ⟨v,rfl,z⟩:=z
    exact z
  · exact k0 (fun e=>h (eh▸e)) _ B c0 c1 tx rw6 a6 τ6 σ2 _ Lr s7 hhd (al (A.depth+1)) (show A.units+3≤A.units+10 by lia) (M s7 x7)
theorem fold_leaf{w:ag}{s:aa}{A:ai}{R:Result→aa→Prop}{G:FoG}{X:FoC}{D:List PD}{t1 t2:Tok}(W:KTH w s.heap)(hh:A.handled=none)(room:A.depth+220<recursionLimit)(hu:A.units+1000<cLine)(T:Tabs s.heap)(F:FoH w G X D s.heap)(hX:WrC X)(eD:fp D=X.L)(eX:X.H=G.H∧X.mks=G.mks∧X.la=G.la)(ba:Bd4 X.ma)(bb:Bd4 X.mb)(h0:G.bg<G.bh)(hb:G.bh≤X.L.length)(hk:cO X G.bg G.bh=[])(hf:findP (slL X.L G.bg G.bh) X.mks.cps.toList=none)(bP:∀j,Bd4 (prodP X.ma X.mb (1,0,0,1) ((slL X.L G.bg G.bh).take j)))
    (k:∀s' r t,Nxt [140,147] s s'→Tabs s'.heap→s'.heap.get? (r+322)=some (m4O (prodP X.ma X.mb (1,0,0,1) (slL X.L G.bg G.bh)) t)→R (.ok (.ret (.ref (r+322)))) s'):
    codeAny (model pw w) A (.call (.ref 316) ⟨[.ref (G.li+322),.ref (G.rk+322),.int (U G.bg) t1,.int (U G.bh) t2,.ref (G.dr+322)],[]⟩) R s:=by
  have lR:=cn (au h0) hb
  have hne:slL X.L G.bg G.bh≠[]:=fun e=>by rw [e] at lR;have:0=G.bh - G.bg:=lR;lia
  refine fold_head W hh room hu T F hX eD eX h0 hb ?_ (fun _ A' B c0 c1 tx rw a τ σ Lt Lr s1 hA dA uA M=> ?_) fun h=>absurd hk h
  · unfold foldP
    rw [show findP (slL X.L G.bg G.bh) G.mks.cps.toList=none from eX.2.1▸hf]
    by_cases hH:G.H=0
    · simp only [if_pos hH];exact hne
    · simp only [if_neg hH];exact List.cons_ne_nil _ _
  · obtain ⟨m,ht⟩:=M.ht
    obtain ⟨m2,hr⟩:=M.hr
    have hB2:322≤B:=ad W.2 M.b
    refine leaf_spec M.k hA (rm room dA rfl) (rm hu uA rfl) hB2 F hX eD ⟨eX.1,eX.2.1⟩ W.2 M.nx M.b M.f ht hr M.et M.er h0 hb hf bP ba bb fun s2 r t x2 r2=>⟨_,rfl,?_⟩
    exact k s2 r t (M.nx.trans (.of1 x2 M.b)).fin (M.t.nxtH x2 (fun c hc=>by rw [List.mem_singleton.mp hc];exact hB2)) r2
theorem fold_node{w:ag}{s:aa}{A:ai}{R:Result→aa→Prop}{G:FoG}{X:FoC}{D:List PD}{t1 t2:Tok}{i:Nat}{m n:M4}(W:KTH w s.heap)(hh:A.handled=none)(room:A.depth+220<recursionLimit)(hu:A.units+1000<cLine)(T:Tabs s.heap)(F:FoH w G X D s.heap)(hX:WrC X)(eD:fp D=X.L)(eX:X.H=G.H∧X.mks=G.mks∧X.la=G.la)(eU:X.due=G.due)(i0:0<i)(h1:G.bg+i<G.bh)(hb:G.bh≤X.L.length)(hk:cO X G.bg G.bh≠[])(hf:findP (slL X.L G.bg G.bh) X.mks.cps.toList=some i)
    (hdet:Nat.gcd (numA (slL X.L G.bg G.bh)) (numB (slL X.L G.bg G.bh))=1→U (numA (slL X.L G.bg (G.bg+i))) * U (numB (slL X.L (G.bg+i) G.bh)) - U (numB (slL X.L G.bg (G.bg+i))) * U (numA (slL X.L (G.bg+i) G.bh))=1)
    (hmul:Nat.gcd (numA (slL X.L G.bg G.bh)) (numB (slL X.L G.bg G.bh))≠1→Nat.gcd (numA (slL X.L G.bg G.bh)) (numB (slL X.L G.bg G.bh)) * numA (slL X.L (G.bg+i) G.bh)=numA (slL X.L G.bg G.bh)∧Nat.gcd (numA (slL X.L G.bg G.bh)) (numB (slL X.L G.bg G.bh)) * numB (slL X.L (G.bg+i) G.bh)=numB (slL X.L G.bg G.bh))
    (bm:Bd4 m) (bn:Bd4 n) (bx:Bd (2^20) (m.1+m.2.2.2)) (bY:Bd (2^20) (n.1+n.2.2.2)) (bxy:Bd (2^20) ((m.1+m.2.2.2) * (n.1+n.2.2.2))) (bZ:Bd (2^20) ((mulM m n).1+(mulM m n).2.2.2))
    (hn:dn (m.1+m.2.2.2) (n.1+n.2.2.2) ((mulM m n).1+(mulM m n).2.2.2)=if Nat.gcd (numA (slL X.L G.bg G.bh)) (numB (slL X.L G.bg G.bh))=1 then X.due else 4)
    (r1:∀s1 A' R' t t',A'.handled=none→A'.depth≤A.depth+1→A'.units≤A.units+70→KTH w s1.heap→Tabs s1.heap→FoH w G X D s1.heap→(∀s2 f u,Nxt [140,147] s1 s2→Tabs s2.heap→s2.heap.get? (f+322)=some (m4O m u)→R' (.ok (.ret (.ref (f+322)))) s2)→codeAny (model pw w) A' (.call (.ref 316) ⟨[.ref (G.li+322),.ref (G.rk+322),.int (U G.bg) t,.int (U (G.bg+i)) t',.ref (G.dr+322)],[]⟩) R' s1)
    (r2:∀s1 A' R' t t',A'.handled=none→A'.depth≤A.depth+1→A'.units≤A.units+70→KTH w s1.heap→Tabs s1.heap→FoH w G X D s1.heap→(∀s2 f u,Nxt [140,147] s1 s2→Tabs s2.heap→s2.heap.get? (f+322)=some (m4O n u)→R' (.ok (.ret (.ref (f+322)))) s2)→codeAny (model pw w) A' (.call (.ref 316) ⟨[.ref (G.li+322),.ref (G.rk+322),.int (U (G.bg+i)) t,.int (U G.bh) t',.ref (G.dr+322)],[]⟩) R' s1)
    (k:∀s' r t,Nxt [140,147] s s'→Tabs s'.heap→s'.heap.get? (r+322)=some (m4O (mulM m n) t)→R (.ok (.ret (.ref (r+322)))) s'):
    codeAny (model pw w) A (.call (.ref 316) ⟨[.ref (G.li+322),.ref (G.rk+322),.int (U G.bg) t1,.int (U G.bh) t2,.ref (G.dr+322)],[]⟩) R s:=by
  have h0:G.bg<G.bh:=by lia
  have lR:=cn (au h0) hb
  have l8:=hX.l8
  have eF:foldP (slL X.L G.bg G.bh) G.H G.mks=([textP (slL X.L G.bg (G.bg+i))],slL X.L (G.bg+i) G.bh):=by
    unfold foldP
    rw [show findP (slL X.L G.bg G.bh) G.mks.cps.toList=some i from eX.2.1▸hf]
    show ([textP ((slL X.L G.bg G.bh).take i)],(slL X.L G.bg G.bh).drop i)=_
    rw [slL_take (au h1),slL_drop (au h1)]
  have l1:(slL X.L G.bg (G.bg+i)).length=i:=by rw [cn (aw _ _) (by lia)];lia
  have l2:(slL X.L (G.bg+i) G.bh).length=G.bh - (G.bg+i):=cn (au h1) hb
  refine fold_head W hh room hu T F hX eD eX h0 hb ?_ (fun h=>absurd h hk) fun _ A' B c0 c1 tx rw a τ σ Lt Lr s1 hA dA uA M=> ?_
  · rw [eF]
    exact fun e=>by rw [show slL X.L (G.bg+i) G.bh=[] from e] at l2;have:0=G.bh - (G.bg+i):=l2;lia
  have hB2:322≤B:=ad W.2 M.b
  have hMB:High [B]:=High.one hB2
  have hw:∀a b,∀x∈slL X.L a b,Wr1 x.1 x.2:=fun a b x hx=>hX.w1 x (cZ hx)
  have er:=M.er
  rw [eF] at er
  obtain ⟨r0,u0,r1',u1,rfl⟩:∃r0 u0 r1 u1,Lr=[(r0,u0),(r1,u1)]:=by
    match Lr,er with
    |[(a,b),(c,d)],_=>exact ⟨a,b,c,d,rfl⟩
  obtain ⟨e0,e1⟩:r0=textP (slL X.L G.bg (G.bg+i))∧r1'=textP (slL X.L (G.bg+i) G.bh):=⟨(List.cons.inj er).1,(List.cons.inj (List.cons.inj er).2).1⟩
  have lD:D.length=X.L.length:=by rw [←eD,bQ]
  have eS:fp (slD D G.bg G.bh)=slL X.L G.bg G.bh:=by rw [fp_slD,eD]
  have sp:slL X.L G.bg G.bh=slL X.L G.bg (G.bg+i)++slL X.L (G.bg+i) G.bh:=by rw [←slL_take (au h1),←slL_drop (au h1),List.take_append_drop]
  have c0':=cnt_row (R:=slL X.L G.bg (G.bg+i)) fun x hx=>hX.nab x (cZ hx)
  have c1':=cnt_row (R:=slL X.L (G.bg+i) G.bh) fun x hx=>hX.nab x (cZ hx)
  have nAB:=numAB (slL X.L G.bg G.bh)
  have nAB0:=numAB (slL X.L G.bg (G.bg+i))
  have F1:=F.nxt M.nx (al _)
  obtain ⟨ml,hl1⟩:=F1.hl
  obtain ⟨mr,hr1⟩:=M.hr
  obtain ⟨mt,ht1⟩:=M.ht
  have eRS:restF w=[bFO w 8]++([bFO w 9]++([bFO w 10,bFO w 11]++([bFO w 12]++([bFO w 13,bFO w 14]++([bFO w 15,bFO w 16]++([bFO w 17,bFO w 18]++([bFO w 19]++[bFO w 20,bFO w 21]))))))):=rfl
  rw [eRS]
  have nB:∀{p:Nat} {o:Obj},s1.heap.get? (p+322)=some o→o.cls≠.type "frame"→p+322∉[B]:=fun h n=>notin1 (ne_cls h M.f n)
  have ntx:=nB ht1 (Ne.symm cFL)
  have nrw:=nB hr1 (Ne.symm cFL)
  have nc0:=nB M.c cCF
  refine aN [bFO w 8] _ (foH M.k hA (rm room dA rfl) hB2 M.f hl1 F1.hp (fun e he=>hX.lt (e.f,e.p) (eD▸List.mem_map.mpr ⟨e,he,rfl⟩)) (by lia) h0 (by lia) fun s2 τ2 tm x2 f2=> ?_)
  rw [eS] at f2
  have W2:=M.k.nxt x2 hMB
  have eM:((slL X.L G.bg G.bh).filter fun x=> !(zP x.2)).length=numA (slL X.L G.bg G.bh):=rfl
  rw [eM] at f2
  refine aN [bFO w 9] _ (foI W2 hA (rm room dA rfl) hB2 f2 (by lia) (by lia) fun s3 τ3 tf x3 f3=> ?_)
  have eG:G.bh - G.bg - numA (slL X.L G.bg G.bh)=numB (slL X.L G.bg G.bh):=by lia
  rw [eG] at f3
  have W3:=W2.nxt x3 hMB
  have x13:=x2.trans x3
  have all0:∀K:List (Str×Str),(∀x∈K,Wr1 x.1 x.2)→(textP K).cps.all (· <128)=true:=fun K h=>by
    rw [←Array.all_toList,List.all_eq_true]
    exact fun c hc=>decide_eq_true (aC (dw h c hc) (by decide))
  refine aN [bFO w 10,bFO w 11] _ (foJ W3 hA (rm room dA rfl) hB2 f3 (x13.keep hr1 nrw) (e0▸all0 _ (hw _ _)) (e1▸all0 _ (hw _ _)) fun s4 τ4 ta tb tc td x4 f4=> ?_)
  rw [e0,e1,c0'.1,c0'.2,c1'.1,c1'.2] at f4
  have W4:=W3.nxt x4 hMB
  have x14:=x13.trans x4
  have sumI:numA (slL X.L G.bg (G.bg+i))+numB (slL X.L G.bg (G.bg+i))=i:=by rw [nAB0,l1]
  have lLt:Lt.length=G.bh - G.bg:=by have:=congrArg List.length M.et;unfold bf at this;rw [ak,ak,lR] at this;exact this
  have eT:(Lt.take i).map (·.1)=bf (slL X.L G.bg (G.bg+i)):=by rw [List.map_take,M.et,←slL_take (au h1)];unfold bf;rw [List.map_take]
  have eDr:(Lt.drop i).map (·.1)=bf (slL X.L (G.bg+i) G.bh):=by rw [List.map_drop,M.et,←slL_drop (au h1)];unfold bf;rw [List.map_drop]
  refine aN [bFO w 12] _ (foL W4 hA (rm room dA rfl) (by lia) f4 (x14.keep ht1 ntx) (x14.keep hr1 nrw) (by lia) (by rw [sumI];lia) (by rw [sumI,eT];exact bI (hw _ _) (by lia)) (by rw [sumI,eDr];exact bI (hw _ _) (by lia)) (by rw [sumI,eT,eDr,ce,ce,←e0,←e1];rfl) fun s5 x5=> ?_)
  have f5:=x5.keep0 f4
  have W5:=W4.nxt x5 ac
  have next:∀s6,Nxt [] s5 s6→wpAny (model pw w) A' (execs ([bFO w 15,bFO w 16]++([bFO w 17,bFO w 18]++([bFO w 19]++[bFO w 20,bFO w 21]))) (enF w B c0 c1)) (endF R) noE s6:=by
    intro s6 x6
    have x16:Nxt [B] s1 s6:=x14.trans (x5.nil.trans x6.nil)
    have f6:=x6.keep0 f5
    have W6:=W5.nxt x6 ac
    have c6:=x16.keep M.c nc0
    have hb1:∀c∈[B],322≤c:=fun c hc=>by rw [List.mem_singleton.mp hc];exact hB2
    have T6:Tabs s6.heap:=M.t.nxtH x16 hb1
    have y6:NxN s.heap.objs.size s s6:=M.nx.trans (.of1 x16 M.b)
    have hT:High [140,147]:=High.cons (.inr (.inl rfl)) (High.one' (.inr rfl))
    have n7:∀{p:Nat},p+322∉[140,147]:=fun {p}=>notin2 (aJ (ah (by decide) (ab 322 p))) (aJ (ah (by decide) (ab 322 p)))
    have eI:G.bg+numA (slL X.L G.bg (G.bg+i))+numB (slL X.L G.bg (G.bg+i))=G.bg+i:=by rw [Nat.add_assoc,sumI]
    refine aN [bFO w 15,bFO w 16] _ (foN1 (I:=fun j f s'=>Tabs s'.heap∧∃u,s'.heap.get? (f+322)=some (m4O (if j=0 then m else n) u)) W6 hA (rm room dA rfl) hB2 f6 c6 (fun s7 A2 R2 t hA2 dA2 uA2 x7 k2=> ?_) (fun s7 f s8 A2 R2 t hA2 dA2 uA2 x7 i7 x8 k2=> ?_) fun s7 f s8 s9 g s10 τ10 x7 i7 x8 x9 i9 ⟨o9,b9,k9⟩ x10 f10=> ?_)
    · rw [eI]
      exact r1 s7 A2 R2 _ t hA2 (ad dA2 dA) (ad uA2 (Nat.add_le_add_right uA 60)) (W6.nxt x7 ac) (T6.nxt0 x7) (F.nxt (y6.trans (.of0 x7)) (al _)) fun s8 f u x8 T8 g8=>k2 s8 f x8 ⟨T8,u,g8⟩
    · rw [eI]
      exact r2 s8 A2 R2 t _ hA2 (ad dA2 dA) (ad uA2 (Nat.add_le_add_right uA 60)) ((W6.nxt x7 hT).nxt x8 hMB) (i7.1.nxtH x8 hb1) (F.nxt (y6.trans ((NxN.of7 x7).trans (.of1 x8 M.b))) (al _)) fun s9 g u x9 T9 g9=>k2 s9 g x9 ⟨T9,u,g9⟩
    · obtain ⟨T7,u7,m7⟩:=i7
      obtain ⟨T9,u9,m9⟩:=i9
      have m7:s7.heap.get? (f+322)=some (m4O m u7):=m7
      have m9:s9.heap.get? (g+322)=some (m4O n u9):=m9
      have f7:=x7.keep f6 (notin2 (aJ (ah (by decide) hB2)) (aJ (ah (by decide) hB2)))
      have m8:=x8.keep m7 (notin1 (ne_cls m7 f7 (Ne.symm cFT)))
      have m9':=x9.keep m8 n7
      have y10:NxN s.heap.objs.size s s10:=y6.trans ((NxN.of7 x7).trans ((NxN.of1 x8 M.b).trans ((NxN.of7 x9).trans (.of1 x10 M.b))))
      have W10:=y10.kth W W.2
      have T10:=T9.nxtH x10 hb1
      have m10:=x10.keep m9' (notin1 (ne_cls m9' b9 (by rw [k9];exact Ne.symm cFT)))
      have g10:=x10.keep m9 (notin1 (ne_cls m9 b9 (by rw [k9];exact Ne.symm cFT)))
      let v:Nat→Value:=vk [.none,.none,.none,.none,.none,.none,.none,.none,.none,.none,.none,.none,.none,.none,.none,.int (U (numA (slL X.L G.bg G.bh))) tm,.none,.int (U (numB (slL X.L G.bg (G.bg+i)))) tb,.int (U (numA (slL X.L G.bg (G.bg+i)))) ta,.int (U (numB (slL X.L (G.bg+i) G.bh))) td,.int (U (numA (slL X.L (G.bg+i) G.bh))) tc]
      refine aN [bFO w 17,bFO w 18] _ (foN2 (v:=v) W10 hA (rm room dA rfl) hB2 f10 m10 g10 bm bn fun s11 τ11 wh t11 x11 lw f11 w11=> ?_)
      have q11:∀{p:Nat} {mm:M4} {t:Nat→Nat},s10.heap.get? (p+322)=some (m4O mm t)→s11.heap.get? (p+322)=some (m4O mm t):=fun h=>x11.keep h (notin1 (ne_cls h f10 (Ne.symm cFT)))
      have W11:=W10.nxt x11 hMB
      refine aN [bFO w 19] _ (foN3 W11 hA (rm room dA rfl) hB2 f11 (q11 m10) (q11 g10) w11 fun s12 τ12 tx' ty tz x12 f12=> ?_)
      have w12:=x12.keep w11 (notin1 (ne_cls w11 f11 (Ne.symm cFT)))
      refine foN4 (W11.nxt x12 hMB) hA (rm room dA rfl) hB2 f12 bx bxy bY bZ (by rw [hn,eU]) fun s13 x13'=> ?_
      exact k s13 wh t11 (y10.trans ((NxN.of1 x11 M.b).trans ((NxN.of1 x12 M.b).trans (.of1 x13' M.b)))).fin (((T10.nxtH x11 hb1).nxtH x12 hb1).nxtH x13' hb1) (x13'.keep w12 (notin1 (ne_cls w12 f12 (Ne.symm cFT))))
  have lA:numA (slL X.L G.bg (G.bg+i))<2^20:=by lia
  have lB:numB (slL X.L G.bg (G.bg+i))<2^20:=by lia
  by_cases hg:Nat.gcd (numA (slL X.L G.bg G.bh)) (numB (slL X.L G.bg G.bh))=1
  · exact aN [bFO w 13,bFO w 14] _ (foM1 W5 hA (rm room dA rfl) f5 hg lA lB (hdet hg) next)
  · have hm:=hmul hg
    have g1:1<Nat.gcd (numA (slL X.L G.bg G.bh)) (numB (slL X.L G.bg G.bh)):=by
      have:Nat.gcd (numA (slL X.L G.bg G.bh)) (numB (slL X.L G.bg G.bh))≠0:=fun e=>by have:=Nat.gcd_eq_zero_iff.mp e;lia
      lia
    have gl:Nat.gcd (numA (slL X.L G.bg G.bh)) (numB (slL X.L G.bg G.bh))<2^20:=by
      have h1:Nat.gcd (numA (slL X.L G.bg G.bh)) (numB (slL X.L G.bg G.bh))≤8:=by
        rcases Nat.eq_zero_or_pos (numA (slL X.L G.bg G.bh)) with h|h
        · rw [h,Nat.gcd_zero_left];lia
        · exact ad (Nat.gcd_le_left _ h) (by lia)
      lia
    exact aN [bFO w 13,bFO w 14] _ (foM2 W5 hA (rm room dA rfl) (by lia) f5 g1 gl (congrArg U hm.1) (by rw [show (U G.bh - U G.bg) - U (numA (slL X.L G.bg G.bh))=U (numB (slL X.L G.bg G.bh)) by simp only [Int.ofNat_eq_natCast];lia];exact congrArg U hm.2) next)
theorem fold_spec{w:ag}{X:FoC}{D:List PD}(hX:WrC X)(eD:fp D=X.L)(ba:Bd4 X.ma)(bb:Bd4 X.mb){bg bh:Nat}{m:M4}(tr:Tree X bg bh m):∀{s:aa} {A:ai} {R:Result→aa→Prop} {G:FoG} {t1 t2:Tok},G.bg=bg→G.bh=bh→(X.H=G.H∧X.mks=G.mks∧X.la=G.la)→X.due=G.due→KTH w s.heap→A.handled=none→A.depth+220+(bh - bg)<recursionLimit→A.units+1000+70 * (bh - bg)<cLine→Tabs s.heap→FoH w G X D s.heap→
    (∀s' r t,Nxt [140,147] s s'→Tabs s'.heap→s'.heap.get? (r+322)=some (m4O m t)→R (.ok (.ret (.ref (r+322)))) s')→
    codeAny (model pw w) A (.call (.ref 316) ⟨[.ref (G.li+322),.ref (G.rk+322),.int (U bg) t1,.int (U bh) t2,.ref (G.dr+322)],[]⟩) R s:=by
  induction tr with
  |leaf bg bh h0 hb hk hf bP=>
    intro s A R G t1 t2 e1 e2 eX eU W hh room hu T F k
    subst e1 e2
    exact fold_leaf W hh (by lia) (by lia) T F hX eD eX ba bb h0 hb hk hf bP k
  |node bg bh i m n h0 h1 hb hk hf hdet hmul tr1 tr2 bm bn bx bY bxy bZ hn ih1 ih2=>
    intro s A R G t1 t2 e1 e2 eX eU W hh room hu T F k
    subst e1 e2
    refine fold_node W hh (by lia) (by lia) T F hX eD eX eU h0 h1 hb hk hf hdet hmul bm bn bx bY bxy bZ hn (fun s1 A' R' t t' hA dA uA W1 T1 F1 k1=> ?_) (fun s1 A' R' t t' hA dA uA W1 T1 F1 k1=> ?_) k
    · exact ih1 (G:={G with bh:=G.bg+i}) rfl rfl eX eU W1 hA (by lia) (by lia) T1 ⟨F1.hl,F1.hp,F1.hr,F1.hd,F1.hq⟩ k1
    · exact ih2 (G:={G with bg:=G.bg+i}) rfl rfl eX eU W1 hA (by lia) (by lia) T1 ⟨F1.hl,F1.hp,F1.hr,F1.hd,F1.hq⟩ k1
noncomputable def fB:M4:=(1,0,0,1)
noncomputable def trM(m:M4):Int:=m.1+m.2.2.2
noncomputable def detM(m:M4):Int:=m.1 * m.2.2.2 - m.2.1 * m.2.2.1
theorem mulM_assoc(m n o:M4):mulM (mulM m n) o=mulM m (mulM n o):=by
  obtain ⟨a,b,c,d⟩:=m;obtain ⟨e,f,g,h⟩:=n;obtain ⟨i,j,k,l⟩:=o
  simp only [mulM,Prod.mk.injEq]
  refine ⟨?_,?_,?_,?_⟩<;>grind
theorem mulM_one(m:M4):mulM m fB=m:=by
  obtain ⟨a,b,c,d⟩:=m
  simp [mulM,fB]
theorem dS(m:M4):mulM fB m=m:=by
  obtain ⟨a,b,c,d⟩:=m
  simp [mulM,fB]
theorem det_mul{m n:M4}(h1:detM m=1)(h2:detM n=1):detM (mulM m n)=1:=by
  obtain ⟨a,b,c,d⟩:=m;obtain ⟨e,f,g,h⟩:=n
  simp only [mulM,detM] at *
  grind
noncomputable def cu(m n:M4):Int:=dn (trM m) (trM n) (trM (mulM m n))
theorem fri_l{m n:M4}(h:detM m=1):cu m (mulM m n)=cu m n:=by
  have e:trM (mulM m (mulM m n))=trM m * trM (mulM m n) - trM n:=by
    obtain ⟨a,b,c,d⟩:=m;obtain ⟨e,f,g,h⟩:=n
    simp only [mulM,detM,trM] at *
    grind
  unfold cu
  rw [e]
  generalize trM m=x;generalize trM n=y;generalize trM (mulM m n)=z
  unfold dn
  grind
theorem fri_r{m n:M4}(h:detM n=1):cu (mulM m n) n=cu m n:=by
  have e:trM (mulM (mulM m n) n)=trM n * trM (mulM m n) - trM m:=by
    obtain ⟨a,b,c,d⟩:=m;obtain ⟨e,f,g,h⟩:=n
    simp only [mulM,detM,trM] at *
    grind
  unfold cu
  rw [e]
  generalize trM m=x;generalize trM n=y;generalize trM (mulM m n)=z
  unfold dn
  grind
theorem fri_one(n:M4):cu fB n=4:=by
  unfold cu
  rw [dS]
  generalize trM n=y
  unfold dn trM fB
  grind
noncomputable def wM(ma mb:M4):List Bool→M4
  |[]=>fB
  |z::l=>mulM (cond z mb ma) (wM ma mb l)
theorem wM_app(ma mb:M4):∀l k:List Bool,wM ma mb (l++k)=mulM (wM ma mb l) (wM ma mb k)
  |[],k=>(dS _).symm
  |z::l,k=>by
    show mulM _ (wM ma mb (l++k))=mulM (mulM _ _) _
    rw [wM_app ma mb l k,mulM_assoc]
noncomputable def zsR(R:List (Str×Str)):List Bool:=R.map fun x=>zP x.2
theorem prodP_wM(ma mb:M4):∀(R:List (Str×Str)) (m:M4),prodP ma mb m R=mulM m (wM ma mb (zsR R))
  |[],m=>(mulM_one m).symm
  |x::R,m=>by
    show prodP ma mb (mulM m _) R=mulM m (mulM _ _)
    rw [prodP_wM ma mb R,mulM_assoc];rfl
theorem det_wM{ma mb:M4}(ha:detM ma=1)(hb:detM mb=1):∀l,detM (wM ma mb l)=1
  |[]=>rfl
  |z::l=>det_mul (by cases z;exact ha;exact hb) (det_wM ha hb l)
noncomputable def bas(b4:Bool):Nat→List Bool→List Bool→Bool
  |0,_,_=>false
  |f+1,x,y=>(cond b4 (x==[]) (x==[false]&&y==[true]))||(x++y.drop x.length==y&&bas b4 f x (y.drop x.length))||(x.take (x.length - y.length)++y==x&&bas b4 f (x.take (x.length - y.length)) y)
theorem fG{ma mb:M4}(ha:detM ma=1)(hb:detM mb=1)(b4:Bool):∀f x y,bas b4 f x y=true→cu (wM ma mb x) (wM ma mb y)=cond b4 4 (cu ma mb)
  |0,_,_,h=>by cases h
  |f+1,x,y,h=>by
    unfold bas at h
    rcases Bool.or_eq_true_iff.mp h with h|h
    · rcases Bool.or_eq_true_iff.mp h with h|h
      · cases b4 with
        |true=>
          have e:x=[]:=eq_of_beq h
          subst e
          exact fri_one _
        |false=>
          obtain ⟨h1,h2⟩:=Bool.and_eq_true_iff.mp h
          have e1:x=[false]:=eq_of_beq h1
          have e2:y=[true]:=eq_of_beq h2
          subst e1 e2
          show cu (mulM ma fB) (mulM mb fB)=_
          rw [mulM_one,mulM_one]
          rfl
      · obtain ⟨h1,h2⟩:=Bool.and_eq_true_iff.mp h
        have e:=eq_of_beq h1
        rw [←fG ha hb b4 f _ _ h2,←e,wM_app,fri_l (det_wM ha hb _),e]
    · obtain ⟨h1,h2⟩:=Bool.and_eq_true_iff.mp h
      have e:=eq_of_beq h1
      rw [←fG ha hb b4 f _ _ h2]
      conv=>lhs;rw [←e]
      rw [wM_app,fri_r (det_wM ha hb _)]
noncomputable def Nb(k:Nat)(m:M4):Prop:=m.1.natAbs<2^k∧m.2.1.natAbs<2^k∧m.2.2.1.natAbs<2^k∧m.2.2.2.natAbs<2^k
theorem nb_two{k l:Nat}{a b c d:Int}(h1:a.natAbs<2^k)(h2:b.natAbs<2^l)(h3:c.natAbs<2^k)(h4:d.natAbs<2^l):(a * b+c * d).natAbs<2^(k+l+1):=by
  refine aH (Int.natAbs_add_le _ _) ?_
  rw [Int.natAbs_mul,Int.natAbs_mul,Nat.pow_succ,Nat.pow_add]
  have e1:=Nat.mul_lt_mul'' h1 h2
  have e2:=Nat.mul_lt_mul'' h3 h4
  lia
theorem Nb.mul{k l:Nat}{m n:M4}(a:Nb k m)(b:Nb l n):Nb (k+l+1) (mulM m n):=by
  obtain ⟨a1,a2,a3,a4⟩:=a;obtain ⟨b1,b2,b3,b4⟩:=b
  exact ⟨nb_two a1 b1 a2 b3,nb_two a1 b2 a2 b4,nb_two a3 b1 a4 b3,nb_two a3 b2 a4 b4⟩
theorem nb_wM{ma mb:M4}(ha:Nb 60 ma)(hb:Nb 60 mb):∀l:List Bool,Nb (61 * l.length+1) (wM ma mb l)
  |[]=>show Nb 1 fB from ⟨by decide,by decide,by decide,by decide⟩
  |z::l=>by
    have h:=Nb.mul (m:=cond z mb ma) (by cases z;exact ha;exact hb) (nb_wM ha hb l)
    have e:60+(61 * l.length+1)+1=61 * (z::l).length+1:=by rw [List.length_cons];lia
    rw [e] at h
    exact h
theorem cj{x:Int}(h:x.natAbs<2^1000):Bd (2^20) x:=by
  unfold Bd PySem.Builtin.Int.intBits
  split
  · exact Nat.zero_le _
  · rename_i h0
    have:=(Nat.log2_lt (by intro e;exact h0 (by simpa using e))).mpr h
    lia
theorem Nb.weak{k:Nat}{m:M4}(a:Nb k m)(h:k≤600):Nb 600 m:=by
  have l:∀{x:Nat},x<2^k→x<2^600:=fun h1=>ah h1 (Nat.pow_le_pow_right (by decide) h)
  exact ⟨l a.1,l a.2.1,l a.2.2.1,l a.2.2.2⟩
theorem Nb.bd4{m:M4}(a:Nb 600 m):Bd4 m:=by
  have l:∀{x:Nat},x<2^600→x<2^1000:=fun h1=>ah h1 (Nat.pow_le_pow_right (by decide) (by decide))
  intro x hx
  simp only [List.mem_cons,List.not_mem_nil,or_false] at hx
  rcases hx with rfl|rfl|rfl|rfl
  · exact cj (l a.1)
  · exact cj (l a.2.1)
  · exact cj (l a.2.2.1)
  · exact cj (l a.2.2.2)
theorem nb_tr{k:Nat}{m:M4}(a:Nb k m):(trM m).natAbs<2^(k+1):=by
  have:=Int.natAbs_add_le m.1 m.2.2.2
  have h1:=a.1
  have h2:=a.2.2.2
  rw [Nat.pow_succ]
  unfold trM
  lia
noncomputable def whS(e:Bool):Str:=cond e (S "\t ") (S " \t")
noncomputable def otS(e o:Bool):Str:=cond o (whS (!e)) (S "")
noncomputable def mkC(sp:Nat)(e:Bool)(k:Nat):Nat:=if k=sp then cond e 9 32 else 48+k
noncomputable def mkS(sp:Nat)(e:Bool)(left:Nat):Str:=⟨((List.range left).map (mkC sp e)).toArray⟩
theorem mkS_cps(sp:Nat)(e:Bool)(left:Nat):(mkS sp e left).cps.toList=(List.range left).map (mkC sp e):=rfl
theorem zP_li(rk:Nat→Nat)(p sp:Nat)(wh ot:Str)(j:Nat):zP (liP rk p sp wh ot j).2=decide (rk (j+1)<rk j+p):=by
  unfold liP zP
  generalize decide (rk (j+1)<rk j+p)=d
  cases d<;>rfl
theorem line_get{rk:Nat→Nat}{p sp:Nat}{wh ot:Str}{q j:Nat}(h:j<q):(lineP rk p sp wh ot q)[j]? =some (liP rk p sp wh ot j):=by
  unfold lineP
  rw [aI,List.getElem?_range h];rfl
theorem dZ(rk:Nat→Nat)(p sp:Nat)(wh ot:Str)(q:Nat):(lineP rk p sp wh ot q).length=q:=by
  unfold lineP
  rw [ak,List.length_range]
theorem slL_get{L:List (Str×Str)}{a b i:Nat}(h:a+i<b):(slL L a b)[i]? =L[a+i]? :=by
  unfold slL
  rw [List.getElem?_take_of_lt (by lia),List.getElem?_drop]
noncomputable def zsQ(rk:Nat→Nat)(p q:Nat):List Bool:=(List.range q).map fun j=>decide (rk (j+1)<rk j+p)
noncomputable def wd(zs:List Bool)(a b:Nat):List Bool:=(zs.drop a).take (b - a)
theorem zsR_line(rk:Nat→Nat)(p sp:Nat)(wh ot:Str)(q a b:Nat):zsR (slL (lineP rk p sp wh ot q) a b)=wd (zsQ rk p q) a b:=by
  unfold zsR slL wd
  rw [List.map_take,List.map_drop]
  unfold lineP zsQ
  rw [List.map_map]
  congr 2
  exact congrArg (fun f=>(List.range q).map f) (funext fun j=>zP_li rk p sp wh ot j)
noncomputable def nF(w:List Bool):Nat:=(w.filter fun z=> !z).length
noncomputable def nT(w:List Bool):Nat:=(w.filter fun z=>z).length
theorem numA_zs(R:List (Str×Str)):numA R=nF (zsR R):=by
  unfold numA nF zsR
  rw [List.filter_map,ak];rfl
theorem numB_zs(R:List (Str×Str)):numB R=nT (zsR R):=by
  unfold numB nT zsR
  rw [List.filter_map,ak];rfl
theorem hit_rank{rk:Nat→Nat}{p sp q bg bh i k:Nat}{e o:Bool}(hr:∀j,j≤q→rk j<7)(hb:bh≤q)(i0:0<i)(i1:bg+i<bh)(hk:k<7):hitP (slL (lineP rk p sp (whS e) (otS e o) q) bg bh) (mkC sp e k) i=decide (rk (bg+i)=k):=by
  obtain ⟨i,rfl⟩:∃j,i=j+1:=⟨i - 1,by lia⟩
  have e3:bg+i+1=bg+(i+1):=by lia
  have r7:=hr (bg+(i+1)) (by lia)
  unfold hitP
  rw [Nat.add_sub_cancel,slL_get (Nat.succ_le_of_lt ‹_›),slL_get (au ‹_›),line_get (by lia),line_get (by lia)]
  unfold liP
  rw [decide_eq_true (show 1<bg+(i+1)+1 by lia),e3]
  generalize rk (bg+(i+1))=r at r7
  show ((Unicode.isSpace (mkC sp e k)&&((cond (r==sp) (whS e) (otS e o)).cps[0]? ==some (mkC sp e k)))||(some (48+r)==some (mkC sp e k)))=decide (r=k)
  have sp7:∀n,n<7→Unicode.isSpace (48+n)=false:=by decide+kernel
  unfold mkC
  by_cases hs:k=sp
  · subst hs
    rw [if_pos rfl]
    have n3:(some (48+r)==some (cond e 9 32))=false:=by
      rw [beq_eq_false_iff_ne]
      intro h
      have h:=Option.some.inj h
      cases e<;>simp only [cond] at h<;>lia
    rw [n3,Bool.or_false]
    by_cases h:r=k
    · subst h
      rw [beq_self_eq_true,decide_eq_true rfl]
      cases e<;>cases o<;>decide+kernel
    · rw [beq_eq_false_iff_ne.mpr h,decide_eq_false h]
      cases e<;>cases o<;>decide+kernel
  · rw [if_neg hs,sp7 k hk,Bool.false_and,Bool.false_or]
    by_cases h:r=k
    · subst h;rw [beq_self_eq_true,decide_eq_true rfl]
    · rw [decide_eq_false h,beq_eq_false_iff_ne]
      intro h1
      have h1:=Option.some.inj h1
      lia
noncomputable def lastR(rk:Nat→Nat)(bg k:Nat):Nat→Option Nat
  |0=>none
  |m+1=>if decide (rk (bg+(m+1))=k)=true then some (m+1) else lastR rk bg k m
noncomputable def findR(rk:Nat→Nat)(bg n:Nat):List Nat→Option Nat
  |[]=>none
  |k::ks=>match lastR rk bg k n with|some i=>some i|none=>findR rk bg n ks
theorem fu{rk:Nat→Nat}{p sp q bg bh k:Nat}{e o:Bool}(hr:∀j,j≤q→rk j<7)(hb:bh≤q)(hk:k<7):∀m,bg+m<bh→findPI (slL (lineP rk p sp (whS e) (otS e o) q) bg bh) (mkC sp e k) m=lastR rk bg k m
  |0,_=>rfl
  |m+1,h=>by
    unfold findPI lastR
    rw [hit_rank hr hb (Nat.succ_pos m) h hk,fu hr hb hk m (au ‹_›)]
theorem findP_rank{rk:Nat→Nat}{p sp q bg bh:Nat}{e o:Bool}(hr:∀j,j≤q→rk j<7)(h0:bg<bh)(hb:bh≤q):∀ks:List Nat,(∀k∈ks,k<7)→findP (slL (lineP rk p sp (whS e) (otS e o) q) bg bh) (ks.map (mkC sp e))=findR rk bg (bh - bg - 1) ks
  |[],_=>rfl
  |k::ks,h=>by
    rw [List.map_cons]
    unfold findP findR
    rw [cn (au h0) (by rw [dZ];exact hb),fu hr hb (h k (.head _)) _ (by lia),findP_rank hr h0 hb ks fun j hj=>h j (.tail _ hj)]
    try rfl
noncomputable def hitsN(rk:Nat→Nat)(left bg bh:Nat):List Nat:=(List.range' (bg+1) (bh - (bg+1))).filter fun k=>decide (rk k<left)
noncomputable def nod(zs:List Bool)(bg i bh:Nat):Bool:=
  cond (Nat.gcd (nF (wd zs bg bh)) (nT (wd zs bg bh)) == 1)
    (nF (wd zs bg (bg+i)) * nT (wd zs (bg+i) bh)==nT (wd zs bg (bg+i)) * nF (wd zs (bg+i) bh)+1&&bas false 8 (wd zs bg (bg+i)) (wd zs (bg+i) bh))
    (Nat.gcd (nF (wd zs bg bh)) (nT (wd zs bg bh)) * nF (wd zs (bg+i) bh)==nF (wd zs bg bh)&&Nat.gcd (nF (wd zs bg bh)) (nT (wd zs bg bh)) * nT (wd zs (bg+i) bh)==nT (wd zs bg bh)&&bas true 8 (wd zs bg (bg+i)) (wd zs (bg+i) bh))
noncomputable def tre(rk:Nat→Nat)(zs:List Bool)(left:Nat):Nat→Nat→Nat→Bool
  |0,_,_=>false
  |f+1,bg,bh=>match findR rk bg (bh - bg - 1) (List.range left) with
    |none=>hitsN rk left bg bh==[]
    |some i=> !(hitsN rk left bg bh==[])&&(decide (0<i)&&(decide (bg+i<bh)&&(nod zs bg i bh&&(tre rk zs left f bg (bg+i)&&tre rk zs left f (bg+i) bh))))
noncomputable def rkQ(p q k:Nat):Nat:=k * p % q
theorem tre_ok:((List.range 6).all fun a=>(List.range (a+1)).all fun b=>(List.range 3).all fun c=>tre (rkQ (b+1) (a+2)) (zsQ (rkQ (b+1) (a+2)) (b+1) (a+2)) (a+2 - c) 8 0 (a+2))=true:=by decide+kernel
theorem wd_len(zs:List Bool)(a b:Nat):(wd zs a b).length≤b - a:=by
  unfold wd
  rw [List.length_take]
  exact Nat.min_le_left _ _
theorem wd_app{zs:List Bool}{a i b:Nat}(h:a+i≤b):wd zs a (a+i)++wd zs (a+i) b=wd zs a b:=by
  unfold wd
  rw [←List.drop_drop,Nat.add_sub_cancel_left]
  generalize zs.drop a=l
  rw [show b - a=i+(b - (a+i)) by lia,List.take_add]
theorem tre_tree{X:FoC}{rk:Nat→Nat}{p sp q left:Nat}{e o:Bool}(hL:X.L=lineP rk p sp (whS e) (otS e o) q)(hrf:X.rf=rk)(hm:X.mks=mkS sp e left)(hr:∀j,j≤q→rk j<7)(hl:left≤7)(hq:q<8)(na:Nb 60 X.ma)(nb:Nb 60 X.mb)(da:detM X.ma=1)(db:detM X.mb=1)(hd:X.due=cu X.ma X.mb):
    ∀f bg bh,bg<bh→bh≤q→tre rk (zsQ rk p q) left f bg bh=true→Tree X bg bh (wM X.ma X.mb (wd (zsQ rk p q) bg bh))
  |0,_,_,_,_,h=>by cases h
  |f+1,bg,bh,h0,hb,h=>by
    have nw:∀l:List Bool,l.length≤7→Nb 428 (wM X.ma X.mb l):=fun l hl=>by
      have h:=nb_wM na nb l
      have k:∀{x:Nat},x<2^(61 * l.length+1)→x<2^428:=fun h1=>ah h1 (Nat.pow_le_pow_right (by decide) (by lia))
      exact ⟨k h.1,k h.2.1,k h.2.2.1,k h.2.2.2⟩
    have ml:X.mks.length=left:=by rw [hm];show ((List.range left).map (mkC sp e)).length=left;rw [ak,List.length_range]
    have hH:cO X bg bh=hitsN rk left bg bh:=by unfold cO hitsN;rw [hrf,ml]
    have hF:findP (slL X.L bg bh) X.mks.cps.toList=findR rk bg (bh - bg - 1) (List.range left):=by
      rw [hL,hm,mkS_cps]
      exact findP_rank hr h0 hb _ fun k hk=>ah (List.mem_range.mp hk) hl
    have lX:bh≤X.L.length:=by rw [hL,dZ];exact hb
    have zz:∀a b,zsR (slL X.L a b)=wd (zsQ rk p q) a b:=fun a b=>by rw [hL,zsR_line]
    have eA:∀a b,numA (slL X.L a b)=nF (wd (zsQ rk p q) a b):=fun a b=>by rw [numA_zs,zz]
    have eB:∀a b,numB (slL X.L a b)=nT (wd (zsQ rk p q) a b):=fun a b=>by rw [numB_zs,zz]
    have l7:∀a b,b≤q→(wd (zsQ rk p q) a b).length≤7:=fun a b hb=>ad (wd_len _ _ _) (by lia)
    unfold tre at h
    cases e1:findR rk bg (bh - bg - 1) (List.range left) with
    |none=>
      rw [e1] at h hF
      have h2:cO X bg bh=[]:=by rw [hH];exact eq_of_beq h
      have t:=Tree.leaf (X:=X) bg bh h0 lX h2 hF fun j=>by
        rw [show ((1,0,0,1):M4)=fB from rfl,prodP_wM,dS]
        refine (Nb.weak (nw _ ?_) (by decide)).bd4
        have:(zsR ((slL X.L bg bh).take j)).length≤(zsR (slL X.L bg bh)).length:=by unfold zsR;rw [ak,ak,List.length_take];exact Nat.min_le_right _ _
        rw [zz] at this
        exact ad this (l7 bg bh hb)
      rw [show ((1,0,0,1):M4)=fB from rfl,prodP_wM,dS,zz] at t
      exact t
    |some i=>
      rw [e1] at h hF
      obtain ⟨h1,h⟩:=Bool.and_eq_true_iff.mp h
      obtain ⟨h2,h⟩:=Bool.and_eq_true_iff.mp h
      obtain ⟨h3,h⟩:=Bool.and_eq_true_iff.mp h
      obtain ⟨h4,h⟩:=Bool.and_eq_true_iff.mp h
      obtain ⟨h5,h6⟩:=Bool.and_eq_true_iff.mp h
      have i0:=of_decide_eq_true h2
      have i1:=of_decide_eq_true h3
      have t1:=tre_tree hL hrf hm hr hl hq na nb da db hd f bg (bg+i) (by lia) (by lia) h5
      have t2:=tre_tree hL hrf hm hr hl hq na nb da db hd f (bg+i) bh (Nat.succ_le_of_lt ‹_›) hb h6
      have n1:=nw _ (l7 bg (bg+i) (by lia))
      have n2:=nw _ (l7 (bg+i) bh hb)
      have ap:=wd_app (zs:=zsQ rk p q) (a:=bg) (i:=i) (b:=bh) (au ‹_›)
      have n3:=nw _ (l7 bg bh hb)
      have em:wM X.ma X.mb (wd (zsQ rk p q) bg bh)=mulM (wM X.ma X.mb (wd (zsQ rk p q) bg (bg+i))) (wM X.ma X.mb (wd (zsQ rk p q) (bg+i) bh)):=by rw [←wM_app,ap]
      have sm:∀{x:Int},x.natAbs<2^429→Bd (2^20) x:=fun h=>cj (ah h (Nat.pow_le_pow_right (by decide) (by decide)))
      have hk:cO X bg bh≠[]:=by
        rw [hH]
        intro e
        rw [e] at h1
        cases h1
      rw [em]
      have h4:=h4
      unfold nod at h4
      generalize hg:Nat.gcd (nF (wd (zsQ rk p q) bg bh)) (nT (wd (zsQ rk p q) bg bh))=g at h4
      refine Tree.node bg bh i _ _ i0 i1 lX hk hF (fun e=> ?_) (fun e=> ?_) t1 t2 (n1.weak (by decide)).bd4 (n2.weak (by decide)).bd4 (sm (nb_tr n1)) (sm (nb_tr n2)) (cj ?_) (sm (nb_tr (em▸n3))) ?_
      · rw [eA,eB,hg] at e
        subst e
        obtain ⟨h7,_⟩:=Bool.and_eq_true_iff.mp h4
        have h8:=eq_of_beq h7
        rw [eA,eB,eA,eB]
        simp only [Int.ofNat_eq_natCast,←Int.natCast_mul,h8]
        lia
      · rw [eA,eB,hg] at e
        rw [beq_eq_false_iff_ne.mpr e] at h4
        obtain ⟨h7,_⟩:=Bool.and_eq_true_iff.mp h4
        obtain ⟨h7,h8⟩:=Bool.and_eq_true_iff.mp h7
        rw [eA,eB,eA,eB,hg]
        exact ⟨eq_of_beq h7,eq_of_beq h8⟩
      · rw [Int.natAbs_mul]
        exact ah (Nat.mul_lt_mul'' (nb_tr n1) (nb_tr n2)) (by rw [←Nat.pow_add];exact Nat.pow_le_pow_right (by decide) (by decide))
      · show cu _ _=_
        have hg':Nat.gcd (numA (slL X.L bg bh)) (numB (slL X.L bg bh))=g:=by rw [eA,eB,hg]
        by_cases e:g=1
        · rw [e] at h4
          obtain ⟨_,h8⟩:=Bool.and_eq_true_iff.mp h4
          rw [fG da db _ _ _ _ h8,if_pos (hg'.trans e),hd];rfl
        · rw [beq_eq_false_iff_ne.mpr e] at h4
          obtain ⟨_,h8⟩:=Bool.and_eq_true_iff.mp h4
          rw [fG da db _ _ _ _ h8,if_neg (fun h=>e (hg'.symm.trans h))];rfl
theorem dg_lt{r:Nat}(h:r<7):Unicode.isSpace (48+r)=false∧48+r<97:=⟨(show ∀n,n<7→Unicode.isSpace (48+n)=false by decide+kernel) r h,by lia⟩
theorem mem_line{rk:Nat→Nat}{p sp q:Nat}{e o:Bool}{x:Str×Str}(h:x∈lineP rk p sp (whS e) (otS e o) q):∃j,j<q∧(x.1=whS e∨x.1=otS e o)∧∃d,x.2=⟨#[48+rk j,ltc d,48+rk (j+1)]⟩:=by
  obtain ⟨j,hj,rfl⟩:=List.mem_map.mp h
  refine ⟨j,List.mem_range.mp hj,?_,_,rfl⟩
  unfold liP
  show cond _ (cond _ _ _) _=_∨cond _ (cond _ _ _) _=_
  cases decide (1<j+1)
  · exact .inr rfl
  · cases rk j==sp
    · exact .inr rfl
    · exact .inl rfl
theorem lead_line{f:Str}{e o:Bool}(h:f=whS e∨f=otS e o):f=S ""∨f=S "\t "∨f=S " \t":=by
  rcases h with rfl|rfl
  · cases e
    · exact .inr (.inr rfl)
    · exact .inr (.inl rfl)
  · cases o
    · exact .inl rfl
    · cases e
      · exact .inr (.inl rfl)
      · exact .inr (.inr rfl)
theorem lead_ok{f:Str}(h:f=S ""∨f=S "\t "∨f=S " \t"):(f=S ""∨∃e1 e2,f=⟨#[e1,e2]⟩∧e1<128∧e2<128)∧f.length≤2∧∀c∈f.cps.toList,c<97:=by
  rcases h with rfl|rfl|rfl
  · exact ⟨.inl rfl,by decide+kernel,by decide+kernel⟩
  · exact ⟨.inr ⟨9,32,by decide+kernel,by decide,by decide⟩,by decide+kernel,by decide+kernel⟩
  · exact ⟨.inr ⟨32,9,by decide+kernel,by decide,by decide⟩,by decide+kernel,by decide+kernel⟩
theorem wrc_line{X:FoC}{rk:Nat→Nat}{p sp q left:Nat}{e o:Bool}(hL:X.L=lineP rk p sp (whS e) (otS e o) q)(hm:X.mks=mkS sp e left)(hr:∀j,j≤q→rk j<7)(hl:left≤7)(hq:q<8)(hH:X.H<100)(hla:X.la≤1):WrC X:=by
  have key:∀x∈X.L,((x.1=S ""∨∃e1 e2,x.1=⟨#[e1,e2]⟩∧e1<128∧e2<128)∧x.1.length≤2∧∀c∈x.1.cps.toList,c<97)∧∃r d t,r<7∧t<7∧x.2=⟨#[48+r,ltc d,48+t]⟩:=fun x hx=>by
    rw [hL] at hx
    obtain ⟨j,hj,h1,d,h2⟩:=mem_line hx
    exact ⟨lead_ok (lead_line h1),_,d,_,hr j (au hj),hr (j+1) hj,h2⟩
  have lt:∀d:Bool,ltc d<124:=fun d=>by cases d<;>decide
  refine ⟨fun x hx=> ?_,fun x hx=> ?_,fun x hx=> ?_,fun x hx=> ?_,?_,hH,hla,?_,?_⟩
  · obtain ⟨⟨h1,h2,h3⟩,r,d,t,hr,ht,e2⟩:=key x hx
    exact ⟨⟨_,_,_,e2,(dg_lt ht).1,by lia,aC (lt d) (by decide),by lia⟩,h1⟩
  · obtain ⟨⟨h1,h2,h3⟩,r,d,t,hr,ht,e2⟩:=key x hx
    exact ⟨h2,fun c hc=>aC (h3 c hc) (by decide),_,_,_,e2,(dg_lt ht).1,by lia,lt d,by lia⟩
  · obtain ⟨_,r,d,t,hr,ht,e2⟩:=key x hx
    exact ⟨_,d,_,e2⟩
  · obtain ⟨⟨h1,h2,h3⟩,r,d,t,hr,ht,e2⟩:=key x hx
    exact ⟨fun c hc=>⟨ay (h3 c hc),ay (aC (h3 c hc) (by decide))⟩,_,d,_,e2,(dg_lt hr).2,(dg_lt ht).2⟩
  · rw [hL,dZ];exact hq
  · rw [hm]
    show ((List.range left).map (mkC sp e)).toArray.all _=true
    rw [←Array.all_toList,List.all_eq_true]
    intro c hc
    obtain ⟨k,hk,rfl⟩:=List.mem_map.mp hc
    have:=List.mem_range.mp hk
    refine decide_eq_true ?_
    unfold mkC
    split
    · cases e<;>decide
    · lia
  · rw [hm]
    show ((List.range left).map (mkC sp e)).length<_
    rw [ak,List.length_range]
    exact aH hl (by decide)
theorem rkQ_lt{p q:Nat}(hq:2≤q)(h7:q<8)(j:Nat):rkQ p q j<7:=by
  unfold rkQ
  have:=Nat.mod_lt (j * p) (show 0<q by lia)
  lia
theorem law_tree{X:FoC}{p sp q c:Nat}{e o:Bool}(q1:2≤q)(q2:q<8)(p1:1≤p)(p2:p<q)(hc:c<3)(hL:X.L=lineP (rkQ p q) p sp (whS e) (otS e o) q)(hrf:X.rf=rkQ p q)(hm:X.mks=mkS sp e (q - c))(na:Nb 60 X.ma)(nb:Nb 60 X.mb)(da:detM X.ma=1)(db:detM X.mb=1)(hd:X.due=cu X.ma X.mb):∃m,Tree X 0 q m:=by
  have h:=List.all_eq_true.mp tre_ok (q - 2) (List.mem_range.mpr (by lia))
  have h:=List.all_eq_true.mp h (p - 1) (List.mem_range.mpr (by lia))
  have h:=List.all_eq_true.mp h c (List.mem_range.mpr hc)
  rw [Nat.sub_add_cancel p1,Nat.sub_add_cancel q1] at h
  exact ⟨_,tre_tree hL hrf hm (fun j _=>rkQ_lt q1 q2 j) (by lia) q2 na nb da db hd 8 0 q (au ‹_›) (al _) h⟩
noncomputable def bLW(w:ag)(k:Nat):Stmt:=aF (cU w) k
noncomputable def enL(w:ag)(B c0 c1 c2 c3:Nat):Env:=fF w B (c0+322) (c1+322) (c2+322) (c3+322)
noncomputable def nmW:List Str:=[S "ranks",S "others",S "left",S "marks",S "s",S "t",S "u",S "v",S "z",S "y",S "x",S "due",S "squares",S "line",S "folding"]
noncomputable def fLW(P:ae)(τ:Nat→Nat)(k:Nat)(V:List Value):Obj:=frO (zE P τ [S "script",S "drawn"] (V.take 2) 0++((match k with|0=>[]|_=>zE P τ [S "i",S "number"] ((V.drop 2).take 2) 2)++zE P τ nmW (V.drop 4) 4))
noncomputable def i8(d:Nat→Int)(t:Nat→Nat):List Value:=[.int (d 0) (t 0),.int (d 1) (t 1),.int (d 2) (t 2),.int (d 3) (t 3),.int (d 4) (t 4),.int (d 5) (t 5),.int (d 6) (t 6),.int (d 7) (t 7)]
noncomputable def upd{α:Type}(f:Nat→α)(j:Nat)(v:α):Nat→α:=fun m=>match Nat.beq m j with|true=>v|false=>f m
noncomputable def enuO(it i:Nat)(old:Value):Obj:=⟨.type "enumerate",none,.fields #[.none,.bool false,.ref it,rawInt i,.none,old],#[]⟩
theorem enum_new{w:ag}{s:aa}{A:ai}{R:Result→aa→Prop}{l n:Nat}{xs:List Value}(hl:s.heap.get? l=some (lstO xs n))
    (k:∀s',Nxt [] s s'→s'.heap.get? s.heap.objs.size=some (bE l 0)→s'.heap.get? (s.heap.objs.size+1)=some (enuO s.heap.objs.size 0 .none)→R (.ok (.ret (.ref (s.heap.objs.size+1)))) s'):
    codeAny (model pw w) A (.call (.builtin "enumerate.__new__") ⟨[.type "enumerate",.ref l],[]⟩) R s:=by
  have e1:(s.heap.push {cls:= .type "list_iterator",data:= .fields #[.ref l,.int 0 0]}).objs.size=s.heap.objs.size+1:=Heap.size_push ..
  refine codeAny_call_builtin (by decide+kernel) F.entry_enumerate_new (wpAny_of_eq (F.newCall_enumerate_1 _) (meets_enumerate_new l xs.toArray n pw w A R s ⟨hl,?_⟩))
  rw [e1]
  refine k _ ⟨⟨fun b o e _=>Heap.get?_push_of_some _ (Heap.get?_push_of_some _ e),by rw [Heap.size_push,e1];exact aw _ 2⟩,GX.refl _,rfl,rfl⟩ (Heap.get?_push_of_some _ (Heap.get?_push_size _ rfl)) ?_
  have:=Heap.get?_push_size (s.heap.push {cls:= .type "list_iterator",data:= .fields #[.ref l,.int 0 0]}) (o:=enuO s.heap.objs.size 0 .none) rfl
  rw [e1] at this
  exact this
section
variable {w:ag} {s:aa} {A:ai} {E:Value→aa→Prop} {Q:Option Value→aa→Prop}
noncomputable def enuU(it i a:Nat)(x:Value):Obj:=⟨.type "enumerate",none,.fields #[rawInt a,.bool false,.ref it,rawInt i,.none,x],#[]⟩
theorem enum_item{e it l n i:Nat}{xs:List Value}{x old:Value}(he:s.heap.get? e=some (enuO it i old))(hit:s.heap.IsListIter it l i)(hl:s.heap.get? l=some (lstO xs n))(hx:xs[i]? =some x)(hne:e≠it)
    (k:∀s',Nxt [e,it] s s'→s'.heap.get? e=some (enuU it (i+1) s.heap.objs.size x)→s'.heap.IsListIter it l (i+1)→s'.heap.get? s.heap.objs.size=some (aX [.int (U i) s.toks,x])→Q (some (.ref s.heap.objs.size)) s'):wpAny (model pw w) A (pyNext (.ref e)) Q E s:=by
  refine wpAny_pyNext_enum_item he hit ⟨_,hl,rfl,n,rfl⟩ (by rw [List.getElem?_toArray];exact hx) hne fun h' a b c d f=> ?_
  exact k _ ⟨⟨fun b o g q=>f b o (fun z=>q (by rw [z];exact .head _)) (fun z=>q (by rw [z];exact .tail _ (.head _))) g,by show _≤h'.objs.size;rw [d];exact aK _⟩,GX.refl _,rfl,rfl⟩ a b c
theorem enum_end{e it l n i:Nat}{xs:List Value}{old:Value}(hh:A.handled=none)(he:s.heap.get? e=some (enuO it i old))(hit:s.heap.IsListIter it l i)(hl:s.heap.get? l=some (lstO xs n))(hx:xs[i]? =none)
    (k:∀s',Nxt [it] s s'→Q none s'):wpAny (model pw w) A (pyNext (.ref e)) Q E s:=by
  have hT:s.TypeIs (.ref e) "enumerate":=⟨_,he,rfl⟩
  obtain ⟨o,ho,hc,hd⟩:=id hit
  have hx:xs.toArray[i]? =none:=by rw [List.getElem?_toArray];exact hx
  unfold pyNext
  refine af (wpAny_attempt (wpAny_callSpecial?_slot (name:=Str.ofString "__next__") hT F.slot_enumerate_next (wpAny_call_entry F.slot_enumerate_next hT F.entry_enumerate_next ?_ (F.args_enumerate_next_1 _))))
  show wpAny _ _ (field (.ref e) 2>>=_) _ _ _
  refine af (wpAny_field he rfl (x:= .ref it) rfl (af ?_))
  unfold Builtin.SmallTypes.nextOf
  refine af (wpAny_callSpecial?_slot (name:=Str.ofString "__next__") hit.typeIs slot_listiter_next (wpAny_call_entry slot_listiter_next hit.typeIs entry_listiter_next ?_ (args_listiter_next _)))
  show wpAny _ _ (field (.ref it) 0>>=_) _ _ s
  refine af (wpAny_field ho hd (x:= .ref l) rfl ?_)
  show wpAny _ _ (if (Value.ref l==Value.none)=true then _ else _) _ _ s
  rw [if_neg (show ¬((Value.ref l==Value.none)=true) from Bool.false_ne_true)]
  show wpAny _ _ (field (.ref it) 1>>=_) _ _ s
  refine af (wpAny_field ho hd (x:= .int i 0) rfl ?_)
  show wpAny _ _ (seqItems? (.ref l)>>=_) _ _ s
  refine af (wpAny_seqItems hl rfl ?_)
  simp only [Int.toNat_natCast,hx]
  refine af (wpAny_rule (af (wpAny_setField ho hd (by simp) ?_)))
  show wpAny _ _ (newExc (.type "StopIteration") []>>=_) _ _ _
  refine af ?_
  simp only [newExc,newTuple]
  refine af (wpAny_newObj_type ?_ (by size_fits))
  refine af (m:=firstArgMember _ _) (wpAny_of_eq (a:=Value.none) (by first|rfl|(simp only [firstArgMember];rfl)) ?_)
  refine wpAny_newObj_type ?_ (by size_fits)
  simp only [raiseNew]
  refine af (wpAny_handled ?_)
  rw [show A.in1.handled=none from hh]
  refine af (wpAny_pure (wpAny_throw ?_))
  refine af (wpAny_isInstance (T:= "StopIteration") (b:=true) ⟨_,Heap.get?_push_size _ rfl,rfl⟩ isSubtype_stop ?_)
  exact wpAny_pure (k _ (stop_nxt (Heap.SameBut.update ..) _ _))
end
noncomputable def hsJ(h k:Nat):Nat→Nat
  |0=>h
  |j+1=>hsJ h k j+k
noncomputable def aj{α:Type}(f:Bool→Nat→Nat→α)(b:Bool)(k j:Nat):α:=f b k j
theorem jR{α:Type}{f g:Bool→Nat→Nat→α}(b:Bool)(k j:Nat)(hj:j<8)(h0:∀b k,aj f b k 0=aj g b k 0)(h1:∀b k,aj f b k 1=aj g b k 1)(h2:∀b k,aj f b k 2=aj g b k 2)(h3:∀b k,aj f b k 3=aj g b k 3)(h4:∀b k,aj f b k 4=aj g b k 4)(h5:∀b k,aj f b k 5=aj g b k 5)(h6:∀b k,aj f b k 6=aj g b k 6)(h7:∀b k,aj f b k 7=aj g b k 7):f b k j=g b k j:=by
  match j,hj with
  |0,_=>exact h0 b k
  |1,_=>exact h1 b k
  |2,_=>exact h2 b k
  |3,_=>exact h3 b k
  |4,_=>exact h4 b k
  |5,_=>exact h5 b k
  |6,_=>exact h6 b k
  |7,_=>exact h7 b k
theorem ajR{α:Type}{f g:Bool→Nat→Nat→α}{j:Nat}(h0:aj f false 0 j=aj g false 0 j)(h1:aj f true 0 j=aj g true 0 j)(h2:∀k,aj f false (k+1) j=aj g false (k+1) j)(h3:∀k,aj f true (k+1) j=aj g true (k+1) j):∀b k,aj f b k j=aj g b k j:=by
  intro b k
  cases b<;>cases k<;>first|assumption|exact h2 _|exact h3 _
theorem lwT{w:ag}{s:aa}{A:ai}{E:Value→aa→Prop}{Q:Flow→aa→Prop}{B c0 c1 c2 c3 sc dr a i k n j:Nat}{x:Int}{ti tx:Tok}{τ t:Nat→Nat}{d:Nat→Int}{v:Nat→Value}(W:KTH w s.heap)(hh:A.handled=none)(room:A.depth+60<recursionLimit)(hB:322≤B)(hf:s.heap.get? B=some (fLW w.params τ k [.ref (sc+322),.ref (dr+322),v 2,v 3]))(hd:s.heap.get? (dr+322)=some (lstO (i8 d t) n))(ha:s.heap.get? (a+322)=some (aX [.int (U i) ti,.int x tx]))(hj:j<8)(hi:Int.fmod (U i) 8=U j)
    (kk:∀s' τ' t',Nxt [B,dr+322] s s'→s'.heap.get? B=some (fLW w.params τ' 1 [.ref (sc+322),.ref (dr+322),.int (U i) ti,.int x tx])→s'.heap.get? (dr+322)=some (lstO (i8 (upd d j (d j+Int.fmod x 1000000)) t') n)→Q .next s'):
    wpAny (model pw w) A (assign (sT (bLW w 1)) (enL w B c0 c1 c2 c3) (.ref (a+322))>>=fun _=>execs (sB (bLW w 1)) (enL w B c0 c1 c2 c3)) Q E s:=by
  have nda:B≠dr+322:=ne_cls hf hd cFL
  have naa:a+322≠dr+322:=ne_cls ha hd (show Value.type "tuple"≠Value.type "list" by decide)
  rw [exF_eq,PySem.W.Fast.te17772580674575903948]
  refine segF [B,dr+322] [(a+322,_)] 60 W hh (.cons hf (.cons hd .nil)) (.cons ha .nil) (High.cons (.inl hB) (High.one (ab _ _))) (List.nodup_cons.mpr ⟨notin1 nda,az _⟩) (dj1 (notin2 (ne_cls ha hf (Ne.symm cFT)) naa)) (rmz room rfl) rfl [] fun A₀ c Q1 hQ1 uA₀=> ?_
  refine am (f:= .next) 102 (hsJ 0x41004100410000004100410041000000030000000500000040004100000041004100410000000a0040004000400040004000400044004200420001004200420000004200420042004200010042004200000042004200420042000100420042000000420042004200000001000100010001 0x100000000000000000000000000000000000000000000000000000000000000000000000000000000000000000000000000000000000000000000000000000000000000000000000000000000 j) [0,1] [True,(¬(1000000==0)=true),(¬(8==0)=true∧Int.fmod (U (i)) 8=U j)] [some (fLW w.params (tk [τ 0,τ 1,bi k s.toks (τ 2),bi k (s.toks+1) (τ 3)]) 1 [.ref (sc+322),.ref (dr+322),.int (U i) ti,.int x tx]),some (lstO (i8 (upd d j (d j+Int.fmod x 1000000)) (upd t j (s.toks+8))) n)] 5 9 (by apply elq Q1 _ hQ1;apply wW ?_ w;intro w b;apply jR b k j hj<;>apply ajR<;>first|kernel_rfl|(intro k;kernel_rfl)) (side_cons trivial (side_cons (by decide) (side_cons ⟨by decide,hi⟩ no_side))) fun s1 x1 g1=> ?_
  exact kk s1 _ _ x1 (g1 0) (g1 1)
noncomputable def isTup:Expr→Bool
  | .Tuple _ _ _=>true
  |_=>false
theorem go_enum{w:ag}{s:aa}{A:ai}{E:Value→aa→Prop}{Q:Unit→aa→Prop}{target:Expr}{e it a i:Nat}{x:Value}(ht:isTup target=true)(he:s.heap.get? e=some (enuU it i a x))
    (k:∀s',Nxt [e] s s'→s'.heap.get? e=some (enuO it i x)→Q () s'):wpAny (model pw w) A (letOwnedTupleGo target (.ref e) (.ref a)) Q E s:=by
  cases target<;>first|(cases ht;done)|skip
  exact wpAny_letOwnedTupleGo_enum he fun h' h1 h2=>k _ ⟨⟨fun b o g q=>(h2.2 b fun z=>q (by rw [z];exact .head _)).trans g,Nat.le_of_eq h2.1.symm⟩,GX.refl _,rfl,rfl⟩ h1
noncomputable def dB(i:Nat)(d:Nat→Int):Prop:=∀j,0≤d j∧d j≤20+i * 1000000
theorem dB.turn{i j:Nat}{d:Nat→Int}(h:dB i d)(x:Int):dB (i+1) (upd d j (d j+Int.fmod x 1000000)):=by
  intro m
  have h1:=h m
  have h2:=h j
  have h3:=Int.fmod_nonneg_of_pos x (show (0:Int)<1000000 by decide)
  have h4:=Int.fmod_lt_of_pos x (show (0:Int)<1000000 by decide)
  unfold upd
  split<;>lia
theorem wpAny_seq{w:ag}{s:aa}{A:ai}{E:Value→aa→Prop}{Q:Flow→aa→Prop}{m:Sem Unit}{n:Sem Flow}(h:wpAny (model pw w) A m (fun _ s'=>wpAny (model pw w) A n Q E s') E s):wpAny (model pw w) A (m>>=fun _=>n) Q E s:=af h
theorem lw_loop{w:ag}{A:ai}{R:Result→aa→Prop}{B c0 c1 c2 c3 sc dr e it ns nd:Nat}{xs:List Value}(hh:A.handled=none)(room:A.depth+70<recursionLimit)(hB:322≤B)(he:322≤e)(hi:322≤it)(nBe:B≠e)(nBi:B≠it)(nei:e≠it)(hx:∀v∈xs,∃x t,v= .int x t)(lx:xs.length≤63):
    ∀(n i k:Nat) {s:aa} {τ t:Nat→Nat} {d:Nat→Int} {v:Nat→Value} {old:Value},i+n=xs.length→KTH w s.heap→s.heap.get? B=some (fLW w.params τ k [.ref (sc+322),.ref (dr+322),v 2,v 3])→s.heap.get? (dr+322)=some (lstO (i8 d t) nd)→s.heap.get? (sc+322)=some (lstO xs ns)→s.heap.get? e=some (enuO it i old)→s.heap.IsListIter it (sc+322) i→sc≠dr→dB i d→
      (∀s' (τ' t':Nat→Nat) k' (d':Nat→Int) (v':Nat→Value),Nxt [B,dr+322,e,it] s s'→s'.heap.get? B=some (fLW w.params τ' k' [.ref (sc+322),.ref (dr+322),v' 2,v' 3])→s'.heap.get? (dr+322)=some (lstO (i8 d' t') nd)→dB xs.length d'→R (.ok .next) s')→
      codeAny (model pw w) A (forC (bLW w 1) (.ref e) (enL w B c0 c1 c2 c3)) R s
  |0,i,k,s,τ,t,d,v,old,hn,W,hf,hd,hs,en,hit,nsd,hb,kk=>by
    refine aV (enum_end hh en hit hs (List.getElem?_eq_none (Nat.le_of_eq hn.symm)) fun s1 x1=> ?_)
    have e0:execs (sO (bLW w 1)) (enL w B c0 c1 c2 c3)=pure .next:=by
      rw [show sO (bLW w 1)=[] by kernel_rfl];rfl
    show wpAny _ _ (execs (sO (bLW w 1)) (enL w B c0 c1 c2 c3)) _ _ _
    rw [e0]
    have nB:B∉[it]:=notin1 nBi
    have nd:dr+322∉[it]:=notin1 fun q=>by
      obtain ⟨o,g1,g2,_⟩:=hit
      rw [q,g1] at hd
      cases hd
      exact (show Value.type "list"≠Value.type "list_iterator" by decide) g2
    rw [show i=xs.length by lia] at hb
    exact wpAny_pure (kk s1 τ t k d v (x1.weak fun _ h=> .tail _ (.tail _ (.tail _ h))) (x1.keep hf nB) (x1.keep hd nd) hb)
  |n+1,i,k,s,τ,t,d,v,old,hn,W,hf,hd,hs,en,hit,nsd,hb,kk=>by
    have li:i<xs.length:=by lia
    obtain ⟨x,tx,ex⟩:=hx _ (List.getElem_mem li)
    have ex:xs[i]? =some (.int x tx):=by rw [aG li,ex]
    have ni:∀{p:Nat} {o:Obj},s.heap.get? p=some o→o.cls≠.type "list_iterator"→p≠it:=fun g1 g2 q=>by
      obtain ⟨o,g3,g4,_⟩:=hit
      rw [q,g3] at g1
      cases g1
      exact g2 g4
    have nde:dr+322≠e:=ne_cls hd en (show Value.type "list"≠Value.type "enumerate" by decide)
    have nse:sc+322≠e:=ne_cls hs en (show Value.type "list"≠Value.type "enumerate" by decide)
    have ndi:dr+322≠it:=ni hd (show Value.type "list"≠Value.type "list_iterator" by decide)
    have nsi:sc+322≠it:=ni hs (show Value.type "list"≠Value.type "list_iterator" by decide)
    have nBs:sc+322≠B:=ne_cls hs hf (Ne.symm cFL)
    have nBd:dr+322≠B:=ne_cls hd hf (Ne.symm cFL)
    refine aV (enum_item en hit hs ex nei fun s1 x1 e1 i1 t1=> ?_)
    refine wpAny_seq (go_enum (by kernel_rfl) e1 fun s2 x2 e2=> ?_)
    obtain ⟨a,ha⟩:∃a,s.heap.objs.size=a+322:=(aW W.2)
    have lt:∀{p:Nat} {o:Obj},s.heap.get? p=some o→p≠s.heap.objs.size:=fun g=>ay (an g)
    have W2:=(W.nxt x1 (High.cons (.inl he) (High.one hi))).nxt x2 (High.one he)
    have k2:∀{p:Nat} {o:Obj},s.heap.get? p=some o→p≠e→p≠it→s2.heap.get? p=some o:=fun g g1 g2=>x2.keep (x1.keep g (notin2 g1 g2)) (notin1 g1)
    have t2:=x2.keep t1 (notin1 (lt en).symm)
    have i2:s2.heap.IsListIter it (sc+322) (i+1):=by
      obtain ⟨o,g1,g2,g3⟩:=i1
      exact ⟨o,x2.keep g1 (notin1 (Ne.symm nei)),g2,g3⟩
    rw [ha] at t2⊢
    have hm:Int.fmod (U i) 8=U (i % 8):=by rw [Int.fmod_eq_emod_of_nonneg _ (by decide)];rfl
    refine lwT (j:=i % 8) W2 hh (rmz room rfl) hB (k2 hf nBe nBi) (k2 hd nde ndi) t2 (Nat.mod_lt _ (by decide)) hm fun s3 τ3 t3 x3 f3 d3=> ?_
    have x13:Nxt [B,dr+322,e,it] s s3:=(x1.weak (ao (by simp))).trans ((x2.weak (ao (by simp))).trans (x3.weak (ao (by simp))))
    have i3:s3.heap.IsListIter it (sc+322) (i+1):=by
      obtain ⟨o,g1,g2,g3⟩:=i2
      exact ⟨o,x3.keep g1 (notin2 (Ne.symm nBi) (Ne.symm ndi)),g2,g3⟩
    exact lw_loop (v:=vk [.none,.none,.int (U i) s.toks,.int x tx]) hh room hB he hi nBe nBi nei hx lx n (i+1) 1 (by lia) (W2.nxt x3 (High.cons (.inl hB) (High.one (ab _ _)))) f3 d3 (x3.keep (k2 hs nse nsi) (notin2 nBs (fun q=>nsd (Nat.add_right_cancel q)))) (x3.keep e2 (notin2 (Ne.symm nBe) (Ne.symm nde))) i3 nsd (hb.turn x) fun s' τ' t' k' d' v' X f' d' hb'=>kk s' τ' t' k' _ v' (x13.trans X) f' d' hb'
noncomputable def d0:Nat→Int
  |0=>17
  |1=>10
  |2=>2
  |3=>8
  |_=>1
theorem dB0:dB 0 d0:=fun j=>by
  match j with
  |0|1|2|3=>exact ⟨by decide,by decide⟩
  |n+4=>exact ⟨show (0:Int)≤1 by decide,show (1:Int)≤20+(0:Nat) * 1000000 by decide⟩
theorem lw0{w:ag}{s:aa}{A:ai}{E:Value→aa→Prop}{Q:Flow→aa→Prop}{B c0 c1 c2 c3 sc:Nat}{τ:Nat→Nat}(W:KTH w s.heap)(hh:A.handled=none)(room:A.depth+100<recursionLimit)(hB:322≤B)(hf:s.heap.get? B=some (fLW w.params τ 0 [.ref (sc+322)])){xs:List Value}{ns:Nat}(hs:s.heap.get? (sc+322)=some (lstO xs ns))(hx:∀v∈xs,∃x t,v= .int x t)(lx:xs.length≤63)
    (kk:∀s' (τ' t':Nat→Nat) k' (d':Nat→Int) (v':Nat→Value) dr nd,Nxt [B] s s'→s'.heap.get? B=some (fLW w.params τ' k' [.ref (sc+322),.ref (dr+322),v' 2,v' 3])→s'.heap.get? (dr+322)=some (lstO (i8 d' t') nd)→dB 63 d'→Q .next s'):
    wpAny (model pw w) A (execs [bLW w 0,bLW w 1] (enL w B c0 c1 c2 c3)) Q E s:=by
  refine aT [B] [] 60 W hh (.cons hf .nil) .nil (High.one hB) (az _) dj0 (rmz room rfl) rfl [] fun A₀ c Q1 hQ1 uA₀=> ?_
  refine av (c':=(.call (.builtin "enumerate.__new__") ⟨[.type "enumerate",.ref (sc+322)],[]⟩)) (d:=5) (u:=20) 27 0x400000000000400040 [0,1] [] [some (fLW w.params (tk [τ 0,s.toks+8]) 0 [.ref (sc+322),.ref s.heap.objs.size]),some (lstO (i8 d0 (tk [s.toks,s.toks+1,s.toks+2,s.toks+3,s.toks+4,s.toks+5,s.toks+6,s.toks+7])) 0)] 2 9 (by apply cW1 Q1 w<;>first|apply hQ1|(intro w;kernel_rfl)) no_side fun s1 x1 g1 A' R' hA dA uA res1=> ?_
  have dA:A'.depth≤A.depth+5:=dA
  have f1:s1.heap.get? B=_:=(g1 0)
  have nB:=notin1 (ne_cls hs hf (Ne.symm cFL))
  have W1:=W.nxt x1 (High.one hB)
  refine enum_new (x1.keep hs nB) fun s2 x2 i2 e2=> ?_
  have W2:=W1.nxt x2 ac
  refine Rsm.go (lim:=60) res1 [] [(s1.heap.objs.size+1,_),(s1.heap.objs.size,_)] W2 .nil (.cons e2 (.cons i2 .nil)) ac nn0 dn0 (rmz room rfl) rfl [] fun Q2 hQ2=> ?_
  refine av (c':=(forC (bLW w 1) (.ref (s1.heap.objs.size+1)) (enL w B c0 c1 c2 c3))) (d:=0) (u:=10) 18 0x1000000010001000100010000000100010001 [] [] [] 0 0 (by apply cW2 Q2 Q1 w<;>first|apply hQ2|apply hQ1|(intro w;kernel_rfl)) no_side fun s3 x3 g3 A' R' hA dA uA res2=> ?_
  have dA:A'.depth≤A.depth+0:=dA
  obtain ⟨dr,hdr⟩:∃dr,s.heap.objs.size=dr+322:=(aW W.2)
  have l1:s.heap.objs.size≤s1.heap.objs.size:=x1.heap.size
  have ldr:s.heap.objs.size<s1.heap.objs.size:=an (g1 1)
  have lB:B<s.heap.objs.size:=an hf
  have x23:=x2.trans x3
  rw [hdr] at f1 ldr
  have f3:=x23.keep0 f1
  have d1:s1.heap.get? s.heap.objs.size=_:=(g1 1)
  rw [hdr] at d1
  have d3:=x23.keep0 d1
  have s3s:=x23.keep0 (x1.keep hs nB)
  refine lw_loop (k:=0) (v:=fun _=> .none) (d:=d0) hA (rm room dA rfl) hB (ad W1.2 (aK _)) W1.2 (by lia) (by lia) (aJ (aO _)) hx lx xs.length 0 (Nat.zero_add _) (W2.nxt x3 ac) f3 d3 s3s (x3.keep0 e2) ⟨_,x3.keep0 i2,rfl,rfl⟩ (fun q=>Nat.lt_irrefl (sc+322) (by have h:=an hs;rw [hdr,←q] at h;exact h)) dB0 fun s4 τ4 t4 k4 d4 v4 x4 f4 d4' b4=> ?_
  refine Rsm.go (lim:=60) res2 [] [] ((W2.nxt x3 ac).nxt x4 (High.cons (.inl hB) (High.cons (.inl (ab _ _)) (High.cons (.inl (ad W1.2 (aK _))) (High.one W1.2))))) .nil .nil ac aD dj0 (rmz room rfl) rfl [] fun Q3 hQ3=> ?_
  refine am (f:= .next) 0 0x0 [] [] [] 0 0 (by apply cW3 Q3 Q2 Q1 w<;>first|apply hQ3|apply hQ2|apply hQ1|(intro w;kernel_rfl)) no_side fun s5 x5 g5=> ?_
  have X:Nxt [dr+322,s1.heap.objs.size+1,s1.heap.objs.size,B] s s5:=(x1.weak (ao (by simp))).trans (x23.nil.trans ((x4.weak (ao (by simp))).trans x5.nil))
  exact kk s5 τ4 t4 k4 d4 v4 dr 0 (((X.drop (Nat.le_of_eq hdr)).drop (ad l1 (aK _))).drop l1) (x5.keep0 f4) (x5.keep0 d4') fun j=>⟨(b4 j).1,Int.le_trans (b4 j).2 (by lia)⟩
noncomputable def iD(D:Nat→Nat)(t:Nat→Nat):List Value:=i8 (fun j=>U (D j)) t
theorem fmN(a b:Nat):Int.fmod (U a) (U b)=U (a % b):=by
  exact (Int.fmod_eq_emod_of_nonneg (U a) (b:=U b) (Int.natCast_nonneg b)).trans rfl
theorem fdN(a b:Nat):Int.fdiv (U a) (U b)=U (a / b):=by
  exact (Int.fdiv_eq_ediv_of_nonneg (U a) (b:=U b) (Int.natCast_nonneg b)).trans rfl
noncomputable def qD(D:Nat→Nat):Nat:=2+D 0 % 6
noncomputable def pD(D:Nat→Nat):Nat:=1+D 0 / 6 % (qD D - 1)
theorem qD_eq(D:Nat→Nat):2+Int.fmod (U (D 0)) 6=U (qD D):=by
  rw [show (6:Int)=U 6 from rfl,fmN];rfl
theorem qD1(D:Nat→Nat):(2+Int.fmod (U (D 0)) 6) - 1=U (qD D - 1):=by
  rw [qD_eq];unfold qD;show ((2+D 0 % 6:Nat):Int) - 1=((2+D 0 % 6 - 1:Nat):Int);lia
theorem pD_eq(D:Nat→Nat):1+Int.fmod (Int.fdiv (U (D 0)) 6) ((2+Int.fmod (U (D 0)) 6) - 1)=U (pD D):=by
  rw [qD1,show (6:Int)=U 6 from rfl,fdN,fmN];rfl
theorem qD_b(D:Nat→Nat):2≤qD D∧qD D<8:=by unfold qD;lia
theorem pD_b(D:Nat→Nat):1≤pD D∧pD D<qD D:=by
  unfold pD
  have:=Nat.mod_lt (D 0 / 6) (show 0<qD D - 1 by have:=qD_b D;lia)
  lia
theorem ne0{q:Nat}(h:2≤q):¬((U (q - 1)==0)=true):=fun e=>by
  have e:=eq_of_beq e
  have e:((q - 1:Nat):Int)=0:=e
  lia
theorem lw2{w:ag}{s:aa}{A:ai}{E:Value→aa→Prop}{Q:Flow→aa→Prop}{B c0 c1 c2 c3 sc dr k nd:Nat}{τ t D:Nat→Nat}{v:Nat→Value}(W:KTH w s.heap)(hh:A.handled=none)(room:A.depth+100<recursionLimit)(hB:322≤B)(hf:s.heap.get? B=some (fLW w.params τ k [.ref (sc+322),.ref (dr+322),v 2,v 3]))(hd:s.heap.get? (dr+322)=some (lstO (iD D t) nd))(h0:s.heap.get? (c0+322)=some (cellO none))(h1:s.heap.get? (c1+322)=some (cellO none))(n01:c0≠c1)(bD:D 0<2^62)
    (kk:∀s' t0 t1,Nxt [c0+322,c1+322] s s'→s'.heap.get? (c0+322)=some (cellO (some (.int (U (qD D)) t0)))→s'.heap.get? (c1+322)=some (cellO (some (.int (U (pD D)) t1)))→Q .next s'):
    wpAny (model pw w) A (execs [bLW w 2,bLW w 3] (enL w B c0 c1 c2 c3)) Q E s:=by
  refine aT [c0+322,c1+322] [(B,_),(dr+322,_)] 60 W hh (.cons h0 (.cons h1 .nil)) (.cons hf (.cons hd .nil)) (High.cons (.inl (ab _ _)) (High.one (ab _ _))) (List.nodup_cons.mpr ⟨notin1 (fun q=>n01 (Nat.add_right_cancel q)),az _⟩) (djc (notin2 (ne_cls hf h0 (Ne.symm cCF)) (ne_cls hf h1 (Ne.symm cCF))) (dj1 (notin2 (ne_cls hd h0 (show Value.type "list"≠Value.type "cell" by decide)) (ne_cls hd h1 (show Value.type "list"≠Value.type "cell" by decide))))) (rmz room rfl) rfl [] fun A₀ c Q1 hQ1 uA₀=> ?_
  refine am (f:= .next) 61 0x41004100000003000000050000000400400000000600020000000200020002000200010040004000000003000000050002000000020002000200020001 [0,1] [True,(¬(((2+(Int.fmod (U (D 0)) 6)) - 1)==0)=true),True,(¬(6==0)=true∧¬(PySem.Builtin.divisionGoesByPylong (U (D 0)) 6)=true),True,(¬(6==0)=true)] [some (⟨.type "cell",none,.cell (some (.int (2+(Int.fmod (U (D 0)) 6)) (s.toks+4))),#[]⟩),some (⟨.type "cell",none,.cell (some (.int (1+(Int.fmod (Int.fdiv (U (D 0)) 6) ((2+(Int.fmod (U (D 0)) 6)) - 1))) (s.toks+12))),#[]⟩)] 2 13 (by apply kW1 Q1 w k<;>first|apply hQ1|(intros;kernel_rfl)) (side_cons trivial (side_cons (by rw [qD1];exact ne0 (qD_b D).1) (side_cons trivial (side_cons ⟨by decide,no_pylong _ _ bD (by decide)⟩ (side_cons trivial (side_cons (by decide) no_side)))))) fun s1 x1 g1=> ?_
  have z0:s1.heap.get? (c0+322)=some (cellO (some (.int _ _))):=(g1 0)
  have z1:s1.heap.get? (c1+322)=some (cellO (some (.int _ _))):=(g1 1)
  rw [pD_eq] at z1
  rw [qD_eq] at z0
  exact kk s1 _ _ x1 z0 z1
noncomputable def v4(sc dr:Nat)(v:Nat→Value):List Value:=[.ref (sc+322),.ref (dr+322),v 2,v 3]
theorem lw4{w:ag}{s:aa}{A:ai}{E:Value→aa→Prop}{Q:Flow→aa→Prop}{B c0 c1 c2 c3 sc dr k nd t0 t1 p q:Nat}{τ t D:Nat→Nat}{v:Nat→Value}(W:KTH w s.heap)(hh:A.handled=none)(room:A.depth+110<recursionLimit)(hB:322≤B)(hf:s.heap.get? B=some (fLW w.params τ k (v4 sc dr v)))(hd:s.heap.get? (dr+322)=some (lstO (iD D t) nd))(h0:s.heap.get? (c0+322)=some (cellO (some (.int (U q) t0))))(h1:s.heap.get? (c1+322)=some (cellO (some (.int (U p) t1))))(q1:2≤q)(q2:q<8)(p1:1≤p)(p2:p<q)(bD:D 1<2^62)
    (kk:∀s' (τ':Nat→Nat) l xs m,Nxt [B] s s'→RKl p q q xs→s.heap.objs.size≤l+322→s'.heap.get? B=some (fLW w.params τ' k (v4 sc dr v++[.ref (l+322)]))→s'.heap.get? (l+322)=some (lstO xs m)→Q .next s'):
    wpAny (model pw w) A (execs [bLW w 4] (enL w B c0 c1 c2 c3)) Q E s:=by
  refine aT [] [(B,_),(dr+322,_),(c0+322,_),(c1+322,_)] 60 W hh .nil (.cons hf (.cons hd (.cons h0 (.cons h1 .nil)))) ac nn0 dn0 (rmz room rfl) rfl [] fun A₀ c Q1 hQ1 uA₀=> ?_
  refine av (c':=(.call (.ref 290) ⟨[.int (U (p)) t1,.int (U (q)) t0,.int (Int.fmod (U (D 1)) 3) (s.toks+2),.int (1+(Int.fmod (Int.fdiv (U (D 1)) 3) 2)) (s.toks+9),.int (Int.fmod (Int.fdiv (U (D 1)) 6) 3) (s.toks+14)],[]⟩)) (d:=0) (u:=10) 69 0x50000000600020000000200020002000200010000000300000005000000060002000000020002000200020001000000050002000000020002000200020001000300040000 [] [(¬(3==0)=true),(¬(6==0)=true∧¬(PySem.Builtin.divisionGoesByPylong (U (D 1)) 6)=true),True,(¬(2==0)=true),(¬(3==0)=true∧¬(PySem.Builtin.divisionGoesByPylong (U (D 1)) 3)=true),(¬(3==0)=true)] [] 0 15 (by apply kW1 Q1 w k<;>first|apply hQ1|(intros;kernel_rfl)) (side_cons (by decide) (side_cons ⟨by decide,no_pylong _ _ bD (by decide)⟩ (side_cons trivial (side_cons (by decide) (side_cons ⟨by decide,no_pylong _ _ bD (by decide)⟩ (side_cons (by decide) no_side)))))) fun s1 x1 g1 A' R' hA dA uA res1=> ?_
  have dA:A'.depth≤A.depth+0:=dA
  have W1:=W.nxt x1 ac
  rw [show Int.fmod (U (D 1)) 3=U (D 1 % 3) from fmN _ 3,show 1+Int.fmod (Int.fdiv (U (D 1)) 3) 2=U (1+D 1 / 3 % 2) by rw [show Int.fdiv (U (D 1)) 3=U (D 1 / 3) from fdN _ 3,show Int.fmod (U (D 1 / 3)) 2=U (D 1 / 3 % 2) from fmN _ 2];rfl,show Int.fmod (Int.fdiv (U (D 1)) 6) 3=U (D 1 / 6 % 3) by rw [show Int.fdiv (U (D 1)) 6=U (D 1 / 6) from fdN _ 6];exact fmN _ 3]
  refine ranks_spec (V:=⟨p,q,D 1 % 3,1+D 1 / 3 % 2,D 1 / 6 % 3⟩) W1 hA (rm room dA rfl) (by show D 1 % 3≤2;lia) (by show 1≤1+D 1 / 3 % 2;lia) (by show 1+D 1 / 3 % 2≤2;lia) (by show D 1 / 6 % 3≤2;lia) q1 q2 p1 p2 fun s2 l xs m x2 ll hx l2=> ?_
  have x12:=x1.trans x2
  refine Rsm.go (lim:=60) res1 [B] [] (W.nxt x12 ac) (.cons (x12.keep0 hf) .nil) .nil (High.one hB) (az _) dj0 (rmz room rfl) rfl [] fun Q2 hQ2=> ?_
  refine am (f:= .next) 8 0x400040 [0] [] [some (fLW w.params (tk [τ 0,τ 1,τ 2,τ 3,s2.toks]) k (v4 sc dr v++[.ref (l+322)]))] 1 1 (by apply kW2 Q2 Q1 w k<;>first|apply hQ2|apply hQ1|(intros;kernel_rfl)) no_side fun s3 x3 g3=> ?_
  exact kk s3 _ l xs m (x12.nil.trans x3) hx (ad x1.heap.size ll) (g3 0) (x3.keep l2 (notin1 (aJ (ah (an (x1.keep0 hf)) ll))))
noncomputable def cenvL(w:ag)(e:Expr)(cl:List (Str×Addr))(C B c0 c1 c2 c3:Nat):Env:=compEnvC (lcS e) cl (C+322) (enL w B c0 c1 c2 c3)
noncomputable def RgT(w:ag)(A:ai)(e:Expr)(env:Env)(C a it N:Nat)(I:Heap→Prop)(val:Nat→Value→Prop):Prop:=
  ∀⦃s:aa⦄⦃E:Value→aa→Prop⦄⦃Q:Unit→aa→Prop⦄(j k0 k nn m:Nat) (ts:List Value) (τ:Nat→Nat) (t:Tok),KTH w s.heap→s.heap.get? (C+322)=some (dcK w.params τ k0 nn k)→(k=0→nn=0)→s.heap.get? (a+322)=some (lstO ts m)→I s.heap→ts.length<20→j<N→
    (∀s' τ' n' m' x,Nxt [C+322,a+322] s s'→s'.heap.get? (C+322)=some (dcK w.params τ' j n' 1)→s'.heap.get? (a+322)=some (lstO (ts++[x]) m')→val j x→Q () s')→
    wpAny (model pw w) A (lcF0 e (.ref it) (.int (U j) t) (.ref (a+322)) env) Q E s
noncomputable def Vals(val:Nat→Value→Prop):Nat→List Value→Prop
  |_,[]=>True
  |j,x::l=>val j x∧Vals val (j+1) l
theorem Vals.snoc{val:Nat→Value→Prop}{x:Value}:∀{l:List Value} {j:Nat},Vals val j l→val (j+l.length) x→Vals val j (l++[x])
  |[],j,_,h=>⟨h,trivial⟩
  |y::l,j,h,k=>⟨h.1,Vals.snoc h.2 (by rw [Nat.add_assoc,Nat.add_comm 1];exact k)⟩
theorem rng_loop{w:ag}{A:ai}{R:Result→aa→Prop}{e elt target iter:Expr}{scope:Scope}{pos:Pos}{env:Env}{C a it N:Nat}(hN:N≤8){I:Heap→Prop}{val:Nat→Value→Prop}(he:e= .ListComp elt [⟨target,iter,[],0⟩] scope pos)(hh:A.handled=none)(room:A.depth+70<recursionLimit)(hit:322≤it)(hI:∀s s',Nxt [it,C+322,a+322] s s'→I s.heap→I s'.heap)(turn:RgT w A e env C a it N I val):
    ∀(n k k0 nn m:Nat) (ts:List Value) {s:aa} {τ:Nat→Nat},ts.length+n≤N→Vals val 0 ts→KTH w s.heap→s.heap.get? (C+322)=some (dcK w.params τ k0 nn k)→(k=0→nn=0)→s.heap.get? (a+322)=some (lstO ts m)→I s.heap→s.heap.get? it=some (bs (U ts.length) (U n) 1)→
      (∀s' (ts':List Value) m' τ' k' n' q',Nxt [it,C+322,a+322] s s'→s'.heap.get? (C+322)=some (dcK w.params τ' k' n' q')→(q'=0→n'=0)→s'.heap.get? (a+322)=some (lstO ts' m')→Vals val 0 ts'→ts'.length=ts.length+n→R (.ok .next) s')→
      codeAny (model pw w) A (lpC e (.ref it) (.ref (a+322)) env) R s
  |0,k,k0,nn,m,ts,s,τ,hL,hv,W,hC,hn,ha,hI',hi,kk=>by
    have na:a+322∉[it]:=notin1 (ne_cls ha hi (show Value.type "list"≠Value.type "range_iterator" by decide))
    have nC:C+322∉[it]:=notin1 (ne_cls hC hi (by cases k<;>exact (show Value.type "dict"≠Value.type "range_iterator" by decide)))
    refine cE he (bX W hh (rmz room rfl) hi hit fun s1 x1=> ?_)
    exact kk s1 ts m τ k0 nn k (x1.weak (fun _ h=>(List.mem_singleton.mp h)▸.head _)) (x1.keep hC nC) hn (x1.keep ha na) hv rfl
  |n+1,k,k0,nn,m,ts,s,τ,hL,hv,W,hC,hn,ha,hI',hi,kk=>by
    have cC:(dcK w.params τ k0 nn k).cls= .type "dict":=by cases k<;>rfl
    have na:a+322∉[it]:=notin1 (ne_cls ha hi (show Value.type "list"≠Value.type "range_iterator" by decide))
    have nC:C+322∉[it]:=notin1 (ne_cls hC hi (by rw [cC];exact (show Value.type "dict"≠Value.type "range_iterator" by decide)))
    refine cE he (bJ W hh (rmz room rfl) hi hit fun s1 x1 i1=> ?_)
    have w1:Nxt [it,C+322,a+322] s s1:=x1.weak (fun _ h=>(List.mem_singleton.mp h)▸.head _)
    have W1:=W.nxt x1 (High.one hit)
    have C1:=x1.keep hC nC
    refine turn ts.length k0 k nn m ts τ s.toks W1 C1 hn (x1.keep ha na) (hI _ _ w1 hI') (by lia) (by lia) fun s2 τ2 n2 m2 x x2 C2 a2 v2=> ?_
    have w2:Nxt [it,C+322,a+322] s1 s2:=x2.weak fun _ h=> .tail _ h
    have l2:(ts++[x]).length=ts.length+1:=aA
    refine rng_loop hN he hh room hit hI turn n 1 ts.length n2 m2 (ts++[x]) (by lia) (hv.snoc (by rw [Nat.zero_add];exact v2)) (W1.nxt x2 (High.cons (.inl (ab _ _)) (High.one (ab _ _)))) C2 (fun h=>absurd h (by decide)) a2 (hI _ _ w2 (hI _ _ w1 hI')) (by
      rw [l2]
      exact x2.keep i1 (notin2 (ne_cls i1 C1 (by rw [cC];exact (show Value.type "range_iterator"≠Value.type "dict" by decide))) (ne_cls i1 (x1.keep ha na) (show Value.type "range_iterator"≠Value.type "list" by decide)))) fun s' ts' m' τ' k' n' q' X hC' hq' ha' hv' hl'=>kk s' ts' m' τ' k' n' q' (w1.trans (w2.trans X)) hC' hq' ha' hv' (by rw [hl',l2];lia)
noncomputable def eRQ(w:ag):Expr:=callA (sT (bLW w 5))
noncomputable def clQ(c0 c1:Nat):List (Str×Addr):=[(S "q",c0+322),(S "p",c1+322)]
theorem rqT{w:ag}{A:ai}{B c0 c1 c2 c3 C a it p q t0 t1:Nat}(hh:A.handled=none)(room:A.depth+60<recursionLimit)(q1:2≤q)(q2:q<8)(p2:p<q):RgT w A (eRQ w) (cenvL w (eRQ w) (clQ c0 c1) C B c0 c1 c2 c3) C a it 8 (fun h=>h.get? (c0+322)=some (cellO (some (.int (U q) t0)))∧h.get? (c1+322)=some (cellO (some (.int (U p) t1)))) (fun j x=>∃t,x= .int (U (rkQ p q j)) t):=by
  intro s E Q j k0 k nn m ts τ t W hC hn ha ⟨h0,h1⟩ lt lj kk
  have cC:(dcK w.params τ k0 nn k).cls= .type "dict":=by cases k<;>rfl
  have nCa:C+322≠a+322:=ne_cls hC ha (by rw [cC];exact cDL)
  have q0:∀{y:Nat} {o:Option Value},s.heap.get? y=some (cellO o)→y∉[C+322,a+322]:=fun h=>notin2 (ne_cls h hC (by rw [cC];exact (show Value.type "cell"≠Value.type "dict" by decide))) (ne_cls h ha (show Value.type "cell"≠Value.type "list" by decide))
  have e0:dcK w.params τ k0 nn k=dcK w.params τ k0 (bi k 0 nn) k:=by
    cases k with
    |zero=>rw [hn rfl];rfl
    |succ k=>rfl
  rw [e0] at hC
  have hM:High [C+322,a+322]:=High.cons (.inl (ab _ _)) (High.one (ab _ _))
  have sz:(ts:List Value).toArray.size≤sizeLine:=by rw [List.size_toArray];exact ad (au lt) (by decide)
  refine segU [C+322,a+322] [(c0+322,_),(c1+322,_)] 60 W hh (.cons hC (.cons ha .nil)) (.cons h0 (.cons h1 .nil)) hM (List.nodup_cons.mpr ⟨notin1 nCa,az _⟩) (djc (q0 h0) (dj1 (q0 h1))) room rfl [] fun A₀ c Q1 hQ1 uA₀=> ?_
  have ms:IntMulOk (U j) (U p):=cx (cj (aC (show j<2^3 from lj) (by decide))) (cj (aC (show p<2^3 from aC p2 q2) (by decide)))
  have qs:¬((U q==0)=true):=fun e=>by
    have e:(q:Int)=0:=eq_of_beq e
    lia
  refine am (f:= .next) 22 0x4100d20041000000050001000000020002004000400040 [0,1] [((ts:List Value).toArray.size≤sizeLine),(¬((U (q))==0)=true),IntMulOk (U (j)) (U (p))] [some (dcK w.params (tk [bi k s.toks (τ 0),t]) j (bi k 1 nn) 1),some (lstO (ts++[.int (Int.fmod ((U (j)) * (U (p))) (U (q))) (s.toks+2)]) (m+1))] 2 3 (by apply kW1 Q1 w k<;>first|apply hQ1|(intros;kernel_rfl)) (side_cons sz (side_cons qs (side_cons ms no_side))) fun s1 x1 g1=> ?_
  exact kk s1 _ _ _ _ x1 (g1 0) (g1 1) ⟨s.toks+2,by rw [show U j * U p=U (j * p) from rfl,fmN];rfl⟩
theorem lwK{w:ag}{s:aa}{A:ai}{E:Value→aa→Prop}{Q:Value→aa→Prop}{B c0 c1 c2 c3 p q t0 t1:Nat}(W:KTH w s.heap)(hh:A.handled=none)(room:A.depth+130<recursionLimit)(hu:A.units+200<cLine)(hB:322≤B)(h0:s.heap.get? (c0+322)=some (cellO (some (.int (U q) t0))))(h1:s.heap.get? (c1+322)=some (cellO (some (.int (U p) t1))))(q1:2≤q)(q2:q<8)(p2:p<q)
    (kk:∀s' y xs m,Nxt [] s s'→s'.heap.get? (y+322)=some (lstO xs m)→Vals (fun j x=>∃t,x= .int (U (rkQ p q j)) t) 0 xs→xs.length=q+1→Q (.ref (y+322)) s'):
    wpAny (model pw w) A (eval (eRQ w) (enL w B c0 c1 c2 c3)) Q E s:=by
  refine dO [] [(c0+322,_),(c1+322,_)] 60 W hh .nil (.cons h0 (.cons h1 .nil)) ac nn0 dn0 (rmz room rfl) rfl [] fun A₀ c Q1 hQ1 uA₀=> ?_
  refine av (c':=(.call (.builtin "range.__iter__") ⟨[.ref s.heap.objs.size],[]⟩)) (d:=0) (u:=10) 32 0x400040004000000040004000400000000000000003000100000000 [0] [True] [some (⟨.type "range",none,.fields #[.int 0 (s.toks+2),.int ((U (q))+1) (s.toks+1),.int 1 (s.toks+3)],#[]⟩)] 1 4 (by apply cW1 Q1 w<;>first|apply hQ1|(intro w;kernel_rfl)) (side_cons trivial no_side) fun s1 x1 g1 A' R' hA dA uA res1=> ?_
  have W1:=W.nxt x1 ac
  have ur:=cb 0 (q+1) (by decide) (by lia)
  refine bd (g1 0) ur.1 ur.2 fun s2 x2 i2=> ?_
  have W2:=W1.nxt x2 ac
  have k2:∀{p:Nat} {o:Obj},s.heap.get? p=some o→s2.heap.get? p=some o:=fun h=>x2.keep0 (x1.keep0 h)
  refine Rsm.go (lim:=60) res1 [] [(s1.heap.objs.size,_),(c0+322,_),(c1+322,_)] W2 .nil (.cons i2 (.cons (k2 h0) (.cons (k2 h1) .nil))) ac nn0 dn0 (rmz room rfl) rfl [] fun Q2 hQ2=> ?_
  refine av (c':=cmpC (eRQ w) (.ref s1.heap.objs.size) (.ref s2.heap.objs.size) (clQ c0 c1) (s2.heap.objs.size+1) (enL w B c0 c1 c2 c3)) (d:=0) (u:=10) 3 0x1 [0,1] [] [some (lstO [] 0),some (dcO [] 0)] 2 0 (by apply cW2 Q2 Q1 w<;>first|apply hQ2|apply hQ1|(intro w;kernel_rfl)) no_side fun s3 x3 g3 A2 R2 hA2 dA2 uA2 res2=> ?_
  obtain ⟨y,hy⟩:∃y,s2.heap.objs.size=y+322:=(aW W2.2)
  have dA2:A2.depth≤A.depth+0:=dA2
  have W3:=W2.nxt x3 ac
  have a3:s3.heap.get? s2.heap.objs.size=_:=(g3 0)
  have C3:s3.heap.get? (s2.heap.objs.size+1)=_:=(g3 1)
  have eC:s2.heap.objs.size+1=(y+1)+322:=by rw [hy]
  have l12:s.heap.objs.size≤s2.heap.objs.size:=ad x1.heap.size x2.heap.size
  rw [eC] at C3
  rw [hy] at a3 l12
  have l13:s.heap.objs.size≤y+1+322:=ad l12 (au (Nat.add_lt_add_right (aO y) 322))
  rw [eC,hy]
  have nn:∀{p:Nat} {o:Obj},s.heap.get? p=some o→p∉[s1.heap.objs.size,y+1+322,y+322]:=fun h=>d9 (ay (ah (an h) x1.heap.size)) (ay (ah (an h) l13)) (ay (ah (an h) l12))
  refine co rfl (cz (x3.keep0 i2)) (rng_loop (τ:=tk []) (al 8) rfl hA2 (rm room dA2 rfl) W1.2 (fun u u' x h=>⟨x.keep h.1 (nn h0),x.keep h.2 (nn h1)⟩) (rqT hA2 (rm room dA2 rfl) q1 q2 p2) (q+1) 0 0 0 0 [] (by show 0+(q+1)≤8;lia) trivial W3 C3 (fun _=>rfl) a3 ⟨x3.keep0 (k2 h0),x3.keep0 (k2 h1)⟩ (x3.keep0 i2) fun s4 xs m4 τ4 k4 n4 q4 x4 C4 hq4 a4 v4 l4=> ?_)
  have hM4:High [s1.heap.objs.size,y+1+322,y+322]:=High.cons (.inl W1.2) (High.cons (.inl (ab _ _)) (High.one (ab _ _)))
  have naC:y+322∉[y+1+322]:=notin1 (ay (Nat.add_lt_add_right (aO y) 322))
  have W4:=W3.nxt x4 hM4
  have fin:∀s5,Nxt [s2.heap.objs.size+1] s4 s5→Q (.ref s2.heap.objs.size) s5:=fun s5 x5=>by
    rw [eC] at x5
    rw [hy]
    have X:Nxt [s1.heap.objs.size,y+1+322,y+322] s s5:=x1.nil.trans (x2.nil.trans (x3.nil.trans (x4.trans (x5.weak fun c h=>by rw [List.mem_singleton.mp h];exact .tail _ (.head _)))))
    exact kk s5 y xs m4 (((X.drop x1.heap.size).drop l13).drop l12) (x5.keep a4 naC) v4 (l4.trans (Nat.zero_add _))
  rw [←eC] at C4
  rcases q4 with _|q4
  · refine Rsm.go (lim:=60) res2 [s2.heap.objs.size+1] [] W4 (.cons C4 .nil) .nil (High.one (ad W2.2 (aK _))) (az _) dj0 (rmz room rfl) rfl [] fun Q3 hQ3=> ?_
    refine am (f:=(.ret (.ref s2.heap.objs.size))) 1 0x40 [0] [] [some (⟨.type "dict",none,.dict #[] n4,#[]⟩)] 1 0 (by apply cW3 Q3 Q2 Q1 w<;>first|apply hQ3|apply hQ2|apply hQ1|(intro w;kernel_rfl)) no_side fun s5 x5 _=>fin s5 x5
  · refine Rsm.go (lim:=60) res2 [s2.heap.objs.size+1] [] W4 (.cons C4 .nil) .nil (High.one (ad W2.2 (aK _))) (az _) dj0 (rmz room rfl) rfl [] fun Q3 hQ3=> ?_
    refine am (f:=(.ret (.ref s2.heap.objs.size))) 5 0x4000400040 [0] [] [some (⟨.type "dict",none,.dict #[] (n4+1),#[]⟩)] 1 0 (by apply cW3 Q3 Q2 Q1 w<;>first|apply hQ3|apply hQ2|apply hQ1|(intro w;kernel_rfl)) no_side fun s5 x5 _=>fin s5 x5
theorem ints_of{f:Nat→Int}{xs:List Value}(h:∀j,j<xs.length→∃t,xs[j]? =some (.int (f j) t)):∃L:List (Int×Tok),xs=L.map fD∧L.map (·.1)=(List.range xs.length).map f:=by
  refine ⟨xs.map fun v=>match v with| .int x t=>(x,t)|_=>(0,0),?_,?_⟩
  · refine List.ext_getElem? fun j=> ?_
    rw [aI,aI]
    by_cases hj:j<xs.length
    · obtain ⟨t,e⟩:=h j hj
      rw [e];rfl
    · rw [List.getElem?_eq_none (Nat.le_of_not_lt hj)];rfl
  · refine List.ext_getElem? fun j=> ?_
    rw [List.map_map,aI,aI]
    by_cases hj:j<xs.length
    · obtain ⟨t,e⟩:=h j hj
      rw [e,List.getElem?_range hj];rfl
    · rw [List.getElem?_eq_none (Nat.le_of_not_lt hj),List.getElem?_eq_none (by rw [List.length_range];exact Nat.le_of_not_lt hj)];rfl
theorem Vals.get{val:Nat→Value→Prop}:∀{l:List Value} {i j:Nat},Vals val i l→j<l.length→∃x,l[j]? =some x∧val (i+j) x
  |[],_,_,_,h=>absurd h (Nat.not_lt_zero _)
  |x::l,i,0,h,_=>⟨x,rfl,h.1⟩
  |x::l,i,j+1,h,k=>by
    obtain ⟨y,e,v⟩:=Vals.get h.2 (Nat.lt_of_succ_lt_succ k)
    exact ⟨y,e,by rw [show i+(j+1)=i+1+j by lia];exact v⟩
theorem lw5{w:ag}{s:aa}{A:ai}{E:Value→aa→Prop}{Q:Flow→aa→Prop}{B c0 c1 c2 c3 p q t0 t1 sc dr l k m:Nat}{τ:Nat→Nat}{v:Nat→Value}{xs:List Value}(W:KTH w s.heap)(hh:A.handled=none)(room:A.depth+130<recursionLimit)(hu:A.units+200<cLine)(hB:322≤B)(hf:s.heap.get? B=some (fLW w.params τ k (v4 sc dr v++[.ref (l+322)])))(h0:s.heap.get? (c0+322)=some (cellO (some (.int (U q) t0))))(h1:s.heap.get? (c1+322)=some (cellO (some (.int (U p) t1))))(q1:2≤q)(q2:q<8)(p2:p<q)(hl:s.heap.get? (l+322)=some (lstO xs m))(hx:RKl p q q xs)
    (kk:∀s',Nxt [] s s'→Q .next s'):
    wpAny (model pw w) A (execs [bLW w 5] (enL w B c0 c1 c2 c3)) Q E s:=by
  refine wpAny_execs_cons (wpAny_If (wpAny_isTrue_Compare1 (wpAny_mono (Q:=fun v' s'=>v'= .ref (l+322)∧Nxt [] s s') (E:=E) ?_ (fun v2 s1 h2=> ?_) fun _ _ e=>e)))
  · obtain ⟨w,b,rfl⟩:=bM w
    refine dO [] [(B,_)] 60 W hh .nil (.cons hf .nil) ac nn0 dn0 (rmz room rfl) rfl [] fun A₀ c Q1 hQ1 _=> ?_
    refine am (f:=(.ret (.ref (l+322)))) 2 0x1 [] [] [] 0 0 (by apply kW1 Q1 w k<;>first|apply hQ1|(intros;kernel_rfl)) no_side fun s2 x2 g2=>⟨rfl,x2⟩
  · obtain ⟨rfl,x1⟩:=h2
    refine lwK (W.nxt x1 ac) hh room hu hB (x1.keep0 h0) (x1.keep0 h1) q1 q2 p2 fun s2 y ys m2 x2 y2 vy ly=> ?_
    obtain ⟨L,e1,e2⟩:=ints_of (f:=fun j=>U (rkQ p q j)) (xs:=xs) fun j hj=>hx.2 j (by have:=hx.1;lia)
    obtain ⟨M,e3,e4⟩:=ints_of (f:=fun j=>U (rkQ p q j)) (xs:=ys) fun j hj=>by
      obtain ⟨x,g1,t,rfl⟩:=vy.get hj
      exact ⟨t,by rw [g1,Nat.zero_add]⟩
    subst e1 e3
    refine ints_ne (x2.keep0 (x1.keep0 hl)) y2 (by lia) (wpAny_truthy_bool ?_)
    rw [e2,e4,hx.1,ly,decide_eq_true rfl]
    exact wpAny_execs_nil (wpAny_execs_nil (kk s2 (x1.trans x2)))
theorem lw6{w:ag}{s:aa}{A:ai}{E:Value→aa→Prop}{Q:Flow→aa→Prop}{B c0 c1 c2 c3 q t0 sc dr l k nd:Nat}{τ t D:Nat→Nat}{v:Nat→Value}{e:Bool}(W:KTH w s.heap)(hh:A.handled=none)(room:A.depth+110<recursionLimit)(hB:322≤B)(hf:s.heap.get? B=some (fLW w.params τ k (v4 sc dr v++[.ref (l+322)])))(hd:s.heap.get? (dr+322)=some (lstO (iD D t) nd))(h0:s.heap.get? (c0+322)=some (cellO (some (.int (U q) t0))))(h2:s.heap.get? (c2+322)=some (cellO none))(h3:s.heap.get? (c3+322)=some (cellO none))(n23:c2≠c3)(q1:2≤q)(q2:q<8)(bD:D 2<2^62)(he:(Int.fmod (U (D 2 / q)) 2==0)= !e)
    (kk:∀s' t2 t3,Nxt [c2+322,c3+322] s s'→s'.heap.get? (c2+322)=some (cellO (some (.int (U (D 2 % q)) t2)))→s'.heap.get? (c3+322)=some (cellO (some (.str (whS e) t3)))→Q .next s'):
    wpAny (model pw w) A (execs [bLW w 6,bLW w 7] (enL w B c0 c1 c2 c3)) Q E s:=by
  refine aT [c2+322,c3+322] [(B,_),(dr+322,_),(c0+322,_)] 60 W hh (.cons h2 (.cons h3 .nil)) (.cons hf (.cons hd (.cons h0 .nil))) (High.cons (.inl (ab _ _)) (High.one (ab _ _))) (List.nodup_cons.mpr ⟨notin1 (fun q=>n23 (Nat.add_right_cancel q)),az _⟩) (djc (notin2 (ne_cls hf h2 (Ne.symm cCF)) (ne_cls hf h3 (Ne.symm cCF))) (djc (notin2 (ne_cls hd h2 (show Value.type "list"≠Value.type "cell" by decide)) (ne_cls hd h3 (show Value.type "list"≠Value.type "cell" by decide))) (dj1 (notin2 (fun q=>by rw [q,h2] at h0;cases h0) (fun q=>by rw [q,h3] at h0;cases h0))))) (rmz room rfl) rfl [] fun A₀ c Q1 hQ1 uA₀=> ?_
  have z2:¬((U q==0)=true):=fun e=>by
    have e:(q:Int)=0:=eq_of_beq e
    lia
  refine am (f:= .next) 56 (cond e 0x41004100000010000000050000000600030002000000020002000200020001004000400000000500030002000000020002000200020001 0x41004100010010000000050000000600030002000000020002000200020001004000400000000500030002000000020002000200020001) [0,1] [(((Int.fmod (Int.fdiv (U (D 2)) (U (q))) 2)==0)= !e),(¬(2==0)=true),(¬((U (q))==0)=true∧¬(PySem.Builtin.divisionGoesByPylong (U (D 2)) (U (q)))=true),(¬((U (q))==0)=true)] [some (cellO (some (.int (Int.fmod (U (D 2)) (U (q))) (s.toks+1)))),some (cellO (some (.str (whS e) (s.toks+7))))] 2 8 (by apply eW1 Q1 w e k<;>first|apply hQ1|(intros;kernel_rfl)) (side_cons (by rw [fdN];exact he) (side_cons (by decide) (side_cons ⟨z2,no_pylong _ _ bD (by show q<_;lia)⟩ (side_cons z2 no_side)))) fun s1 x1 g1=> ?_
  have y2:s1.heap.get? (c2+322)=some (cellO (some (.int _ _))):=(g1 0)
  rw [fmN] at y2
  exact kk s1 _ _ x1 y2 (g1 1)
theorem lw8{w:ag}{s:aa}{A:ai}{E:Value→aa→Prop}{Q:Flow→aa→Prop}{B c0 c1 c2 c3 q t0 t3 sc dr l k nd:Nat}{τ t D:Nat→Nat}{v:Nat→Value}{e o:Bool}(W:KTH w s.heap)(hh:A.handled=none)(room:A.depth+110<recursionLimit)(hB:322≤B)(hf:s.heap.get? B=some (fLW w.params τ k (v4 sc dr v++[.ref (l+322)])))(hd:s.heap.get? (dr+322)=some (lstO (iD D t) nd))(h0:s.heap.get? (c0+322)=some (cellO (some (.int (U q) t0))))(h3:s.heap.get? (c3+322)=some (cellO (some (.str (whS e) t3))))(q1:2≤q)(q2:q<8)(bD:D 2<2^62)(bD3:D 3<2^62)(ho:(Int.fmod (U (D 2 / q / 2)) 2==1)=o)
    (kk:∀s' (τ':Nat→Nat) t5 t6,Nxt [B] s s'→s'.heap.get? B=some (fLW w.params τ' k (v4 sc dr v++[.ref (l+322),.str (otS e o) t5,.int (U (q - D 3 / 6 % 3)) t6]))→Q .next s'):
    wpAny (model pw w) A (execs [bLW w 8,bLW w 9] (enL w B c0 c1 c2 c3)) Q E s:=by
  have z2:¬((U q==0)=true):=fun e=>by
    have e:(q:Int)=0:=eq_of_beq e
    lia
  have z3:U q - Int.fmod (Int.fdiv (U (D 3)) 6) 3=U (q - D 3 / 6 % 3):=by
    rw [show (6:Int)=U 6 from rfl,fdN,show (3:Int)=U 3 from rfl,fmN]
    show (q:Int) - ((D 3 / 6 % 3:Nat):Int)=((q - D 3 / 6 % 3:Nat):Int)
    lia
  refine aT [B] [(dr+322,_),(c0+322,_),(c3+322,_)] 60 W hh (.cons hf .nil) (.cons hd (.cons h0 (.cons h3 .nil))) (High.one hB) (az _) (djc (notin1 (ne_cls hd hf (Ne.symm cFL))) (djc (notin1 (ne_cls h0 hf cCF)) (dj1 (notin1 (ne_cls h3 hf cCF))))) (rmz room rfl) rfl [] fun A₀ c Q1 hQ1 uA₀=> ?_
  cases o
  · refine am (f:= .next) 72 0x40004000000004000000050000000600010000000100010001000100400002004000400000001000000005000000060000000600020001000000010001000100010040 [0] [True,(¬(3==0)=true),(¬(6==0)=true∧¬(PySem.Builtin.divisionGoesByPylong (U (D 3)) 6)=true),(((Int.fmod (Int.fdiv (Int.fdiv (U (D 2)) (U (q))) 2) 2)==1)=false),(¬(2==0)=true),(¬(2==0)=true∧¬(PySem.Builtin.divisionGoesByPylong (Int.fdiv (U (D 2)) (U (q))) 2)=true),(¬((U (q))==0)=true∧¬(PySem.Builtin.divisionGoesByPylong (U (D 2)) (U (q)))=true)] [some (fLW w.params (tk [τ 0,τ 1,τ 2,τ 3,τ 4,s.toks+8,s.toks+15]) k (v4 sc dr v++[.ref (l+322),.str (otS e false) (s.toks+7),.int ((U (q)) - (Int.fmod (Int.fdiv (U (D 3)) 6) 3)) (s.toks+14)]))] 1 16 (by apply eW1 Q1 w e k<;>first|apply hQ1|(intros;kernel_rfl)) (side_cons trivial (side_cons (by decide) (side_cons ⟨by decide,no_pylong _ _ bD3 (by decide)⟩ (side_cons (by rw [fdN,show (2:Int)=U 2 from rfl,fdN];exact ho) (side_cons (by decide) (side_cons ⟨by decide,by rw [fdN];exact no_pylong _ _ (aH (Nat.div_le_self _ _) bD) (by decide)⟩ (side_cons ⟨z2,no_pylong _ _ bD (by show q<_;lia)⟩ no_side))))))) fun s1 x1 g1=> ?_
    have f1:s1.heap.get? B=_:=(g1 0)
    rw [z3] at f1
    exact kk s1 _ _ _ x1 f1
  · refine am (f:= .next) 89 0x400040000000040000000500000006000100000001000100010001004000020040004000410041004100410000000000030001001000000005000000060000000600020001000000010001000100010040 [0] [True,(¬(3==0)=true),(¬(6==0)=true∧¬(PySem.Builtin.divisionGoesByPylong (U (D 3)) 6)=true),(((Int.fmod (Int.fdiv (Int.fdiv (U (D 2)) (U (q))) 2) 2)==1)=true),(¬(2==0)=true),(¬(2==0)=true∧¬(PySem.Builtin.divisionGoesByPylong (Int.fdiv (U (D 2)) (U (q))) 2)=true),(¬((U (q))==0)=true∧¬(PySem.Builtin.divisionGoesByPylong (U (D 2)) (U (q)))=true)] [some (fLW w.params (tk [τ 0,τ 1,τ 2,τ 3,τ 4,s.toks+10,s.toks+17]) k (v4 sc dr v++[.ref (l+322),.str (otS e true) (s.toks+9),.int ((U (q)) - (Int.fmod (Int.fdiv (U (D 3)) 6) 3)) (s.toks+16)]))] 2 18 (by apply eW1 Q1 w e k<;>first|apply hQ1|(intros;kernel_rfl)) (side_cons trivial (side_cons (by decide) (side_cons ⟨by decide,no_pylong _ _ bD3 (by decide)⟩ (side_cons (by rw [fdN,show (2:Int)=U 2 from rfl,fdN];exact ho) (side_cons (by decide) (side_cons ⟨by decide,by rw [fdN];exact no_pylong _ _ (aH (Nat.div_le_self _ _) bD) (by decide)⟩ (side_cons ⟨z2,no_pylong _ _ bD (by show q<_;lia)⟩ no_side))))))) fun s1 x1 g1=> ?_
    have f1:s1.heap.get? B=_:=(g1 0)
    rw [z3] at f1
    exact kk s1 _ _ _ x1 f1
noncomputable def eMK(w:ag):Expr:=callA (sT (bLW w 10))
noncomputable def clM(c2 c3:Nat):List (Str×Addr):=[(S "whites",c3+322),(S "spot",c2+322)]
theorem mkT{w:ag}{A:ai}{B c0 c1 c2 c3 C a it sp t2 t3:Nat}{e:Bool}(hh:A.handled=none)(room:A.depth+60<recursionLimit):RgT w A (eMK w) (cenvL w (eMK w) (clM c2 c3) C B c0 c1 c2 c3) C a it 7 (fun h=>h.get? (c2+322)=some (cellO (some (.int (U sp) t2)))∧h.get? (c3+322)=some (cellO (some (.str (whS e) t3)))) (fun j x=>∃t,x= .str ⟨#[mkC sp e j]⟩ t):=by
  intro s E Q j k0 k nn m ts τ t W hC hn ha ⟨h0,h1⟩ lt lj kk
  have cC:(dcK w.params τ k0 nn k).cls= .type "dict":=by cases k<;>rfl
  have nCa:C+322≠a+322:=ne_cls hC ha (by rw [cC];exact cDL)
  have q0:∀{y:Nat} {o:Option Value},s.heap.get? y=some (cellO o)→y∉[C+322,a+322]:=fun h=>notin2 (ne_cls h hC (by rw [cC];exact (show Value.type "cell"≠Value.type "dict" by decide))) (ne_cls h ha (show Value.type "cell"≠Value.type "list" by decide))
  have e0:dcK w.params τ k0 nn k=dcK w.params τ k0 (bi k 0 nn) k:=by
    cases k with
    |zero=>rw [hn rfl];rfl
    |succ k=>rfl
  rw [e0] at hC
  have hM:High [C+322,a+322]:=High.cons (.inl (ab _ _)) (High.one (ab _ _))
  have sz:(ts:List Value).toArray.size≤sizeLine:=by rw [List.size_toArray];exact ad (au lt) (by decide)
  obtain ⟨y,hy⟩:∃y,y=48+j:=⟨_,rfl⟩
  by_cases hs:U j=U sp
  · refine segU [C+322,a+322] [(c2+322,_),(c3+322,_)] 60 W hh (.cons hC (.cons ha .nil)) (.cons h0 (.cons h1 .nil)) hM (List.nodup_cons.mpr ⟨notin1 nCa,az _⟩) (djc (q0 h0) (dj1 (q0 h1))) room rfl [.str ⟨#[y]⟩ 0] fun A₀ c Q1 hQ1 uA₀=> ?_
    refine am (f:= .next) 26 0x4100d2004100000002000100100001004000400040 [0,1] [((ts:List Value).toArray.size≤sizeLine),(((U (j))==(U (sp)))=true)] [some (dcK w.params (tk [bi k s.toks (τ 0),t]) j (bi k 1 nn) 1),some (lstO (ts++[.str ⟨#[cond e 9 32]⟩ (s.toks+2)]) (m+1))] 2 3 (by apply eW1 Q1 w e k<;>first|apply hQ1|(intros;kernel_rfl)) (side_cons sz (side_cons (beq_iff_eq.mpr hs) no_side)) fun s1 x1 g1=> ?_
    exact kk s1 _ _ _ _ x1 (g1 0) (g1 1) ⟨s.toks+2,by unfold mkC;rw [if_pos (Int.ofNat.inj hs)]⟩
  · refine segU [C+322,a+322] [(c2+322,_),(c3+322,_)] 60 W hh (.cons hC (.cons ha .nil)) (.cons h0 (.cons h1 .nil)) hM (List.nodup_cons.mpr ⟨notin1 nCa,az _⟩) (djc (q0 h0) (dj1 (q0 h1))) room rfl [.str ⟨#[y]⟩ 0] fun A₀ c Q1 hQ1 uA₀=> ?_
    refine am (f:= .next) 24 0x4100d200410000000000ca0040000000100001004000400040 [0,1] [((ts:List Value).toArray.size≤sizeLine),((decide ((U (j))< -(2^63:Int))||decide ((U (j))≥2^63))=false∧∃c,(seqIndex? (U (j)) ((S "0123456"):Str).length).bind (((S "0123456"):Str).cps[·]?)=some c∧(⟨#[y]⟩:Str)=⟨#[c]⟩),(((U (j))==(U (sp)))=false)] [some (dcK w.params (tk [bi k s.toks (τ 0),t]) j (bi k 1 nn) 1),some (lstO (ts++[.str ⟨#[y]⟩ (s.toks+2)]) (m+1))] 2 3 (by apply kW1 Q1 w k<;>first|apply hQ1|(intros;kernel_rfl)) (side_cons sz (side_cons (li_sg lj hy) (side_cons (beq_eq_false_iff_ne.mpr hs) no_side))) fun s1 x1 g1=> ?_
    exact kk s1 _ _ _ _ x1 (g1 0) (g1 1) ⟨s.toks+2,by unfold mkC;rw [if_neg (fun h:j=sp=>hs (by rw [h])),hy]⟩
theorem strs_of{f:Nat→Str}{xs:List Value}(h:∀j,j<xs.length→∃t,xs[j]? =some (.str (f j) t)):∃L:List (Str×Tok),xs=strValues L∧L.map (·.1)=(List.range xs.length).map f:=by
  refine ⟨xs.map fun v=>match v with| .str x t=>(x,t)|_=>(S "",0),?_,?_⟩
  · refine List.ext_getElem? fun j=> ?_
    unfold strValues
    rw [aI,aI]
    by_cases hj:j<xs.length
    · obtain ⟨t,e⟩:=h j hj
      rw [e];rfl
    · rw [List.getElem?_eq_none (Nat.le_of_not_lt hj)];rfl
  · refine List.ext_getElem? fun j=> ?_
    rw [List.map_map,aI,aI]
    by_cases hj:j<xs.length
    · obtain ⟨t,e⟩:=h j hj
      rw [e,List.getElem?_range hj];rfl
    · rw [List.getElem?_eq_none (Nat.le_of_not_lt hj),List.getElem?_eq_none (by rw [List.length_range];exact Nat.le_of_not_lt hj)];rfl
theorem lw10{w:ag}{s:aa}{A:ai}{E:Value→aa→Prop}{Q:Flow→aa→Prop}{B c0 c1 c2 c3 sc dr l k t2 t3 t5 t6 sp left:Nat}{τ:Nat→Nat}{v:Nat→Value}{e:Bool}{ot:Str}(W:KTH w s.heap)(hh:A.handled=none)(room:A.depth+110<recursionLimit)(hu:A.units+200<cLine)(hB:322≤B)(hf:s.heap.get? B=some (fLW w.params τ k (v4 sc dr v++[.ref (l+322),.str ot t5,.int (U left) t6])))(h2:s.heap.get? (c2+322)=some (cellO (some (.int (U sp) t2))))(h3:s.heap.get? (c3+322)=some (cellO (some (.str (whS e) t3))))(l7:left≤7)
    (kk:∀s' (τ':Nat→Nat) t7,Nxt [B] s s'→s'.heap.get? B=some (fLW w.params τ' k (v4 sc dr v++[.ref (l+322),.str ot t5,.int (U left) t6,.str (mkS sp e left) t7]))→Q .next s'):
    wpAny (model pw w) A (execs [bLW w 10] (enL w B c0 c1 c2 c3)) Q E s:=by
  refine aT [] [(B,_),(c2+322,_),(c3+322,_)] 60 W hh .nil (.cons hf (.cons h2 (.cons h3 .nil))) ac nn0 dn0 (rmz room rfl) rfl [] fun A₀ c Q1 hQ1 uA₀=> ?_
  refine av (c':=(.call (.builtin "range.__iter__") ⟨[.ref s.heap.objs.size],[]⟩)) (d:=0) (u:=10) 32 0x4000400040000000400040004000000000000100000000 [0] [] [some (⟨.type "range",none,.fields #[.int 0 (s.toks+1),.int (U (left)) t6,.int 1 (s.toks+2)],#[]⟩)] 1 3 (by apply kW1 Q1 w k<;>first|apply hQ1|(intros;kernel_rfl)) no_side fun s1 x1 g1 A' R' hA dA uA res1=> ?_
  have W1:=W.nxt x1 ac
  have ur:=cb 0 left (by decide) (by lia)
  refine bd (g1 0) ur.1 ur.2 fun s2 x2 i2=> ?_
  have W2:=W1.nxt x2 ac
  have k2:∀{p:Nat} {o:Obj},s.heap.get? p=some o→s2.heap.get? p=some o:=fun h=>x2.keep0 (x1.keep0 h)
  refine Rsm.go (lim:=60) res1 [] [(s1.heap.objs.size,_),(B,_),(c2+322,_),(c3+322,_)] W2 .nil (.cons i2 (.cons (k2 hf) (.cons (k2 h2) (.cons (k2 h3) .nil)))) ac nn0 dn0 (rmz room rfl) rfl [] fun Q2 hQ2=> ?_
  refine av (c':=cmpC (eMK w) (.ref s1.heap.objs.size) (.ref s2.heap.objs.size) (clM c2 c3) (s2.heap.objs.size+1) (enL w B c0 c1 c2 c3)) (d:=0) (u:=10) 3 0x1 [0,1] [] [some (lstO [] 0),some (dcO [] 0)] 2 0 (by apply kW2 Q2 Q1 w k<;>first|apply hQ2|apply hQ1|(intros;kernel_rfl)) no_side fun s3 x3 g3 A2 R2 hA2 dA2 uA2 res2=> ?_
  obtain ⟨y,hy⟩:∃y,s2.heap.objs.size=y+322:=(aW W2.2)
  have dA2:A2.depth≤A.depth+0:=dA2
  have W3:=W2.nxt x3 ac
  have a3:s3.heap.get? s2.heap.objs.size=_:=(g3 0)
  have C3:s3.heap.get? (s2.heap.objs.size+1)=_:=(g3 1)
  have eC:s2.heap.objs.size+1=(y+1)+322:=by rw [hy]
  have l12:s.heap.objs.size≤s2.heap.objs.size:=ad x1.heap.size x2.heap.size
  rw [eC] at C3
  rw [hy] at a3 l12
  have l13:s.heap.objs.size≤y+1+322:=ad l12 (au (Nat.add_lt_add_right (aO y) 322))
  rw [eC,hy]
  have nn:∀{p:Nat} {o:Obj},s.heap.get? p=some o→p∉[s1.heap.objs.size,y+1+322,y+322]:=fun h=>d9 (ay (ah (an h) x1.heap.size)) (ay (ah (an h) l13)) (ay (ah (an h) l12))
  refine co rfl (cz (x3.keep0 i2)) (rng_loop (τ:=tk []) (show 7≤8 by decide) rfl hA2 (rm room dA2 rfl) W1.2 (fun u u' x h=>⟨x.keep h.1 (nn h2),x.keep h.2 (nn h3)⟩) (mkT hA2 (rm room dA2 rfl)) left 0 0 0 0 [] (by show 0+left≤7;lia) trivial W3 C3 (fun _=>rfl) a3 ⟨x3.keep0 (k2 h2),x3.keep0 (k2 h3)⟩ (x3.keep0 i2) fun s4 xs m4 τ4 k4 n4 q4 x4 C4 hq4 a4 v4' l4=> ?_)
  have hM4:High [s1.heap.objs.size,y+1+322,y+322]:=High.cons (.inl W1.2) (High.cons (.inl (ab _ _)) (High.one (ab _ _)))
  have naC:y+322∉[y+1+322]:=notin1 (ay (Nat.add_lt_add_right (aO y) 322))
  have W4:=W3.nxt x4 hM4
  have f4:=x4.keep (x3.keep0 (k2 hf)) (nn hf)
  have nBC:B∉[s2.heap.objs.size+1]:=notin1 (eC▸ay (ah (an hf) l13))
  obtain ⟨L,e1,e2⟩:=strs_of (f:=fun j=>⟨#[mkC sp e j]⟩) (xs:=xs) fun j hj=>by
    obtain ⟨x,g1,t,rfl⟩:=v4'.get hj
    exact ⟨t,by rw [g1,Nat.zero_add]⟩
  rw [show xs.length=left from l4.trans (Nat.zero_add _)] at e2
  subst e1
  rw [←eC] at C4 naC
  have x04:Nxt [s1.heap.objs.size,s2.heap.objs.size,s2.heap.objs.size+1] s s4:=x1.nil.trans (x2.nil.trans (x3.nil.trans (x4.weak fun c h=>by
    rw [←eC,←hy] at h
    rcases List.mem_cons.mp h with rfl|h
    · exact .head _
    · rcases List.mem_cons.mp h with rfl|h
      · exact .tail _ (.tail _ (.head _))
      · exact (List.mem_singleton.mp h)▸.tail _ (.head _))))
  have ok:JoinOk (S "") (L.map (·.1))=true:=c9 (fun t ht=>by
    rw [e2] at ht
    obtain ⟨j,_,rfl⟩:=List.mem_map.mp ht
    exact (by decide:1≤100)) (by rw [e2,ak,List.length_range];lia) (by decide+kernel)
  have ej:Txt.join (S "") (L.map (·.1))=mkS sp e left:=by
    refine Str.ext' (Array.toList_inj.mp ?_)
    rw [join0,e2,mkS_cps,List.flatMap_map]
    generalize List.range left=l
    induction l with
    |nil=>rfl
    |cons x l ih=>rw [List.flatMap_cons,ih];rfl
  have hMC:High [s2.heap.objs.size+1]:=High.one (ad W2.2 (aK _))
  have naB:B∉[s2.heap.objs.size+1]:=nBC
  have fin:∀s5 s6 s7 τ' tk6,Nxt [s2.heap.objs.size+1] s4 s5→Nxt [] s5 s6→Nxt [B] s6 s7→s7.heap.get? B=some (fLW w.params τ' k (v4 sc dr v++[.ref (l+322),.str ot t5,.int (U left) t6,.str (mkS sp e left) tk6]))→Q .next s7:=fun s5 s6 s7 τ' tk6 x5 x6 x7 f7=>by
    have X:Nxt [s1.heap.objs.size,s2.heap.objs.size,s2.heap.objs.size+1,B] s s7:=(x04.weak fun _ h=>aB [B] h).trans ((x5.weak fun c h=>by rw [List.mem_singleton.mp h];exact .tail _ (.tail _ (.head _))).trans (x6.nil.trans (x7.weak fun c h=>by rw [List.mem_singleton.mp h];exact .tail _ (.tail _ (.tail _ (.head _))))))
    rw [hy] at X
    exact kk s7 τ' tk6 (((X.drop x1.heap.size).drop l12).drop (ad l12 (aK _))) f7
  rcases q4 with _|q4
  · refine Rsm.go (lim:=60) res2 [s2.heap.objs.size+1] [(B,_)] W4 (.cons C4 .nil) (.cons f4 .nil) hMC (az _) (dj1 nBC) (rmz room rfl) rfl [] fun Q3 hQ3=> ?_
    refine av (c':=(.call (.builtin "str.join") ⟨[.str (S "") s.toks,.ref s2.heap.objs.size],[]⟩)) (d:=0) (u:=10) 2 0x40 [0] [] [some (⟨.type "dict",none,.dict #[] n4,#[]⟩)] 1 0 (by apply kW3 Q3 Q2 Q1 w k<;>first|apply hQ3|apply hQ2|apply hQ1|(intros;kernel_rfl)) no_side fun s5 x5 g5 A3 R3 hA3 dA3 uA3 res3=> ?_
    rw [hy]
    have f5:=x5.keep f4 nBC
    refine bG L (x5.keep a4 naC) ok fun s6 tk6 x6=> ?_
    rw [ej]
    refine Rsm.go (lim:=60) res3 [B] [] ((W4.nxt x5 hMC).nxt x6 ac) (.cons (x6.keep0 f5) .nil) .nil (High.one hB) (az _) dj0 (rmz room rfl) rfl [] fun Q4 hQ4=> ?_
    refine am (f:= .next) 8 0x400040 [0] [] [some (fLW w.params (tk [τ 0,τ 1,τ 2,τ 3,τ 4,τ 5,τ 6,s6.toks]) k (v4 sc dr v++[.ref (l+322),.str ot t5,.int (U left) t6,.str (mkS sp e left) tk6]))] 1 1 (by apply kW4 Q4 Q3 Q2 Q1 w k<;>first|apply hQ4|apply hQ3|apply hQ2|apply hQ1|(intros;kernel_rfl)) no_side fun s7 x7 g7=>by have f7:s7.heap.get? B=_:=(g7 0);exact fin s5 s6 s7 _ tk6 x5 x6 x7 f7
  · refine Rsm.go (lim:=60) res2 [s2.heap.objs.size+1] [(B,_)] W4 (.cons C4 .nil) (.cons f4 .nil) hMC (az _) (dj1 nBC) (rmz room rfl) rfl [] fun Q3 hQ3=> ?_
    refine av (c':=(.call (.builtin "str.join") ⟨[.str (S "") s.toks,.ref s2.heap.objs.size],[]⟩)) (d:=0) (u:=10) 6 0x4000400040 [0] [] [some (⟨.type "dict",none,.dict #[] (n4+1),#[]⟩)] 1 0 (by apply kW3 Q3 Q2 Q1 w k<;>first|apply hQ3|apply hQ2|apply hQ1|(intros;kernel_rfl)) no_side fun s5 x5 g5 A3 R3 hA3 dA3 uA3 res3=> ?_
    rw [hy]
    have f5:=x5.keep f4 nBC
    refine bG L (x5.keep a4 naC) ok fun s6 tk6 x6=> ?_
    rw [ej]
    refine Rsm.go (lim:=60) res3 [B] [] ((W4.nxt x5 hMC).nxt x6 ac) (.cons (x6.keep0 f5) .nil) .nil (High.one hB) (az _) dj0 (rmz room rfl) rfl [] fun Q4 hQ4=> ?_
    refine am (f:= .next) 8 0x400040 [0] [] [some (fLW w.params (tk [τ 0,τ 1,τ 2,τ 3,τ 4,τ 5,τ 6,s6.toks]) k (v4 sc dr v++[.ref (l+322),.str ot t5,.int (U left) t6,.str (mkS sp e left) tk6]))] 1 1 (by apply kW4 Q4 Q3 Q2 Q1 w k<;>first|apply hQ4|apply hQ3|apply hQ2|apply hQ1|(intros;kernel_rfl)) no_side fun s7 x7 g7=>by have f7:s7.heap.get? B=_:=(g7 0);exact fin s5 s6 s7 _ tk6 x5 x6 x7 f7
theorem lw11{w:ag}{s:aa}{A:ai}{E:Value→aa→Prop}{Q:Flow→aa→Prop}{B c0 c1 c2 c3 sc dr k nd:Nat}{τ t D:Nat→Nat}{v a:Nat→Value}(W:KTH w s.heap)(hh:A.handled=none)(room:A.depth+110<recursionLimit)(hB:322≤B)(hf:s.heap.get? B=some (fLW w.params τ k (v4 sc dr v++[a 4,a 5,a 6,a 7])))(hd:s.heap.get? (dr+322)=some (lstO (iD D t) nd))
    (kk:∀s' (τ':Nat→Nat),Nxt [B] s s'→s'.heap.get? B=some (fLW w.params τ' k (v4 sc dr v++[a 4,a 5,a 6,a 7,.int (U (D 4)) (t 4),.int (U (D 5)) (t 5),.int (U (D 6)) (t 6),.int (U (D 7)) (t 7)]))→Q .next s'):
    wpAny (model pw w) A (execs [bLW w 11] (enL w B c0 c1 c2 c3)) Q E s:=by
  refine aT [B] [(dr+322,_)] 60 W hh (.cons hf .nil) (.cons hd .nil) (High.one hB) (az _) (dj1 (notin1 (ne_cls hd hf (Ne.symm cFL)))) (rmz room rfl) rfl [] fun A₀ c Q1 hQ1 uA₀=> ?_
  refine am (f:= .next) 115 0x40004000400040004000400040004000450043004300420043004300000043004300430043004200430043000000430043004300430042004300430000004300430043004300420043004300000043004300430043004200430043000000430043004300000042004200420042000100410041004100410041000000010001000100010040 [0] [] [some (fLW w.params (tk [τ 0,τ 1,τ 2,τ 3,τ 4,τ 5,τ 6,τ 7,s.toks+1,s.toks+2,s.toks+3,s.toks+4]) k (v4 sc dr v++[a 4,a 5,a 6,a 7,.int (U (D 4)) (t 4),.int (U (D 5)) (t 5),.int (U (D 6)) (t 6),.int (U (D 7)) (t 7)]))] 6 5 (by apply kW1 Q1 w k<;>first|apply hQ1|(intros;kernel_rfl)) no_side fun s1 x1 g1=> ?_
  exact kk s1 _ x1 (g1 0)
theorem mulN{a b:Nat}(ha:a<2^62)(hb:b<2^62):IntMulOk (U a) (U b):=cx (cj (ah ha (Nat.pow_le_pow_right (by decide) (by decide)))) (cj (ah hb (Nat.pow_le_pow_right (by decide) (by decide))))
theorem lw12{w:ag}{s:aa}{A:ai}{E:Value→aa→Prop}{Q:Flow→aa→Prop}{B c0 c1 c2 c3 sc dr k ds dt du dv us ut uu uv:Nat}{τ:Nat→Nat}{v a:Nat→Value}(W:KTH w s.heap)(hh:A.handled=none)(room:A.depth+110<recursionLimit)(hB:322≤B)(hf:s.heap.get? B=some (fLW w.params τ k (v4 sc dr v++[a 4,a 5,a 6,a 7,.int (U ds) us,.int (U dt) ut,.int (U du) uu,.int (U dv) uv])))(b1:ds<2^62)(b2:dt<2^62)(b3:du<2^62)(b4:dv<2^62)
    (kk:∀s' (τ':Nat→Nat) tz ty tx,Nxt [B] s s'→s'.heap.get? B=some (fLW w.params τ' k (v4 sc dr v++[a 4,a 5,a 6,a 7,.int (U ds) us,.int (U dt) ut,.int (U du) uu,.int (U dv) uv,.int ((((2+((U (ds)) * (U (dt))))+((U (ds)) * (U (dv))))+((U (dt)) * (U (du))))+((U (du)) * (U (dv)))) tz,.int (2+((U (du)) * (U (dv)))) ty,.int (2+((U (ds)) * (U (dt)))) tx]))→Q .next s'):
    wpAny (model pw w) A (execs [bLW w 12] (enL w B c0 c1 c2 c3)) Q E s:=by
  refine aT [B] [] 60 W hh (.cons hf .nil) .nil (High.one hB) (az _) dj0 (rmz room rfl) rfl [] fun A₀ c Q1 hQ1 uA₀=> ?_
  refine am (f:= .next) 140 0x4000400040004000400040004400420042004100420042000000420042004200420041004200420000004200420042004200410042004200000042004200420042004100420042000000420042004200000041004100410041000000030000000200400040000000030000000200400040000000030000000200400040000000030000000200400040000000030000000200400040000000030000000200400040 [0] [True,IntMulOk (U (du)) (U (dv)),True,IntMulOk (U (dt)) (U (du)),True,IntMulOk (U (ds)) (U (dv)),True,IntMulOk (U (ds)) (U (dt)),True,IntMulOk (U (du)) (U (dv)),True,IntMulOk (U (ds)) (U (dt))] [some (fLW w.params (tk [τ 0,τ 1,τ 2,τ 3,τ 4,τ 5,τ 6,τ 7,τ 8,τ 9,τ 10,τ 11,s.toks+15,s.toks+16,s.toks+17]) k (v4 sc dr v++[a 4,a 5,a 6,a 7,.int (U (ds)) us,.int (U (dt)) ut,.int (U (du)) uu,.int (U (dv)) uv,.int ((((2+((U (ds)) * (U (dt))))+((U (ds)) * (U (dv))))+((U (dt)) * (U (du))))+((U (du)) * (U (dv)))) (s.toks+14),.int (2+((U (du)) * (U (dv)))) (s.toks+5),.int (2+((U (ds)) * (U (dt)))) (s.toks+2)]))] 5 18 (by apply kW1 Q1 w k<;>first|apply hQ1|(intros;kernel_rfl)) (side_cons trivial (side_cons (mulN b3 b4) (side_cons trivial (side_cons (mulN b2 b3) (side_cons trivial (side_cons (mulN b1 b4) (side_cons trivial (side_cons (mulN b1 b2) (side_cons trivial (side_cons (mulN b3 b4) (side_cons trivial (side_cons (mulN b1 b2) no_side)))))))))))) fun s1 x1 g1=> ?_
  exact kk s1 _ _ _ _ x1 (g1 0)
noncomputable def v15(sc dr:Nat)(v a:Nat→Value)(ds dt du dv:Nat)(u:Nat→Nat)(z y x:Int):List Value:=v4 sc dr v++[a 4,a 5,a 6,a 7,.int (U ds) (u 0),.int (U dt) (u 1),.int (U du) (u 2),.int (U dv) (u 3),.int z (u 4),.int y (u 5),.int x (u 6)]
theorem lw13{w:ag}{s:aa}{A:ai}{E:Value→aa→Prop}{Q:Flow→aa→Prop}{B c0 c1 c2 c3 sc dr k ds dt du dv:Nat}{τ u:Nat→Nat}{v a:Nat→Value}{x y z:Int}(W:KTH w s.heap)(hh:A.handled=none)(room:A.depth+110<recursionLimit)(hB:322≤B)(hf:s.heap.get? B=some (fLW w.params τ k (v15 sc dr v a ds dt du dv u z y x)))(b1:ds<2^62)(b2:dt<2^62)(b3:du<2^62)(b4:dv<2^62)(bx:Bd (2^20) x)(bY:Bd (2^20) y)(bz:Bd (2^20) z)(bxy:Bd (2^20) (x * y))
    (kk:∀s' (τ':Nat→Nat) td sq sa sb t0 t1 n (ta tb:Nat→Nat),Nxt [B] s s'→s'.heap.get? B=some (fLW w.params τ' k (v15 sc dr v a ds dt du dv u z y x++[.int (dn x y z) td,.ref (sq+322)]))→s'.heap.get? (sq+322)=some (sqO w.params t0 t1 sa sb n)→s'.heap.get? (sa+322)=some (m4O (1+U ds * U dt,U ds,U dt,1) ta)→s'.heap.get? (sb+322)=some (m4O (1,U du,U dv,1+U du * U dv) tb)→Q .next s'):
    wpAny (model pw w) A (execs [bLW w 13,bLW w 14] (enL w B c0 c1 c2 c3)) Q E s:=by
  have ms:∀P∈[True,IntMulOk (U (du)) (U (dv)),True,IntMulOk (U (ds)) (U (dt)),True,IntMulOk (x * y) z,IntMulOk x y,True,IntMulOk z z,True,IntMulOk y y,IntMulOk x x],P:=(side_cons trivial (side_cons (mulN b3 b4) (side_cons trivial (side_cons (mulN b1 b2) (side_cons trivial (side_cons (cx bxy bz) (side_cons (cx bx bY) (side_cons trivial (side_cons (cx bz bz) (side_cons trivial (side_cons (cx bY bY) (side_cons (cx bx bx) no_side))))))))))))
  refine aT [B] [] 60 W hh (.cons hf .nil) .nil (High.one hB) (az _) dj0 (rmz room rfl) rfl [] fun A₀ c Q1 hQ1 uA₀=> ?_
  refine am (f:= .next) 124 0x40004000410041004100410000004100410041004100000000000300000002004000400040004000400040000000030000000200400040004000400000000400000002004000000002004000400000000300000002004000400000000300000002004000400000000200400040 [0,1,2,3] [True,IntMulOk (U (du)) (U (dv)),True,IntMulOk (U (ds)) (U (dt)),True,IntMulOk (x * y) z,IntMulOk x y,True,IntMulOk z z,True,IntMulOk y y,IntMulOk x x] [some (fLW w.params (tk [τ 0,τ 1,τ 2,τ 3,τ 4,τ 5,τ 6,τ 7,τ 8,τ 9,τ 10,τ 11,τ 12,τ 13,τ 14,s.toks+8,s.toks+21]) k (v15 sc dr v a ds dt du dv u z y x++[.int (dn x y z) (s.toks+7),.ref s.heap.objs.size])),some (⟨.type "dict",none,.dict #[ew w "a" (s.toks+9) (.ref (s.heap.objs.size+1)),ew w "b" (s.toks+14) (.ref (s.heap.objs.size+2))] 2,#[]⟩),some (m4O (1+U ds * U dt,U ds,U dt,1) (tk [s.toks+12,u 0,u 1,s.toks+13])),some (m4O (1,U du,U dv,1+U du * U dv) (tk [s.toks+15,u 2,u 3,s.toks+18]))] 4 22 (by apply kW1 Q1 w k<;>first|apply hQ1|(intros;kernel_rfl)) ms fun s1 x1 g1=> ?_
  obtain ⟨sq,hq⟩:∃sq,s.heap.objs.size=sq+322:=(aW W.2)
  have f1:s1.heap.get? B=_:=(g1 0)
  have q1:s1.heap.get? s.heap.objs.size=_:=(g1 1)
  have a1:s1.heap.get? (s.heap.objs.size+1)=_:=(g1 2)
  have b1:s1.heap.get? (s.heap.objs.size+2)=_:=(g1 3)
  rw [hq] at f1 q1 a1 b1
  rw [show sq+322+1=sq+1+322 from Nat.succ_add sq 322▸rfl] at q1 a1
  rw [show sq+322+2=sq+2+322 from Nat.add_right_comm _ _ _] at q1 b1
  exact kk s1 _ _ sq (sq+1) (sq+2) _ _ 2 _ _ x1 f1 q1 a1 b1
noncomputable def aL(l:Nat)(ot:Str)(t5:Tok)(a6:Value)(mk:Str)(t7:Tok):Nat→Value:=vk [.none,.none,.none,.none,.ref (l+322),.str ot t5,a6,.str mk t7]
structure LwV where
  sc:Nat
  dr:Nat
  l:Nat
  ot:Str
  t5:Tok
  ms:Str
  t7:Tok
  sq:Nat
  due:Int
  td:Tok
noncomputable def v17(V:LwV)(v:Nat→Value):List Value:=[.ref (V.sc+322),.ref (V.dr+322),v 2,v 3,.ref (V.l+322),.str V.ot V.t5,v 6,.str V.ms V.t7,v 8,v 9,v 10,v 11,v 12,v 13,v 14,.int V.due V.td,.ref (V.sq+322)]
theorem lw15{w:ag}{s:aa}{A:ai}{E:Value→aa→Prop}{Q:Flow→aa→Prop}{B c0 c1 c2 c3 k p sp t1 t2 t3 q m nd:Nat}{τ t D:Nat→Nat}{v:Nat→Value}{V:LwV}{wh:Str}{xs:List Value}{rk:Nat→Nat}(W:KTH w s.heap)(hh:A.handled=none)(room:A.depth+110<recursionLimit)(hB:322≤B)(hf:s.heap.get? B=some (fLW w.params τ k (v17 V v)))(hd:s.heap.get? (V.dr+322)=some (lstO (iD D t) nd))(h1:s.heap.get? (c1+322)=some (cellO (some (.int (U p) t1))))(h2:s.heap.get? (c2+322)=some (cellO (some (.int (U sp) t2))))(h3:s.heap.get? (c3+322)=some (cellO (some (.str wh t3))))(hl:s.heap.get? (V.l+322)=some (lstO xs m))(lx:xs.length=q+1)(q2:q<8)(hx:∀j,j≤q→∃t,xs[j]? =some (.int (U (rk j)) t))(hr:∀j,j≤q→rk j<7)(bD:D 3<2^62)
    (kk:∀s' (τ':Nat→Nat) l2 fo D2 m2 u0 u1,Nxt [B] s s'→s'.heap.get? B=some (fLW w.params τ' k (v17 V v++[.ref (l2+322),.ref (fo+322)]))→s'.heap.get? (l2+322)=some (lstO (refsD D2) m2)→Pts s'.heap D2→fp D2=lineP rk p sp wh V.ot q→s'.heap.get? (fo+322)=some (aX [.int (U (D 3 % 3)) u0,.int (U (D 3 / 3 % 2)) u1,.str V.ms V.t7,.ref (V.sq+322),.int V.due V.td])→Q .next s'):
    wpAny (model pw w) A (execs [bLW w 15,bLW w 16] (enL w B c0 c1 c2 c3)) Q E s:=by
  refine aT [] [(B,_),(c1+322,_),(c2+322,_),(c3+322,_)] 60 W hh .nil (.cons hf (.cons h1 (.cons h2 (.cons h3 .nil)))) ac nn0 dn0 (rmz room rfl) rfl [] fun A₀ c Q1 hQ1 uA₀=> ?_
  refine av (c':=(.call (.ref 297) ⟨[.ref (V.l+322),.int (U (p)) t1,.int (U (sp)) t2,.str wh t3,.str V.ot V.t5],[]⟩)) (d:=0) (u:=10) 15 0x100040003000200010000 [] [] [] 0 0 (by apply kW1 Q1 w k<;>first|apply hQ1|(intros;kernel_rfl)) no_side fun s1 x1 g1 A' R' hA dA uA res1=> ?_
  have dA:A'.depth≤A.depth+0:=dA
  refine line_spec (V:=⟨V.l,p,sp,wh,V.ot⟩) (W.nxt x1 ac) hA (rm room dA rfl) (x1.keep0 hl) lx q2 hx hr fun s2 l2 m2 D2 x2 ll eD p2 hl2=> ?_
  have x12:=x1.trans x2
  have nd:=notin1 (ne_cls hd hf (Ne.symm cFL))
  refine Rsm.go (lim:=60) res1 [B] [(V.dr+322,_)] (W.nxt x12 ac) (.cons (x12.keep0 hf) .nil) (.cons (x12.keep0 hd) .nil) (High.one hB) (az _) (dj1 nd) (rmz room rfl) rfl [] fun Q2 hQ2=> ?_
  refine am (f:= .next) 60 0x4000400040004000400000000500000006000100000001000100010001004000000005000100000001000100010001004000400040 [0,1] [(¬(2==0)=true),(¬(3==0)=true∧¬(PySem.Builtin.divisionGoesByPylong (U (D 3)) 3)=true),(¬(3==0)=true)] [some (fLW w.params (tk [τ 0,τ 1,τ 2,τ 3,τ 4,τ 5,τ 6,τ 7,τ 8,τ 9,τ 10,τ 11,τ 12,τ 13,τ 14,τ 15,τ 16,s2.toks,s2.toks+9]) k (v17 V v++[.ref (l2+322),.ref s2.heap.objs.size])),some (aX [.int (Int.fmod (U (D 3)) 3) (s2.toks+3),.int (Int.fmod (Int.fdiv (U (D 3)) 3) 2) (s2.toks+8),.str V.ms V.t7,.ref (V.sq+322),.int V.due V.td])] 2 10 (by apply kW2 Q2 Q1 w k<;>first|apply hQ2|apply hQ1|(intros;kernel_rfl)) (side_cons (by decide) (side_cons ⟨by decide,no_pylong _ _ bD (by decide)⟩ (side_cons (by decide) no_side))) fun s3 x3 g3=> ?_
  obtain ⟨fo,hfo⟩:∃y,s2.heap.objs.size=y+322:=⟨s2.heap.objs.size - 322,by have:=(W.nxt x12 ac).2;lia⟩
  have f3:s3.heap.get? B=_:=(g3 0)
  have o3:s3.heap.get? s2.heap.objs.size=_:=(g3 1)
  rw [hfo] at f3 o3
  rw [show Int.fmod (U (D 3)) 3=U (D 3 % 3) from fmN _ 3,show Int.fmod (Int.fdiv (U (D 3)) 3) 2=U (D 3 / 3 % 2) by rw [show Int.fdiv (U (D 3)) 3=U (D 3 / 3) from fdN _ 3];exact fmN _ 2] at o3
  have nB:∀{p:Nat} {o:Obj},s2.heap.get? (p+322)=some o→o.cls≠.type "frame"→p+322∉[B]:=fun h g=>notin1 (ne_cls h (x12.keep0 hf) g)
  exact kk s3 _ l2 fo D2 m2 _ _ (x12.nil.trans x3) f3 (x3.keep hl2 (nB hl2 (Ne.symm cFL))) (fun d hd=>x3.keep (p2 d hd) (nB (p2 d hd) (Ne.symm cFT))) eD o3
theorem lw17{w:ag}{s:aa}{A:ai}{E:Value→aa→Prop}{Q:Flow→aa→Prop}{B c0 c1 c2 c3 k q t0 l2 fo:Nat}{τ:Nat→Nat}{v:Nat→Value}{V:LwV}(W:KTH w s.heap)(hh:A.handled=none)(room:A.depth+300<recursionLimit)(hB:322≤B)(hf:s.heap.get? B=some (fLW w.params τ k (v17 V v++[.ref (l2+322),.ref (fo+322)])))(h0:s.heap.get? (c0+322)=some (cellO (some (.int (U q) t0))))
    (call:∀s1 A' R' t1,Nxt [] s s1→A'.handled=none→A'.depth≤A.depth+0→A'.units≤A.units+60→(∀s2 r t m,Nxt [140,147] s1 s2→Tabs s2.heap→s2.heap.get? (r+322)=some (m4O m t)→R' (.ok (.ret (.ref (r+322)))) s2)→codeAny (model pw w) A' (.call (.ref 316) ⟨[.ref (l2+322),.ref (V.l+322),.int (U 0) t1,.int (U q) t0,.ref (fo+322)],[]⟩) R' s1)
    (kk:∀s',Nxt [140,147] s s'→Tabs s'.heap→Q (.ret (.bool true)) s'):
    wpAny (model pw w) A (execs [bLW w 17] (enL w B c0 c1 c2 c3)) Q E s:=by
  refine aT [] [(B,_),(c0+322,_)] 60 W hh .nil (.cons hf (.cons h0 .nil)) ac nn0 dn0 (rmz room rfl) rfl [] fun A₀ c Q1 hQ1 uA₀=> ?_
  refine av (c':=(.call (.ref 316) ⟨[.ref (l2+322),.ref (V.l+322),.int 0 s.toks,.int (U (q)) t0,.ref (fo+322)],[]⟩)) (d:=0) (u:=10) 14 0x10002000100010000 [] [] [] 0 1 (by apply kW1 Q1 w k<;>first|apply hQ1|(intros;kernel_rfl)) no_side fun s1 x1 g1 A' R' hA dA uA res1=> ?_
  have dA:A'.depth≤A.depth+0:=dA
  refine call s1 A' R' _ x1 hA dA (by lia) fun s2 r t m x2 T2 r2=> ?_
  refine Rsm.go (lim:=60) res1 [] [] ((W.nxt x1 ac).nxt x2 (High.cons (.inr (.inl rfl)) (High.one' (.inr rfl)))) .nil .nil ac aD dj0 (rmz room rfl) rfl [] fun Q2 hQ2=> ?_
  refine am (f:=(.ret (.bool true))) 2 0x0 [] [] [] 0 0 (by apply kW2 Q2 Q1 w k<;>first|apply hQ2|apply hQ1|(intros;kernel_rfl)) no_side fun s3 x3 g3=> ?_
  exact kk s3 (x1.nil.trans (x2.trans x3.nil)) (T2.nxt0 x3)
noncomputable def maL(s t:Nat):M4:=(1+U s * U t,U s,U t,1)
noncomputable def mbL(u v:Nat):M4:=(1,U u,U v,1+U u * U v)
noncomputable def zL(s t u v:Nat):Int:=(((2+U s * U t)+U s * U v)+U t * U u)+U u * U v
theorem det_a(s t:Nat):detM (maL s t)=1:=by
  unfold detM maL
  show (1+U s * U t) * 1 - U s * U t=1
  lia
theorem det_b(u v:Nat):detM (mbL u v)=1:=by
  unfold detM mbL
  show 1 * (1+U u * U v) - U u * U v=1
  lia
theorem due_fri(s t u v:Nat):dn (2+U s * U t) (2+U u * U v) (zL s t u v)=cu (maL s t) (mbL u v):=by
  have e1:trM (maL s t)=2+U s * U t:=by
    show (1+U s * U t)+1=_
    lia
  have e2:trM (mbL u v)=2+U u * U v:=by
    show 1+(1+U u * U v)=_
    lia
  have e3:trM (mulM (maL s t) (mbL u v))=zL s t u v:=by
    unfold maL mbL trM mulM zL
    show ((1+U s * U t) * 1+U s * U v)+(U t * U u+1 * (1+U u * U v))=_
    lia
  unfold cu
  rw [e1,e2,e3]
theorem eV{a b:Nat}(ha:a<2^27)(hb:b<2^27):a * b<2^54:=ah (Nat.mul_lt_mul'' ha hb) (by decide)
theorem nb_a{s t:Nat}(hs:s<2^27)(ht:t<2^27):Nb 60 (maL s t):=by
  have h:=eV hs ht
  refine ⟨?_,ah hs (by decide),ah ht (by decide),show 1<2^60 by decide⟩
  show (1+U s * U t).natAbs<_
  rw [show (1+U s * U t)=U (1+s * t) by rfl]
  show 1+s * t<2^60
  lia
theorem nb_b{s t:Nat}(hs:s<2^27)(ht:t<2^27):Nb 60 (mbL s t):=by
  have h:=eV hs ht
  refine ⟨show 1<2^60 by decide,ah hs (by decide),ah ht (by decide),?_⟩
  show (1+U s * U t).natAbs<_
  rw [show (1+U s * U t)=U (1+s * t) by rfl]
  show 1+s * t<2^60
  lia
theorem bd_nat{n:Nat}(h:n<2^200):Bd (2^20) (U n):=cj (ah h (Nat.pow_le_pow_right (by decide) (by decide)))
theorem bd_law{s t u v:Nat}(hs:s<2^27)(ht:t<2^27)(hu:u<2^27)(hv:v<2^27):Bd (2^20) (2+U s * U t)∧Bd (2^20) (2+U u * U v)∧Bd (2^20) (zL s t u v)∧Bd (2^20) ((2+U s * U t) * (2+U u * U v)):=by
  have h1:=eV hs ht
  have h2:=eV hu hv
  have h3:=eV hs hv
  have h4:=eV ht hu
  have e1:(2+U s * U t)=U (2+s * t):=rfl
  have e2:(2+U u * U v)=U (2+u * v):=rfl
  have e3:zL s t u v=U (2+s * t+s * v+t * u+u * v):=rfl
  rw [e1,e2,e3]
  refine ⟨bd_nat (by lia),bd_nat (by lia),bd_nat (by lia),?_⟩
  show Bd _ (U ((2+s * t) * (2+u * v)))
  refine bd_nat (ah (Nat.mul_lt_mul'' (show 2+s * t<2^55 by lia) (show 2+u * v<2^55 by lia)) (by decide))
theorem keepB{s s':aa}{B p k:Nat}{o:Obj}{P:ae}{τ:Nat→Nat}{V:List Value}(x:Nxt [B] s s')(hf:s.heap.get? B=some (fLW P τ k V))(h:s.heap.get? p=some o)(g:o.cls≠.type "frame"):s'.heap.get? p=some o:=x.keep h (notin1 (ne_cls h hf g))
theorem dB.nat{d:Nat→Int}(h:dB 63 d):∃D:Nat→Nat,d=(fun j=>U (D j))∧∀j,D j<2^27:=by
  refine ⟨fun j=>(d j).toNat,funext fun j=>(Int.toNat_of_nonneg (h j).1).symm,fun j=> ?_⟩
  have:=h j
  show (d j).toNat<_
  lia
theorem cells_ne{B β:Nat}(e:B=β+322):β+1≠β+2∧β+3≠β+4∧β+1+322∉[β+3+322,β+4+322]∧β+2+322∉[β+3+322,β+4+322]∧β+3+322∉[β+1+322,β+2+322]∧β+4+322∉[β+1+322,β+2+322]∧B∉[β+1+322,β+2+322]∧B∉[β+3+322,β+4+322]∧(β+1+322∉[B]∧β+2+322∉[B]∧β+3+322∉[B]∧β+4+322∉[B])∧(B≤β+1+322∧B≤β+2+322∧B≤β+3+322∧B≤β+4+322):=by
  subst e
  simp
theorem NxN.of2{n a b:Nat}{s s':aa}(x:Nxt [a,b] s s')(h:n≤a)(l:n≤b):NxN n s s':=⟨[a,b],x,fun c hc=> .inr (.inr ((List.mem_cons.mp hc).elim (fun e=>e▸h) fun e=>(List.mem_singleton.mp e)▸l))⟩
theorem list18:∀l:List Stmt,l.length=18→l=[aF l 0,aF l 1]++([aF l 2,aF l 3]++([aF l 4]++([aF l 5]++([aF l 6,aF l 7]++([aF l 8,aF l 9]++([aF l 10]++([aF l 11]++([aF l 12]++([aF l 13,aF l 14]++([aF l 15,aF l 16]++[aF l 17]))))))))))
  |[_,_,_,_,_,_,_,_,_,_,_,_,_,_,_,_,_,_],_=>rfl
theorem bodyL(w:ag):cU w=[bLW w 0,bLW w 1]++([bLW w 2,bLW w 3]++([bLW w 4]++([bLW w 5]++([bLW w 6,bLW w 7]++([bLW w 8,bLW w 9]++([bLW w 10]++([bLW w 11]++([bLW w 12]++([bLW w 13,bLW w 14]++([bLW w 15,bLW w 16]++[bLW w 17])))))))))):=by
  unfold bLW
  exact list18 (cU w) (by kernel_rfl)
theorem law_spec{w:ag}{s:aa}{A:ai}{R:Result→aa→Prop}{sc ns:Nat}{xs:List Value}(W:KTH w s.heap)(hh:A.handled=none)(room:A.depth+310<recursionLimit)(hu:A.units+1700<cLine)(T:Tabs s.heap)(hs:s.heap.get? (sc+322)=some (lstO xs ns))(hx:∀v∈xs,∃x t,v= .int x t)(lx:xs.length≤63)
    (kk:∀s',Nxt [140,147] s s'→Tabs s'.heap→R (.ok (.ret (.bool true))) s'):codeAny (model pw w) A (.call (.ref 321) ⟨[.ref (sc+322)],[]⟩) R s:=by
  refine open_law W hh (rmz room rfl) fun s1 B x1 W1 hB f1 z0 z1 z2 z3=> ?_
  have hN:=W.2
  have hB2:322≤B:=ad hN hB
  obtain ⟨β,eb⟩:∃c,B=c+322:=⟨B - 322,by lia⟩
  have e0:B+1=(β+1)+322:=by lia
  have e1:B+2=(β+2)+322:=by lia
  have e2:B+3=(β+3)+322:=by lia
  have e3:B+4=(β+4)+322:=by lia
  rw [e0] at z0
  rw [e1] at z1
  rw [e2] at z2
  rw [e3] at z3
  rw [e0,e1,e2,e3]
  obtain ⟨n01,n23,c02,c12,c20,c30,cB0,cB2,cBn,lc0,lc1,lc2,lc3⟩:=cells_ne eb
  clear e0 e1 e2 e3
  generalize β+1=c0 at n01 n23 c02 c12 c20 c30 cB0 cB2 cBn lc0 z0⊢
  generalize β+2=c1 at n01 n23 c02 c12 c20 c30 cB0 cB2 cBn lc1 z1⊢
  generalize β+3=c2 at n01 n23 c02 c12 c20 c30 cB0 cB2 cBn lc2 z2⊢
  generalize β+4=c3 at n01 n23 c02 c12 c20 c30 cB0 cB2 cBn lc3 z3⊢
  rw [bodyL]
  show wpAny _ _ (execs _ (enL w B c0 c1 c2 c3)) _ _ _
  have f1':s1.heap.get? B=some (fLW w.params (tk [s.toks]) 0 [.ref (sc+322)]):=f1
  have hhd:(A.deeper (enL w B c0 c1 c2 c3)).handled=none:=hh
  have hM1:High [B]:=High.one hB2
  have hM2:∀{a b:Nat},High [a+322,b+322]:=High.cons (.inl (ab _ _)) (High.one (ab _ _))
  have hb1:∀c∈[B],322≤c:=fun c hc=>by rw [List.mem_singleton.mp hc];exact hB2
  have hb2:∀{a b:Nat},∀c∈[a+322,b+322],322≤c:=fun c hc=>(List.mem_cons.mp hc).elim (fun h=>h▸ab _ _) fun h=>(List.mem_singleton.mp h)▸ab _ _
  have cLC:∀{l n v},(lstO l n).cls≠(cellO v).cls:=fun {_ _ _}=>(show Value.type "list"≠Value.type "cell" by decide)
  refine @aN _ _ _ _ _ [bLW w 0,bLW w 1] _ _ (@lw0 w s1 _ _ _ B c0 c1 c2 c3 sc _ W1 hhd (rmo room rfl) hB2 f1' xs ns (x1.keep0 hs) hx lx fun s2 τ2 t2 k d2 v2 dr nd x2 f2 g2 b2=> ?_)
  obtain ⟨D,rfl,hD⟩:=b2.nat
  have bD:∀j,D j<2^62:=fun j=>ah (hD j) (by decide)
  have W2:=W1.nxt x2 hM1
  have kc:∀{p:Nat} {v:Option Value},s1.heap.get? p=some (cellO v)→s2.heap.get? p=some (cellO v):=fun h=>keepB x2 f1' h cCF
  refine @aN _ _ _ _ _ [bLW w 2,bLW w 3] _ _ (@lw2 w s2 _ _ _ B c0 c1 c2 c3 sc dr k nd τ2 t2 D v2 W2 hhd (rmo room rfl) hB2 f2 g2 (kc z0) (kc z1) n01 (bD 0) fun s3 t0 t1 x3 C0 C1=> ?_)
  have W3:=W2.nxt x3 hM2
  have f3:=x3.keep f2 cB0
  have g3:=x3.keep g2 (notin2 (ne_cls g2 (kc z0) cLC) (ne_cls g2 (kc z1) cLC))
  have y2:=x3.keep (kc z2) c20
  have y3:=x3.keep (kc z3) c30
  obtain ⟨qa,qb⟩:=qD_b D
  obtain ⟨pa,pb⟩:=pD_b D
  generalize qD D=q at qa qb pb C0
  generalize pD D=p at pa pb C1
  refine @aN _ _ _ _ _ [bLW w 4] _ _ (@lw4 w s3 _ _ _ B c0 c1 c2 c3 sc dr k nd t0 t1 p q _ t2 D v2 W3 hhd (rmo room rfl) hB2 f3 g3 C0 C1 qa qb pa pb (bD 1) fun s4 τ4 l xs4 m x4 hx4 ll f4 r4=> ?_)
  have W4:=W3.nxt x4 hM1
  have kd:∀{p:Nat} {v:Option Value},s3.heap.get? p=some (cellO v)→s4.heap.get? p=some (cellO v):=fun h=>keepB x4 f3 h cCF
  refine @aN _ _ _ _ _ [bLW w 5] _ _ (@lw5 w s4 _ _ _ B c0 c1 c2 c3 p q t0 t1 sc dr l k m τ4 v2 xs4 W4 hhd (rmo room rfl) (rm hu (al (A.units+3)) rfl) hB2 f4 (kd C0) (kd C1) qa qb pb r4 hx4 fun s5 x5=> ?_)
  have W5:=W4.nxt x5 ac
  have ke:∀{p:Nat} {v:Option Value},s3.heap.get? p=some (cellO v)→s5.heap.get? p=some (cellO v):=fun h=>x5.keep0 (kd h)
  have g5:=x5.keep0 (keepB x4 f3 g3 (Ne.symm cFL))
  obtain ⟨e,he⟩:∃e:Bool,(Int.fmod (U (D 2 / q)) 2==0)= !e:=⟨!(Int.fmod (U (D 2 / q)) 2==0),(Bool.not_not _).symm⟩
  obtain ⟨o,ho⟩:∃o:Bool,(Int.fmod (U (D 2 / q / 2)) 2==1)=o:=⟨_,rfl⟩
  refine @aN _ _ _ _ _ [bLW w 6,bLW w 7] _ _ (@lw6 w s5 _ _ _ B c0 c1 c2 c3 q t0 sc dr l k nd τ4 t2 D v2 e W5 hhd (rmo room rfl) hB2 (x5.keep0 f4) g5 (ke C0) (ke y2) (ke y3) n23 qa qb (bD 2) he fun s6 u2 u3 x6 C2 C3=> ?_)
  have W6:=W5.nxt x6 hM2
  have f6:=x6.keep (x5.keep0 f4) cB2
  have g6:=x6.keep g5 (notin2 (ne_cls g5 (ke y2) cLC) (ne_cls g5 (ke y3) cLC))
  have r6:=x6.keep (x5.keep0 r4) (notin2 (ne_cls (x5.keep0 r4) (ke y2) cLC) (ne_cls (x5.keep0 r4) (ke y3) cLC))
  have D0:=x6.keep (ke C0) c02
  have D1:=x6.keep (ke C1) c12
  refine @aN _ _ _ _ _ [bLW w 8,bLW w 9] _ _ (@lw8 w s6 _ _ _ B c0 c1 c2 c3 q t0 u3 sc dr l k nd τ4 t2 D v2 e o W6 hhd (rmo room rfl) hB2 f6 g6 D0 C3 qa qb (bD 2) (bD 3) ho fun s7 τ7 t5 t6 x7 f7=> ?_)
  have W7:=W6.nxt x7 hM1
  have kf:∀{p:Nat} {v:Option Value},s6.heap.get? p=some (cellO v)→s7.heap.get? p=some (cellO v):=fun h=>keepB x7 f6 h cCF
  have g7:=keepB x7 f6 g6 (Ne.symm cFL)
  have r7:=keepB x7 f6 r6 (Ne.symm cFL)
  refine @aN _ _ _ _ _ [bLW w 10] _ _ (@lw10 w s7 _ _ _ B c0 c1 c2 c3 sc dr l k u2 u3 t5 t6 (D 2 % q) (q - D 3 / 6 % 3) τ7 v2 e (otS e o) W7 hhd (rmo room rfl) (rm hu (al (A.units+3)) rfl) hB2 f7 (kf C2) (kf C3) (by lia) fun s8 τ8 t7 x8 f8=> ?_)
  have W8:=W7.nxt x8 hM1
  have kg:∀{p:Nat} {v:Option Value},s6.heap.get? p=some (cellO v)→s8.heap.get? p=some (cellO v):=fun h=>keepB x8 f7 (kf h) cCF
  have g8:=keepB x8 f7 g7 (Ne.symm cFL)
  have r8:=keepB x8 f7 r7 (Ne.symm cFL)
  refine @aN _ _ _ _ _ [bLW w 11] _ _ (@lw11 w s8 _ _ _ B c0 c1 c2 c3 sc dr k nd τ8 t2 D v2 (aL l (otS e o) t5 (.int (U (q - D 3 / 6 % 3)) t6) (mkS (D 2 % q) e (q - D 3 / 6 % 3)) t7) W8 hhd (rmo room rfl) hB2 f8 g8 fun s9 τ9 x9 f9=> ?_)
  have W9:=W8.nxt x9 hM1
  refine @aN _ _ _ _ _ [bLW w 12] _ _ (@lw12 w s9 _ _ _ B c0 c1 c2 c3 sc dr k (D 4) (D 5) (D 6) (D 7) (t2 4) (t2 5) (t2 6) (t2 7) τ9 v2 (aL l (otS e o) t5 (.int (U (q - D 3 / 6 % 3)) t6) (mkS (D 2 % q) e (q - D 3 / 6 % 3)) t7) W9 hhd (rmo room rfl) hB2 f9 (bD 4) (bD 5) (bD 6) (bD 7) fun s10 τ10 tz ty tx x10 f10=> ?_)
  have W10:=W9.nxt x10 hM1
  obtain ⟨bx,bY,bz,bxy⟩:=bd_law (hD 4) (hD 5) (hD 6) (hD 7)
  refine @aN _ _ _ _ _ [bLW w 13,bLW w 14] _ _ (@lw13 w s10 _ _ _ B c0 c1 c2 c3 sc dr k (D 4) (D 5) (D 6) (D 7) τ10 (tk [t2 4,t2 5,t2 6,t2 7,tz,ty,tx]) v2 (aL l (otS e o) t5 (.int (U (q - D 3 / 6 % 3)) t6) (mkS (D 2 % q) e (q - D 3 / 6 % 3)) t7) (2+U (D 4) * U (D 5)) (2+U (D 6) * U (D 7)) (zL (D 4) (D 5) (D 6) (D 7)) W10 hhd (rmo room rfl) hB2 f10 (bD 4) (bD 5) (bD 6) (bD 7) bx bY bz bxy fun s11 τ11 td sq sa sb w0 w1 n ta tb x11 f11 q11 a11 b11=> ?_)
  have W11:=W10.nxt x11 hM1
  have kh:∀{p:Nat} {o:Obj},s8.heap.get? p=some o→o.cls≠.type "frame"→s11.heap.get? p=some o:=fun h g=>keepB x11 f10 (keepB x10 f9 (keepB x9 f8 h g) g) g
  rw [due_fri] at f11
  refine @aN _ _ _ _ _ [bLW w 15,bLW w 16] _ _ (@lw15 w s11 _ _ _ B c0 c1 c2 c3 k p (D 2 % q) t1 u2 u3 q m nd τ11 t2 D (vk [.none,.none,v2 2,v2 3,.none,.none,.int (U (q - D 3 / 6 % 3)) t6,.none,.int (U (D 4)) (t2 4),.int (U (D 5)) (t2 5),.int (U (D 6)) (t2 6),.int (U (D 7)) (t2 7),.int (zL (D 4) (D 5) (D 6) (D 7)) tz,.int (2+U (D 6) * U (D 7)) ty,.int (2+U (D 4) * U (D 5)) tx]) ⟨sc,dr,l,otS e o,t5,mkS (D 2 % q) e (q - D 3 / 6 % 3),t7,sq,cu (maL (D 4) (D 5)) (mbL (D 6) (D 7)),td⟩ (whS e) xs4 (rkQ p q) W11 hhd (rmo room rfl) hB2 f11 (kh g8 (Ne.symm cFL)) (kh (kg D1) cCF) (kh (kg C2) cCF) (kh (kg C3) cCF) (kh r8 (Ne.symm cFL)) hx4.1 qb hx4.2 (fun j _=>rkQ_lt qa qb j) (bD 3) fun s12 τ12 l2 fo D2 m2 v0 v1 x12 f12 L12 P12 eD O12=> ?_)
  have W12:=W11.nxt x12 hM1
  have T12:Tabs s12.heap:=(((((((((((T.nxt0 x1).nxtH x2 hb1).nxtH x3 hb2).nxtH x4 hb1).nxt0 x5).nxtH x6 hb2).nxtH x7 hb1).nxtH x8 hb1).nxtH x9 hb1).nxtH x10 hb1).nxtH x11 hb1).nxtH x12 hb1
  have Y:NxN s.heap.objs.size s s12:=(((((((((((NxN.of0 x1).trans (.of1 x2 hB)).trans (.of2 x3 (ad hB lc0) (ad hB lc1))).trans (.of1 x4 hB)).trans (.of0 x5)).trans (.of2 x6 (ad hB lc2) (ad hB lc3))).trans (.of1 x7 hB)).trans (.of1 x8 hB)).trans (.of1 x9 hB)).trans (.of1 x10 hB)).trans (.of1 x11 hB)).trans (.of1 x12 hB)
  have ki:∀{p:Nat} {o:Obj},s11.heap.get? p=some o→o.cls≠.type "frame"→s12.heap.get? p=some o:=fun h g=>keepB x12 f11 h g
  refine @lw17 w s12 _ _ _ B c0 c1 c2 c3 k q t0 l2 fo τ12 _ ⟨sc,dr,l,otS e o,t5,mkS (D 2 % q) e (q - D 3 / 6 % 3),t7,sq,cu (maL (D 4) (D 5)) (mbL (D 6) (D 7)),td⟩ W12 hhd (rmo room rfl) hB2 f12 (ki (kh (kg D0) cCF) cCF) (fun s13 A' R' t8 x13 hA dA uA k2=> ?_) fun s14 x14 T14=>kk s14 (Y.trans (.of7 x14)).fin T14
  have dA:A'.depth≤A.depth+1:=dA
  have uA:A'.units≤A.units+3+60:=uA
  have na:=nb_a (hD 4) (hD 5)
  have nb:=nb_b (hD 6) (hD 7)
  have ki':∀{p:Nat} {o:Obj},s11.heap.get? p=some o→o.cls≠.type "frame"→s13.heap.get? p=some o:=fun h g=>x13.keep0 (ki h g)
  obtain ⟨M,tr⟩:=law_tree (X:=⟨fp D2,rkQ p q,D 3 % 3,D 3 / 3 % 2,mkS (D 2 % q) e (q - D 3 / 6 % 3),cu (maL (D 4) (D 5)) (mbL (D 6) (D 7)),maL (D 4) (D 5),mbL (D 6) (D 7)⟩) (c:=D 3 / 6 % 3) qa qb pa pb (Nat.mod_lt _ (by decide)) eD rfl rfl na nb (det_a _ _) (det_b _ _) rfl
  have hX:=wrc_line (X:=⟨fp D2,rkQ p q,D 3 % 3,D 3 / 3 % 2,mkS (D 2 % q) e (q - D 3 / 6 % 3),cu (maL (D 4) (D 5)) (mbL (D 6) (D 7)),maL (D 4) (D 5),mbL (D 6) (D 7)⟩) eD rfl (fun j _=>rkQ_lt qa qb j) (ad (Nat.sub_le _ _) (Nat.le_of_lt_succ qb)) qb (ah (Nat.mod_lt _ (by decide)) (by decide)) (Nat.le_of_lt_succ (Nat.mod_lt _ (by decide)))
  refine fold_spec hX rfl (na.weak (by decide)).bd4 (nb.weak (by decide)).bd4 tr (G:=⟨l2,l,fo,sq,0,q,D 3 % 3,D 3 / 3 % 2,mkS (D 2 % q) e (q - D 3 / 6 % 3),cu (maL (D 4) (D 5)) (mbL (D 6) (D 7))⟩) rfl rfl ⟨rfl,rfl,rfl⟩ rfl (W12.nxt x13 ac) hA (by lia) (by lia) (T12.nxt0 x13) ⟨⟨m2,x13.keep0 L12⟩,fun d hd=>x13.keep0 (P12 d hd),⟨xs4,m,ki' (kh r8 (Ne.symm cFL)) (Ne.symm cFL),fun j hj=>hx4.2 j (by have hj:j<(fp D2).length:=hj;rw [eD,dZ] at hj;exact au hj)⟩,⟨v0,v1,t7,td,x13.keep0 O12⟩,⟨w0,w1,sa,sb,n,ta,tb,ki' q11 (show Value.type "dict"≠Value.type "frame" by decide),ki' a11 (Ne.symm cFT),ki' b11 (Ne.symm cFT)⟩⟩ fun s15 r t x15 T15 r15=>k2 s15 r t M x15 T15 r15
noncomputable def obsM(s:aa):List (Option Obj):=ks.map s.heap.get?
noncomputable def valM(w:ag):List (Option Obj):=(K0 w.params).map fun p=>some p.2
theorem cI{h:Heap}{f:Addr×Obj→Bool}:∀{K:Frag},AllIn h K→AllIn h (K.filter f)
  |[],_=>trivial
  |p::K,a=>by
    by_cases e:f p=true
    · rw [List.filter_cons_of_pos e];exact ⟨a.1,cI a.2⟩
    · rw [List.filter_cons_of_neg e];exact cI a.2
theorem allIn_mem{h:Heap}{p:Addr×Obj}:∀{K:Frag},AllIn h K→p∈K→h.get? p.1=some p.2
  |q::K,a,m=>by
    rcases List.mem_cons.mp m with rfl|m
    · exact a.1
    · exact allIn_mem a.2 m
theorem ks_eq(P:ae):(K0 P).map (·.1)=ks:=by kernel_rfl
theorem kt1_eq(P:ae):kt1 P=KT.of (K1 P):=by unfold kt1;rfl
theorem e8{w:ag}{h:Heap}(y:ks.map h.get? =(K0 w.params).map fun p=>some p.2):AllIn h (K0 w.params):=allIn_of ((congrArg (List.map h.get?) (ks_eq w.params)).trans y)
theorem k0_at{P:ae}{h:Heap}(a:AllIn h (K0 P))(i x:Nat)(o:Obj)(hi:(K0 P)[i]? =some (x,o)):h.get? x=some o:=allIn_mem (p:=(x,o)) a (aM hi)
theorem k0_321(P:ae):(K0 P)[320]? =some (321,o321 P):=by kernel_rfl
theorem k0_140(P:ae):(K0 P)[139]? =some (140,tableObj #[]):=by kernel_rfl
theorem k0_147(P:ae):(K0 P)[146]? =some (147,tableObj #[]):=by kernel_rfl
theorem holds_gen{h:Heap}{t:KT}{K:Frag}(e:t=KT.of K)(a:AllIn h K):KT.Holds h 1 0 t:=by
  subst e
  exact holds_of a
theorem holds_K1{P:ae}{h:Heap}(a:AllIn h (K0 P)):KT.Holds h 1 0 (kt1 P):=holds_gen (kt1_eq P) (@cI h (fun p=> !(Nat.beq p.1 140)&& !(Nat.beq p.1 147)) (K0 P) a)
theorem lt322{h:Heap}{o:Obj}(e:h.get? 321=some o):322≤h.objs.size:=an e
theorem kth_of{w:ag}{h:Heap}(y:ks.map h.get? =(K0 w.params).map fun p=>some p.2):KTH w h∧h.get? 140=some (tableObj #[])∧h.get? 147=some (tableObj #[]):=
  ⟨⟨holds_K1 (e8 y),lt322 (k0_at (e8 y) 320 321 (o321 w.params) (k0_321 w.params))⟩,k0_at (e8 y) 139 140 (tableObj #[]) (k0_140 w.params),k0_at (e8 y) 146 147 (tableObj #[]) (k0_147 w.params)⟩
theorem kt1_321(P:ae):(kt1 P).get 321=some (o321 P):=by kernel_rfl
theorem kth_keeps{w:ag}{h h':Heap}(k:∀b o,h.get? b=some o→h'.get? b=some o)(H:KTH w h):KTH w h':=
  ⟨KT.Holds.keeps k H.1,an (k _ _ (kt_at H.1 (kt1_321 w.params)))⟩
theorem law_end{w:ag}{c:ClaimW}{cl:Str→Option Addr}{mean:ExcName→Option Value}{args:List WData}{s s':aa}(W:KTH w s.heap)(T:Tabs s.heap)(hg:s.gens= #[])(x:Nxt [140,147] s s')(T':Tabs s'.heap)(h0:s.heap.get? 140=some (tableObj #[]))(h7:s.heap.get? 147=some (tableObj #[]))
    (hr:∀cls,c.raises args cls=false) (hp:c.post args (.bool true) args=true):GoodWG c cl mean args s (.ok (.ret (.bool true))) s':=by
  have c0:isCodeTable s.heap 140:=⟨144,o144 w.params,_,W.at (by kernel_rfl),rfl,rfl,by kernel_rfl⟩
  have c7:isCodeTable s.heap 147:=⟨151,o151 w.params,_,W.at (by kernel_rfl),rfl,rfl,by kernel_rfl⟩
  have tab:∀{P:Addr} {g:Pos},isCodeTable s.heap P→s.heap.get? P=some (tableObj #[])→Tab s'.heap P g→∀o,s.heap.get? P=some o→asItWas s.heap s'.heap P o∧∃o',s'.heap.get? P=some o':=fun {P g} hc h t o ho=>by
    rw [h] at ho
    cases ho
    rcases t with t|⟨d,t⟩
    · exact ⟨.inl t,_,t⟩
    · exact ⟨.inr (.inl ⟨hc,rfl,#[],#[rawInt g.line,rawInt g.col,.ref d],rfl,by rw [Array.empty_append];exact t⟩),_,t⟩
  have key:∀b o,s.heap.get? b=some o→asItWas s.heap s'.heap b o∧∃o',s'.heap.get? b=some o':=fun b o e=>by
    by_cases e0:b=140
    · subst e0;exact tab c0 h0 T'.t140 o e
    · by_cases e7:b=147
      · subst e7;exact tab c7 h7 T'.t147 o e
      · have:=x.keep e (notin2 e0 e7)
        exact ⟨.inl this,_,this⟩
  refine ⟨.inl ⟨_,_,[],rfl,hr,ReadsW.bool true,hp,fun _=>⟨aD,fun _ hm=>(nomatch hm)⟩⟩,⟨fun b o e=>(key b o e).1,fun b o e=>(key b o e).2⟩,x.os,fun g hm=> ?_⟩
  obtain ⟨i,hi,rfl⟩:=Array.mem_iff_getElem.mp hm
  exact x.gens.new i (by rw [hg];exact Nat.zero_le _) _ (Array.getElem?_eq_getElem hi)
theorem ns_one{h:Heap}{a:Addr}{m n:Str→Option Value}(x:h.Ns a m)(y:h.Ns a n)(k:Str):m k=n k:=by
  obtain ⟨o,es,ep,e1,e2,_,e3⟩:=x
  obtain ⟨o',es',ep',f1,f2,_,f3⟩:=y
  rw [e1] at f1
  cases f1
  rw [e2] at f2
  cases f2
  rw [←e3,←f3]
theorem law_at(P:ae):mgs P (S "law")=some (.ref 321):=by kernel_rfl
theorem ints_are{vs:List Value}{xs:List Int}(h:IntsAre vs xs):(∀v∈vs,∃x t,v= .int x t)∧vs.length=xs.length:=by
  induction h with
  |nil=>exact ⟨fun _ h=>(nomatch h),rfl⟩
  |cons n t _ ih=>exact ⟨fun v hv=>(List.mem_cons.mp hv).elim (fun e=>⟨n,t,e⟩) (ih.1 v),congrArg (· +1) ih.2⟩
set_option tactic.hygienic true in
theorem walk_law(d:DefRec)(kwd:List (Str×Expr))(hn:d.name=S "law"):WalkX qv lo (fun _ _=>True) obsM valM PySem.Challenge.rw_xg0088_01.row.toRowW d kwd (fun f vs=>PySem.call f vs):=by
  intro w s₀ s₁ mg mb G y fa o pm cd doc dV kV ho hd hcd hD hmg hg args vals as L hpre hlay hrd hwl hlo
  rw [hn] at hmg
  clear hd hcd hD ho
  have T:=G.T.g
  have H:=kth_of (w:=w) y
  have W:KTH w s₁.heap:=kth_keeps L.keeps H.1
  have h0:=L.keeps _ _ H.2.1
  have h7:=L.keeps _ _ H.2.2
  have e:=(ns_one T W.globals (S "law")).symm.trans hmg
  have s322:=H.1.2
  clear G y H T
  wrow_args hpre hlay hrd hwl hlo
  rename_i xs _ _ _ _ _ as1 as2 l vs as3 hL ra w1 r0 hI hr _ _
  have hl:∃n,s₁.heap.get? l=some (lstO vs n):=by
    obtain ⟨o,g1,_,n,g2⟩:=hL
    cases w1 with
    |list g _=>
      rw [g] at g1
      cases g1
      cases g2
      exact ⟨_,g⟩
  have hla:s₀.heap.objs.size≤l:=by
    cases r0 with
    |list g1 g2 g3 g4=>exact (L.within.2.2 l (aB _ (.head _))).1
  obtain ⟨n,hl⟩:=hl
  obtain ⟨sc,rfl⟩:∃sc,l=sc+322:=⟨l - 322,(Nat.sub_add_cancel (ad s322 hla)).symm⟩
  have hx:=ints_are hI
  rw [law_at] at e
  cases e
  refine wpAny_call (law_spec W rfl (by decide) (by decide) ⟨.inl h0,.inl h7⟩ hl hx.1 (by lia) fun s' x T'=> ?_)
  refine law_end W ⟨.inl h0,.inl h7⟩ hg x T' h0 h7 (fun _=>rfl) ?_
  first|rfl|wrow_post
noncomputable def lawD:DefRec:=match defOf qv (S "law") with|some (d,_)=>d|none=>⟨S "",⟨[],[],none,[],[],none,[]⟩,[],⟨.function,[],false,false,[]⟩,⟨0,0,0,0⟩⟩
end Mine
open Mine
theorem PySem.Challenge.cw_xg0088_01_holds : PySem.Challenge.rw_xg0088_01.Holds :=
  holds_law said fun s=>holds_openX (q:=qv) (loose:=lo) (Xt:=fun _=>true) (XP:=fun _ _=>True) (Yf:=obsM) (Ya:=valM) (d:=lawD) (kwd:=[]) (N:=2100) left (fun _ _=>trivial) (fun _ _ _ _ _=>trivial) (by kernel_rfl) (by kernel_rfl) (by rfl) (fun _ _=>recFacts_nil rfl) (by rfl) s (by decide+kernel) ⟨rfl,rfl,rfl,rfl,rfl,by decide+kernel⟩ (by w_witness2) (walk_law _ _ (by kernel_rfl))
