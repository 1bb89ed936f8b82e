import PyProof.Rows.All
import Wide.All
import OpenK.AllK
import Wide.FinOn
import Lean
import PySem.Challenge.RW_mr0319_01
set_option Elab.async false
set_option maxRecDepth 100000
set_option maxHeartbeats 0
set_option linter.all false
set_option genSizeOfSpec false
set_option genInjectivity false
set_option compiler.extract_closed false
namespace Mine
theorem le_a {a b c:Nat} (h:a<=b) (e:Nat.ble b c=true):a<=c:=Nat.le_trans h (Nat.le_of_ble_eq_true e)
theorem le_b {a b c:Nat} (h:a<=b) (e:Nat.ble (b+1) c=true):a<c:=Nat.lt_of_le_of_lt h (Nat.le_of_ble_eq_true e)
theorem le_c {a b c d:Nat} (h:a<=b) (e:Nat.ble (b+d) c=true):a+d<=c:=le_a (Nat.add_le_add_right h d) e
theorem le_d {a b c d:Nat} (h:a<=b) (e:Nat.ble (b+d+1) c=true):a+d<c:=le_b (Nat.add_le_add_right h d) e
theorem le_e {i k m n:Nat} (h:i+(k+1)=m) (e:Nat.ble m n=true):i<n:=Nat.lt_of_lt_of_le (Nat.lt_of_lt_of_eq (Nat.lt_add_of_pos_right (Nat.succ_pos k)) h) (Nat.le_of_ble_eq_true e)
theorem le_f {i k m n:Nat} (h:i+(k+1)=m) (g:m<=n):i<n:=Nat.lt_of_lt_of_le (Nat.lt_of_lt_of_eq (Nat.lt_add_of_pos_right (Nat.succ_pos k)) h) g
theorem le_g {a b m n:Nat} (h:a=b) (g:b<=m) (e:Nat.ble m n=true):a<=n:=le_a (h▸g) e
theorem eq_e {i k m:Nat} (h:i+(k+1)=m):i+1+k=m:=(Nat.add_right_comm i 1 k).trans h
end Mine
local macro_rules | `(tactic| omega) => `(tactic| first | (refine Mine.le_a (by assumption) ?_; rfl) | (refine Mine.le_b (by assumption) ?_; rfl) | (refine Mine.le_c (by assumption) ?_; rfl) | (refine Mine.le_d (by assumption) ?_; rfl) | exact Mine.eq_e (by assumption) | (refine Mine.le_e (by assumption) ?_; rfl) | exact Mine.le_f (by assumption) (by assumption) | (refine Mine.le_g (by assumption) (by assumption) ?_; rfl) | lia | omega (config := {}))
namespace Mine
section
open PySem PySem.W PySem.W.X PyProof.Rows
theorem said (h:PySem.Challenge.rw_mr0319_01.row.wellSaid=true->PySem.Challenge.rw_mr0319_01.row.Holds):PySem.Challenge.rw_mr0319_01.Holds:=by
 exact holds_law (by kernel_rfl) h
noncomputable abbrev pq:Program:=PySem.Challenge.pw_mr0319_01
noncomputable def S (l:List Nat):Str:=⟨⟨l⟩⟩
noncomputable abbrev saa:Str:=S [106,111,98]
noncomputable abbrev sab:Str:=S [47,99,108,97,105,109,47,99,117,116,46,112,121]
noncomputable abbrev sac:Str:=S [112,108,97,99,101]
noncomputable abbrev sad:Str:=S [115,101,108,102]
noncomputable abbrev sae:Str:=S [112,114,101,100,101,99,101,115,115,111,114,115]
noncomputable abbrev saf:Str:=S [114,97,110,107]
noncomputable abbrev sag:Str:=S [115,99,114,105,112,116]
noncomputable abbrev sah:Str:=S [110,111,100,101,105,110,102,111]
noncomputable abbrev sai:Str:=S [99,112,121,51,49,51,46,103,114,97,112,104,108,105,98]
noncomputable abbrev saj:Str:=S [110,111,100,101]
noncomputable abbrev sak:Str:=S [99,108,101,97,110,101,100]
noncomputable abbrev sal:Str:=S [99,101,108,108,115]
noncomputable abbrev sam:Str:=S [111,110,101]
noncomputable abbrev san:Str:=S [108,97,116,101,115,116]
noncomputable abbrev sao:Str:=S [110,97,109,101]
noncomputable abbrev sap:Str:=S [95,99,111,109,112,97,114,97,98,108,101,95,118,101,114,115,105,111,110]
noncomputable abbrev saq:Str:=S [97,114,103,115]
noncomputable abbrev sar:Str:=S [115,117,99,99,101,115,115,111,114,95,105,110,102,111]
noncomputable abbrev sas:Str:=S [110,50,105]
noncomputable abbrev sat:Str:=S [110,111,100,101,115]
noncomputable abbrev sau:Str:=S [114,101,115,117,108,116]
noncomputable abbrev sav:Str:=S [118]
noncomputable abbrev saw:Str:=S [117,110,107,110,111,119,110]
noncomputable abbrev sax:Str:=S [97,104,101,97,100]
noncomputable abbrev say:Str:=S [108,97,119,95,109,114,48,51,49,57,95,48,49]
noncomputable abbrev saz:Str:=S [84,111,112,111,108,111,103,105,99,97,108,83,111,114,116,101,114]
noncomputable abbrev sba:Str:=S [84,111,112,111,108,111,103,105,99,97,108,83,111,114,116,101,114,46,95,103,101,116,95,110,111,100,101,105,110,102,111]
noncomputable abbrev sbb:Str:=S [115,116,97,116]
noncomputable abbrev sbc:Str:=S [84,111,112,111,108,111,103,105,99,97,108,83,111,114,116,101,114,46,95,102,105,110,100,95,99,121,99,108,101]
noncomputable abbrev sbd:Str:=S [115,117,99,99,101,115,115,111,114]
noncomputable abbrev sbe:Str:=S [84,111,112,111,108,111,103,105,99,97,108,83,111,114,116,101,114,46,103,101,116,95,114,101,97,100,121]
noncomputable abbrev sbf:Str:=S [84,111,112,111,108,111,103,105,99,97,108,83,111,114,116,101,114,46,105,115,95,97,99,116,105,118,101]
noncomputable abbrev sbg:Str:=S [108,97,98,101,108]
noncomputable abbrev sbh:Str:=S [84,111,112,111,108,111,103,105,99,97,108,83,111,114,116,101,114,46,95,95,105,110,105,116,95,95]
noncomputable abbrev sbi:Str:=S [108,101,97,115,116]
noncomputable abbrev sbj:Str:=S [84,111,112,111,108,111,103,105,99,97,108,83,111,114,116,101,114,46,112,114,101,112,97,114,101]
noncomputable abbrev sbk:Str:=S [107,105,110,100]
noncomputable abbrev sbl:Str:=S [103,114,97,112,104]
noncomputable abbrev sbm:Str:=S [84,111,112,111,108,111,103,105,99,97,108,83,111,114,116,101,114,46,100,111,110,101]
noncomputable abbrev sbn:Str:=S [116]
noncomputable abbrev sbo:Str:=S [45]
noncomputable abbrev sbp:Str:=S [84,111,112,111,108,111,103,105,99,97,108,83,111,114,116,101,114,46,97,100,100]
noncomputable abbrev sbq:Str:=S [105]
noncomputable abbrev sbr:Str:=S [112,108,97,116,102,111,114,109]
noncomputable abbrev sbs:Str:=S [67,121,99,108,101,69,114,114,111,114]
noncomputable abbrev sbt:Str:=S [114,111,119,115]
noncomputable abbrev sbu:Str:=S [95,108,97,119,95,100,114,101,115,115,101,100]
noncomputable abbrev sbv:Str:=S [95,78,111,100,101,73,110,102,111]
noncomputable abbrev sbw:Str:=S [114,111,119]
noncomputable abbrev sbx:Str:=S [95,78,111,100,101,73,110,102,111,46,95,95,105,110,105,116,95,95]
noncomputable abbrev sby:Str:=S [95,108,97,119,95,99,111,117,114,115,101]
noncomputable abbrev sbz:Str:=S [95,108,97,119,95,110,101,101,100,115]
noncomputable abbrev sca:Str:=S [99,112,121,51,49,51,46,112,108,97,116,102,111,114,109]
noncomputable abbrev scb:Str:=S [95,108,97,119,95,99,101,108,108,115]
noncomputable abbrev scc:Str:=S [99,97,108,108,115]
noncomputable abbrev scd:Str:=S [112,114,101,100,95,105,110,102,111]
noncomputable abbrev sce:Str:=S [95,112,108,97,116,102,111,114,109]
noncomputable abbrev scf:Str:=S [110,112,114,101,100,101,99,101,115,115,111,114,115]
noncomputable abbrev scg:Str:=S [46,95,43,45]
noncomputable abbrev sch:Str:=S [110,101,101,100,115]
noncomputable abbrev sci:Str:=S [110,111,100,101,50,115,116,97,99,107,105]
noncomputable abbrev scj:Str:=S [115,117,99,99,101,115,115,111,114,115]
noncomputable abbrev sck:Str:=S [100,117,101]
noncomputable abbrev scl:Str:=S [95,95,105,110,105,116,95,95]
noncomputable abbrev scm:Str:=S [45,45]
noncomputable abbrev scn:Str:=S [112,114,101,100]
noncomputable abbrev sco:Str:=S [32]
noncomputable abbrev scp:Str:=S [47]
noncomputable abbrev scq:Str:=S [40]
noncomputable def AE:List Stmt->Nat->Stmt
 | [],_=> .Pass default
 | s::_,0=>s
 | _::l,n+1=>AE l n
noncomputable def st (k:Nat):Stmt:=AE pq.main.body k
structure SV where
 e:PySem.Expr:=default
 l:List PySem.Expr:=[]
 b:List Stmt:=[]
 o:List Stmt:=[]
 p:Pos:=default
 h:List ExceptHandler:=[]
 n:Str:=default
 a:Arguments:=default
 s:Scope:=default
noncomputable def Br:Stmt->SV
 | .If e b o p=>{ e,b,o,p }
 | .For e _ b o p=>{ e,b,o,p }
 | .While e b o p=>{ e,b,o,p }
 | .Try b h _ _ p=>{ b,h,p }
 | .Assign l e p=>{ l,e,p }
 | .Return e p=>{ e:=e.getD default,p }
 | .FunctionDef n a b _ _ _ s _ _ p=>{ n,a,b,s,p }
 | .ClassDef _ _ _ b _ _ _ _ _ _ _=>{ b }
 | _=>{}
structure EV where
 e:PySem.Expr:=default
 f:PySem.Expr:=default
 l:List PySem.Expr:=[]
 g:List Comprehension:=[]
 s:Scope:=default
 p:Pos:=default
 k:Nat:=0
noncomputable def Bp:PySem.Expr->EV
 | .Call e l _ p=>{ e,l,p }
 | .ListComp e g s p=>{ e,g,s,p }
 | .GeneratorExp e g s p=>{ e,g,s,p }
 | .DictComp e f g s p=>{ e,f,g,s,p }
 | .BoolOp _ l p=>{ l,p }
 | .Compare e _ l p=>{ e,l,p }
 | .Subscript e f p=>{ e,f,p }
 | .Attribute e _ p=>{ e,p }
 | .Starred e p=>{ e,p }
 | .UnaryOp _ e p=>{ e,p }
 | .Tuple l k p=>{ l,k,p }
 | .Constant _ k p=>{ k,p }
 | .Name _ p=>{ p }
 | _=>{}
noncomputable def hdG (l:List Comprehension):Comprehension:=l.headD ⟨default,default,[],0⟩
noncomputable def hdE (l:List PySem.Expr):PySem.Expr:=l.headD default
noncomputable def inCls (s:Stmt):List Stmt:=(Br s).b
noncomputable def mt (k j:Nat):Stmt:=AE (inCls (st k)) j
noncomputable def fnO (q:Str) (dv md:Value) (cd:Addr) (s:Stmt):Obj:=⟨.type PySem.W.SZ.s7174869446012820540x8,none,.func ⟨(Br s).n,q,(Br s).a,.stmts (Br s).b,(Br s).s,3,[],dv,.none,.none,md,none,.ref cd,.none,0⟩,#[]⟩
noncomputable def E (P:Params) (l:List Nat) (t:Nat) (v:Value):DictEntry:=⟨PyData.keyHash P (S l),.str (S l) t,v⟩
noncomputable def o0 (P:Params):Obj:=⟨.type PySem.W.SZ.s14018661285674007319x4,none,.dict #[E P [95,95,110,97,109,101,95,95] 1 (.str (S [98,117,105,108,116,105,110,115]) 160),E P [95,95,100,111,99,95,95] 2 (.builtin "builtins.__doc__:str#opaque"),E P [95,95,112,97,99,107,97,103,101,95,95] 3 (.builtin "builtins.__package__:str#opaque"),E P [95,95,108,111,97,100,101,114,95,95] 4 (.builtin "builtins.__loader__:shared#opaque"),E P [95,95,115,112,101,99,95,95] 5 (.builtin PySem.W.SZ.s11665532747177232413x24),E P [95,95,98,117,105,108,100,95,99,108,97,115,115,95,95] 6 (.builtin PySem.W.SZ.s15183661809925369436x15),E P [95,95,105,109,112,111,114,116,95,95] 7 (.builtin PySem.W.SZ.s13915890719876406383x10),E P [97,98,115] 8 (.builtin PySem.W.SZ.s13459172003223722735x3),E P [97,108,108] 9 (.builtin PySem.W.SZ.s10557405761357834076x3),E P [97,110,121] 10 (.builtin PySem.W.SZ.s4233737765568776869x3),E P [97,115,99,105,105] 11 (.builtin PySem.W.SZ.s2508922471967985374x5),E P [98,105,110] 12 (.builtin PySem.W.SZ.s15574269061696679450x3),E P [98,114,101,97,107,112,111,105,110,116] 13 (.builtin PySem.W.SZ.s6016482663378992977x10),E P [99,97,108,108,97,98,108,101] 14 (.builtin PySem.W.SZ.s5596568736180474577x8),E P [99,104,114] 15 (.builtin PySem.W.SZ.s2839554839881490554x3),E P [99,111,109,112,105,108,101] 16 (.builtin PySem.W.SZ.s725004073602090463x7),E P [100,101,108,97,116,116,114] 17 (.builtin PySem.W.SZ.s9436932552931045734x7),E P [100,105,114] 18 (.builtin PySem.W.SZ.s2754603736356183583x3),E P [100,105,118,109,111,100] 19 (.builtin PySem.W.SZ.s15185746759980889043x6),E P [101,118,97,108] 20 (.builtin PySem.W.SZ.s8192189862530294059x4),E P [101,120,101,99] 21 (.builtin PySem.W.SZ.s7038307821325472102x4),E P [102,111,114,109,97,116] 22 (.builtin PySem.W.SZ.s5662562618415449548x6),E P [103,101,116,97,116,116,114] 23 (.builtin PySem.W.SZ.s15281542589158584767x7),E P [103,108,111,98,97,108,115] 24 (.builtin PySem.W.SZ.s17651547275483570877x7),E P [104,97,115,97,116,116,114] 25 (.builtin PySem.W.SZ.s4036449017235975746x7),E P [104,97,115,104] 26 (.builtin PySem.W.SZ.s8879979712987360175x4),E P [104,101,120] 27 (.builtin PySem.W.SZ.s1801250619170735830x3),E P [105,100] 28 (.builtin PySem.W.SZ.s17659931425627118568x2),E P [105,110,112,117,116] 29 (.builtin PySem.W.SZ.s6063217899685152688x5),E P [105,115,105,110,115,116,97,110,99,101] 30 (.builtin PySem.W.SZ.s8008927332132565319x10),E P [105,115,115,117,98,99,108,97,115,115] 31 (.builtin PySem.W.SZ.s3544116645089599534x10),E P [105,116,101,114] 32 (.builtin PySem.W.SZ.s13761710972054866084x4),E P [97,105,116,101,114] 33 (.builtin PySem.W.SZ.s12896375587409280029x5),E P [108,101,110] 34 (.builtin PySem.W.SZ.s13014049009108672802x3),E P [108,111,99,97,108,115] 35 (.builtin PySem.W.SZ.s13935586738268321596x6),E P [109,97,120] 36 (.builtin PySem.W.SZ.s8200498257699607233x3),E P [109,105,110] 37 (.builtin PySem.W.SZ.s14114244577727609259x3),E P [110,101,120,116] 38 (.builtin PySem.W.SZ.s1499430450269397089x4),E P [97,110,101,120,116] 39 (.builtin PySem.W.SZ.s8755793994789770505x5),E P [111,99,116] 40 (.builtin PySem.W.SZ.s15725212667919936108x3),E P [111,114,100] 41 (.builtin PySem.W.SZ.s15791221867095933363x3),E P [112,111,119] 42 (.builtin PySem.W.SZ.s81309575031448614x3),E P [112,114,105,110,116] 43 (.builtin PySem.W.SZ.s8069831620301644142x5),E P [114,101,112,114] 44 (.builtin PySem.W.SZ.s10061844253413749634x4),E P [114,111,117,110,100] 45 (.builtin PySem.W.SZ.s9496514870978017513x5),E P [115,101,116,97,116,116,114] 46 (.builtin PySem.W.SZ.s8899691144933366716x7),E P [115,111,114,116,101,100] 47 (.builtin PySem.W.SZ.s15201008993051130160x6),E P [115,117,109] 48 (.builtin PySem.W.SZ.s741896355592496720x3),E P [118,97,114,115] 49 (.builtin PySem.W.SZ.s17925004256654032244x4),E P [78,111,110,101] 50 .none,E P [69,108,108,105,112,115,105,115] 51 .ellipsis,E P [78,111,116,73,109,112,108,101,109,101,110,116,101,100] 52 .notImplemented,E P [70,97,108,115,101] 53 (.bool false),E P [84,114,117,101] 54 (.bool true),E P [98,111,111,108] 55 (.type PySem.W.SZ.s11695548795398191787x4),E P [109,101,109,111,114,121,118,105,101,119] 56 (.type PySem.W.SZ.s4156966113859768872x10),E P [98,121,116,101,97,114,114,97,121] 57 (.type PySem.W.SZ.s9501651726347032510x9),E P [98,121,116,101,115] 58 (.type PySem.W.SZ.s15722918466584999320x5),E P [99,108,97,115,115,109,101,116,104,111,100] 59 (.type PySem.W.SZ.s591115383303110208x11),E P [99,111,109,112,108,101,120] 60 (.type PySem.W.SZ.s15721156781594690315x7),E P [100,105,99,116] 61 (.type PySem.W.SZ.s14018661285674007319x4),E P [101,110,117,109,101,114,97,116,101] 62 (.type PySem.W.SZ.s14340494229221121180x9),E P [102,105,108,116,101,114] 63 (.type PySem.W.SZ.s13429844117177748173x6),E P [102,108,111,97,116] 64 (.type PySem.W.SZ.s16463266125957815391x5),E P [102,114,111,122,101,110,115,101,116] 65 (.type PySem.W.SZ.s4922535414793169389x9),E P [112,114,111,112,101,114,116,121] 66 (.type PySem.W.SZ.s8101838861749082086x8),E P [105,110,116] 67 (.type PySem.W.SZ.s7066276694103001551x3),E P [108,105,115,116] 68 (.type PySem.W.SZ.s9222952809800978799x4),E P [109,97,112] 69 (.type PySem.W.SZ.s462964344163437139x3),E P [111,98,106,101,99,116] 70 (.type PySem.W.SZ.s2742458400755230247x6),E P [114,97,110,103,101] 71 (.type PySem.W.SZ.s1438033511350832697x5),E P [114,101,118,101,114,115,101,100] 72 (.type PySem.W.SZ.s14365286008749172514x8),E P [115,101,116] 73 (.type PySem.W.SZ.s3642769012341782148x3),E P [115,108,105,99,101] 74 (.type PySem.W.SZ.s4674234679698826739x5),E P [115,116,97,116,105,99,109,101,116,104,111,100] 75 (.type PySem.W.SZ.s16656946322747308186x12),E P [115,116,114] 76 (.type PySem.W.SZ.s10796804682411823810x3),E P [115,117,112,101,114] 77 (.type PySem.W.SZ.s4290257624100764138x5),E P [116,117,112,108,101] 78 (.type PySem.W.SZ.s2766695959194262286x5),E P [116,121,112,101] 79 (.type PySem.W.SZ.s17162191345867700912x4),E P [122,105,112] 80 (.type PySem.W.SZ.s14339709457334898076x3),E P [95,95,100,101,98,117,103,95,95] 81 (.bool true),E P [66,97,115,101,69,120,99,101,112,116,105,111,110] 82 (.type PySem.W.SZ.s4278001404047624695x13),E P [66,97,115,101,69,120,99,101,112,116,105,111,110,71,114,111,117,112] 83 (.type PySem.W.SZ.s6585700554429387442x18),E P [69,120,99,101,112,116,105,111,110] 84 (.type PySem.W.SZ.s5946037652744460706x9),E P [71,101,110,101,114,97,116,111,114,69,120,105,116] 85 (.type PySem.W.SZ.s7410770068591931388x13),E P [75,101,121,98,111,97,114,100,73,110,116,101,114,114,117,112,116] 86 (.type PySem.W.SZ.s11817881795495490833x17),E P [83,121,115,116,101,109,69,120,105,116] 87 (.type PySem.W.SZ.s15679963881808890155x10),E P [65,114,105,116,104,109,101,116,105,99,69,114,114,111,114] 88 (.type PySem.W.SZ.s3871700062485845797x15),E P [65,115,115,101,114,116,105,111,110,69,114,114,111,114] 89 (.type PySem.W.SZ.s7689518266570723881x14),E P [65,116,116,114,105,98,117,116,101,69,114,114,111,114] 90 (.type PySem.W.SZ.s9001593270443806431x14),E P [66,117,102,102,101,114,69,114,114,111,114] 91 (.type PySem.W.SZ.s6882542574934516792x11),E P [69,79,70,69,114,114,111,114] 92 (.type PySem.W.SZ.s14403400214490484960x8),E P [73,109,112,111,114,116,69,114,114,111,114] 93 (.type PySem.W.SZ.s14457978657717015782x11),E P [76,111,111,107,117,112,69,114,114,111,114] 94 (.type PySem.W.SZ.s1753610191782819921x11),E P [77,101,109,111,114,121,69,114,114,111,114] 95 (.type PySem.W.SZ.s14119380538032626715x11),E P [78,97,109,101,69,114,114,111,114] 96 (.type PySem.W.SZ.s11437920000406562045x9),E P [79,83,69,114,114,111,114] 97 (.type PySem.W.SZ.s10852414792293593619x7),E P [82,101,102,101,114,101,110,99,101,69,114,114,111,114] 98 (.type PySem.W.SZ.s14816307405966870543x14),E P [82,117,110,116,105,109,101,69,114,114,111,114] 99 (.type PySem.W.SZ.s8682627914449686677x12),E P [83,116,111,112,65,115,121,110,99,73,116,101,114,97,116,105,111,110] 100 (.type PySem.W.SZ.s4428170145600203450x18),E P [83,116,111,112,73,116,101,114,97,116,105,111,110] 101 (.type PySem.W.SZ.s5991306692159431302x13),E P [83,121,110,116,97,120,69,114,114,111,114] 102 (.type PySem.W.SZ.s16067994140765818257x11),E P [83,121,115,116,101,109,69,114,114,111,114] 103 (.type PySem.W.SZ.s2327743974964600596x11),E P [84,121,112,101,69,114,114,111,114] 104 (.type PySem.W.SZ.s2804747833354056582x9),E P [86,97,108,117,101,69,114,114,111,114] 105 (.type PySem.W.SZ.s6070975301684473832x10),E P [87,97,114,110,105,110,103] 106 (.type PySem.W.SZ.s14270485950484850486x7),E P [70,108,111,97,116,105,110,103,80,111,105,110,116,69,114,114,111,114] 107 (.type PySem.W.SZ.s12041534306414923332x18),E P [79,118,101,114,102,108,111,119,69,114,114,111,114] 108 (.type PySem.W.SZ.s2531307568338490285x13),E P [90,101,114,111,68,105,118,105,115,105,111,110,69,114,114,111,114] 109 (.type PySem.W.SZ.s631175304937289666x17),E P [66,121,116,101,115,87,97,114,110,105,110,103] 110 (.type PySem.W.SZ.s5144983644357021410x12),E P [68,101,112,114,101,99,97,116,105,111,110,87,97,114,110,105,110,103] 111 (.type PySem.W.SZ.s18039099521571816885x18),E P [69,110,99,111,100,105,110,103,87,97,114,110,105,110,103] 112 (.type PySem.W.SZ.s6011586214260557989x15),E P [70,117,116,117,114,101,87,97,114,110,105,110,103] 113 (.type PySem.W.SZ.s5430567037509283100x13),E P [73,109,112,111,114,116,87,97,114,110,105,110,103] 114 (.type PySem.W.SZ.s8117915138073963741x13),E P [80,101,110,100,105,110,103,68,101,112,114,101,99,97,116,105,111,110,87,97,114,110,105,110,103] 115 (.type PySem.W.SZ.s3423317712779056401x25),E P [82,101,115,111,117,114,99,101,87,97,114,110,105,110,103] 116 (.type PySem.W.SZ.s2007317383269046180x15),E P [82,117,110,116,105,109,101,87,97,114,110,105,110,103] 117 (.type PySem.W.SZ.s17481586968713580700x14),E P [83,121,110,116,97,120,87,97,114,110,105,110,103] 118 (.type PySem.W.SZ.s2450899226349176912x13),E P [85,110,105,99,111,100,101,87,97,114,110,105,110,103] 119 (.type PySem.W.SZ.s16626165730633575011x14),E P [85,115,101,114,87,97,114,110,105,110,103] 120 (.type PySem.W.SZ.s14288496050688921416x11),E P [66,108,111,99,107,105,110,103,73,79,69,114,114,111,114] 121 (.type PySem.W.SZ.s5735081916595925998x15),E P [67,104,105,108,100,80,114,111,99,101,115,115,69,114,114,111,114] 122 (.type PySem.W.SZ.s3865607918536308442x17),E P [67,111,110,110,101,99,116,105,111,110,69,114,114,111,114] 123 (.type PySem.W.SZ.s13337502604062700212x15),E P [70,105,108,101,69,120,105,115,116,115,69,114,114,111,114] 124 (.type PySem.W.SZ.s13114017843053701147x15),E P [70,105,108,101,78,111,116,70,111,117,110,100,69,114,114,111,114] 125 (.type PySem.W.SZ.s17467278006356818441x17),E P [73,110,116,101,114,114,117,112,116,101,100,69,114,114,111,114] 126 (.type PySem.W.SZ.s17722149559621369488x16),E P [73,115,65,68,105,114,101,99,116,111,114,121,69,114,114,111,114] 127 (.type PySem.W.SZ.s7855274175708717672x17),E P [78,111,116,65,68,105,114,101,99,116,111,114,121,69,114,114,111,114] 128 (.type PySem.W.SZ.s13351283678309829046x18),E P [80,101,114,109,105,115,115,105,111,110,69,114,114,111,114] 129 (.type PySem.W.SZ.s6668348653404991179x15),E P [80,114,111,99,101,115,115,76,111,111,107,117,112,69,114,114,111,114] 130 (.type PySem.W.SZ.s12913350958174193794x18),E P [84,105,109,101,111,117,116,69,114,114,111,114] 131 (.type PySem.W.SZ.s16115879512475548326x12),E P [73,110,100,101,110,116,97,116,105,111,110,69,114,114,111,114] 132 (.type PySem.W.SZ.s15920661018069861047x16),E P [95,73,110,99,111,109,112,108,101,116,101,73,110,112,117,116,69,114,114,111,114] 133 (.type PySem.W.SZ.s10779130036587390575x21),E P [73,110,100,101,120,69,114,114,111,114] 134 (.type PySem.W.SZ.s7801419657504700863x10),E P [75,101,121,69,114,114,111,114] 135 (.type PySem.W.SZ.s1688129525768580628x8),E P [77,111,100,117,108,101,78,111,116,70,111,117,110,100,69,114,114,111,114] 136 (.type PySem.W.SZ.s1031832959479892071x19),E P [78,111,116,73,109,112,108,101,109,101,110,116,101,100,69,114,114,111,114] 137 (.type PySem.W.SZ.s8991790508128307865x19),E P [80,121,116,104,111,110,70,105,110,97,108,105,122,97,116,105,111,110,69,114,114,111,114] 138 (.type PySem.W.SZ.s14539662485746970245x23),E P [82,101,99,117,114,115,105,111,110,69,114,114,111,114] 139 (.type PySem.W.SZ.s11643622729373238714x14),E P [85,110,98,111,117,110,100,76,111,99,97,108,69,114,114,111,114] 140 (.type PySem.W.SZ.s3386828779285465597x17),E P [85,110,105,99,111,100,101,69,114,114,111,114] 141 (.type PySem.W.SZ.s13042696260734638735x12),E P [66,114,111,107,101,110,80,105,112,101,69,114,114,111,114] 142 (.type PySem.W.SZ.s18239426817015966623x15),E P [67,111,110,110,101,99,116,105,111,110,65,98,111,114,116,101,100,69,114,114,111,114] 143 (.type PySem.W.SZ.s1270395311379034370x22),E P [67,111,110,110,101,99,116,105,111,110,82,101,102,117,115,101,100,69,114,114,111,114] 144 (.type PySem.W.SZ.s10696252587037064777x22),E P [67,111,110,110,101,99,116,105,111,110,82,101,115,101,116,69,114,114,111,114] 145 (.type PySem.W.SZ.s7852717498200857586x20),E P [84,97,98,69,114,114,111,114] 146 (.type PySem.W.SZ.s6377248116197321094x8),E P [85,110,105,99,111,100,101,68,101,99,111,100,101,69,114,114,111,114] 147 (.type PySem.W.SZ.s3834378056692298002x18),E P [85,110,105,99,111,100,101,69,110,99,111,100,101,69,114,114,111,114] 148 (.type PySem.W.SZ.s17586630440231065808x18),E P [85,110,105,99,111,100,101,84,114,97,110,115,108,97,116,101,69,114,114,111,114] 149 (.type PySem.W.SZ.s15234114252648025395x21),E P [69,120,99,101,112,116,105,111,110,71,114,111,117,112] 150 (.type PySem.W.SZ.s8496462677383758984x14),E P [69,110,118,105,114,111,110,109,101,110,116,69,114,114,111,114] 151 (.type PySem.W.SZ.s10852414792293593619x7),E P [73,79,69,114,114,111,114] 152 (.type PySem.W.SZ.s10852414792293593619x7),E P [111,112,101,110] 153 (.builtin PySem.W.SZ.s16789243406116112673x4),E P [113,117,105,116] 154 (.builtin PySem.W.SZ.s14400166428656793546x20),E P [101,120,105,116] 155 (.builtin PySem.W.SZ.s5857708277339239366x20),E P [99,111,112,121,114,105,103,104,116] 156 (.builtin "builtins.copyright#opaque"),E P [99,114,101,100,105,116,115] 157 (.builtin "builtins.credits#opaque"),E P [108,105,99,101,110,115,101] 158 (.builtin "builtins.license#opaque"),E P [104,101,108,112] 159 (.builtin PySem.W.SZ.s7804999707787243718x20)] 159,#[]⟩
noncomputable def o2 (P:Params):Obj:=⟨.none,none,.dict #[E P [105,109,112,111,114,116,46,108,111,97,100,101,100,46,95,115,114,101] 183 (.bool true),E P [99,108,97,115,115,46,95,102,114,111,122,101,110,95,105,109,112,111,114,116,108,105,98,46,66,117,105,108,116,105,110,73,109,112,111,114,116,101,114] 185 (.ref 14),E P [119,97,116,99,104,101,100,46,105,109,112,111,114,116] 206 (.ref 18),E P [99,108,97,115,115,46,95,102,114,111,122,101,110,95,105,109,112,111,114,116,108,105,98,46,77,111,100,117,108,101,83,112,101,99] 216 (.ref 22),E P [115,121,115,46,109,111,100,117,108,101,115,46,98,111,111,107,101,100,45,101,112,111,99,104] 245 (.int 3 0),E P [105,109,112,111,114,116,46,108,97,116,101,114,45,108,97,105,100,46,95,115,114,101] 270 (.bool true),E P [119,97,116,99,104,101,100,46,108,105,98,114,97,114,121] 272 (.ref 27),E P [119,97,116,99,104,101,100,46,108,105,98,114,97,114,121,45,111,98,106,101,99,116,115] 0 (.str (S [12]) 0),E P [119,97,116,99,104,101,100,46,108,105,98,114,97,114,121,45,100,101,101,112,46,95,115,114,101] 273 (.str (S [4,0,0,11,4,0,0,11,4,0,0,3,4,0,0,11,8,4,100,105,99,116,2]) 0)] 9,#[]⟩
noncomputable def o3 (P:Params):Obj:=⟨.type PySem.W.SZ.s14018661285674007319x4,none,.dict #[E P [95,95,110,97,109,101,95,95] 165 (.str say 571),E P [95,95,100,111,99,95,95] 166 .none,E P [95,95,112,97,99,107,97,103,101,95,95] 167 .none,E P [95,95,108,111,97,100,101,114,95,95] 168 (.builtin PySem.W.SZ.s7097527257260152453x26),E P [95,95,115,112,101,99,95,95] 169 .none,E P [95,95,97,110,110,111,116,97,116,105,111,110,115,95,95] 170 (.ref 6),E P [95,95,98,117,105,108,116,105,110,115,95,95] 171 (.ref 4),E P [95,95,102,105,108,101,95,95] 173 (.str sab 172),E P [95,95,99,97,99,104,101,100,95,95] 174 .none,E P [95,115,114,101] 275 (.ref 12),E P [95,119,97,108,108] 288 (.ref 38),E P [95,116,119,105,110,95,114,101,95,49] 337 (.ref 43),E P [95,118,101,114,95,115,116,97,103,101,115] 368 (.ref 44),E P [95,99,111,109,112,97,114,97,98,108,101,95,118,101,114,115,105,111,110] 379 (.ref 51),E P [95,112,108,97,116,102,111,114,109] 388 (.ref 58),E P [95,78,79,68,69,95,79,85,84] 393 (.int (-1) 392),E P [95,78,79,68,69,95,68,79,78,69] 396 (.int (-2) 395),E P [95,78,111,100,101,73,110,102,111] 433 (.ref 77),E P [67,121,99,108,101,69,114,114,111,114] 451 (.ref 92),E P [84,111,112,111,108,111,103,105,99,97,108,83,111,114,116,101,114] 570 (.ref 174),E P [95,108,97,119,95,99,101,108,108,115] 578 (.ref 183),E P [95,108,97,119,95,110,101,101,100,115] 589 (.ref 190),E P [95,108,97,119,95,100,114,101,115,115,101,100] 598 (.ref 197),E P [95,108,97,119,95,99,111,117,114,115,101] 604 (.ref 202),E P [108,97,119] 610 (.ref 207)] 25,#[]⟩
noncomputable def o4 (P:Params):Obj:=⟨.type PySem.W.SZ.s6658869562736209489x6,some 0,.plain,#[]⟩
noncomputable def o42 (P:Params):Obj:=⟨.type PySem.W.SZ.s2766695959194262286x5,none,.seq #[.int 14 0,.int 4 0,.int 0 0,.int 1 0,.int 4294967295 0,.int 17 0,.int 0 0,.int 7 0,.int 14 0,.int 24 0,.int 10 0,.int 1 0,.int 4294967295 0,.int 13 0,.int 5 0,.int 22 0,.int 48 0,.int 57 0,.int 0 0,.int 1 0,.int 15 0,.int 17 0,.int 15 0,.int 13 0,.int 11 0,.int 9 0,.int 0 0,.int 26624 0,.int 2147483648 0,.int 0 0,.int 0 0,.int 0 0,.int 0 0,.int 0 0,.int 0 0,.int 15 0,.int 2 0,.int 0 0,.int 17 0,.int 1 0,.int 1 0] 0,#[]⟩
noncomputable def o43 (P:Params):Obj:=⟨.type PySem.W.SZ.s12171344214640291687x10,none,.fields #[.str (S [40,91,48,45,57,93,43,124,91,46,95,43,45,93,41]) 292,.int 32 336,.int 1 0,.none,.none,.ref 42,.int 0 0],#[]⟩
noncomputable def o44 (P:Params):Obj:=⟨.type PySem.W.SZ.s14018661285674007319x4,none,.dict #[E P [100,101,118] 338 (.int 10 339),E P [97,108,112,104,97] 340 (.int 20 341),E P [97] 342 (.int 20 343),E P [98,101,116,97] 344 (.int 30 345),E P [98] 346 (.int 30 347),E P [99] 348 (.int 40 349),E P [82,67] 350 (.int 50 351),E P [114,99] 352 (.int 50 353),E P [112,108] 354 (.int 200 355),E P [112] 356 (.int 200 357)] 10,#[]⟩
noncomputable def o50 (P:Params):Obj:=⟨.type PySem.W.SZ.s5856160107412720595x4,none,.fields #[.str sap 369,.str sap 370,.str sab 371,.int 8 0,.int 1 0,.int 0 0,.int 0 0,.int 3 0,.ref 45,.bool true,.int 276 0,.ref 46,.none,.ref 47,.ref 48,.ref 49,.int 377 0,.int 8 0,.str sab 378],#[]⟩
noncomputable def o51 (P:Params):Obj:=fnO sap .none (.str sca 289) 50 (st 5)
noncomputable def o53 (P:Params):Obj:=⟨.none,none,.fields #[],#[]⟩
noncomputable def o57 (P:Params):Obj:=⟨.type PySem.W.SZ.s5856160107412720595x4,none,.fields #[.str sce 380,.str sce 381,.str sab 382,.int 20 0,.int 0 0,.int 0 0,.int 0 0,.int 7 0,.ref 52,.bool true,.int 276 0,.ref 53,.none,.ref 54,.ref 55,.ref 56,.int 386 0,.int 20 0,.str sab 387],#[]⟩
noncomputable def o58 (P:Params):Obj:=fnO sce .none (.str sca 289) 57 (st 6)
noncomputable def o72 (P:Params):Obj:=⟨.type PySem.W.SZ.s5856160107412720595x4,none,.fields #[.str scl 413,.str sbx 414,.str sab 415,.int 45 0,.int 2 0,.int 0 0,.int 0 0,.int 3 0,.ref 67,.bool true,.int 276 0,.ref 68,.none,.ref 69,.ref 70,.ref 71,.int 418 0,.int 45 0,.str sab 419],#[]⟩
noncomputable def o73 (P:Params):Obj:=fnO sbx .none (.str sai 389) 72 (mt 10 1)
noncomputable def o76 (P:Params):Obj:=⟨.type PySem.W.SZ.s14018661285674007319x4,none,.dict #[E P [95,95,109,111,100,117,108,101,95,95] 404 (.str sai 389),E P [95,95,102,105,114,115,116,108,105,110,101,110,111,95,95] 408 (.int 42 407),E P [95,95,115,108,111,116,115,95,95] 412 (.ref 66),E P [95,95,105,110,105,116,95,95] 420 (.ref 73),E P [95,95,115,116,97,116,105,99,95,97,116,116,114,105,98,117,116,101,115,95,95] 424 (.ref 74),E P [110,111,100,101] 426 (.ref 78),E P [110,112,114,101,100,101,99,101,115,115,111,114,115] 428 (.ref 79),E P [115,117,99,99,101,115,115,111,114,115] 430 (.ref 80),E P [95,95,100,111,99,95,95] 431 .none] 5,#[]⟩
noncomputable def o77 (P:Params):Obj:=⟨.type PySem.W.SZ.s17162191345867700912x4,none,.cls ⟨sbv,[.type PySem.W.SZ.s2742458400755230247x6],[.ref 77,.type PySem.W.SZ.s2742458400755230247x6],76,sbv,false,[saj,scf,scj],[],false,none,false⟩,#[none,none,some (.str sbv 397),some (.str sbv 405),some (.builtin PySem.W.SZ.s11443829558043349243x14),some (.bool false)]⟩
noncomputable def o78 (P:Params):Obj:=⟨.type PySem.W.SZ.s5699418376593618685x17,none,.fields #[.str saj 425,.ref 77,.builtin PySem.W.SZ.s6779124196712981104x10,.builtin PySem.W.SZ.s2924395122027826103x14,.int 2 0],#[]⟩
noncomputable def o79 (P:Params):Obj:=⟨.type PySem.W.SZ.s5699418376593618685x17,none,.fields #[.str scf 427,.ref 77,.builtin PySem.W.SZ.s6779124196712981104x10,.builtin PySem.W.SZ.s2924395122027826103x14,.int 1 0],#[]⟩
noncomputable def o80 (P:Params):Obj:=⟨.type PySem.W.SZ.s5699418376593618685x17,none,.fields #[.str scj 429,.ref 77,.builtin PySem.W.SZ.s6779124196712981104x10,.builtin PySem.W.SZ.s2924395122027826103x14,.int 0 0],#[]⟩
noncomputable def o92 (P:Params):Obj:=⟨.type PySem.W.SZ.s17162191345867700912x4,none,.cls ⟨sbs,[.type PySem.W.SZ.s6070975301684473832x10],[.ref 92,.type PySem.W.SZ.s6070975301684473832x10,.type PySem.W.SZ.s5946037652744460706x9,.type PySem.W.SZ.s4278001404047624695x13,.type PySem.W.SZ.s2742458400755230247x6],91,sbs,true,[],[],false,none,false⟩,#[some (.ref 83),none,some (.str sbs 434),some (.str sbs 442),some (.builtin PySem.W.SZ.s4209523147560561109x18),some (.bool true)]⟩
noncomputable def o103 (P:Params):Obj:=⟨.type PySem.W.SZ.s2766695959194262286x5,none,.seq #[.none] 0,#[]⟩
noncomputable def o109 (P:Params):Obj:=⟨.type PySem.W.SZ.s5856160107412720595x4,none,.fields #[.str scl 464,.str sbh 465,.str sab 466,.int 53 0,.int 2 0,.int 0 0,.int 0 0,.int 3 0,.ref 104,.bool true,.int 276 0,.ref 105,.none,.ref 106,.ref 107,.ref 108,.int 471 0,.int 53 0,.str sab 472],#[]⟩
noncomputable def o110 (P:Params):Obj:=fnO sbh (.ref 103) (.str sai 389) 109 (mt 12 0)
noncomputable def o116 (P:Params):Obj:=⟨.type PySem.W.SZ.s5856160107412720595x4,none,.fields #[.str (S [95,103,101,116,95,110,111,100,101,105,110,102,111]) 474,.str sba 475,.str sab 476,.int 62 0,.int 2 0,.int 0 0,.int 0 0,.int 3 0,.ref 111,.bool true,.int 276 0,.ref 112,.none,.ref 113,.ref 114,.ref 115,.int 480 0,.int 62 0,.str sab 481],#[]⟩
noncomputable def o117 (P:Params):Obj:=fnO sba .none (.str sai 389) 116 (mt 12 1)
noncomputable def o123 (P:Params):Obj:=⟨.type PySem.W.SZ.s5856160107412720595x4,none,.fields #[.str (S [97,100,100]) 483,.str sbp 484,.str sab 485,.int 67 0,.int 2 0,.int 0 0,.int 0 0,.int 7 0,.ref 118,.bool true,.int 276 0,.ref 119,.none,.ref 120,.ref 121,.ref 122,.int 492 0,.int 67 0,.str sab 493],#[]⟩
noncomputable def o124 (P:Params):Obj:=fnO sbp .none (.str sai 389) 123 (mt 12 2)
noncomputable def o128 (P:Params):Obj:=⟨.type PySem.W.SZ.s5856160107412720595x4,none,.fields #[.str (S [112,114,101,112,97,114,101]) 495,.str sbj 496,.str sab 497,.int 76 0,.int 1 0,.int 0 0,.int 0 0,.int 3 0,.ref 125,.bool true,.int 276 0,.ref 126,.none,.none,.none,.ref 127,.int 498 0,.int 76 0,.str sab 499],#[]⟩
noncomputable def o129 (P:Params):Obj:=fnO sbj .none (.str sai 389) 128 (mt 12 3)
noncomputable def o135 (P:Params):Obj:=⟨.type PySem.W.SZ.s5856160107412720595x4,none,.fields #[.str (S [103,101,116,95,114,101,97,100,121]) 501,.str sbe 502,.str sab 503,.int 84 0,.int 1 0,.int 0 0,.int 0 0,.int 3 0,.ref 130,.bool true,.int 276 0,.ref 131,.none,.ref 132,.ref 133,.ref 134,.int 508 0,.int 84 0,.str sab 509],#[]⟩
noncomputable def o136 (P:Params):Obj:=fnO sbe .none (.str sai 389) 135 (mt 12 4)
noncomputable def o142 (P:Params):Obj:=⟨.type PySem.W.SZ.s5856160107412720595x4,none,.fields #[.str (S [105,115,95,97,99,116,105,118,101]) 511,.str sbf 512,.str sab 513,.int 95 0,.int 1 0,.int 0 0,.int 0 0,.int 3 0,.ref 137,.bool true,.int 276 0,.ref 138,.none,.ref 139,.ref 140,.ref 141,.int 515 0,.int 95 0,.str sab 516],#[]⟩
noncomputable def o143 (P:Params):Obj:=fnO sbf .none (.str sai 389) 142 (mt 12 5)
noncomputable def o156 (P:Params):Obj:=⟨.type PySem.W.SZ.s5856160107412720595x4,none,.fields #[.str (S [100,111,110,101]) 525,.str sbm 526,.str sab 527,.int 103 0,.int 1 0,.int 0 0,.int 0 0,.int 7 0,.ref 151,.bool true,.int 276 0,.ref 152,.none,.ref 153,.ref 154,.ref 155,.int 536 0,.int 103 0,.str sab 537],#[]⟩
noncomputable def o157 (P:Params):Obj:=fnO sbm .none (.str sai 389) 156 (mt 12 7)
noncomputable def o163 (P:Params):Obj:=⟨.type PySem.W.SZ.s5856160107412720595x4,none,.fields #[.str (S [95,102,105,110,100,95,99,121,99,108,101]) 539,.str sbc 540,.str sab 541,.int 126 0,.int 1 0,.int 0 0,.int 0 0,.int 3 0,.ref 158,.bool true,.int 276 0,.ref 159,.none,.ref 160,.ref 161,.ref 162,.int 549 0,.int 126 0,.str sab 550],#[]⟩
noncomputable def o164 (P:Params):Obj:=fnO sbc .none (.str sai 389) 163 (mt 12 8)
noncomputable def o173 (P:Params):Obj:=⟨.type PySem.W.SZ.s14018661285674007319x4,none,.dict #[E P [95,95,109,111,100,117,108,101,95,95] 459 (.str sai 389),E P [95,95,102,105,114,115,116,108,105,110,101,110,111,95,95] 463 (.int 51 462),E P [95,95,105,110,105,116,95,95] 473 (.ref 110),E P [95,103,101,116,95,110,111,100,101,105,110,102,111] 482 (.ref 117),E P [97,100,100] 494 (.ref 124),E P [112,114,101,112,97,114,101] 500 (.ref 129),E P [103,101,116,95,114,101,97,100,121] 510 (.ref 136),E P [105,115,95,97,99,116,105,118,101] 517 (.ref 143),E P [95,95,98,111,111,108,95,95] 524 (.ref 150),E P [100,111,110,101] 538 (.ref 157),E P [95,102,105,110,100,95,99,121,99,108,101] 551 (.ref 164),E P [115,116,97,116,105,99,95,111,114,100,101,114] 558 (.ref 171),E P [95,95,115,116,97,116,105,99,95,97,116,116,114,105,98,117,116,101,115,95,95] 563 (.ref 172),E P [95,95,100,105,99,116,95,95] 565 (.ref 175),E P [95,95,119,101,97,107,114,101,102,95,95] 567 (.ref 176),E P [95,95,100,111,99,95,95] 568 .none] 4,#[]⟩
noncomputable def o174 (P:Params):Obj:=⟨.type PySem.W.SZ.s17162191345867700912x4,none,.cls ⟨saz,[.type PySem.W.SZ.s2742458400755230247x6],[.ref 174,.type PySem.W.SZ.s2742458400755230247x6],173,saz,true,[],[],false,none,false⟩,#[none,none,some (.str saz 452),some (.str saz 460),some (.builtin PySem.W.SZ.s11443829558043349243x14),some (.bool true)]⟩
noncomputable def o182 (P:Params):Obj:=⟨.type PySem.W.SZ.s5856160107412720595x4,none,.fields #[.str scb 573,.str scb 574,.str sab 575,.int 158 0,.int 1 0,.int 0 0,.int 0 0,.int 3 0,.ref 179,.bool true,.int 276 0,.ref 180,.none,.none,.none,.ref 181,.int 576 0,.int 158 0,.str sab 577],#[]⟩
noncomputable def o183 (P:Params):Obj:=fnO scb .none (.str say 571) 182 (st 14)
noncomputable def o189 (P:Params):Obj:=⟨.type PySem.W.SZ.s5856160107412720595x4,none,.fields #[.str sbz 579,.str sbz 580,.str sab 581,.int 161 0,.int 1 0,.int 0 0,.int 0 0,.int 3 0,.ref 184,.bool true,.int 276 0,.ref 185,.none,.ref 186,.ref 187,.ref 188,.int 587 0,.int 161 0,.str sab 588],#[]⟩
noncomputable def o190 (P:Params):Obj:=fnO sbz .none (.str say 571) 189 (st 15)
noncomputable def o196 (P:Params):Obj:=⟨.type PySem.W.SZ.s5856160107412720595x4,none,.fields #[.str sbu 590,.str sbu 591,.str sab 592,.int 169 0,.int 3 0,.int 0 0,.int 0 0,.int 3 0,.ref 191,.bool true,.int 276 0,.ref 192,.none,.ref 193,.ref 194,.ref 195,.int 596 0,.int 169 0,.str sab 597],#[]⟩
noncomputable def o197 (P:Params):Obj:=fnO sbu .none (.str say 571) 196 (st 16)
noncomputable def o201 (P:Params):Obj:=⟨.type PySem.W.SZ.s5856160107412720595x4,none,.fields #[.str sby 599,.str sby 600,.str sab 601,.int 185 0,.int 6 0,.int 0 0,.int 0 0,.int 3 0,.ref 198,.bool true,.int 276 0,.ref 199,.none,.none,.none,.ref 200,.int 602 0,.int 185 0,.str sab 603],#[]⟩
noncomputable def o202 (P:Params):Obj:=fnO sby .none (.str say 571) 201 (st 17)
noncomputable def o206 (P:Params):Obj:=⟨.type PySem.W.SZ.s5856160107412720595x4,none,.fields #[.str (S [108,97,119]) 605,.str (S [108,97,119]) 606,.str sab 607,.int 211 0,.int 1 0,.int 0 0,.int 0 0,.int 3 0,.ref 203,.bool true,.int 276 0,.ref 204,.none,.none,.none,.ref 205,.int 608 0,.int 211 0,.str sab 609],#[]⟩
noncomputable def o207 (P:Params):Obj:=fnO (S [108,97,119]) .none (.str say 571) 206 (st 18)
noncomputable def as0:List Addr:=[0,2,3,4,42,43,44,50,51,53,57,58,72,73,76,77,78,79,80,92,103,109,110,116,117,123,124,128,129,135,136,142,143,156,157,163,164,173,174,182,183,189,190,196,197,201,202,206,207]
noncomputable def K0 (P:Params):Frag:=[(0,o0 P),(2,o2 P),(3,o3 P),(4,o4 P),(42,o42 P),(43,o43 P),(44,o44 P),(50,o50 P),(51,o51 P),(53,o53 P),(57,o57 P),(58,o58 P),(72,o72 P),(73,o73 P),(76,o76 P),(77,o77 P),(78,o78 P),(79,o79 P),(80,o80 P),(92,o92 P),(103,o103 P),(109,o109 P),(110,o110 P),(116,o116 P),(117,o117 P),(123,o123 P),(124,o124 P),(128,o128 P),(129,o129 P),(135,o135 P),(136,o136 P),(142,o142 P),(143,o143 P),(156,o156 P),(157,o157 P),(163,o163 P),(164,o164 P),(173,o173 P),(174,o174 P),(182,o182 P),(183,o183 P),(189,o189 P),(190,o190 P),(196,o196 P),(197,o197 P),(201,o201 P),(202,o202 P),(206,o206 P),(207,o207 P)]
noncomputable def kt0 (P:Params):KT:=(.node (some (o0 P)) (.node none (.node (some (o3 P)) (.node none (.node none KT.nil (.node none (.node (some (o79 P)) (.node (some (o143 P)) KT.nil KT.nil) (.node (some (o207 P)) KT.nil KT.nil)) KT.nil)) (.node none (.node none (.node none (.node (some (o135 P)) KT.nil KT.nil) KT.nil) (.node (some (o103 P)) KT.nil KT.nil)) (.node none KT.nil (.node none (.node (some (o183 P)) KT.nil KT.nil) KT.nil)))) (.node none (.node none (.node none KT.nil (.node none (.node (some (o163 P)) KT.nil KT.nil) KT.nil)) (.node (some (o51 P)) KT.nil KT.nil)) (.node none (.node (some (o43 P)) KT.nil KT.nil) (.node none KT.nil (.node (some (o123 P)) KT.nil KT.nil))))) (.node none (.node none (.node none (.node none (.node none (.node (some (o129 P)) KT.nil KT.nil) KT.nil) KT.nil) KT.nil) (.node none (.node none (.node (some (o73 P)) KT.nil (.node (some (o201 P)) KT.nil KT.nil)) KT.nil) (.node (some (o57 P)) KT.nil KT.nil))) (.node none (.node none (.node none (.node none KT.nil (.node (some (o197 P)) KT.nil KT.nil)) KT.nil) (.node (some (o53 P)) KT.nil (.node (some (o117 P)) KT.nil KT.nil))) (.node none (.node none (.node (some (o77 P)) KT.nil KT.nil) (.node (some (o109 P)) (.node (some (o173 P)) KT.nil KT.nil) KT.nil)) (.node none (.node none (.node (some (o157 P)) KT.nil KT.nil) KT.nil) (.node none (.node (some (o189 P)) KT.nil KT.nil) KT.nil)))))) (.node (some (o2 P)) (.node (some (o4 P)) (.node none (.node none (.node none (.node none (.node (some (o128 P)) KT.nil KT.nil) KT.nil) KT.nil) (.node none (.node (some (o80 P)) KT.nil KT.nil) KT.nil)) (.node none (.node none (.node (some (o72 P)) (.node (some (o136 P)) KT.nil KT.nil) KT.nil) KT.nil) KT.nil)) (.node none (.node none (.node none (.node none KT.nil (.node (some (o196 P)) KT.nil KT.nil)) (.node none (.node (some (o164 P)) KT.nil KT.nil) KT.nil)) (.node none KT.nil (.node (some (o116 P)) KT.nil KT.nil))) (.node none (.node (some (o44 P)) (.node (some (o76 P)) KT.nil KT.nil) KT.nil) (.node none (.node (some (o92 P)) (.node (some (o156 P)) KT.nil KT.nil) KT.nil) (.node (some (o124 P)) KT.nil KT.nil))))) (.node none (.node none (.node none KT.nil (.node (some (o50 P)) KT.nil KT.nil)) (.node none (.node (some (o42 P)) (.node none KT.nil (.node (some (o202 P)) KT.nil KT.nil)) KT.nil) (.node (some (o58 P)) KT.nil KT.nil))) (.node none (.node none KT.nil (.node none KT.nil (.node none (.node (some (o182 P)) KT.nil KT.nil) KT.nil))) (.node none (.node none (.node (some (o78 P)) (.node (some (o142 P)) KT.nil KT.nil) (.node (some (o206 P)) KT.nil KT.nil)) (.node (some (o110 P)) (.node (some (o174 P)) KT.nil KT.nil) KT.nil)) (.node none KT.nil (.node none (.node (some (o190 P)) KT.nil KT.nil) KT.nil)))))))
theorem kt0_eq (P:Params):KT.of (K0 P)=kt0 P:=by kernel_rfl
noncomputable def K1 (P:Params):Frag:=[(0,o0 P),(3,o3 P),(4,o4 P),(42,o42 P),(43,o43 P),(44,o44 P),(50,o50 P),(51,o51 P),(53,o53 P),(57,o57 P),(58,o58 P),(72,o72 P),(73,o73 P),(76,o76 P),(77,o77 P),(78,o78 P),(79,o79 P),(80,o80 P),(92,o92 P),(103,o103 P),(109,o109 P),(110,o110 P),(116,o116 P),(117,o117 P),(123,o123 P),(124,o124 P),(128,o128 P),(129,o129 P),(135,o135 P),(136,o136 P),(142,o142 P),(143,o143 P),(156,o156 P),(157,o157 P),(163,o163 P),(164,o164 P),(173,o173 P),(174,o174 P),(182,o182 P),(183,o183 P),(189,o189 P),(190,o190 P),(196,o196 P),(197,o197 P),(201,o201 P),(202,o202 P),(206,o206 P),(207,o207 P)]
noncomputable def kt1 (P:Params):KT:=(.node (some (o0 P)) (.node none (.node (some (o3 P)) (.node none (.node none KT.nil (.node none (.node (some (o79 P)) (.node (some (o143 P)) KT.nil KT.nil) (.node (some (o207 P)) KT.nil KT.nil)) KT.nil)) (.node none (.node none (.node none (.node (some (o135 P)) KT.nil KT.nil) KT.nil) (.node (some (o103 P)) KT.nil KT.nil)) (.node none KT.nil (.node none (.node (some (o183 P)) KT.nil KT.nil) KT.nil)))) (.node none (.node none (.node none KT.nil (.node none (.node (some (o163 P)) KT.nil KT.nil) KT.nil)) (.node (some (o51 P)) KT.nil KT.nil)) (.node none (.node (some (o43 P)) KT.nil KT.nil) (.node none KT.nil (.node (some (o123 P)) KT.nil KT.nil))))) (.node none (.node none (.node none (.node none (.node none (.node (some (o129 P)) KT.nil KT.nil) KT.nil) KT.nil) KT.nil) (.node none (.node none (.node (some (o73 P)) KT.nil (.node (some (o201 P)) KT.nil KT.nil)) KT.nil) (.node (some (o57 P)) KT.nil KT.nil))) (.node none (.node none (.node none (.node none KT.nil (.node (some (o197 P)) KT.nil KT.nil)) KT.nil) (.node (some (o53 P)) KT.nil (.node (some (o117 P)) KT.nil KT.nil))) (.node none (.node none (.node (some (o77 P)) KT.nil KT.nil) (.node (some (o109 P)) (.node (some (o173 P)) KT.nil KT.nil) KT.nil)) (.node none (.node none (.node (some (o157 P)) KT.nil KT.nil) KT.nil) (.node none (.node (some (o189 P)) KT.nil KT.nil) KT.nil)))))) (.node none (.node (some (o4 P)) (.node none (.node none (.node none (.node none (.node (some (o128 P)) KT.nil KT.nil) KT.nil) KT.nil) (.node none (.node (some (o80 P)) KT.nil KT.nil) KT.nil)) (.node none (.node none (.node (some (o72 P)) (.node (some (o136 P)) KT.nil KT.nil) KT.nil) KT.nil) KT.nil)) (.node none (.node none (.node none (.node none KT.nil (.node (some (o196 P)) KT.nil KT.nil)) (.node none (.node (some (o164 P)) KT.nil KT.nil) KT.nil)) (.node none KT.nil (.node (some (o116 P)) KT.nil KT.nil))) (.node none (.node (some (o44 P)) (.node (some (o76 P)) KT.nil KT.nil) KT.nil) (.node none (.node (some (o92 P)) (.node (some (o156 P)) KT.nil KT.nil) KT.nil) (.node (some (o124 P)) KT.nil KT.nil))))) (.node none (.node none (.node none KT.nil (.node (some (o50 P)) KT.nil KT.nil)) (.node none (.node (some (o42 P)) (.node none KT.nil (.node (some (o202 P)) KT.nil KT.nil)) KT.nil) (.node (some (o58 P)) KT.nil KT.nil))) (.node none (.node none KT.nil (.node none KT.nil (.node none (.node (some (o182 P)) KT.nil KT.nil) KT.nil))) (.node none (.node none (.node (some (o78 P)) (.node (some (o142 P)) KT.nil KT.nil) (.node (some (o206 P)) KT.nil KT.nil)) (.node (some (o110 P)) (.node (some (o174 P)) KT.nil KT.nil) KT.nil)) (.node none KT.nil (.node none (.node (some (o190 P)) KT.nil KT.nil) KT.nil)))))))
theorem kt1_eq (P:Params):KT.of (K1 P)=kt1 P:=by kernel_rfl
theorem as0_eq (P:Params):as0=(K0 P).map (·.1):=by kernel_rfl
noncomputable abbrev qOf (p:Program):Program:=PySem.W.view p [0,1,3,4,5,6,8,9,10,11,12,14,15,16,17,18]
noncomputable abbrev loN:List Str:=[S [95,116,119,105,110,95,114,101,95,49],S [95,118,101,114,95,115,116,97,103,101,115],S [95,78,111,100,101,73,110,102,111]]
noncomputable abbrev Xt0 (p:Program) (s:Shared):Bool:=xlAt (qOf p) [] s&&recOk [] s
theorem left:LeftO PySem.Challenge.pw_mr0319_01 (qOf PySem.Challenge.pw_mr0319_01) loN (Xt0 PySem.Challenge.pw_mr0319_01) (obsZ as0) (valZ K0 208 611) 3158:=by
 refine LeftO.of_split "special-get-raises" fun w=>?_
 rw [show treeTable=PySem.W.Fast.tw14364793385576792824 from PySem.W.Fast.te14364793385576792824,
  show @openSeen=PySem.W.Fast.tw4187177175401517315 from PySem.W.Fast.te4187177175401517315,show importedModules=PySem.W.Fast.tw5923862056798008813 from PySem.W.Fast.te5923862056798008813]
 kernel_rfl
end
section
open PySem PySem.W PySem.W.X PySem.Calls PySem.Spec
noncomputable def dz (c:Code):Sem Fin:=PySem.W.ZFast.zw11892475500146522536 PySem.W.ZFast.tableZ c
theorem dz_eq (c:Code):denote table c=dz c:=by
 have h1:@denote=PySem.W.ZFast.zw11892475500146522536:=PySem.W.ZFast.ze11892475500146522536
 have h2:table=PySem.W.ZFast.tableZ:=PySem.W.ZFast.tableZ_eq
 unfold dz
 rw [← h1,← h2]
noncomputable def Bf:Code->Bool:=PySem.W.ZFast.zw17772548960776305114
theorem BM (c:Code):c.quiet=Bf c:=by
 have h1:@Code.quiet=PySem.W.ZFast.zw17772548960776305114:=PySem.W.ZFast.ze17772548960776305114
 unfold Bf
 rw [← h1]
noncomputable abbrev Cell:=Addr×Obj
structure Own (h₀:Heap) (P:Addr) (h:Heap) (L:List Cell):Prop where
 keep:∀ b o,h₀.get? b=some o->b≠P->h.get? b=some o
 own:∀ p∈L,h.get? p.1=some p.2
 nd:(L.map (·.1)).Nodup
 new:∀ p∈L,p.1=P∨h₀.get? p.1=none
 sz:h₀.objs.size<=h.objs.size
theorem AY {h:Heap} {a:Addr} (ha:h.objs.size<=a):h.get? a=none:=PyProof.Rows.new_of_ge ha
theorem Own.perm {h₀ h:Heap} {P:Addr} {L L':List Cell} (D:Own h₀ P h L) (p:L.Perm L'):Own h₀ P h L':=
 ⟨D.keep,fun x hx=>D.own x (p.mem_iff.mpr hx),(p.map _).nodup_iff.mp D.nd,fun x hx=>D.new x (p.mem_iff.mpr hx),D.sz⟩
theorem Own.sub {h₀ h:Heap} {P:Addr} {L L':List Cell} (D:Own h₀ P h L) (s:L'.Sublist L):Own h₀ P h L':=
 ⟨D.keep,fun x hx=>D.own x (s.subset hx),(s.map _).nodup D.nd,fun x hx=>D.new x (s.subset hx),D.sz⟩
theorem Own.alloc {h₀ h:Heap} {P:Addr} {L:List Cell} {o:Obj} (D:Own h₀ P h L) (hf:o.isFreed=false):Own h₀ P (h.push o) ((h.objs.size,o)::L):=by
 refine ⟨fun b o' e q=>Heap.get?_push_of_some _ (D.keep b o' e q),fun p hp=>?_,?_,fun p hp=>?_,by rw [Heap.size_push];exact Nat.le_succ_of_le D.sz⟩
 ·rcases List.mem_cons.mp hp with rfl | hp
  ·exact Heap.get?_push_size _ hf
  ·exact Heap.get?_push_of_some _ (D.own p hp)
 ·rw [List.map_cons,List.nodup_cons]
  refine ⟨fun hm=>?_,D.nd⟩
  obtain ⟨p,hp,e⟩:=List.mem_map.mp hm
  have:=Heap.lt_size (D.own p hp)
  rw [e] at this
  exact absurd this (Nat.lt_irrefl _)
 ·rcases List.mem_cons.mp hp with rfl | hp
  ·exact .inr (AY D.sz)
  ·exact D.new p hp
theorem Own.update {h₀ h:Heap} {P:Addr} {L:List Cell} {i:Nat} {a:Addr} {o:Obj} {f:Obj->Obj} (D:Own h₀ P h L) (hi:L[i]?=some (a,o)) (hf:(f o).isFreed=false) :
  Own h₀ P (h.update a f) (L.set i (a,f o)):=by
 have hm:=List.mem_of_getElem? hi
 have ho:=D.own _ hm
 have hs:Heap.SameBut a h (h.update a f):=Heap.SameBut.update ..
 obtain ⟨hl,hgi⟩:=List.getElem?_eq_some_iff.mp hi
 have em:(L.set i (a,f o)).map (·.1)=L.map (·.1):=by
  rw [List.map_set]
  have:(L.map (·.1))[i]?=some a:=by rw [List.getElem?_map,hi];rfl
  exact set_same this
 have ge:(h.update a f).get? a=some (f o):=by first | exact Heap.get?_update_self f ho hf | exact Heap.get?_update_self _ ho hf
 refine ⟨fun b o' e q=>?_,fun p hp=>?_,by rw [em];exact D.nd,fun p hp=>?_,by rw [hs.1];exact D.sz⟩
 ·have ne:b≠a:=by
   rintro rfl
   rcases D.new _ hm with z | z
   ·exact q z
   ·rw [e] at z;cases z
  exact (hs.2 b ne).trans (D.keep b o' e q)
 ·by_cases hpa:p.1=a
  ·have hx:(a,f o)∈L.set i (a,f o):=List.mem_set hl _
   have:p=(a,f o):=key_unique (by rw [em];exact D.nd) hp hx hpa
   subst this
   exact ge
  ·rcases List.mem_or_eq_of_mem_set hp with hp | rfl
   ·exact (hs.2 _ hpa).trans (D.own p hp)
   ·exact absurd rfl hpa
 ·rcases List.mem_or_eq_of_mem_set hp with hp | rfl
  ·exact D.new p hp
  ·exact D.new (a,o) hm
noncomputable def nthK (L:List Cell):Nat->Option Cell:=
 @List.rec Cell (fun _=>Nat->Option Cell) (fun _=>none) (fun x _ ih i=>@Nat.rec (fun _=>Option Cell) (some x) (fun k _=>ih k) i) L
theorem nthK_eq:∀ (L:List Cell) (i:Nat),nthK L i=L[i]?
 | [],i=>by simp [nthK]
 | x::L,0=>rfl
 | x::L,i+1=>by
  show nthK L i=_
  rw [nthK_eq L i,List.getElem?_cons_succ]
noncomputable def setK (L:List Cell):Nat->Obj->List Cell:=
 @List.rec Cell (fun _=>Nat->Obj->List Cell) (fun _ _=>[]) (fun x l ih i o=>@Nat.rec (fun _=>List Cell) ((x.1,o)::l) (fun k _=>x::ih k o) i) L
theorem setK_eq:∀ (L:List Cell) (i:Nat) (a:Addr) (o o':Obj),L[i]?=some (a,o)->setK L i o'=L.set i (a,o')
 | [],_,_,_,_,e=>by simp at e
 | x::L,0,a,o,o',e=>by
  have:x=(a,o):=by simpa using e
  subst this;rfl
 | x::L,i+1,a,o,o',e=>by
  show x::setK L i o'=_
  rw [setK_eq L i a o o' (by simpa using e)];rfl
set_option genInjectivity true in
inductive Ob where
 | n (a b:Nat)
 | t (a b:Sem Fin)
noncomputable def Ob.ok:Ob->Prop
 | .n a b=>a=b
 | .t a b=>a=b
noncomputable def CIn (Γ:PySem.Ctx):Prop:=(Γ.below.any fun x=>x.1.isCaller)=true
noncomputable def cOk:Bool->PySem.Ctx->Prop
 | false,_=>True
 | true,Γ=>CIn Γ
theorem cOk.enter {b:Bool} {Γ:PySem.Ctx} (h:cOk b Γ) (c:Code) (hd:Option Value) (p:Pos):cOk b (Γ.enter c hd p):=by
 cases b with
 | false=>trivial
 | true=>
  have h:(Γ.below.any fun x=>x.1.isCaller)=true:=h
  show (((Γ.code,p)::Γ.below).any fun x=>x.1.isCaller)=true
  rw [List.any_cons,h,Bool.or_true]
theorem cOk.goto {b:Bool} {Γ:PySem.Ctx} (h:cOk b Γ) (c:Code):cOk b (Γ.goto c):=by
 cases b with
 | false=>trivial
 | true=>exact h
noncomputable def Bb:Bool->Model->Around->Code->(Result->Shared->Prop)->Shared->Prop
 | false,M,A,c,R,s=>codeAny M A c R s
 | true,M,A,c,R,s=>∀ Γ p,Γ.code=c->Γ.Below A->CIn Γ->wpCode M Γ R p s
theorem Bb.at {b:Bool} {M:Model} {A:Around} {c:Code} {R:Result->Shared->Prop} {s:Shared} (h:Bb b M A c R s) (Γ:PySem.Ctx) (p:Pos) (hc:Γ.code=c) (hΓ:Γ.Below A) (hb:cOk b Γ):wpCode M Γ R p s:=by
 cases b with
 | false=>exact h Γ p hc hΓ
 | true=>exact h Γ p hc hΓ hb
theorem Bb.of {b:Bool} {M:Model} {A:Around} {c:Code} {R:Result->Shared->Prop} {s:Shared} (h:∀ Γ p,Γ.code=c->Γ.Below A->cOk b Γ->wpCode M Γ R p s):Bb b M A c R s:=by
 cases b with
 | false=>exact fun Γ p hc hΓ=>h Γ p hc hΓ trivial
 | true=>exact h
noncomputable def postB (b:Bool) (M:Model) (A:Around) (R:Result->Shared->Prop):Fin->Shared->Prop
 | .done f,s=>R (.ok f) s
 | .again c,s=>c.quiet=true/\Bb b M A c R s
noncomputable def wpO (b:Bool) {α:Type} (M:Model) (A:Around) (c:Code) (t:Sem α) (Q:α->Shared->Prop) (E:Value->Shared->Prop) (s:Shared):Prop:=
 ∀ Γ p,Γ.code=c->Γ.Below A->cOk b Γ->Sem.wp M Γ t (fun a _ s'=>Q a s') (fun e _ s'=>E e s') p s
theorem wpO.bind {b:Bool} {α β:Type} {M:Model} {A:Around} {c:Code} {m:Sem α} {f:α->Sem β} {Q:β->Shared->Prop} {E:Value->Shared->Prop} {s:Shared} (h:wpAny M (A.under c) m (fun a s'=>wpO b M A c (f a) Q E s') E s):wpO b M A c (m>>=f) Q E s:=fun Γ p hc hΓ hb=>by
 rw [Sem.wp_bind']
 exact Sem.wp_mono _ _ _ (fun a p' s' h'=>h' Γ p' hc hΓ hb) (fun _ _ _ h'=>h') _ _ (h Γ p (hc▸hΓ.in))
theorem C6 {b:Bool} {M:Model} {A:Around} {c:Code} {R:Result->Shared->Prop} {s:Shared} (h:wpO b M A c (M.den c) (postB b M A R) (fun e s'=>R (.error e) s') s):Bb b M A c R s:= .of fun Γ p hc hΓ hb=>by
 rw [wpCode_iff_wp,hc]
 refine Sem.wp_mono M Γ _ (fun fin p' s' h'=>?_) (fun _ _ _ h'=>h') p s (h Γ p hc hΓ hb)
 cases fin with
 | done f=>exact h'
 | again c'=>exact ⟨h'.1,h'.2.at (Γ.goto c') p' rfl (hΓ.goto c') (hb.goto c')⟩
theorem wpO.call {b:Bool} {α:Type} {M:Model} {A:Around} {c c':Code} {hd:Option Value} {g:Bool} {l:List Value} {k:Result->Sem α} {Q:α->Shared->Prop} {E:Value->Shared->Prop} {s:Shared} (hnb:hd≠some byPass) (x:Bb b M ((A.under c).mark hd) c' (fun r s'=>wpO b M A c (k r) Q E s') s):wpO b M A c (.call c' hd g l k) Q E s:=fun Γ p hc hΓ hb=>by
 rw [Sem.wp_call]
 exact wpCode_mono (fun _ _ q=>q Γ p hc hΓ hb) (x.at _ p rfl ((hc▸hΓ.in:Γ.In (A.under c)).enter c' hd p hnb) (hb.enter c' hd p))
structure Bs where
 V:XV
 P:Addr
 n:Nat
 tk:Nat
 G:List GenState
 pT:Params
 pF:Params
 cc:Bool
inductive GR where
 | bad
 | ok (c:Code) (κ:Kont) (t:Sem Fin) (L:List Cell) (j i:Nat) (gl:List GenState) (ob:List Ob)
noncomputable abbrev Ty:=Code->Kont->Sem Fin->List Cell->Nat->Nat->List GenState->Nat->List Ob->GR
noncomputable def oG {α:Type} (v:Option α) (f:α->GR):GR:=match v with
 | some a=>f a
 | none=> .bad
noncomputable def fG (b:Bool) (r:GR):GR:=match b with
 | true=> .bad
 | false=>r
noncomputable def tG (b:Bool) (r:GR):GR:=match b with
 | true=>r
 | false=> .bad
noncomputable def retG (ih:Ty) (r:Result) (κ:Kont) (L:List Cell) (j i:Nat) (gl:List GenState) (tr:Nat) (ob:List Ob):GR:=match κ with
 | .base=> .bad
 | .ret c _ k κ=>ih c κ (k r) L j i gl tr ob
 | .gen ..=> .bad
 | .genS ..=> .bad
noncomputable def loadG (B:Bs) (a:Addr) (L:List Cell) (tr:Nat) (ob:List Ob) (kk:Obj->Nat->List Ob->GR):GR:=match Nat.mod tr 64 with
 | 0=>fG (Nat.beq a B.P) (oG (B.V.kt.get a) fun o=>kk o (Nat.div tr 64) ob)
 | x+1=>oG (nthK L x) fun p=>kk p.2 (Nat.div tr 64) (.n a p.1::ob)
noncomputable def gstep (B:Bs) (ih:Ty):Ty:=fun c κ t L j i gl tr ob=>match t with
 | .pure fin=>match fin with
  | .done f=>retG ih (.ok f) κ L j i gl tr ob
  | .again c'=>tG (Bf c') (ih c' κ (dz c') L j i gl tr ob)
 | .raise e=>retG ih (.error e) κ L j i gl tr ob
 | .rule _ k=>ih c κ (k ()) L j i gl tr ob
 | .at _ k=>ih c κ (k ()) L j i gl tr ob
 | .point _ k=>ih c κ (k ()) L j i gl tr ob
 | .ask k=>ih c κ (k ⟨B.V.prog,B.pT⟩) L j i gl tr (.t (k ⟨B.V.prog,B.pF⟩) (k ⟨B.V.prog,B.pT⟩)::ob)
 | .load a _ k=>loadG B a L tr ob fun o tr ob=>ih c κ (k o) L j i gl tr ob
 | .loadIfAlive a k=>loadG B a L tr ob fun o tr ob=>ih c κ (k (some o)) L j i gl tr ob
 | .alloc o k=>fG o.isFreed (ih c κ (k (B.n+j)) ((B.n+j,o)::L) (j+1) i gl tr ob)
 | .update a _ f k=>oG (nthK L (Nat.mod tr 64)) fun p=>fG (f p.2).isFreed (ih c κ (k ()) (setK L (Nat.mod tr 64) (f p.2)) j i gl (Nat.div tr 64) (.n a p.1::ob))
 | .fresh k=>ih c κ (k (B.tk+i)) L j (i+1) gl tr ob
 | .handled own k=>match own with
  | false=>ih c κ (k (aroundOf B.V true κ).handled) L j i gl tr ob
  | true=> .bad
 | .call c' hd _ _ k=>tG (okMark hd) (ih c' (.ret c hd k κ) (dz c') L j i gl tr ob)
 | .newGen c' k=>ih c κ (k (B.G.length+gl.length)) L j i (gl++[.fresh c']) tr ob
 | .genState ..=> .bad
 | .resume ..=> .bad
 | .yield ..=> .bad
 | .stack _=> .bad
 | .unsupported _=> .bad
 | .finish _=> .bad
 | .register ..=> .bad
 | .choose ..=> .bad
 | .os ..=> .bad
 | .fork ..=> .bad
 | .thread _=> .bad
 | .await ..=> .bad
noncomputable def gsim (B:Bs) (n:Nat):Ty:=
 @Nat.rec (fun _=>Ty) (fun c κ t L j i gl _ ob=> .ok c κ t L j i gl ob) (fun _ ih=>gstep B ih) n
noncomputable def endB (b:Bool) (V:XV):Kont->Result->Shared->Prop
 | .base=>V.R₀
 | .ret c _ k κ=>fun r s=>wpO b (model V.prog V.w) (aroundOf V true κ) c (k r) (postB b (model V.prog V.w) (aroundOf V true κ) (endB b V κ)) (fun e s'=>endB b V κ (.error e) s') s
 | .gen ..=>fun _ _=>False
 | .genS ..=>fun _ _=>False
noncomputable def Eg (b:Bool) (V:XV) (c:Code) (κ:Kont) (t:Sem Fin) (s:Shared):Prop:=
 wpO b (model V.prog V.w) (aroundOf V true κ) c t (postB b (model V.prog V.w) (aroundOf V true κ) (endB b V κ)) (fun e s'=>endB b V κ (.error e) s') s
noncomputable def GM (B:Bs) (c:Code) (κ:Kont) (t:Sem Fin) (L:List Cell) (j i:Nat) (gl:List GenState):Prop:=
 ∀ h,h.objs.size=B.n+j->Own B.V.h₀ B.P h L->Eg B.cc B.V c κ t ⟨h,⟨B.G++gl⟩,B.V.d,B.tk+i,B.V.os⟩
noncomputable def GMR (B:Bs):GR->Prop
 | .bad=>False
 | .ok c κ t L j i gl ob=>(∀ p∈ob,p.ok)/\GM B c κ t L j i gl
noncomputable def More (ob:List Ob):GR->Prop
 | .bad=>True
 | .ok _ _ _ _ _ _ _ ob'=>∃ pre,ob'=pre++ob
noncomputable def Sound (B:Bs) (ih:Ty):Prop:=
 ∀ c κ t L j i gl tr ob,More ob (ih c κ t L j i gl tr ob)/\(GMR B (ih c κ t L j i gl tr ob)->GM B c κ t L j i gl)
theorem More.cons {x:Ob} {ob:List Ob} {r:GR} (h:More (x::ob) r):More ob r:=by
 cases r with
 | bad=>trivial
 | ok=>obtain ⟨pre,e⟩:=h;exact ⟨pre++[x],by rw [e,List.append_assoc];rfl⟩
theorem More.holds {B:Bs} {x:Ob} {ob:List Ob} {r:GR} (h:More (x::ob) r) (g:GMR B r):x.ok:=by
 cases r with
 | bad=>cases g
 | ok=>obtain ⟨pre,e⟩:=h;exact g.1 x (by rw [e];simp)
theorem more_o {α:Type} {ob:List Ob} (v:Option α) (f:α->GR) (h:∀ a,More ob (f a)):More ob (oG v f):=by
 cases v with
 | none=>trivial
 | some a=>exact h a
theorem more_f {ob:List Ob} (b:Bool) {r:GR} (h:More ob r):More ob (fG b r):=by
 cases b with
 | true=>trivial
 | false=>exact h
theorem more_t {ob:List Ob} (b:Bool) {r:GR} (h:More ob r):More ob (tG b r):=by
 cases b with
 | false=>trivial
 | true=>exact h
theorem gm_o {α:Type} {B:Bs} {v:Option α} {f:α->GR} (H:GMR B (oG v f)):∃ a,v=some a/\GMR B (f a):=by
 cases v with
 | none=>exact H.elim
 | some a=>exact ⟨a,rfl,H⟩
theorem gm_f {B:Bs} {b:Bool} {r:GR} (H:GMR B (fG b r)):b=false/\GMR B r:=by
 cases b with
 | true=>exact H.elim
 | false=>exact ⟨rfl,H⟩
theorem gm_t {B:Bs} {b:Bool} {r:GR} (H:GMR B (tG b r)):b=true/\GMR B r:=by
 cases b with
 | false=>exact H.elim
 | true=>exact ⟨rfl,H⟩
theorem DN {B:Bs} {a:Addr} {L:List Cell} {tr:Nat} {ob:List Ob} {kk:Obj->Nat->List Ob->GR} (S:∀ o tr ob,More ob (kk o tr ob)):More ob (loadG B a L tr ob kk):=by
 unfold loadG
 cases Nat.mod tr 64 with
 | zero=>exact more_f _ (more_o _ _ fun o=>S ..)
 | succ x=>exact more_o _ _ fun p=>(S ..).cons
theorem Du {B:Bs} (K:KT.Holds B.V.h₀ 1 0 B.V.kt) {a:Addr} {L:List Cell} {tr:Nat} {ob:List Ob} {kk:Obj->Nat->List Ob->GR}
  (S:∀ o tr ob,More ob (kk o tr ob)) (H:GMR B (loadG B a L tr ob kk)) {h:Heap} (D:Own B.V.h₀ B.P h L) :
  ∃ o tr' ob',h.get? a=some o/\GMR B (kk o tr' ob'):=by
 unfold loadG at H
 cases e:Nat.mod tr 64 with
 | zero=>
  rw [e] at H
  obtain ⟨q,H⟩:=gm_f H
  obtain ⟨o,e,H⟩:=gm_o H
  have z:=KT.Holds.get K e
  rw [Nat.one_mul,Nat.add_zero] at z
  exact ⟨o,_,ob,D.keep a o z (Nat.ne_of_beq_eq_false q),H⟩
 | succ x=>
  rw [e] at H
  obtain ⟨p,e,H⟩:=gm_o H
  have ea:a=p.1:=(S _ _ _).holds H
  rw [nthK_eq] at e
  exact ⟨p.2,_,_,by rw [ea];exact D.own p (List.mem_of_getElem? e),H⟩
theorem BY {B:Bs} {ih:Ty} (S:Sound B ih) {r:Result} {κ:Kont} {L:List Cell} {j i:Nat} {gl:List GenState} {tr:Nat} {ob:List Ob} :
  More ob (retG ih r κ L j i gl tr ob)/\(GMR B (retG ih r κ L j i gl tr ob)->∀ h,h.objs.size=B.n+j->Own B.V.h₀ B.P h L->endB B.cc B.V κ r ⟨h,⟨B.G++gl⟩,B.V.d,B.tk+i,B.V.os⟩):=by
 cases κ with
 | ret c₁ hd k κ=>exact S ..
 | _=>exact ⟨trivial,fun H=>H.elim⟩
theorem By {b:Bool} {V:XV} {c:Code} {κ:Kont} {α:Type} {m:Sem α} {k:α->Sem Fin} {s:Shared} {q:Sem Fin}
  (hq:m>>=k=q) (x:∀ A,wpAny (model V.prog V.w) A m (fun a s'=>Eg b V c κ (k a) s') (fun _ _=>False) s):Eg b V c κ q s:=
 hq▸wpO.bind (wpAny_mono (x _) (fun _ _ h=>h) (fun _ _ h=>h.elim))
theorem gstep_sound {B:Bs} (K:KT.Holds B.V.h₀ 1 0 B.V.kt) (hp:B.V.w.params=B.pT∨B.V.w.params=B.pF) {ih:Ty} (S:Sound B ih):Sound B (gstep B ih):=by
 intro c κ t L j i gl tr ob
 have S1:∀ c κ t L j i gl tr ob,More ob (ih c κ t L j i gl tr ob):=fun c κ t L j i gl tr ob=>(S c κ t L j i gl tr ob).1
 have S2:∀ {c κ t L j i gl tr ob},GMR B (ih c κ t L j i gl tr ob)->GM B c κ t L j i gl:=fun {c κ t L j i gl tr ob}=>(S c κ t L j i gl tr ob).2
 cases t with
 | pure fin=>cases fin with
  | done f=>exact ⟨(BY S).1,fun H h hs D Γ p _ _ _=>(BY S).2 H h hs D⟩
  | again c'=>
   refine ⟨more_t (Bf c') (S1 ..),fun H h hs D=>?_⟩
   obtain ⟨q,H⟩:=gm_t H
   have z:=S2 H h hs D
   rw [← dz_eq] at z
   rw [← BM] at q
   exact fun Γ p _ _ _=>⟨q,C6 z⟩
 | raise e=>exact ⟨(BY S).1,fun H h hs D Γ p _ _ _=>(BY S).2 H h hs D⟩
 | rule tag k=>exact ⟨S1 ..,fun H h hs D=>By (m:=rule tag) (k:=k) rfl fun _=>wpAny_rule (S2 H h hs D)⟩
 | «at» q k=>exact ⟨S1 ..,fun H h hs D=>By (m:=standAt q) (k:=k) rfl fun _=>wpAny_standAt (S2 H h hs D)⟩
 | point l k=>exact ⟨S1 ..,fun H h hs D Γ p hc hΓ hb=>S2 H h hs D Γ p hc hΓ hb⟩
 | ask k=>
  refine ⟨(S1 ..).cons,fun H h hs D=>?_⟩
  have z:=S2 H h hs D
  have e:k ⟨B.V.prog,B.pF⟩=k ⟨B.V.prog,B.pT⟩:=(S1 ..).holds H
  refine By (m:=ask) (k:=k) rfl fun _=>wpAny_askSetting ?_
  show Eg _ _ _ _ (k ⟨B.V.prog,B.V.w.params⟩) _
  rcases hp with hp | hp
  ·rw [hp];exact z
  ·rw [hp,e];exact z
 | load a q k=>
  refine ⟨DN fun _ _ _=>S1 ..,fun H h hs D=>?_⟩
  obtain ⟨o,tr',ob',ho,H'⟩:=Du K (kk:=fun o tr ob=>ih c κ (k o) L j i gl tr ob) (fun _ _ _=>S1 ..) H D
  exact By (m:=loadPart a q) (k:=k) rfl fun _=>wpAny_loadPart ho (S2 H' h hs D)
 | loadIfAlive a k=>
  refine ⟨DN fun _ _ _=>S1 ..,fun H h hs D Γ p hc hΓ hb=>?_⟩
  obtain ⟨o,tr',ob',ho,H'⟩:=Du K (kk:=fun o tr ob=>ih c κ (k (some o)) L j i gl tr ob) (fun _ _ _=>S1 ..) H D
  have z:=S2 H' h hs D Γ p hc hΓ hb
  rw [← ho] at z
  exact z
 | alloc o k=>
  refine ⟨more_f o.isFreed (S1 ..),fun H h hs D=>?_⟩
  obtain ⟨q,H⟩:=gm_f H
  have D':=D.alloc q
  rw [hs] at D'
  have z:=S2 H (h.push o) (by rw [Heap.size_push,hs,Nat.add_assoc]) D'
  rw [← hs] at z
  exact By (m:=alloc o) (k:=k) rfl fun _=>wpAny_alloc z
 | update a q f k=>
  refine ⟨more_o _ _ fun p=>more_f _ (S1 ..).cons,fun H h hs D=>?_⟩
  obtain ⟨p,e,H⟩:=gm_o H
  obtain ⟨hf,H⟩:=gm_f H
  have ea:a=p.1:=(S1 ..).holds H
  cases ea
  rw [nthK_eq] at e
  rw [setK_eq L _ _ p.2 _ e] at H
  exact By (m:=updatePart _ q f) (k:=k) rfl fun _=>wpAny_updatePart (D.own _ (List.mem_of_getElem? e)) (S2 H (h.update _ f) (by rw [(Heap.SameBut.update ..).1];exact hs) (D.update e hf))
 | fresh k=>exact ⟨S1 ..,fun H h hs D=>By (m:=fresh) (k:=k) rfl fun _=>wpAny_fresh (S2 H h hs D)⟩
 | handled own k=>
  cases own with
  | true=>exact ⟨trivial,fun H=>H.elim⟩
  | false=>
   refine ⟨S1 ..,fun H h hs D Γ p hc hΓ hb=>?_⟩
   have z:=S2 H h hs D Γ p hc hΓ hb
   rw [← hΓ.1] at z
   exact z
 | call c' hd g l k=>
  refine ⟨more_t (okMark hd) (S1 ..),fun H h hs D=>?_⟩
  obtain ⟨q,H⟩:=gm_t H
  have hnb:hd≠some byPass:=by
   intro e
   subst e
   simp [okMark] at q
  have z:=S2 H h hs D
  rw [← dz_eq] at z
  exact wpO.call hnb (C6 z)
 | newGen c' k=>
  refine ⟨S1 ..,fun H h hs D Γ p hc hΓ hb=>?_⟩
  have z:=S2 H h hs D Γ p hc hΓ hb
  have es:(⟨B.G++gl⟩:Array GenState).size=B.G.length+gl.length:=by simp
  have ep:(⟨B.G++gl⟩:Array GenState).push (.fresh c')=⟨B.G++(gl++[.fresh c'])⟩:=by rw [push_gens,List.append_assoc]
  rw [← es,← ep] at z
  exact z
 | _=>exact ⟨trivial,fun H=>H.elim⟩
theorem DR {B:Bs} (K:KT.Holds B.V.h₀ 1 0 B.V.kt) (hp:B.V.w.params=B.pT∨B.V.w.params=B.pF):∀ n,Sound B (gsim B n)
 | 0=>fun _ _ _ _ _ _ _ _ _=>⟨⟨[],rfl⟩,fun H=>H.2⟩
 | n+1=>gstep_sound K hp (DR K hp n)
@[irreducible] noncomputable def AG (B:Bs):GR->Prop
 | .bad=>False
 | .ok c κ t L j i gl _=>GM B c κ t L j i gl
noncomputable def obs:GR->List Ob
 | .bad=>[.n 0 1]
 | .ok _ _ _ _ _ _ _ ob=>ob
noncomputable def dup (l:List Ob):List Ob:=l.map fun p=>match p with
 | .n _ b=> .n b b
 | .t _ b=> .t b b
theorem dup_ok:∀ {l:List Ob},l=dup l->∀ p∈l,p.ok
 | x::l,h,p,hp=>by
  have h1:x=_/\l=dup l:=List.cons.inj h
  rcases List.mem_cons.mp hp with rfl | hp
  ·cases p with
   | n a b=>exact (Ob.n.inj h1.1).1
   | t a b=>exact (Ob.t.inj h1.1).1
  ·exact dup_ok h1.2 p hp
theorem gmr_of {B:Bs} {r:GR} (h:obs r=dup (obs r)) (g:AG B r):GMR B r:=by
 unfold AG at g
 cases r with
 | bad=>exact g
 | ok=>exact ⟨dup_ok h,g⟩
structure Wd where
 w₀:World
 b2:Bool
 b3:Bool
 h₀:Heap
 d:Drawn
 os:OsState
variable {W:Wd} {L:List Cell} {G:List GenState} {n dp un e i d tk m u ep:Nat} {A:Around} {F Fr:List Env} {x:Str} {h h₀:Heap} {xs:Array Value} {s:Shared} {b:Bool} {R:Result->Shared->Prop} {o:Obj} {es:Array DictEntry} {env:Env} {B:Bs} {prog:Program} {body:List Stmt}
noncomputable def Wd.w (W:Wd):World:=(W.w₀.withFollow "comprehension-iter-twice" W.b2).withFollow "set-order" W.b3
noncomputable def Wd.p (W:Wd) (b:Bool):Params:=(W.w.withFollow "special-get-raises" b).params
theorem Wd.p_or (W:Wd):W.w.params=W.p true∨W.w.params=W.p false:=by
 have e:=World.withFollow_self W.w "special-get-raises"
 unfold Wd.p
 cases h:W.w.params.followText "special-get-raises" with
 | true=>rw [h] at e;exact .inl (congrArg World.params e.symm)
 | false=>rw [h] at e;exact .inr (congrArg World.params e.symm)
noncomputable def Wd.V (W:Wd) (A:Around) (R:Result->Shared->Prop):XV:=⟨PySem.Challenge.rw_mr0319_01.prog,W.w,W.h₀,0,kt1 W.w₀.params,[],A,R,W.d,0,W.os⟩
noncomputable def Wd.M (W:Wd):Model:=model PySem.Challenge.rw_mr0319_01.prog W.w
noncomputable def Wd.Ok (W:Wd):Prop:=KT.Holds W.h₀ 1 0 (kt1 W.w₀.params)/\W.h₀.NoLimit
noncomputable def bs (b:Bool) (W:Wd) (A:Around) (R:Result->Shared->Prop) (n tk:Nat) (G:List GenState):Bs:=⟨W.V A R,53,n,tk,G,W.p true,W.p false,b⟩
@[irreducible] noncomputable def more (B:Bs) (n tr:Nat):GR->GR
 | .bad=> .bad
 | .ok c κ t L j i gl _=>gsim B n c κ t L j i gl tr []
theorem gmore {r:GR} (ok:W.Ok) (k tr:Nat)
  (x:obs (more (bs b W A R n tk G) k tr r)=dup (obs (more (bs b W A R n tk G) k tr r))/\AG (bs b W A R n tk G) (more (bs b W A R n tk G) k tr r)):AG (bs b W A R n tk G) r:=by
 unfold more at x
 cases r with
 | bad=>exact x.2
 | ok=>unfold AG;exact (DR (B:=bs b W A R n tk G) ok.1 W.p_or k _ _ _ _ _ _ _ _ _).2 (gmr_of x.1 x.2)
structure Post (α:Type) where
 G:α->List GenState
 P:α->Prop
 res:α->Result
 L:α->List Cell
noncomputable def Takes (W:Wd) (R:Result->Shared->Prop) {α:Type} (Q:Post α):Prop:=
 ∀ p,Q.P p->∀ h n tk,h.objs.size=n+8->Own W.h₀ 53 h (Q.L p)->R (Q.res p) ⟨h,⟨Q.G p⟩,W.d,tk,W.os⟩
noncomputable def Tri (W:Wd) (A:Around) (c:Code) (G:List GenState) (L:List Cell) {α:Type} (Q:Post α):Prop:=
 ∀ R,Takes W R Q->∀ h n tk,h.objs.size=n+8->Own W.h₀ 53 h L->codeAny W.M A c R ⟨h,⟨G⟩,W.d,tk,W.os⟩
noncomputable def AK (W:Wd) (A:Around) (c:Code) (G:List GenState) (L:List Cell) {α:Type} (Q:Post α):Prop:=
 ∀ R,Takes W R Q->∀ h n tk,h.objs.size=n+8->Own W.h₀ 53 h L->Bb true W.M A c R ⟨h,⟨G⟩,W.d,tk,W.os⟩
noncomputable abbrev Bn (b:Bool) (W:Wd) (A:Around) (c:Code) (G:List GenState) (L:List Cell) {α:Type} (Q:Post α):Prop:=match b with
 | false=>Tri W A c G L Q
 | true=>AK W A c G L Q
theorem Bn.go {c:Code} {α:Type} {Q:Post α} (x:Bn b W A c G L Q) (hR:Takes W R Q) (hs:h.objs.size=n+8) (D:Own W.h₀ 53 h L):Bb b W.M A c R ⟨h,⟨G⟩,W.d,tk,W.os⟩:=by
 cases b with
 | false=>exact x R hR h n tk hs D
 | true=>exact x R hR h n tk hs D
theorem Tri.up {c:Code} {α:Type} {Q:Post α} (x:Tri W A c G L Q):AK W A c G L Q:=
 fun R hR h n tk hs D Γ p hc hΓ _=>x R hR h n tk hs D Γ p hc hΓ
@[irreducible] noncomputable def start (c:Code) (L:List Cell):GR:= .ok c .base (dz c) L 8 0 [] []
theorem Cw {c:Code} (z:AG (bs b W A R n tk G) (start c L)) (hs:h.objs.size=n+8) (D:Own W.h₀ 53 h L):Bb b W.M A c R ⟨h,⟨G⟩,W.d,tk,W.os⟩:=by
 unfold AG start at z
 have z:=z h hs D
 rw [show (bs b W A R n tk G).G++[]=G from List.append_nil G,← dz_eq] at z
 exact C6 z
theorem Tri.of {c:Code} {α:Type} {Q:Post α}
  (x:∀ R n tk,Takes W R Q->AG (bs false W A R n tk G) (start c L)):Tri W A c G L Q:=fun R hR _ n tk hs D=>Cw (x R n tk hR) hs D
theorem AK.of {c:Code} {α:Type} {Q:Post α}
  (x:∀ R n tk,Takes W R Q->AG (bs true W A R n tk G) (start c L)):AK W A c G L Q:=fun R hR _ n tk hs D=>Cw (x R n tk hR) hs D
theorem Tri.own {c:Code} {L':List Cell} {α:Type} {Q:Post α} (x:Tri W A c G L' Q) (h:∀ h,Own W.h₀ 53 h L->Own W.h₀ 53 h L') :
  Tri W A c G L Q:=fun R hR hp n tk hs D=>x R hR hp n tk hs (h hp D)
theorem AK.own {c:Code} {L':List Cell} {α:Type} {Q:Post α} (x:AK W A c G L' Q) (h:∀ h,Own W.h₀ 53 h L->Own W.h₀ 53 h L') :
  AK W A c G L Q:=fun R hR hp n tk hs D=>x R hR hp n tk hs (h hp D)
section
variable (r:GR)
@[irreducible] noncomputable def cOf:Code:=match r with | .ok c _ _ _ _ _ _ _=>c | .bad=> .body [] default
@[irreducible] noncomputable def κOf:Kont:=match r with | .ok _ κ _ _ _ _ _ _=>κ | .bad=> .base
@[irreducible] noncomputable def BD:Sem Fin:=match r with | .ok _ _ t _ _ _ _ _=>t | .bad=> .unsupported ""
@[irreducible] noncomputable def CX:List Cell:=match r with | .ok _ _ _ L _ _ _ _=>L | .bad=>[]
@[irreducible] noncomputable def jOf:Nat:=match r with | .ok _ _ _ _ j _ _ _=>j | .bad=>0
@[irreducible] noncomputable def iOf:Nat:=match r with | .ok _ _ _ _ _ i _ _=>i | .bad=>0
@[irreducible] noncomputable def glOf:Option (List GenState):=match r with | .ok _ _ _ _ _ _ gl _=>some gl | .bad=>none
end
theorem DL {α:Type} {x:α} {P:Prop} (h:(none:Option α)=some x):P:=by cases h
inductive SemE where
 | call (c:Code) (hd:Option Value) (g:Bool) (l:List Value) (k:Result->Sem Fin)
 | done (f:Flow)
 | again (c:Code)
 | raise (e:Value)
noncomputable def SemE.t:SemE->Sem Fin
 | .call c hd g l k=> .call c hd g l k
 | .done f=> .pure (.done f)
 | .again c=> .pure (.again c)
 | .raise e=> .raise e
noncomputable def semV (t:Sem Fin):Option SemE:=match t with
 | .call c hd g l k=>some (.call c hd g l k)
 | .pure (.done f)=>some (.done f)
 | .pure (.again c)=>some (.again c)
 | .raise e=>some (.raise e)
 | _=>none
theorem semV_inv {t:Sem Fin} {x:SemE} (h:semV t=some x):t=x.t:=by
 cases t with
 | pure f=>cases f<;>exact Option.some.inj h▸rfl
 | raise e=>exact Option.some.inj h▸rfl
 | call c hd g l k=>exact Option.some.inj h▸rfl
 | _=>exact DL h
noncomputable def SemE.cal:SemE->Option (Code×Option Value×Bool×List Value×(Result->Sem Fin))
 | .call c hd g l k=>some (c,hd,g,l,k)
 | _=>none
noncomputable def calV (t:Sem Fin):Option (Code×Option Value×Bool×List Value×(Result->Sem Fin)):=(semV t).bind SemE.cal
@[irreducible] noncomputable def hdC (t:Sem Fin):Option Value:=(calV t).bind (·.2.1)
@[irreducible] noncomputable def gdC (t:Sem Fin):Bool:=((calV t).map (·.2.2.1)).getD false
@[irreducible] noncomputable def lvC (t:Sem Fin):List Value:=((calV t).map (·.2.2.2.1)).getD []
@[irreducible] noncomputable def kC (t:Sem Fin):Result->Sem Fin:=((calV t).map (·.2.2.2.2)).getD fun _=> .unsupported ""
noncomputable def BO (t:Sem Fin):Option Code:=(calV t).map (·.1)
noncomputable def doneT (t:Sem Fin):Option Flow:=(semV t).bind fun x=>match x with | .done f=>some f | _=>none
noncomputable def E2 (t:Sem Fin):Option Code:=(semV t).bind fun x=>match x with | .again f=>some f | _=>none
noncomputable def raiseT (t:Sem Fin):Option Value:=(semV t).bind fun x=>match x with | .raise f=>some f | _=>none
theorem Dq {t:Sem Fin} {c:Code} (h:BO t=some c):t= .call c (hdC t) (gdC t) (lvC t) (kC t):=by
 unfold hdC gdC lvC kC
 unfold BO at h
 cases e:calV t with
 | none=>rw [e] at h;cases h
 | some y=>
  rw [e] at h
  cases h
  obtain ⟨x,hx,hy⟩:=Option.bind_eq_some_iff.mp e
  rw [semV_inv hx]
  cases x<;>cases hy
  rfl
theorem E6 {t:Sem Fin} {α:Type} {g:SemE->Option α} {c:α} (h:(semV t).bind g=some c):∃ x:SemE,t=x.t/\g x=some c:=by
 obtain ⟨x,hx,hy⟩:=Option.bind_eq_some_iff.mp h
 exact ⟨x,semV_inv hx,hy⟩
theorem doneT_inv {t:Sem Fin} {f:Flow} (h:doneT t=some f):t= .pure (.done f):=by
 obtain ⟨x,rfl,hy⟩:=E6 h
 cases x with
 | done g=>exact Option.some.inj hy▸rfl
 | _=>exact DL hy
theorem En {t:Sem Fin} {f:Code} (h:E2 t=some f):t= .pure (.again f):=by
 obtain ⟨x,rfl,hy⟩:=E6 h
 cases x with
 | again g=>exact Option.some.inj hy▸rfl
 | _=>exact DL hy
theorem raiseT_inv {t:Sem Fin} {f:Value} (h:raiseT t=some f):t= .raise f:=by
 obtain ⟨x,rfl,hy⟩:=E6 h
 cases x with
 | raise g=>exact Option.some.inj hy▸rfl
 | _=>exact DL hy
noncomputable def nilB (l:Option (List GenState)):Bool:=match l with | some []=>true | _=>false
noncomputable def Cd (κ:Kont):Bool:=match κ with | .base=>true | _=>false
noncomputable def easy (r:GR):Bool:=nilB (glOf r)&&Nat.ble 8 (jOf r)
theorem B0 {r:GR} (h:easy r=true) (x:∀ h,h.objs.size=B.n+(jOf r - 8)+8->Own B.V.h₀ B.P h (CX r)->Eg B.cc B.V (cOf r) (κOf r) (BD r) ⟨h,⟨B.G⟩,B.V.d,B.tk+iOf r,B.V.os⟩):AG B r:=by
 unfold easy at h
 obtain ⟨h2,h3⟩:=Bool.and_eq_true_iff.mp h
 unfold glOf jOf at *
 unfold CX cOf κOf BD iOf at x
 cases r with
 | bad=>cases h2
 | ok c κ t L j i gl ob=>
  cases gl with
  | cons=>cases h2
  | nil=>
   unfold AG
   intro h hs D
   rw [List.append_nil]
   exact x h (by rw [hs,Nat.add_assoc,Nat.sub_add_cancel (Nat.le_of_ble_eq_true h3)]) D
noncomputable def AT (A:Around):Kont->Around
 | .ret c hd _ κ=>((AT A κ).under c).mark hd
 | _=>A
theorem Be (W:Wd) (A:Around) (R:Result->Shared->Prop):∀ κ,AT A κ=aroundOf (W.V A R) true κ
 | .base=>rfl
 | .ret c hd k κ=>by rw [AT,Be W A R κ];rfl
 | .gen ..=>rfl
 | .genS ..=>rfl
@[irreducible] noncomputable def aOf (A:Around) (r:GR):Around:=((AT A (κOf r)).under (cOf r)).mark (hdC (BD r))
@[irreducible] noncomputable def back (r:GR) (res:Result) (L:List Cell):GR:= .ok (cOf r) (κOf r) (kC (BD r) res) L 8 0 [] []
theorem nb_of {hd:Option Value} (q:okMark hd=true):hd≠some byPass:=by
 intro e
 rw [e] at q
 simp [okMark] at q
theorem gcall {r:GR} (c':Code) {α:Type} {Gf:α->List GenState} {Pf:α->Prop} {rf:α->Result} {Lf:α->List Cell} (hb:(easy r&&okMark (hdC (BD r)))=true) (hc:BO (BD r)=some c')
  (hL:∀ h,Own W.h₀ 53 h (CX r)->Own W.h₀ 53 h L)
  (spec:Bn b W (aOf A r) c' G L ⟨Gf,Pf,rf,Lf⟩)
  (next:∀ p n' tk',Pf p->AG (bs b W A R n' tk' (Gf p)) (back r (rf p) (Lf p))):AG (bs b W A R n tk G) r:=by
 obtain ⟨he,q⟩:=Bool.and_eq_true_iff.mp hb
 refine B0 he fun h hs D=>?_
 rw [Dq hc]
 refine wpO.call (nb_of q) ?_
 rw [show ((aroundOf (bs b W A R n tk G).V true (κOf r)).under (cOf r)).mark (hdC (BD r))=aOf A r from by rw [aOf,Be W A R];rfl]
 refine spec.go ?_ hs (hL h D)
 intro p hQ h' n' tk' hs' D'
 have z:=next p n' tk' hQ
 unfold back AG at z
 replace z:=z h' hs' D'
 rw [show (bs b W A R n' tk' (Gf p)).G++[]=Gf p from List.append_nil _] at z
 exact z
@[irreducible] noncomputable def goOn (r:GR) (c:Code):GR:= .ok c (κOf r) (dz c) (CX r) (jOf r - 8+8) (iOf r) [] []
noncomputable def enter (c':Code):Sem Fin:=PySem.W.R.bindR (@PySem.W.ZFast.enterX 0) fun _=> .pure (.again c')
theorem enter_eq (c':Code):enter c'=(enterFrame 0).bind fun _=>Sem.pure (Fin.again c'):=by
 unfold enter
 rw [show @PySem.W.ZFast.enterX=@enterFrame from PySem.W.ZFast.enterX_eq.symm,show @PySem.W.R.bindR=@Sem.bind from PySem.W.R.bindR_eq.symm]
theorem own_limit (ok:W.Ok) (D:Own W.h₀ 53 h L):h.NoLimit:=by
 obtain ⟨mc,⟨o,es,ep,e,r⟩,q⟩:=ok.2
 exact ⟨mc,⟨o,es,ep,D.keep _ _ e (show cStatics≠53 by decide),r⟩,q⟩
theorem genter {r:GR} (ok:W.Ok) (c':Code) (he:(easy r&&Bf c')=true) (hc:BD r=enter c')
  (m:Nat) (hm:((AT A (κOf r)).under (cOf r)).depth=m) (hd:m<1000) (next:AG (bs b W A R n tk G) (goOn r c')):AG (bs b W A R n tk G) r:=by
 obtain ⟨he,hq⟩:=Bool.and_eq_true_iff.mp he
 unfold goOn AG at next
 refine B0 he fun h hs D=>?_
 rw [hc,enter_eq]
 refine wpO.bind (m:=enterFrame 0) (f:=fun _=>Sem.pure (Fin.again c')) (wpAny_enterFrame (own_limit ok D) (by rw [show aroundOf (bs b W A R n tk G).V true (κOf r)=AT A (κOf r) from (Be W A R _).symm,hm];exact hd) ?_)
 have z:=next h hs D
 rw [← dz_eq,show (bs b W A R n tk G).G++[]=G from List.append_nil G] at z
 rw [← BM] at hq
 exact fun Γ p _ _ _=>⟨hq,C6 z⟩
theorem C2 {κ:Kont} (h:Cd κ=true):κ= .base:=by
 cases κ<;>first | rfl | cases h
theorem gend {r:GR} {α:Type} {Q:Post α} (hR:Takes W R Q) (p:α) (hp:Q.P p) (f:Flow) (hf:Q.res p= .ok f) (hb:(easy r&&Cd (κOf r))=true) (hc:doneT (BD r)=some f)
  (hL:∀ h,Own W.h₀ 53 h (CX r)->Own W.h₀ 53 h (Q.L p)):AG (bs b W A R n tk (Q.G p)) r:=by
 obtain ⟨he,hκ⟩:=Bool.and_eq_true_iff.mp hb
 refine B0 he fun h hs D=>?_
 rw [doneT_inv hc,C2 hκ]
 refine fun Γ p' _ _ _=>(?_:R (.ok f) _)
 rw [← hf]
 exact hR _ hp h _ _ hs (hL h D)
theorem gerr {r:GR} {α:Type} {Q:Post α} (hR:Takes W R Q) (p:α) (hp:Q.P p) (e:Value) (hf:Q.res p= .error e) (hb:(easy r&&Cd (κOf r))=true) (hc:raiseT (BD r)=some e)
  (hL:∀ h,Own W.h₀ 53 h (CX r)->Own W.h₀ 53 h (Q.L p)):AG (bs b W A R n tk (Q.G p)) r:=by
 obtain ⟨he,hκ⟩:=Bool.and_eq_true_iff.mp hb
 refine B0 he fun h hs D=>?_
 rw [raiseT_inv hc,C2 hκ]
 refine fun Γ p' _ _ _=>(?_:R (.error e) _)
 rw [← hf]
 exact hR _ hp h _ _ hs (hL h D)
theorem gagain {r:GR} (c':Code) {α:Type} {Q:Post α} (hb:(easy r&&(Cd (κOf r)&&Bf c'))=true) (hc:E2 (BD r)=some c') (hR:Takes W R Q)
  (hL:∀ h,Own W.h₀ 53 h (CX r)->Own W.h₀ 53 h L) (spec:Bn b W A c' G L Q):AG (bs b W A R n tk G) r:=by
 obtain ⟨he,hq⟩:=Bool.and_eq_true_iff.mp hb
 obtain ⟨hκ,q⟩:=Bool.and_eq_true_iff.mp hq
 rw [← BM] at q
 refine B0 he fun h hs D=>?_
 rw [En hc,C2 hκ]
 exact fun Γ p _ _ _=>⟨q,spec.go hR hs (hL h D)⟩
theorem gbody {r:GR} (ok:W.Ok) (c':Code) {α:Type} {Q:Post α} (hb:(easy r&&(Cd (κOf r)&&Bf c'))=true) (hc:BD r=enter c')
  (m:Nat) (hm:((AT A (κOf r)).under (cOf r)).depth=m) (hd:m<1000) (hR:Takes W R Q) (hL:∀ h,Own W.h₀ 53 h (CX r)->Own W.h₀ 53 h L) (spec:Bn b W A c' G L Q):AG (bs b W A R n tk G) r:=by
 obtain ⟨he,hq⟩:=Bool.and_eq_true_iff.mp hb
 obtain ⟨hκ,q⟩:=Bool.and_eq_true_iff.mp hq
 rw [← BM] at q
 refine B0 he fun h hs D=>?_
 rw [hc,enter_eq]
 refine wpO.bind (m:=enterFrame 0) (f:=fun _=>Sem.pure (Fin.again c')) (wpAny_enterFrame (own_limit ok D) (by rw [show aroundOf (bs b W A R n tk G).V true (κOf r)=AT A (κOf r) from (Be W A R _).symm,hm];exact hd) ?_)
 rw [C2 hκ]
 exact fun Γ p _ _ _=>⟨q,spec.go hR hs (hL h D)⟩
noncomputable def eraseK:List Cell->Nat->List Cell
 | [],_=>[]
 | _::l,0=>l
 | x::l,i+1=>x::eraseK l i
noncomputable def frontD:List Nat->List Nat->List Cell->List Cell
 | [],_,L=>L
 | j::p,dn,L=>match nthK L (j - (dn.filter fun i=>Nat.blt i j).length) with
  | some x=>x::frontD p (j::dn) (eraseK L (j - (dn.filter fun i=>Nat.blt i j).length))
  | none=>L
noncomputable def front (p:List Nat) (L:List Cell):List Cell:=frontD p [] L
theorem Ef:∀ {L:List Cell} {i:Nat} {x:Cell},nthK L i=some x->L.Perm (x::eraseK L i)
 | [],_,_,h=>nomatch h
 | y::l,0,x,h=>by cases h;exact .refl _
 | y::l,i+1,x,h=>((Ef (L:=l) h).cons y).trans (.swap ..)
theorem Ds:∀ (p dn:List Nat) (L:List Cell),L.Perm (frontD p dn L)
 | [],_,_=> .refl _
 | j::p,dn,L=>by
  unfold frontD
  cases e:nthK L (j - (dn.filter fun i=>Nat.blt i j).length) with
  | none=>exact .refl _
  | some x=>exact (Ef e).trans ((Ds p _ _).cons x)
theorem B5 (p:List Nat) (L:List Cell):L.Perm (front p L):=Ds p [] L
@[irreducible] noncomputable def rest (k:Nat) (ix:List Nat) (L:List Cell):List Cell:=List.drop k (front ix L)
theorem own1 (ix:List Nat) (c:Cell) (e:front ix L=c::rest 1 ix L) (h:Heap) (D:Own h₀ 53 h L):Own h₀ 53 h (c::rest 1 ix L):=e▸D.perm (B5 ix L)
theorem own2 (ix:List Nat) (c d:Cell) (e:front ix L=c::d::rest 2 ix L) (h:Heap) (D:Own h₀ 53 h L):Own h₀ 53 h (c::d::rest 2 ix L):=e▸D.perm (B5 ix L)
theorem own3 (ix:List Nat) (c d f:Cell) (e:front ix L=c::d::f::rest 3 ix L) (h:Heap) (D:Own h₀ 53 h L):Own h₀ 53 h (c::d::f::rest 3 ix L):=e▸D.perm (B5 ix L)
theorem own4 (ix:List Nat) (c d f g:Cell) (e:front ix L=c::d::f::g::rest 4 ix L) (h:Heap) (D:Own h₀ 53 h L):Own h₀ 53 h (c::d::f::g::rest 4 ix L):=e▸D.perm (B5 ix L)
theorem A4 (ix:List Nat) (k:Nat) {L':List Cell} (e:List.drop k (front ix L)=L') (h:Heap) (D:Own h₀ 53 h L):Own h₀ 53 h L':=
 e▸(D.perm (B5 ix L)).sub (List.drop_sublist k _)
noncomputable def Good (A:Around) (m:Nat):Prop:=∃ dp un F,A=⟨none,dp,some F,some [],un⟩/\dp<=m/\un<=m
noncomputable abbrev Ar (dp un:Nat) (F:List Env):Around:=⟨none,dp,some F,some [],un⟩
theorem Ab (dp un:Nat) (h:A=⟨none,dp,some (A.frames.getD []),some [],un⟩) (h1:dp<=m) (h2:un<=m):Good A m:=⟨_,_,_,h,h1,h2⟩
theorem Tri.good {c:Code} {α:Type} {Q:Post α} (h:Good A m) (x:∀ dp un F,dp<=m->un<=m->Tri W (Ar dp un F) c G L Q):Tri W A c G L Q:=by
 obtain ⟨dp,un,F,rfl,hd,hu⟩:=h
 exact x dp un F hd hu
theorem Tri.gof {c:Code} {α:Type} {Q:Post α} (h:Good A m) (x:∀ dp un F,dp<=m->un<=m->∀ R n tk,Takes W R Q->AG (bs false W (Ar dp un F) R n tk G) (start c L)):Tri W A c G L Q:=Tri.good h fun dp un F hd hu=>Tri.of (x dp un F hd hu)
theorem AK.good {c:Code} {α:Type} {Q:Post α} (h:Good A m) (x:∀ dp un F,dp<=m->un<=m->AK W (Ar dp un F) c G L Q):AK W A c G L Q:=by
 obtain ⟨dp,un,F,rfl,hd,hu⟩:=h
 exact x dp un F hd hu
noncomputable def fdAt (kt:KT) (a:Addr):FuncData:=match kt.get a with
 | some ⟨_,_,.func fd,_⟩=>fd
 | _=>default
noncomputable def qualAt (kt:KT) (c:Value) (q:Str):Str:=match c with
 | .ref a=>match kt.get a with
  | some ⟨_,_,.fields (vs:Array Value),_⟩=>match (vs[1]?:Option Value) with
   | some (PySem.Value.str x _)=>x
   | _=>q
  | _=>q
 | _=>q
noncomputable def mkCells:List (Str×NameKind)->Addr->Nat->List (Str×Addr)->List (Str×Addr)
 | [],_,_,cs=>cs
 | (x,k)::r,b,j,cs=>match k with
  | .cell=>mkCells r b (j+1) ((x,b+j)::cs)
  | _=>mkCells r b j cs
noncomputable def A5 (kt:KT) (a b:Addr) (j:Nat):Env:=
 { scope:=(fdAt kt a).scope,locals:=b+j,globals:=(fdAt kt a).globals,cells:=mkCells (fdAt kt a).scope.names b (j+1) [],qual:=qualAt kt (fdAt kt a).code (fdAt kt a).qualname++".<locals>.",func:=some a,code:=(fdAt kt a).code,frame:=some (b+j),builtins:=(fdAt kt a).builtins }
noncomputable def Ak (kt:KT) (a:Addr):List Stmt:=match (fdAt kt a).body with
 | .stmts s=>s
 | .expr _=>[]
noncomputable def entry (kt:KT) (a b:Addr) (j:Nat):Code:= .func (Ak kt a) (A5 kt a b j)
noncomputable abbrev Wd.kt (W:Wd):KT:=kt1 W.w₀.params
@[irreducible] noncomputable def A9 (B:Bs) (k tr:Nat) (r:GR):GR:=more B k tr r
noncomputable def rsF (F:GR) (k:Nat) (ix:List Nat):List Cell:=rest k ix (CX F)
noncomputable def stC (A:Around) (F:GR) (ix:List Nat):List Ob×Bool×Option Code×List Cell×Around:=(obs F,easy F&&okMark (hdC (BD F)),BO (BD F),front ix (CX F),aOf A F)
noncomputable def enC (A:Around) (F:GR) (c':Code) (ix:List Nat) (k:Nat) (C:List Cell) (pA:Around->Around):List Ob×Bool×Option Code×List Cell×Around:=(dup (obs F),true,some c',C++rsF F k ix,pA (aOf A F))
noncomputable def stD (A:Around) (F:GR) (ix:List Nat) (k:Nat):List Ob×Bool×Option Code×List Cell×Around:=(obs F,easy F&&okMark (hdC (BD F)),BO (BD F),List.drop k (front ix (CX F)),aOf A F)
noncomputable def enD (A:Around) (F:GR) (c':Code) (L:List Cell) (pA:Around->Around):List Ob×Bool×Option Code×List Cell×Around:=(dup (obs F),true,some c',L,pA (aOf A F))
noncomputable def stE (F:GR) (ix:List Nat) (k:Nat):List Ob×Bool×Option Flow×List Cell:=(obs F,easy F&&Cd (κOf F),doneT (BD F),List.drop k (front ix (CX F)))
noncomputable def enE (F:GR) (f:Flow) (L:List Cell):List Ob×Bool×Option Flow×List Cell:=(dup (obs F),true,some f,L)
noncomputable def stG (F:GR) (c:Code) (ix:List Nat) (k:Nat):List Ob×Bool×Option Code×List Cell:=(obs F,easy F&&(Cd (κOf F)&&Bf c),E2 (BD F),List.drop k (front ix (CX F)))
noncomputable def enG (F:GR) (c:Code) (L:List Cell):List Ob×Bool×Option Code×List Cell:=(dup (obs F),true,some c,L)
noncomputable def gd (a u:Nat) (A:Around):Around:=⟨none,a,some (A.frames.getD []),some [],u⟩
noncomputable def A6 (A:Around):Around:=A
noncomputable def BP (A₂ _A:Around):Around:=A₂
theorem fst5 {α β γ δ ε:Type} {a a':α} {b b':β} {c c':γ} {d d':δ} {e e':ε} (h:(a,b,c,d,e)=(a',b',c',d',e')):a=a'/\b=b'/\c=c'/\d=d'/\e=e':=⟨congrArg (·.1) h,congrArg (·.2.1) h,congrArg (·.2.2.1) h,congrArg (·.2.2.2.1) h,congrArg (·.2.2.2.2) h⟩
theorem fst4 {α β γ δ:Type} {a a':α} {b b':β} {c c':γ} {d d':δ} (h:(a,b,c,d)=(a',b',c',d')):a=a'/\b=b'/\c=c'/\d=d':=⟨congrArg (·.1) h,congrArg (·.2.1) h,congrArg (·.2.2.1) h,congrArg (·.2.2.2) h⟩
section
variable {b:Bool} {W:Wd} {A:Around} {R:Result->Shared->Prop} {n tk:Nat} {G:List GenState} {r:GR}
theorem gcN (ok:W.Ok) (k tr:Nat) (c':Code) (ix:List Nat) (kc:Nat) (C:List Cell) (pA:Around->Around) {α:Type} {Gf:α->List GenState} {Pf:α->Prop} {rf:α->Result} {Cf:α->List Cell->List Cell}
  (spec:∀ A L,A=pA A->Bn b W A c' G (C++L) ⟨Gf,Pf,rf,fun p=>Cf p L⟩)
  (next:∀ p n' tk',Pf p->AG (bs b W A R n' tk' (Gf p)) (back (A9 (bs b W A R n tk G) k tr r) (rf p) (Cf p (rsF (A9 (bs b W A R n tk G) k tr r) kc ix))))
  (x:stC A (A9 (bs b W A R n tk G) k tr r) ix=enC A (A9 (bs b W A R n tk G) k tr r) c' ix kc C pA:=by kernel_rfl):AG (bs b W A R n tk G) r:=by
 unfold A9 at x next
 obtain ⟨e1,e2,e3,e4,e5⟩:=fst5 x
 exact gmore ok k tr ⟨e1,gcall c' e2 e3 (fun h D=>e4▸D.perm (B5 ix _)) (spec _ _ e5) next⟩
theorem gcD (ok:W.Ok) (k tr:Nat) (c':Code) (L:List Cell) (ix:List Nat) (kd:Nat) (pA:Around->Around) {α:Type} {Gf:α->List GenState} {Pf:α->Prop} {rf:α->Result} {Lf:α->List Cell}
  (spec:∀ A,A=pA A->Bn b W A c' G L ⟨Gf,Pf,rf,Lf⟩)
  (next:∀ p n' tk',Pf p->AG (bs b W A R n' tk' (Gf p)) (back (A9 (bs b W A R n tk G) k tr r) (rf p) (Lf p)))
  (x:stD A (A9 (bs b W A R n tk G) k tr r) ix kd=enD A (A9 (bs b W A R n tk G) k tr r) c' L pA:=by kernel_rfl):AG (bs b W A R n tk G) r:=by
 unfold A9 at x next
 obtain ⟨e1,e2,e3,e4,e5⟩:=fst5 x
 exact gmore ok k tr ⟨e1,gcall c' e2 e3 (A4 ix kd e4) (spec _ e5) next⟩
theorem gcL (ok:W.Ok) (k tr:Nat) (c':Code) (L:List Cell) (pA:Around->Around) {α:Type} {Gf:α->List GenState} {Pf:α->Prop} {rf:α->Result} {Lf:α->List Cell}
  (hL:∀ h,Own W.h₀ 53 h (CX (A9 (bs b W A R n tk G) k tr r))->Own W.h₀ 53 h L)
  (spec:∀ A,A=pA A->Bn b W A c' G L ⟨Gf,Pf,rf,Lf⟩)
  (next:∀ p n' tk',Pf p->AG (bs b W A R n' tk' (Gf p)) (back (A9 (bs b W A R n tk G) k tr r) (rf p) (Lf p)))
  (x:stC A (A9 (bs b W A R n tk G) k tr r) []=enC A (A9 (bs b W A R n tk G) k tr r) c' [] 0 [] pA:=by kernel_rfl):AG (bs b W A R n tk G) r:=by
 unfold A9 at x next hL
 obtain ⟨e1,e2,e3,e4,e5⟩:=fst5 x
 exact gmore ok k tr ⟨e1,gcall c' e2 e3 hL (spec _ e5) next⟩
theorem Aj (ok:W.Ok) (k tr:Nat) {α:Type} {Q:Post α} (hR:Takes W R Q) (p:α) (hp:Q.P p) (f:Flow) (hf:Q.res p= .ok f) (ix:List Nat) (kd:Nat)
  (x:stE (A9 (bs b W A R n tk (Q.G p)) k tr r) ix kd=enE (A9 (bs b W A R n tk (Q.G p)) k tr r) f (Q.L p):=by kernel_rfl):AG (bs b W A R n tk (Q.G p)) r:=by
 unfold A9 at x
 obtain ⟨e1,e2,e3,e4⟩:=fst4 x
 exact gmore ok k tr ⟨e1,gend hR p hp f hf e2 e3 (A4 ix kd e4)⟩
theorem gZl (ok:W.Ok) (k tr:Nat) {α:Type} {Q:Post α} (hR:Takes W R Q) (p:α) (hp:Q.P p) (f:Flow) (hf:Q.res p= .ok f) (ix:List Nat) (kd:Nat) (L:List Cell)
  (x:stE (A9 (bs b W A R n tk (Q.G p)) k tr r) ix kd=enE (A9 (bs b W A R n tk (Q.G p)) k tr r) f L) (hL:∀ h,Own W.h₀ 53 h L->Own W.h₀ 53 h (Q.L p)):AG (bs b W A R n tk (Q.G p)) r:=by
 unfold A9 at x
 obtain ⟨e1,e2,e3,e4⟩:=fst4 x
 exact gmore ok k tr ⟨e1,gend hR p hp f hf e2 e3 (fun h D=>hL h (A4 ix kd e4 h D))⟩
theorem Cq (ok:W.Ok) (k tr:Nat) (c':Code) {α:Type} {Q:Post α} (L:List Cell) (ix:List Nat) (kd:Nat) (hR:Takes W R Q) (spec:Bn b W A c' G L Q)
  (x:stG (A9 (bs b W A R n tk G) k tr r) c' ix kd=enG (A9 (bs b W A R n tk G) k tr r) c' L:=by kernel_rfl):AG (bs b W A R n tk G) r:=by
 unfold A9 at x
 obtain ⟨e1,e2,e3,e4⟩:=fst4 x
 exact gmore ok k tr ⟨e1,gagain c' e2 e3 hR (A4 ix kd e4) spec⟩
theorem gc0 (ok:W.Ok) (k tr:Nat) (c':Code)  (pA:Around->Around) {α:Type} {Gf:α->List GenState} {Pf:α->Prop} {rf:α->Result} {Cf:α->List Cell->List Cell}
  (spec:∀ A L,A=pA A->Bn b W A c' G (L) ⟨Gf,Pf,rf,fun p=>Cf p L⟩)
  (next:∀ p n' tk',Pf p->AG (bs b W A R n' tk' (Gf p)) (back (A9 (bs b W A R n tk G) k tr r) (rf p) (Cf p (rsF (A9 (bs b W A R n tk G) k tr r) 0 []))))
  (x:stC A (A9 (bs b W A R n tk G) k tr r) []=enC A (A9 (bs b W A R n tk G) k tr r) c' [] 0 [] pA:=by kernel_rfl):AG (bs b W A R n tk G) r:=gcN ok k tr c' [] 0 [] pA spec next x
theorem AU (ok:W.Ok) (k tr:Nat) (c':Code) (ix:List Nat) (c1:Cell) (pA:Around->Around) {α:Type} {Gf:α->List GenState} {Pf:α->Prop} {rf:α->Result} {Cf:α->List Cell->List Cell}
  (spec:∀ A L,A=pA A->Bn b W A c' G (c1::L) ⟨Gf,Pf,rf,fun p=>Cf p L⟩)
  (next:∀ p n' tk',Pf p->AG (bs b W A R n' tk' (Gf p)) (back (A9 (bs b W A R n tk G) k tr r) (rf p) (Cf p (rsF (A9 (bs b W A R n tk G) k tr r) 1 ix))))
  (x:stC A (A9 (bs b W A R n tk G) k tr r) ix=enC A (A9 (bs b W A R n tk G) k tr r) c' ix 1 [c1] pA:=by kernel_rfl):AG (bs b W A R n tk G) r:=gcN ok k tr c' ix 1 [c1] pA spec next x
theorem Cg (ok:W.Ok) (k tr:Nat) (c':Code) (ix:List Nat) (c1 c2:Cell) (pA:Around->Around) {α:Type} {Gf:α->List GenState} {Pf:α->Prop} {rf:α->Result} {Cf:α->List Cell->List Cell}
  (spec:∀ A L,A=pA A->Bn b W A c' G (c1::c2::L) ⟨Gf,Pf,rf,fun p=>Cf p L⟩)
  (next:∀ p n' tk',Pf p->AG (bs b W A R n' tk' (Gf p)) (back (A9 (bs b W A R n tk G) k tr r) (rf p) (Cf p (rsF (A9 (bs b W A R n tk G) k tr r) 2 ix))))
  (x:stC A (A9 (bs b W A R n tk G) k tr r) ix=enC A (A9 (bs b W A R n tk G) k tr r) c' ix 2 [c1,c2] pA:=by kernel_rfl):AG (bs b W A R n tk G) r:=gcN ok k tr c' ix 2 [c1,c2] pA spec next x
theorem gc3 (ok:W.Ok) (k tr:Nat) (c':Code) (ix:List Nat) (c1 c2 c3:Cell) (pA:Around->Around) {α:Type} {Gf:α->List GenState} {Pf:α->Prop} {rf:α->Result} {Cf:α->List Cell->List Cell}
  (spec:∀ A L,A=pA A->Bn b W A c' G (c1::c2::c3::L) ⟨Gf,Pf,rf,fun p=>Cf p L⟩)
  (next:∀ p n' tk',Pf p->AG (bs b W A R n' tk' (Gf p)) (back (A9 (bs b W A R n tk G) k tr r) (rf p) (Cf p (rsF (A9 (bs b W A R n tk G) k tr r) 3 ix))))
  (x:stC A (A9 (bs b W A R n tk G) k tr r) ix=enC A (A9 (bs b W A R n tk G) k tr r) c' ix 3 [c1,c2,c3] pA:=by kernel_rfl):AG (bs b W A R n tk G) r:=gcN ok k tr c' ix 3 [c1,c2,c3] pA spec next x
theorem gc4 (ok:W.Ok) (k tr:Nat) (c':Code) (ix:List Nat) (c1 c2 c3 c4:Cell) (pA:Around->Around) {α:Type} {Gf:α->List GenState} {Pf:α->Prop} {rf:α->Result} {Cf:α->List Cell->List Cell}
  (spec:∀ A L,A=pA A->Bn b W A c' G (c1::c2::c3::c4::L) ⟨Gf,Pf,rf,fun p=>Cf p L⟩)
  (next:∀ p n' tk',Pf p->AG (bs b W A R n' tk' (Gf p)) (back (A9 (bs b W A R n tk G) k tr r) (rf p) (Cf p (rsF (A9 (bs b W A R n tk G) k tr r) 4 ix))))
  (x:stC A (A9 (bs b W A R n tk G) k tr r) ix=enC A (A9 (bs b W A R n tk G) k tr r) c' ix 4 [c1,c2,c3,c4] pA:=by kernel_rfl):AG (bs b W A R n tk G) r:=gcN ok k tr c' ix 4 [c1,c2,c3,c4] pA spec next x
end
section
variable {b:Bool} {W:Wd} {A:Around} {R:Result->Shared->Prop} {n tk:Nat} {G:List GenState} {r:GR}
noncomputable def stM (A:Around) (F:GR) (c:Code):List Ob×Bool×Sem Fin×Nat:=(obs F,easy F&&Bf c,BD F,((AT A (κOf F)).under (cOf F)).depth)
noncomputable def stB (A:Around) (F:GR) (c:Code) (ix:List Nat) (k:Nat):List Ob×Bool×Sem Fin×Nat×List Cell:=(obs F,easy F&&(Cd (κOf F)&&Bf c),BD F,((AT A (κOf F)).under (cOf F)).depth,List.drop k (front ix (CX F)))
theorem BC (ok:W.Ok) (k tr:Nat) (c:Code) (m:Nat) (hd:m<1000) (next:AG (bs b W A R n tk G) (goOn (A9 (bs b W A R n tk G) k tr r) c))
  (x:stM A (A9 (bs b W A R n tk G) k tr r) c=(dup (obs (A9 (bs b W A R n tk G) k tr r)),true,enter c,m):=by kernel_rfl):AG (bs b W A R n tk G) r:=by
 unfold A9 at x next
 obtain ⟨e1,e2,e3,e4⟩:=fst4 x
 exact gmore ok k tr ⟨e1,genter ok c e2 e3 m e4 hd next⟩
theorem gbN (ok:W.Ok) (k tr:Nat) (c:Code) (m:Nat) {α:Type} {Q:Post α} (ix:List Nat) (kd:Nat) (hd:m<1000) (hR:Takes W R Q) (spec:Bn b W A c G L Q)
  (x:stB A (A9 (bs b W A R n tk G) k tr r) c ix kd=(dup (obs (A9 (bs b W A R n tk G) k tr r)),true,enter c,m,L):=by kernel_rfl):AG (bs b W A R n tk G) r:=by
 unfold A9 at x
 obtain ⟨e1,e2,e3,e4,e5⟩:=fst5 x
 exact gmore ok k tr ⟨e1,gbody ok c e2 e3 m e4 hd hR (A4 ix kd e5) spec⟩
noncomputable def stR (F:GR):List Ob×Bool×Option Flow:=(obs F,easy F&&Cd (κOf F),doneT (BD F))
noncomputable def stA (F:GR) (c:Code):List Ob×Bool×Option Code:=(obs F,easy F&&(Cd (κOf F)&&Bf c),E2 (BD F))
noncomputable def stK (F:GR):List Ob×Bool×Option Code:=(obs F,easy F&&okMark (hdC (BD F)),BO (BD F))
theorem fst3 {α β γ:Type} {a a':α} {b b':β} {c c':γ} (h:(a,b,c)=(a',b',c')):a=a'/\b=b'/\c=c':=⟨congrArg (·.1) h,congrArg (·.2.1) h,congrArg (·.2.2) h⟩
theorem gmend (ok:W.Ok) (k tr:Nat) {α:Type} {Q:Post α} (hR:Takes W R Q) (p:α) (hp:Q.P p) (f:Flow) (hf:Q.res p= .ok f)
  (hL:∀ h,Own W.h₀ 53 h (CX (A9 (bs b W A R n tk (Q.G p)) k tr r))->Own W.h₀ 53 h (Q.L p))
  (x:stR (A9 (bs b W A R n tk (Q.G p)) k tr r)=(dup (obs (A9 (bs b W A R n tk (Q.G p)) k tr r)),true,some f):=by kernel_rfl):AG (bs b W A R n tk (Q.G p)) r:=by
 unfold A9 at x hL
 obtain ⟨e1,e2,e3⟩:=fst3 x
 exact gmore ok k tr ⟨e1,gend hR p hp f hf e2 e3 hL⟩
theorem gmagn (ok:W.Ok) (k tr:Nat) (c:Code) {α:Type} {Q:Post α} (hR:Takes W R Q)
  (hL:∀ h,Own W.h₀ 53 h (CX (A9 (bs b W A R n tk G) k tr r))->Own W.h₀ 53 h L) (spec:Bn b W A c G L Q)
  (x:stA (A9 (bs b W A R n tk G) k tr r) c=(dup (obs (A9 (bs b W A R n tk G) k tr r)),true,some c):=by kernel_rfl):AG (bs b W A R n tk G) r:=by
 unfold A9 at x hL
 obtain ⟨e1,e2,e3⟩:=fst3 x
 exact gmore ok k tr ⟨e1,gagain c e2 e3 hR hL spec⟩
theorem gmcal (ok:W.Ok) (k tr:Nat) (c':Code) {α:Type} {Gf:α->List GenState} {Pf:α->Prop} {rf:α->Result} {Lf:α->List Cell}
  (hL:∀ h,Own W.h₀ 53 h (CX (A9 (bs b W A R n tk G) k tr r))->Own W.h₀ 53 h L)
  (spec:Bn b W (aOf A (A9 (bs b W A R n tk G) k tr r)) c' G L ⟨Gf,Pf,rf,Lf⟩)
  (next:∀ p n' tk',Pf p->AG (bs b W A R n' tk' (Gf p)) (back (A9 (bs b W A R n tk G) k tr r) (rf p) (Lf p)))
  (x:stK (A9 (bs b W A R n tk G) k tr r)=(dup (obs (A9 (bs b W A R n tk G) k tr r)),true,some c'):=by kernel_rfl):AG (bs b W A R n tk G) r:=by
 unfold A9 at x hL spec next
 obtain ⟨e1,e2,e3⟩:=fst3 x
 exact gmore ok k tr ⟨e1,gcall c' e2 e3 hL spec next⟩
end
theorem A2 (Ls:List (List Cell)) (ix:List Nat) {tail:List Cell} (D:Own h₀ 53 h (Ls.foldr (·++·) tail)) (hp:ix.isPerm (List.range Ls.length)=true:=by kernel_rfl):Own h₀ 53 h ((ix.map fun i=>Ls.getD i []).foldr (·++·) tail):=by
 have e:Ls=(List.range Ls.length).map fun i=>Ls.getD i []:=by
  apply List.ext_getElem
  ·simp
  ·intro i h1 h2;simp [List.getElem?_eq_getElem h1]
 have q:∀ {l l':List (List Cell)},l.Perm l'->(l.foldr (·++·) tail).Perm (l'.foldr (·++·) tail):=by
  intro l l' p
  induction p with
  | nil=>exact .refl _
  | cons x _ ih=>exact List.Perm.append_left x ih
  | swap x y l=>exact List.perm_append_comm_assoc ..
  | trans _ _ i1 i2=>exact i1.trans i2
 rw [e] at D
 exact D.perm (q ((List.isPerm_iff.mp hp).map _).symm)
theorem short {α:Type} {P:∀ l:List α,l.length<=10->Prop} (h0:∀ hl,P [] hl) (h1:∀ v0 hl,P [v0] hl) (h2:∀ v0 v1 hl,P [v0,v1] hl) (h3:∀ v0 v1 v2 hl,P [v0,v1,v2] hl) (h4:∀ v0 v1 v2 v3 hl,P [v0,v1,v2,v3] hl) (h5:∀ v0 v1 v2 v3 v4 hl,P [v0,v1,v2,v3,v4] hl) (h6:∀ v0 v1 v2 v3 v4 v5 hl,P [v0,v1,v2,v3,v4,v5] hl) (h7:∀ v0 v1 v2 v3 v4 v5 v6 hl,P [v0,v1,v2,v3,v4,v5,v6] hl) (h8:∀ v0 v1 v2 v3 v4 v5 v6 v7 hl,P [v0,v1,v2,v3,v4,v5,v6,v7] hl) (h9:∀ v0 v1 v2 v3 v4 v5 v6 v7 v8 hl,P [v0,v1,v2,v3,v4,v5,v6,v7,v8] hl) (h10:∀ v0 v1 v2 v3 v4 v5 v6 v7 v8 v9 hl,P [v0,v1,v2,v3,v4,v5,v6,v7,v8,v9] hl) (l:List α) (hl:l.length<=10):P l hl:=by
 cases l with
 | nil=>exact h0 hl
 | cons v0 l=>
 cases l with
 | nil=>exact h1 v0 hl
 | cons v1 l=>
  cases l with
  | nil=>exact h2 v0 v1 hl
  | cons v2 l=>
  cases l with
  | nil=>exact h3 v0 v1 v2 hl
  | cons v3 l=>
   cases l with
   | nil=>exact h4 v0 v1 v2 v3 hl
   | cons v4 l=>
   cases l with
   | nil=>exact h5 v0 v1 v2 v3 v4 hl
   | cons v5 l=>
    cases l with
    | nil=>exact h6 v0 v1 v2 v3 v4 v5 hl
    | cons v6 l=>
    cases l with
    | nil=>exact h7 v0 v1 v2 v3 v4 v5 v6 hl
    | cons v7 l=>
     cases l with
     | nil=>exact h8 v0 v1 v2 v3 v4 v5 v6 v7 hl
     | cons v8 l=>
     cases l with
     | nil=>exact h9 v0 v1 v2 v3 v4 v5 v6 v7 v8 hl
     | cons v9 l=>
      cases l with
      | nil=>exact h10 v0 v1 v2 v3 v4 v5 v6 v7 v8 v9 hl
      | cons v10 l=>
      exact absurd hl (Nat.not_le.mpr (Nat.le_add_left 11 l.length))
theorem lts {P:Nat->Prop} {i:Nat} (h0:P 0) (h:∀ {i},i<n->P (i+1)) (hi:i<n+1):P i:=by
 cases i with
 | zero=>exact h0
 | succ i=>exact h (Nat.lt_of_succ_lt_succ hi)
theorem lt0 {P:Nat->Prop} (hi:i<0):P i:=absurd hi (Nat.not_lt_zero i)
theorem lts6 {P:Nat->Prop} (h0:P 0) (h1:P 1) (h2:P 2) (h3:P 3) (h4:P 4) (h5:P 5):∀ {i},i<6->P i:=lts h0 (lts (P:=fun i=>P (i+1)) h1 (lts (P:=fun i=>P (i+2)) h2 (lts (P:=fun i=>P (i+3)) h3 (lts (P:=fun i=>P (i+4)) h4 (lts (P:=fun i=>P (i+5)) h5 (fun h=>absurd h (Nat.not_lt_zero _)))))))
theorem lts8 {P:Nat->Prop} (h0:P 0) (h1:P 1) (h2:P 2) (h3:P 3) (h4:P 4) (h5:P 5) (h6:P 6) (h7:P 7):∀ {i},i<8->P i:=lts h0 (lts (P:=fun i=>P (i+1)) h1 (lts (P:=fun i=>P (i+2)) h2 (lts (P:=fun i=>P (i+3)) h3 (lts (P:=fun i=>P (i+4)) h4 (lts (P:=fun i=>P (i+5)) h5 (lts (P:=fun i=>P (i+6)) h6 (lts (P:=fun i=>P (i+7)) h7 (fun h=>absurd h (Nat.not_lt_zero _)))))))))
noncomputable abbrev Ret (v:Value) (G:List GenState) (L:List Cell):Post Unit:=⟨fun _=>G,fun _=>True,fun _=> .ok (.ret v),fun _=>L⟩
noncomputable abbrev Gives {α:Type} (G:List GenState) (v:α->Value) (L:α->List Cell):Post α:=⟨fun _=>G,fun _=>True,fun p=> .ok (.ret (v p)),L⟩
noncomputable abbrev Fine (W:Wd) (A:Around) (R:Result->Shared->Prop) (t:Sem Fin) (s:Shared):Prop:=
 wpAny W.M A.in1 t (fun fin s'=>match fin with | .done f=>R (.ok f) s' | .again c'=>c'.quiet=true/\codeAny W.M A c' R s') (fun e s'=>R (.error e) s') s
theorem Tri.bi {id:String} {args:Args} {b:Builtin} {α:Type} {Q:Post α} (hp:plainId id=true) (hb:entryFor table id=some b)
  (x:∀ R,Takes W R Q->∀ h n tk,h.objs.size=n+8->Own W.h₀ 53 h L->Fine W A R (b args) ⟨h,⟨G⟩,W.d,tk,W.os⟩):Tri W A (.builtin id args) G L Q:=
 fun R hR h n tk hs D=>codeAny_builtin hb (by rw [Around.under_plainId hp args];exact x R hR h n tk hs D)
theorem Tri.cb {T:String} {name:Str} {id:String} {self:Value} {rest:List Value} {b:Builtin} {α:Type} {Q:Post α} (slot:Slot T name id) (hb:entryFor table id=some b)
  (args:argsOk id ⟨self::rest,[]⟩) (hT:∀ h tk,Own W.h₀ 53 h L->(⟨h,⟨G⟩,W.d,tk,W.os⟩:Shared).TypeIs self T)
  (x:∀ R,Takes W R Q->∀ h n tk,h.objs.size=n+8->Own W.h₀ 53 h L->Fine W A R (b ⟨self::rest,[]⟩) ⟨h,⟨G⟩,W.d,tk,W.os⟩):Tri W A (.call (.builtin id) ⟨self::rest,[]⟩) G L Q:=
 fun R hR h n tk hs D=>codeAny_call_builtin slot.plain hb (slot.check _ _ _ _ _ _ _ _ (hT h tk D) args (x R hR h n tk hs D))
noncomputable def A1 (xs:Array Value) (e:Nat):Obj:=⟨.type "list",none,.seq xs e,#[]⟩
noncomputable def Af (xs:Array Value):Obj:=⟨.type "tuple",none,.seq xs 0,#[]⟩
noncomputable def lit (l:Addr) (i:Nat):Obj:=⟨.type "list_iterator",none,.fields #[.ref l,.int i 0],#[]⟩
noncomputable abbrev c8 (a:Nat) (o:Obj):Cell:=(a+8,o)
noncomputable abbrev lL (a:Nat) (l:Array Value) (e:Nat):Cell:=(a+8,A1 l e)
noncomputable def litEnd (i:Nat):Obj:=⟨.type "list_iterator",none,.fields #[.none,.int i 0],#[]⟩
noncomputable def stopO (t:Addr):Obj:=⟨.type "StopIteration",none,.fields #[.ref t,.none,.none,.none,.bool false,.none],#[]⟩
theorem Own.at0 {a:Addr} (D:Own h₀ 53 h ((a,o)::L)):h.get? a=some o:=D.own _ (.head _)
theorem Own.at1 {a b:Addr} {o':Obj} (D:Own h₀ 53 h ((b,o')::(a,o)::L)):h.get? a=some o:=D.own _ (.tail _ (.head _))
theorem C3 {l:Addr} (hx:xs.size<=1000) :
  Tri W A (.builtin "len" ⟨[.ref l],[]⟩) G ((l,A1 xs e)::L) (Gives G (fun t:Nat=> .int xs.size t) fun _=>(l,A1 xs e)::L):=
 Tri.bi plain_len entry_len fun R hR h n tk hs D=>wpAny_mono (wpAny_len_body_list (Q:=fun r s'=>R (.ok (.ret r)) s') ⟨_,D.at0,rfl,_,rfl⟩ (by omega)
  (hR _ trivial h n _ hs D)) (fun fin s' h'=>by obtain ⟨r,rfl,hq⟩:=h';exact hq) fun _ _ e=>e
theorem AM {it l:Addr} {x:Value} (hx:xs[i]?=some x) :
  Tri W A (.call (.builtin "list_iterator.__next__") ⟨[.ref it],[]⟩) G ((it,lit l i)::(l,A1 xs e)::L)
   (Ret x G ((it,lit l (i+1))::(l,A1 xs e)::L)):=by
 refine Tri.cb slot_listiter_next entry_listiter_next (args_listiter_next _) (fun h _ D=>⟨_,D.at0,rfl⟩) fun R hR h n tk hs D=>?_
 show wpAny _ _ (field (.ref it) 0>>=_) _ _ _
 refine wpAny_bind (wpAny_field D.at0 rfl (x:= .ref l) rfl ?_)
 show wpAny _ _ (if (Value.ref l==Value.none)=true then _ else _) _ _ _
 rw [if_neg (show ¬ ((Value.ref l==Value.none)=true) from Bool.false_ne_true)]
 show wpAny _ _ (field (.ref it) 1>>=_) _ _ _
 refine wpAny_bind (wpAny_field D.at0 rfl (x:= .int i 0) rfl ?_)
 show wpAny _ _ (seqItems? (.ref l)>>=_) _ _ _
 refine wpAny_bind (wpAny_seqItems D.at1 rfl ?_)
 simp only [Int.toNat_natCast,hx]
 refine wpAny_bind (wpAny_setField D.at0 rfl (by simp) (wpAny_pure ?_))
 have D':=D.update (i:=0) (f:=Obj.mapFields fun vs=>vs.setIfInBounds 1 (rawInt (i+1))) rfl rfl
 exact hR () trivial _ n _ (by rw [(Heap.SameBut.update ..).1];exact hs) D'
theorem B1 {it l:Addr} (hx:xs[i]?=none) :
  Tri W (Ar dp un F) (.call (.builtin "list_iterator.__next__") ⟨[.ref it],[]⟩) G ((it,lit l i)::(l,A1 xs e)::L)
   ⟨fun _:Nat×Nat=>G,fun _=>True,fun p=> .error (.ref (p.1+8)),fun p=>c8 p.1 (stopO (p.2+8))::c8 p.2 (Af #[])::(it,litEnd i)::(l,A1 xs e)::L⟩:=by
 refine Tri.cb slot_listiter_next entry_listiter_next (args_listiter_next _) (fun h _ D=>⟨_,D.at0,rfl⟩) fun R hR h n tk hs D=>?_
 show wpAny _ _ (field (.ref it) 0>>=_) _ _ _
 refine wpAny_bind (wpAny_field D.at0 rfl (x:= .ref l) rfl ?_)
 show wpAny _ _ (if (Value.ref l==Value.none)=true then _ else _) _ _ _
 rw [if_neg (show ¬ ((Value.ref l==Value.none)=true) from Bool.false_ne_true)]
 show wpAny _ _ (field (.ref it) 1>>=_) _ _ _
 refine wpAny_bind (wpAny_field D.at0 rfl (x:= .int i 0) rfl ?_)
 show wpAny _ _ (seqItems? (.ref l)>>=_) _ _ _
 refine wpAny_bind (wpAny_seqItems D.at1 rfl ?_)
 simp only [Int.toNat_natCast,hx]
 refine wpAny_bind (wpAny_rule (wpAny_bind (wpAny_setField D.at0 rfl (by simp) ?_)))
 show wpAny _ _ (newExc (.type "StopIteration") []>>=_) _ _ _
 refine wpAny_bind ?_
 simp only [newExc,newTuple]
 refine wpAny_bind (wpAny_newObj_type ?_ (by size_fits))
 refine wpAny_bind (m:=firstArgMember _ _) (wpAny_of_eq (a:=Value.none) (by first | rfl | (simp only [firstArgMember];rfl)) ?_)
 refine wpAny_newObj_type ?_ (by size_fits)
 simp only [raiseNew]
 refine wpAny_bind (wpAny_handled ?_)
 refine wpAny_bind (wpAny_pure (wpAny_throw ?_))
 have D':=D.update (i:=0) (f:=Obj.mapFields fun vs=>vs.setIfInBounds 0 .none) rfl rfl
 have hs':(h.update it (Obj.mapFields fun vs=>vs.setIfInBounds 0 .none)).objs.size=n+8:=by rw [(Heap.SameBut.update ..).1];exact hs
 have D2:=D'.alloc (o:={ cls:= .type "tuple",data:= .seq #[] }) rfl
 have D3:=D2.alloc (o:={ cls:= .type "StopIteration",data:= .fields #[.ref (n+8),.none,.none,.none,.bool false,.none] }) rfl
 rw [Heap.size_push,hs'] at D3
 refine cast ?_ (hR (n+1,n) trivial _ (n+2) tk (by rw [Heap.size_push,Heap.size_push,hs']) D3)
 rw [hs',Heap.size_push,hs']
 rfl
noncomputable def tit (l:Addr) (i:Nat):Obj:=⟨.type "tuple_iterator",none,.fields #[.ref l,.int i 0],#[]⟩
noncomputable def titEnd (i:Nat):Obj:=⟨.type "tuple_iterator",none,.fields #[.none,.int i 0],#[]⟩
theorem BT {it l:Addr} {x:Value} (hx:xs[i]?=some x) :
  Tri W A (.call (.builtin "tuple_iterator.__next__") ⟨[.ref it],[]⟩) G ((it,tit l i)::(l,Af xs)::L)
   (Ret x G ((it,tit l (i+1))::(l,Af xs)::L)):=by
 refine Tri.cb F.slot_tuple_iterator_next F.entry_tuple_iterator_next (F.args_tuple_iterator_next_1 _) (fun h _ D=>⟨_,D.at0,rfl⟩) fun R hR h n tk hs D=>?_
 show wpAny _ _ (field (.ref it) 0>>=_) _ _ _
 refine wpAny_bind (wpAny_field D.at0 rfl (x:= .ref l) rfl ?_)
 show wpAny _ _ (if (Value.ref l==Value.none)=true then _ else _) _ _ _
 rw [if_neg (show ¬ ((Value.ref l==Value.none)=true) from Bool.false_ne_true)]
 show wpAny _ _ (field (.ref it) 1>>=_) _ _ _
 refine wpAny_bind (wpAny_field D.at0 rfl (x:= .int i 0) rfl ?_)
 show wpAny _ _ (seqItems? (.ref l)>>=_) _ _ _
 refine wpAny_bind (wpAny_seqItems D.at1 rfl ?_)
 simp only [Int.toNat_natCast,hx]
 refine wpAny_bind (wpAny_setField D.at0 rfl (by simp) (wpAny_pure ?_))
 have D':=D.update (i:=0) (f:=Obj.mapFields fun vs=>vs.setIfInBounds 1 (rawInt (i+1))) rfl rfl
 exact hR () trivial _ n _ (by rw [(Heap.SameBut.update ..).1];exact hs) D'
theorem tnext_end {it l:Addr} (hx:xs[i]?=none) :
  Tri W (Ar dp un Fr) (.call (.builtin "tuple_iterator.__next__") ⟨[.ref it],[]⟩) G ((it,tit l i)::(l,Af xs)::L)
   ⟨fun _:Nat×Nat=>G,fun _=>True,fun p=> .error (.ref (p.1+8)),fun p=>c8 p.1 (stopO (p.2+8))::c8 p.2 (Af #[])::(it,titEnd i)::(l,Af xs)::L⟩:=by
 refine Tri.cb F.slot_tuple_iterator_next F.entry_tuple_iterator_next (F.args_tuple_iterator_next_1 _) (fun h _ D=>⟨_,D.at0,rfl⟩) fun R hR h n tk hs D=>?_
 show wpAny _ _ (field (.ref it) 0>>=_) _ _ _
 refine wpAny_bind (wpAny_field D.at0 rfl (x:= .ref l) rfl ?_)
 show wpAny _ _ (if (Value.ref l==Value.none)=true then _ else _) _ _ _
 rw [if_neg (show ¬ ((Value.ref l==Value.none)=true) from Bool.false_ne_true)]
 show wpAny _ _ (field (.ref it) 1>>=_) _ _ _
 refine wpAny_bind (wpAny_field D.at0 rfl (x:= .int i 0) rfl ?_)
 show wpAny _ _ (seqItems? (.ref l)>>=_) _ _ _
 refine wpAny_bind (wpAny_seqItems D.at1 rfl ?_)
 simp only [Int.toNat_natCast,hx]
 refine wpAny_bind (wpAny_rule (wpAny_bind (wpAny_setField D.at0 rfl (by simp) ?_)))
 show wpAny _ _ (newExc (.type "StopIteration") []>>=_) _ _ _
 refine wpAny_bind ?_
 simp only [newExc,newTuple]
 refine wpAny_bind (wpAny_newObj_type ?_ (by size_fits))
 refine wpAny_bind (m:=firstArgMember _ _) (wpAny_of_eq (a:=Value.none) (by first | rfl | (simp only [firstArgMember];rfl)) ?_)
 refine wpAny_newObj_type ?_ (by size_fits)
 simp only [raiseNew]
 refine wpAny_bind (wpAny_handled ?_)
 refine wpAny_bind (wpAny_pure (wpAny_throw ?_))
 have D':=D.update (i:=0) (f:=Obj.mapFields fun vs=>vs.setIfInBounds 0 .none) rfl rfl
 have hs':(h.update it (Obj.mapFields fun vs=>vs.setIfInBounds 0 .none)).objs.size=n+8:=by rw [(Heap.SameBut.update ..).1];exact hs
 have D2:=D'.alloc (o:={ cls:= .type "tuple",data:= .seq #[] }) rfl
 have D3:=D2.alloc (o:={ cls:= .type "StopIteration",data:= .fields #[.ref (n+8),.none,.none,.none,.bool false,.none] }) rfl
 rw [Heap.size_push,hs'] at D3
 refine cast ?_ (hR (n+1,n) trivial _ (n+2) tk (by rw [Heap.size_push,Heap.size_push,hs']) D3)
 rw [hs',Heap.size_push,hs']
 rfl
theorem lt_int (ok:W.Ok) {a b:Int} {t:Nat} :
  Tri W A (.call (.builtin "int.__lt__") ⟨[.int a t,.int b u],[]⟩) G L (Ret (.bool (decide (a<b))) G L):=
 Tri.of fun R n tk hR=>gmore ok 1 0 ⟨by kernel_rfl,gend hR () trivial (.ret (.bool (@decide (a<b) (PySem.W.Z.ltZ a b)))) (congrArg (fun b=>Except.ok (Flow.ret (Value.bool b))) (by congr)) (by kernel_rfl) (by kernel_rfl) (A4 [] 0 (by kernel_rfl))⟩
noncomputable def sdict (h1 h2 h3 h4:Int) (t1 t2 t3 t4:Nat) (m:Addr) (rv:Value) (np nf:Int) (t5 t6 ep:Nat):Obj:=
 ⟨.type "dict",none,.dict #[⟨h1,.str "_node2info" t1,.ref m⟩,⟨h2,.str "_ready_nodes" t2,rv⟩,⟨h3,.str "_npassedout" t3,.int np t5⟩,⟨h4,.str "_nfinished" t4,.int nf t6⟩] ep,#[]⟩
noncomputable def An (d:Addr):Obj:=⟨.ref 174,some d,.plain,#[]⟩
noncomputable def AR (es:Array DictEntry) (ep:Nat):Obj:=⟨.type "dict",none,.dict es ep,#[]⟩
noncomputable abbrev dD (a:Nat) (l:Array DictEntry) (e:Nat):Cell:=(a+8,AR l e)
noncomputable abbrev AA:Program:=PySem.Challenge.rw_mr0319_01.prog
noncomputable abbrev Keys (W:Wd) (es:Array DictEntry):Prop:=KeysOf (strKind AA W.w) es
noncomputable abbrev look (es:Array DictEntry) (x:Str):Option Value:=findBy Value.isStrOf es x
theorem mapOf {d:Addr} (ho:h.get? d=some (AR es ep)) (hk:Keys W es):h.MapOf (strKind AA W.w) d (look es):=
 ⟨_,es,ep,ho,⟨rfl,rfl,rfl⟩,rfl,hk,fun _=>rfl⟩
theorem no_sys (d:Nat):(d+8==sysModules)=false:=rfl
theorem dict_get {t:Nat} (hk:Keys W es) :
  Tri W A (.call (.builtin "dict.get") ⟨[.ref (d+8),.str x t],[]⟩) G (dD d es ep::L) (Ret ((look es x).getD .none) G (dD d es ep::L)):=
 Tri.cb F.slot_dict_get F.entry_dict_get (F.args_dict_get_2 _ _) (fun h _ D=>⟨_,D.at0,rfl⟩) fun R hR h n tk hs D=>
  meets_dict_get (strKind AA W.w) (d+8) (strKind_is _ _ x t) (no_sys d) A R _ ⟨_,mapOf D.at0 hk,hR () trivial h n _ hs D⟩
theorem dict_some {t:Nat} {v:Value} (hk:Keys W es) (hv:look es x=some v) :
  Tri W A (.call (.builtin "dict.get") ⟨[.ref (d+8),.str x t],[]⟩) G (dD d es ep::L) (Ret v G (dD d es ep::L)):=by
 have z:=dict_get (A:=A) (G:=G) (L:=L) (d:=d) (ep:=ep) (t:=t) (x:=x) hk
 rw [hv] at z
 exact z
theorem dict_none {t:Nat} (hk:Keys W es) (hv:look es x=none) :
  Tri W A (.call (.builtin "dict.get") ⟨[.ref (d+8),.str x t],[]⟩) G (dD d es ep::L) (Ret .none G (dD d es ep::L)):=by
 have z:=dict_get (A:=A) (G:=G) (L:=L) (d:=d) (ep:=ep) (t:=t) (x:=x) hk
 rw [hv] at z
 exact z
theorem B7 {t:Nat} {v:Value} (hk:Keys W es) (hv:look es x=some v) :
  Tri W A (.call (.builtin "dict.__getitem__") ⟨[.ref (d+8),.str x t],[]⟩) G (dD d es ep::L) (Ret v G (dD d es ep::L)):=
 Tri.cb slot_dict_getitem entry_dict_getitem (args_dict_getitem _ _) (fun h _ D=>⟨_,D.at0,rfl⟩) fun R hR h n tk hs D=>
  meets_dict_getitem (strKind AA W.w) (d+8) (strKind_is _ _ x t) A R _ ⟨_,v,mapOf D.at0 hk,hv,hR () trivial h n _ hs D⟩
theorem dict_put {t:Nat} {v:Value} (hk:Keys W es) (hv:look es x=none) (hz:es.size<=1000) :
  Tri W A (.call (.builtin "dict.__setitem__") ⟨[.ref (d+8),.str x t,v],[]⟩) G (dD d es ep::L)
   (Ret .none G (dD d (es.push ⟨hashStr W.w x,.str x t,v⟩) (ep+1)::L)):=by
 refine Tri.cb slot_dict_setitem entry_dict_setitem (args_dict_setitem _ _ _) (fun h _ D=>⟨_,D.at0,rfl⟩) fun R hR h n tk hs D=>?_
 show wpAny _ _ (Builtin.Dict.notOrdered "__setitem__" ⟨[.ref (d+8),.str x t,v],[]⟩>>=_) _ _ _
 refine wpAny_bind (wpAny_notOrdered_dict ⟨_,D.at0,rfl⟩ ?_)
 show wpAny _ _ (dictSet (d+8) (.str x t) v>>=_) _ _ _
 refine wpAny_bind ?_
 unfold dictSet
 try with_reducible refine wpAny_holding ?_
 refine wpAny_bind ((strKind AA W.w).pyHash (strKind_is _ _ x t) ?_)
 unfold dictSetHashed
 try with_reducible refine wpAny_holding ?_
 refine wpAny_bind (wpAny_dictFind_of (knd:=strKind AA W.w) (strKind_is _ _ x t) D.at0 rfl hk ?_)
 have hi:(es.findIdx? fun e=>(strKind AA W.w).is x e.key)=none:=by
  cases e:es.findIdx? fun e=>(strKind AA W.w).is x e.key with
  | none=>rfl
  | some i=>
   exfalso
   have:=findBy_of_findIdx? Value.isStrOf es x
   rw [show (es.findIdx? fun e=>Value.isStrOf x e.key)=some i from e,show findBy Value.isStrOf es x=none from hv] at this
   have hl:i<es.size:=(Array.findIdx?_eq_some_iff_getElem.mp e).1
   dsimp only at this
   rw [Array.getElem?_eq_getElem hl] at this
   cases this
 rw [hi]
 have D':=D.update (i:=0) (f:=Obj.mapDictKeys fun es=>es.push ⟨hashStr W.w x,.str x t,v⟩) rfl rfl
 exact wpAny_bind (wpAny_rule (wpAny_updateDictKeys (hz:=by rw [sizeLine_eq];omega) D.at0 rfl (wpAny_pure (hR () trivial _ n _ (by rw [(Heap.SameBut.update ..).1];exact hs) D'))))
noncomputable def Cj (A₁:Around):Kont->Code->Around
 | .ret c₁ hd _ κ,c=>((Cj A₁ κ c₁).mark hd).under c
 | _,_=>A₁
noncomputable def bot:Kont->Code->Code
 | .ret c₁ _ _ κ,_=>bot κ c₁
 | _,c=>c
theorem BV (A:Around):∀ (κ:Kont) (c:Code),(AT A κ).under c=Cj (A.under (bot κ c)) κ c
 | .base,c=>rfl
 | .ret c₁ hd k κ,c=>by
  show (((AT A κ).under c₁).mark hd).under c=((Cj _ κ c₁).mark hd).under c
  rw [BV A κ c₁];rfl
 | .gen ..,c=>rfl
 | .genS ..,c=>rfl
@[irreducible] noncomputable def Cp (r:GR):Code:=bot (κOf r) (cOf r)
@[irreducible] noncomputable def BN (A₁:Around) (r:GR):Around:=(Cj A₁ (κOf r) (cOf r)).mark (hdC (BD r))
theorem aOf1_eq {A₁:Around} {r:GR} {c₀:Code} (hA:A.under c₀=A₁) (hb:Cp r=c₀):aOf A r=BN A₁ r:=by
 unfold aOf BN
 unfold Cp at hb
 rw [BV,hb,hA]
theorem pcall {A₁:Around} {r:GR} {c₀:Code} (hA:A.under c₀=A₁) (hb:Cp r=c₀) (c':Code) {α:Type} {Gf:α->List GenState} {Pf:α->Prop} {rf:α->Result} {Lf:α->List Cell} (hx:(easy r&&okMark (hdC (BD r)))=true) (hc:BO (BD r)=some c')
  (hL:∀ h,Own W.h₀ 53 h (CX r)->Own W.h₀ 53 h L)
  (spec:Bn b W (BN A₁ r) c' G L ⟨Gf,Pf,rf,Lf⟩)
  (next:∀ p n' tk',Pf p->AG (bs b W A R n' tk' (Gf p)) (back r (rf p) (Lf p))):AG (bs b W A R n tk G) r:=
 gcall c' hx hc hL (aOf1_eq hA hb▸spec) next
theorem penter {A₁:Around} {r:GR} {c₀:Code} (hA:A.under c₀=A₁) (hb:Cp r=c₀) (ok:W.Ok) (c':Code) (he:(easy r&&Bf c')=true) (hc:BD r=enter c')
  (m:Nat) (hm:(Cj A₁ (κOf r) (cOf r)).depth=m) (hd:m<1000) (next:AG (bs b W A R n tk G) (goOn r c')):AG (bs b W A R n tk G) r:=by
 unfold Cp at hb
 exact genter ok c' he hc m (by rw [BV,hb,hA];exact hm) hd next
structure A3 (α β:Type) where
 G:β->List GenState
 P:β->Prop
 v:β->α
 L:β->List Cell
noncomputable def Pc (W:Wd) (A:Around) {α β:Type} (m:Sem α) (G:List GenState) (L:List Cell) (Q:A3 α β):Prop:=
 ∀ K:α->Shared->Prop,(∀ p,Q.P p->∀ h n tk,h.objs.size=n+8->Own W.h₀ 53 h (Q.L p)->K (Q.v p) ⟨h,⟨Q.G p⟩,W.d,tk,W.os⟩) ->
  ∀ E h n tk,h.objs.size=n+8->Own W.h₀ 53 h L->wpAny W.M A m K E ⟨h,⟨G⟩,W.d,tk,W.os⟩
noncomputable abbrev A3.to {α β:Type} (Q:A3 α β) (emb:α->Flow):Post β:=⟨Q.G,Q.P,fun p=> .ok (emb (Q.v p)),Q.L⟩
theorem Pc.go {α β:Type} {m:Sem α} {Gf:β->List GenState} {Pf:β->Prop} {vf:β->α} {Lf:β->List Cell} (x:Pc W A m G L ⟨Gf,Pf,vf,Lf⟩) {K:α->Shared->Prop} {E:Value->Shared->Prop}
  (k:∀ p,Pf p->∀ h n tk,h.objs.size=n+8->Own W.h₀ 53 h (Lf p)->K (vf p) ⟨h,⟨Gf p⟩,W.d,tk,W.os⟩) {h:Heap} {n tk:Nat} (hs:h.objs.size=n+8) (D:Own W.h₀ 53 h L):wpAny W.M A m K E ⟨h,⟨G⟩,W.d,tk,W.os⟩:=x K k E h n tk hs D
theorem own_around {Γ:PySem.Ctx} {hd:Option Value} (hΓ:Γ.In ⟨hd,dp,some F,some [],un⟩) :
  ∃ d f g u,(Around.mk hd d f g u).under Γ.code=⟨hd,dp,some F,some [],un⟩/\Γ.Below ⟨hd,d,f,g,u⟩:=by
 obtain ⟨h1,h2,h3,h4,h5⟩:=hΓ
 have h3:Γ.code.envs++envsOf Γ.below=F:=h3 F rfl
 have h6:Γ.code.guards++guardsOf Γ.below=[]:=h4 [] rfl
 have h2:frameCount Γ.below+Γ.code.weight<=dp:=h2
 have h5:Γ.code.cUnits+unitsOf Γ.below<=un:=h5
 refine ⟨dp - Γ.code.weight,some (envsOf Γ.below),some (guardsOf Γ.below),un - Γ.code.cUnits,?_,h1,?_,?_,?_,?_⟩
 ·simp only [Around.under,pushEnvs,pushGuards]
  subst h3
  have e1:dp - Γ.code.weight+Γ.code.weight=dp:=by omega
  have e2:un - Γ.code.cUnits+Γ.code.cUnits=un:=by omega
  rw [e1,e2]
  obtain ⟨g1,g2⟩:=List.append_eq_nil_iff.mp h6
  rw [g1,g2]
  cases Γ.code.envs<;>simp
 ·show frameCount Γ.below<=dp - Γ.code.weight
  omega
 ·intro l hl;cases hl;rfl
 ·intro l hl;cases hl;rfl
 ·show unitsOf Γ.below<=un - Γ.code.cUnits
  omega
@[irreducible] noncomputable def Cu (c:Code) (t:Sem Fin) (L:List Cell):GR:= .ok c .base t L 8 0 [] []
noncomputable def As (b:Bool) {α:Type} (M:Model) (A:Around) (t:Sem α) (Q:α->Shared->Prop) (E:Value->Shared->Prop) (s:Shared):Prop:=
 ∀ Γ p,Γ.In A->cOk b Γ->Sem.wp M Γ t (fun a _ s'=>Q a s') (fun e _ s'=>E e s') p s
noncomputable def PcC (W:Wd) (A:Around) {α β:Type} (m:Sem α) (G:List GenState) (L:List Cell) (Q:A3 α β):Prop:=
 ∀ K:α->Shared->Prop,(∀ p,Q.P p->∀ h n tk,h.objs.size=n+8->Own W.h₀ 53 h (Q.L p)->K (Q.v p) ⟨h,⟨Q.G p⟩,W.d,tk,W.os⟩) ->
  ∀ E h n tk,h.objs.size=n+8->Own W.h₀ 53 h L->As true W.M A m K E ⟨h,⟨G⟩,W.d,tk,W.os⟩
theorem PcC.go {α β:Type} {m:Sem α} {Gf:β->List GenState} {Pf:β->Prop} {vf:β->α} {Lf:β->List Cell} (x:PcC W A m G L ⟨Gf,Pf,vf,Lf⟩) {K:α->Shared->Prop} {E:Value->Shared->Prop}
  (k:∀ p,Pf p->∀ h n tk,h.objs.size=n+8->Own W.h₀ 53 h (Lf p)->K (vf p) ⟨h,⟨Gf p⟩,W.d,tk,W.os⟩) {h:Heap} {n tk:Nat} (hs:h.objs.size=n+8) (D:Own W.h₀ 53 h L):As true W.M A m K E ⟨h,⟨G⟩,W.d,tk,W.os⟩:=x K k E h n tk hs D
theorem Pc.up {α β:Type} {m:Sem α} {Q:A3 α β} (x:Pc W A m G L Q):PcC W A m G L Q:=
 fun K hK E h n tk hs D Γ p hΓ _=>x K hK E h n tk hs D Γ p hΓ
theorem BQ {b:Bool} {hd:Option Value} {α:Type} {m:Sem α} (emb:α->Flow) (inj:∀ a b,emb a=emb b->a=b) {K:α->Shared->Prop} {E:Value->Shared->Prop}
  (x:∀ c₀ d f g u,(Around.mk hd d f g u).under c₀=⟨hd,dp,some F,some [],un⟩->AG (bs b W ⟨hd,d,f,g,u⟩ (fun r s=>(∃ a,r= .ok (emb a)/\K a s)∨∃ e,r= .error e/\E e s) n tk G) (Cu c₀ (PySem.W.R.bindR m fun a=> .pure (.done (emb a))) L))
  (hs:h.objs.size=n+8) (D:Own W.h₀ 53 h L):As b W.M ⟨hd,dp,some F,some [],un⟩ m K E ⟨h,⟨G⟩,W.d,tk,W.os⟩:=by
 intro Γ p hΓ hb
 obtain ⟨d,f,g,u,hA,hB⟩:=own_around hΓ
 have z:=x Γ.code d f g u hA
 unfold AG Cu at z
 replace z:=z h hs D
 rw [show (bs b W ⟨hd,d,f,g,u⟩ (fun r s=>(∃ a,r= .ok (emb a)/\K a s)∨∃ e,r= .error e/\E e s) n tk G).G++[]=G from List.append_nil G,show @PySem.W.R.bindR=@Sem.bind from PySem.W.R.bindR_eq.symm] at z
 have y:=z Γ p rfl hB hb
 replace y:Sem.wp W.M Γ (m>>=fun a=>Sem.pure (Fin.done (emb a))) _ _ p _:=y
 rw [Sem.wp_bind'] at y
 refine Sem.wp_mono _ _ _ (fun a p' s' h'=>?_) (fun e p' s' h'=>?_) _ _ y
 ·have h':(∃ b,(Except.ok (emb a):Result)=Except.ok (emb b)/\K b s')∨∃ e,(Except.ok (emb a):Result)=Except.error e/\E e s':=h'
  rcases h' with ⟨b,e,hb⟩ | ⟨b,e,hb⟩
  ·rw [inj a b (Except.ok.inj e)];exact hb
  ·cases e
 ·have h':(∃ b,(Except.error e:Result)=Except.ok (emb b)/\K b s')∨∃ e',(Except.error e:Result)=Except.error e'/\E e' s':=h'
  rcases h' with ⟨b,e1,hb⟩ | ⟨b,e1,hb⟩
  ·cases e1
  ·cases e1;exact hb
theorem DQ {M:Model} {α:Type} {t:Sem α} {Q:α->Shared->Prop} {E:Value->Shared->Prop} (h:As false M A t Q E s):wpAny M A t Q E s:=fun Γ p hΓ=>h Γ p hΓ trivial
theorem Pc.of {α β:Type} {m:Sem α} {Q:A3 α β} (emb:α->Flow) (inj:∀ a b,emb a=emb b->a=b) (mq:Sem α) (hm:m=mq)
  (x:∀ R n tk c₀ d f g u,(Around.mk none d f g u).under c₀=Ar dp un F->Takes W R (Q.to emb)->AG (bs false W ⟨none,d,f,g,u⟩ R n tk G) (Cu c₀ (PySem.W.R.bindR mq fun a=> .pure (.done (emb a))) L)):Pc W (Ar dp un F) m G L Q:=
 fun K hK E h n tk hs D=>DQ (BQ emb inj (fun c₀ d f g u hA=>hm▸x _ n tk c₀ d f g u hA fun p hp h' n' tk' hs' D'=> .inl ⟨_,rfl,hK p hp h' n' tk' hs' D'⟩) hs D)
theorem PcC.of {α β:Type} {m:Sem α} {Q:A3 α β} (emb:α->Flow) (inj:∀ a b,emb a=emb b->a=b) (mq:Sem α) (hm:m=mq)
  (x:∀ R n tk c₀ d f g u,(Around.mk none d f g u).under c₀=Ar dp un F->Takes W R (Q.to emb)->AG (bs true W ⟨none,d,f,g,u⟩ R n tk G) (Cu c₀ (PySem.W.R.bindR mq fun a=> .pure (.done (emb a))) L)):PcC W (Ar dp un F) m G L Q:=
 fun K hK E h n tk hs D=>BQ emb inj (fun c₀ d f g u hA=>hm▸x _ n tk c₀ d f g u hA fun p hp h' n' tk' hs' D'=> .inl ⟨_,rfl,hK p hp h' n' tk' hs' D'⟩) hs D
noncomputable abbrev AL:Value->Flow:= .ret
noncomputable abbrev embB (b:Bool):Flow:= .ret (.bool b)
noncomputable abbrev Bo (_:Unit):Flow:= .next
theorem Ac:∀ a b,AL a=AL b->a=b:=fun _ _ e=>Flow.ret.inj e
theorem Bv:∀ a b,embB a=embB b->a=b:=fun _ _ e=>Value.bool.inj (Flow.ret.inj e)
theorem Ap:∀ a b,Bo a=Bo b->a=b:=fun _ _ _=>rfl
noncomputable abbrev Ea (o:Option Value):Flow:=match o with | none=> .next | some v=> .ret v
theorem Ba:∀ a b,Ea a=Ea b->a=b
 | none,none,_=>rfl
 | some a,some b,e=>congrArg some (Flow.ret.inj e)
 | none,some _,e=>nomatch e
 | some _,none,e=>nomatch e
theorem Ai:∀ a b:Flow,id a=id b->a=b:=fun _ _ e=>e
theorem BS:@pyNext=PySem.W.ZFast.zw9404975358583537561:=PySem.W.ZFast.ze9404975358583537561
theorem Ax:@assign=PySem.W.ZFast.zw17772580674575903948:=PySem.W.ZFast.ze17772580674575903948
theorem Ao:@execs=PySem.W.ZFast.zw12563942051412417395:=PySem.W.ZFast.ze12563942051412417395
theorem Ag:@eval=PySem.W.ZFast.zw14044960220447912780:=PySem.W.ZFast.ze14044960220447912780
theorem for_turn {w:World} {tg:PySem.Expr} {it:Value} {orelse:List Stmt}
  (h:wpAny (model prog w) A (pyNext it) (fun r s₁=>match r with
   | none=>codeAny (model prog w) A (.block orelse env) R s₁
   | some v=>wpAny (model prog w) A (letOwnedTupleGo tg it v) (fun _ s₂=>wpAny (model prog w) A (assign tg env v) (fun _ s₃=>wpAny (model prog w) A (execs body env) (fun f s₄=>match f with
    | .next | .cont=>codeAny (model prog w) A (.forLoop tg it body orelse env) R s₄
    | .brk=>R (.ok .next) s₄
    | .ret v=>R (.ok (.ret v)) s₄) (notedBy (model prog w) A env fun e s'=>R (.error e) s') s₃) (notedBy (model prog w) A env fun e s'=>R (.error e) s') s₂) (notedBy (model prog w) A env fun e s'=>R (.error e) s') s₁) (notedBy (model prog w) A env fun e s'=>R (.error e) s') s) :
  codeAny (model prog w) A (.forLoop tg it body orelse env) R s:=by
 refine codeAny_of_tree ?_
 show wpAny _ A ((forTurn tg it body orelse env).onRaise (fun x=>do noteFrame x env;theTreesLotGoes x)) _ _ s
 refine wpAny_noted ?_
 simp only [forTurn]
 refine wpAny_bind (wpAny_standAt (wpAny_bind (wpAny_onRaise (wpAny_mono h (fun r s₁ h₁=>?_) fun _ _ h'=>wpAny_standAt h'))))
 cases r with
 | none=>exact wpAny_pure (And.intro rfl h₁)
 | some v=>
  refine wpAny_bind (wpAny_mono h₁ (fun _ s₁' h₁'=>?_) fun _ _ h'=>h')
  refine wpAny_bind (wpAny_mono h₁' (fun _ s₂ h₂=>wpAny_bind (wpAny_mono h₂ (fun f s₃ h₃=>?_) fun _ _ h'=>h')) fun _ _ h'=>h')
  cases f with
  | next=>exact wpAny_pure (And.intro rfl h₃)
  | cont=>exact wpAny_pure (And.intro rfl h₃)
  | brk=>exact wpAny_pure h₃
  | ret v=>exact wpAny_pure h₃
@[irreducible] noncomputable def reL (r:GR) (L:List Cell):GR:= .ok (cOf r) (κOf r) (BD r) L (jOf r - 8+8) (iOf r) [] []
theorem gown {r:GR} (L':List Cell) (he:easy r=true) (hL:∀ h,Own W.h₀ 53 h (CX r)->Own W.h₀ 53 h L') (next:AG (bs b W A R n tk G) (reL r L')):AG (bs b W A R n tk G) r:=by
 unfold reL AG at next
 refine B0 he fun h hs D=>?_
 have z:=next h hs (hL h D)
 rw [show (bs b W A R n tk G).G++[]=G from List.append_nil G] at z
 exact z
noncomputable def stP (A₁:Around) (F:GR) (ix:List Nat):List Ob×Bool×Option Code×List Cell×Code×Around:=(obs F,easy F&&okMark (hdC (BD F)),BO (BD F),front ix (CX F),Cp F,BN A₁ F)
noncomputable def enP (A₁:Around) (c₀:Code) (F:GR) (c':Code) (ix:List Nat) (k:Nat) (C:List Cell) (pA:Around->Around):List Ob×Bool×Option Code×List Cell×Code×Around:=(dup (obs F),true,some c',C++rsF F k ix,c₀,pA (BN A₁ F))
noncomputable def stQ (A₁:Around) (F:GR) (ix:List Nat) (k:Nat):List Ob×Bool×Option Code×List Cell×Code×Around:=(obs F,easy F&&okMark (hdC (BD F)),BO (BD F),List.drop k (front ix (CX F)),Cp F,BN A₁ F)
noncomputable def enQ (A₁:Around) (c₀:Code) (F:GR) (c':Code) (L:List Cell) (pA:Around->Around):List Ob×Bool×Option Code×List Cell×Code×Around:=(dup (obs F),true,some c',L,c₀,pA (BN A₁ F))
theorem fst6 {α β γ δ ε ζ:Type} {a a':α} {b b':β} {c c':γ} {d d':δ} {e e':ε} {f f':ζ} (h:(a,b,c,d,e,f)=(a',b',c',d',e',f')):a=a'/\b=b'/\c=c'/\d=d'/\e=e'/\f=f':=⟨congrArg (·.1) h,congrArg (·.2.1) h,congrArg (·.2.2.1) h,congrArg (·.2.2.2.1) h,congrArg (·.2.2.2.2.1) h,congrArg (·.2.2.2.2.2) h⟩
section
variable {b:Bool} {W:Wd} {A A₁:Around} {R:Result->Shared->Prop} {n tk:Nat} {G:List GenState} {r:GR} {c₀:Code}
theorem pcN (ok:W.Ok) (k tr:Nat) (hA:A.under c₀=A₁) (c':Code) (ix:List Nat) (kc:Nat) (C:List Cell) (pA:Around->Around) {α:Type} {Gf:α->List GenState} {Pf:α->Prop} {rf:α->Result} {Cf:α->List Cell->List Cell}
  (spec:∀ A L,A=pA A->Bn b W A c' G (C++L) ⟨Gf,Pf,rf,fun p=>Cf p L⟩)
  (next:∀ p n' tk',Pf p->AG (bs b W A R n' tk' (Gf p)) (back (A9 (bs b W A R n tk G) k tr r) (rf p) (Cf p (rsF (A9 (bs b W A R n tk G) k tr r) kc ix))))
  (x:stP A₁ (A9 (bs b W A R n tk G) k tr r) ix=enP A₁ c₀ (A9 (bs b W A R n tk G) k tr r) c' ix kc C pA:=by kernel_rfl):AG (bs b W A R n tk G) r:=by
 unfold A9 at x next
 obtain ⟨e1,e2,e3,e4,e5,e6⟩:=fst6 x
 exact gmore ok k tr ⟨e1,pcall hA e5 c' e2 e3 (fun h D=>e4▸D.perm (B5 ix _)) (spec _ _ e6) next⟩
theorem CQ (ok:W.Ok) (k tr:Nat) (hA:A.under c₀=A₁) (c':Code) (L:List Cell) (ix:List Nat) (kd:Nat) (pA:Around->Around) {α:Type} {Gf:α->List GenState} {Pf:α->Prop} {rf:α->Result} {Lf:α->List Cell}
  (spec:∀ A,A=pA A->Bn b W A c' G L ⟨Gf,Pf,rf,Lf⟩)
  (next:∀ p n' tk',Pf p->AG (bs b W A R n' tk' (Gf p)) (back (A9 (bs b W A R n tk G) k tr r) (rf p) (Lf p)))
  (x:stQ A₁ (A9 (bs b W A R n tk G) k tr r) ix kd=enQ A₁ c₀ (A9 (bs b W A R n tk G) k tr r) c' L pA:=by kernel_rfl):AG (bs b W A R n tk G) r:=by
 unfold A9 at x next
 obtain ⟨e1,e2,e3,e4,e5,e6⟩:=fst6 x
 exact gmore ok k tr ⟨e1,pcall hA e5 c' e2 e3 (A4 ix kd e4) (spec _ e6) next⟩
theorem pcL (ok:W.Ok) (k tr:Nat) (hA:A.under c₀=A₁) (c':Code) (L:List Cell) (pA:Around->Around) {α:Type} {Gf:α->List GenState} {Pf:α->Prop} {rf:α->Result} {Lf:α->List Cell}
  (hL:∀ h,Own W.h₀ 53 h (CX (A9 (bs b W A R n tk G) k tr r))->Own W.h₀ 53 h L)
  (spec:∀ A,A=pA A->Bn b W A c' G L ⟨Gf,Pf,rf,Lf⟩)
  (next:∀ p n' tk',Pf p->AG (bs b W A R n' tk' (Gf p)) (back (A9 (bs b W A R n tk G) k tr r) (rf p) (Lf p)))
  (x:stP A₁ (A9 (bs b W A R n tk G) k tr r) []=enP A₁ c₀ (A9 (bs b W A R n tk G) k tr r) c' [] 0 [] pA:=by kernel_rfl):AG (bs b W A R n tk G) r:=by
 unfold A9 at x next hL
 obtain ⟨e1,e2,e3,e4,e5,e6⟩:=fst6 x
 exact gmore ok k tr ⟨e1,pcall hA e5 c' e2 e3 hL (spec _ e6) next⟩
theorem pc0 (ok:W.Ok) (k tr:Nat) (hA:A.under c₀=A₁) (c':Code)  (pA:Around->Around) {α:Type} {Gf:α->List GenState} {Pf:α->Prop} {rf:α->Result} {Cf:α->List Cell->List Cell}
  (spec:∀ A L,A=pA A->Bn b W A c' G (L) ⟨Gf,Pf,rf,fun p=>Cf p L⟩)
  (next:∀ p n' tk',Pf p->AG (bs b W A R n' tk' (Gf p)) (back (A9 (bs b W A R n tk G) k tr r) (rf p) (Cf p (rsF (A9 (bs b W A R n tk G) k tr r) 0 []))))
  (x:stP A₁ (A9 (bs b W A R n tk G) k tr r) []=enP A₁ c₀ (A9 (bs b W A R n tk G) k tr r) c' [] 0 [] pA:=by kernel_rfl):AG (bs b W A R n tk G) r:=pcN ok k tr hA c' [] 0 [] pA spec next x
theorem BB (ok:W.Ok) (k tr:Nat) (hA:A.under c₀=A₁) (c':Code) (ix:List Nat) (c1:Cell) (pA:Around->Around) {α:Type} {Gf:α->List GenState} {Pf:α->Prop} {rf:α->Result} {Cf:α->List Cell->List Cell}
  (spec:∀ A L,A=pA A->Bn b W A c' G (c1::L) ⟨Gf,Pf,rf,fun p=>Cf p L⟩)
  (next:∀ p n' tk',Pf p->AG (bs b W A R n' tk' (Gf p)) (back (A9 (bs b W A R n tk G) k tr r) (rf p) (Cf p (rsF (A9 (bs b W A R n tk G) k tr r) 1 ix))))
  (x:stP A₁ (A9 (bs b W A R n tk G) k tr r) ix=enP A₁ c₀ (A9 (bs b W A R n tk G) k tr r) c' ix 1 [c1] pA:=by kernel_rfl):AG (bs b W A R n tk G) r:=pcN ok k tr hA c' ix 1 [c1] pA spec next x
theorem pc2 (ok:W.Ok) (k tr:Nat) (hA:A.under c₀=A₁) (c':Code) (ix:List Nat) (c1 c2:Cell) (pA:Around->Around) {α:Type} {Gf:α->List GenState} {Pf:α->Prop} {rf:α->Result} {Cf:α->List Cell->List Cell}
  (spec:∀ A L,A=pA A->Bn b W A c' G (c1::c2::L) ⟨Gf,Pf,rf,fun p=>Cf p L⟩)
  (next:∀ p n' tk',Pf p->AG (bs b W A R n' tk' (Gf p)) (back (A9 (bs b W A R n tk G) k tr r) (rf p) (Cf p (rsF (A9 (bs b W A R n tk G) k tr r) 2 ix))))
  (x:stP A₁ (A9 (bs b W A R n tk G) k tr r) ix=enP A₁ c₀ (A9 (bs b W A R n tk G) k tr r) c' ix 2 [c1,c2] pA:=by kernel_rfl):AG (bs b W A R n tk G) r:=pcN ok k tr hA c' ix 2 [c1,c2] pA spec next x
theorem pc3 (ok:W.Ok) (k tr:Nat) (hA:A.under c₀=A₁) (c':Code) (ix:List Nat) (c1 c2 c3:Cell) (pA:Around->Around) {α:Type} {Gf:α->List GenState} {Pf:α->Prop} {rf:α->Result} {Cf:α->List Cell->List Cell}
  (spec:∀ A L,A=pA A->Bn b W A c' G (c1::c2::c3::L) ⟨Gf,Pf,rf,fun p=>Cf p L⟩)
  (next:∀ p n' tk',Pf p->AG (bs b W A R n' tk' (Gf p)) (back (A9 (bs b W A R n tk G) k tr r) (rf p) (Cf p (rsF (A9 (bs b W A R n tk G) k tr r) 3 ix))))
  (x:stP A₁ (A9 (bs b W A R n tk G) k tr r) ix=enP A₁ c₀ (A9 (bs b W A R n tk G) k tr r) c' ix 3 [c1,c2,c3] pA:=by kernel_rfl):AG (bs b W A R n tk G) r:=pcN ok k tr hA c' ix 3 [c1,c2,c3] pA spec next x
theorem pc4 (ok:W.Ok) (k tr:Nat) (hA:A.under c₀=A₁) (c':Code) (ix:List Nat) (c1 c2 c3 c4:Cell) (pA:Around->Around) {α:Type} {Gf:α->List GenState} {Pf:α->Prop} {rf:α->Result} {Cf:α->List Cell->List Cell}
  (spec:∀ A L,A=pA A->Bn b W A c' G (c1::c2::c3::c4::L) ⟨Gf,Pf,rf,fun p=>Cf p L⟩)
  (next:∀ p n' tk',Pf p->AG (bs b W A R n' tk' (Gf p)) (back (A9 (bs b W A R n tk G) k tr r) (rf p) (Cf p (rsF (A9 (bs b W A R n tk G) k tr r) 4 ix))))
  (x:stP A₁ (A9 (bs b W A R n tk G) k tr r) ix=enP A₁ c₀ (A9 (bs b W A R n tk G) k tr r) c' ix 4 [c1,c2,c3,c4] pA:=by kernel_rfl):AG (bs b W A R n tk G) r:=pcN ok k tr hA c' ix 4 [c1,c2,c3,c4] pA spec next x
end
end
section
open PySem PySem.W PySem.W.X PySem.Calls PySem.Spec PyProof.Rows
variable {W:Wd} {L:List Cell} {G:List GenState} {n e u e2:Nat} {A:Around} {xs ys:Array Value}
theorem line (h:n<=1000):n<=sizeLine:=by rw [sizeLine_eq];omega
noncomputable def bump (xs ys:Array Value) (e:Nat):Nat:=if ys.size==xs.size then e else e+1
theorem A8 {l:Addr} {x:Value} (hz:xs.size<=1000) :
  Tri W A (.call (.builtin "list.append") ⟨[.ref l,x],[]⟩) G ((l,A1 xs e)::L) (Gives G (fun _:Nat=> .none) fun e'=>(l,A1 (xs.push x) e')::L):=
 Tri.cb slot_list_append entry_list_append (args_list_append _ _) (fun h _ D=>⟨_,D.at0,rfl⟩) fun R hR h n tk hs D=>
  AutoListH.list_append_list_val_0 l xs e x (line hz) _ _ A R _ ⟨D.at0,hR (bump xs (xs.push x) e) trivial _ n _ (by rw [(Heap.SameBut.update ..).1];exact hs) (D.update (i:=0) (f:=Obj.mapSeq fun xs=>xs.push x) rfl rfl)⟩
theorem list_clear {l:Addr} (hz:xs.size<=1000) :
  Tri W A (.call (.builtin "list.clear") ⟨[.ref l],[]⟩) G ((l,A1 xs e)::L) (Gives G (fun _:Nat=> .none) fun e'=>(l,A1 #[] e')::L):=
 Tri.cb F.slot_list_clear F.entry_list_clear (F.args_list_clear_1 _) (fun h _ D=>⟨_,D.at0,rfl⟩) fun R hR h n tk hs D=>
  AutoSeq1.list_clear_list_0 l xs e (line hz) _ _ A R _ ⟨D.at0,hR (bump xs #[] e) trivial _ n _ (by rw [(Heap.SameBut.update ..).1];exact hs) (D.update (i:=0) (f:=Obj.mapSeq fun xs=>#[]) rfl rfl)⟩
theorem list_pop_last {l:Addr} {xs:List Value} {x:Value} (hz:xs.length<1000) :
  Tri W A (.call (.builtin "list.pop") ⟨[.ref l],[]⟩) G ((l,A1 (xs++[x]).toArray e)::L) (Gives G (fun _:Nat=>x) fun e'=>(l,A1 xs.toArray e')::L):=
 Tri.cb F.slot_list_pop F.entry_list_pop (F.args_list_pop_1 _) (fun h _ D=>⟨_,D.at0,rfl⟩) fun R hR h n tk hs D=>
  MeetsSeq.list_pop_last l (xs++[x]).toArray e x (by simp) (line (by simp;omega)) _ _ A R _ ⟨D.at0,hR (bump (xs++[x]).toArray xs.toArray e) trivial _ n _ (by rw [(Heap.SameBut.update ..).1];exact hs) (by
   have z:=D.update (i:=0) (f:=Obj.mapSeq fun ys=>ys.eraseIdxIfInBounds ((xs++[x]).toArray.size - 1)) rfl rfl
   have q:(xs++[x]).toArray.eraseIdxIfInBounds ((xs++[x]).toArray.size - 1)=xs.toArray:=by
    simp [Array.eraseIdxIfInBounds,List.eraseIdx_append_of_length_le]
   refine cast ?_ z
   show Own _ _ _ ((l,A1 ((xs++[x]).toArray.eraseIdxIfInBounds ((xs++[x]).toArray.size - 1)) (bump (xs++[x]).toArray ((xs++[x]).toArray.eraseIdxIfInBounds ((xs++[x]).toArray.size - 1)) e))::L)=_
   rw [q])⟩
theorem DS {l:Addr} {xs:List Value} {x:Value} (hz:xs.length<1000) :
  Tri W A (.call (.builtin "list.pop") ⟨[.ref l,.int 0 u],[]⟩) G ((l,A1 (x::xs).toArray e)::L) (Gives G (fun _:Nat=>x) fun e'=>(l,A1 xs.toArray e')::L):=
 Tri.cb F.slot_list_pop F.entry_list_pop (F.args_list_pop_2 _ _) (fun h _ D=>⟨_,D.at0,rfl⟩) fun R hR h n tk hs D=>
  MeetsSeq.list_pop_at l (x::xs).toArray e 0 u 0 x (by decide) (by simp [seqIndex?]) (by simp) (line (by simp;omega)) _ _ A R _ ⟨D.at0,hR (bump (x::xs).toArray xs.toArray e) trivial _ n _ (by rw [(Heap.SameBut.update ..).1];exact hs) (by
   have z:=D.update (i:=0) (f:=Obj.mapSeq fun ys=>ys.eraseIdxIfInBounds 0) rfl rfl
   have q:(x::xs).toArray.eraseIdxIfInBounds 0=xs.toArray:=by
    simp [Array.eraseIdxIfInBounds]
   refine cast ?_ z
   show Own _ _ _ ((l,A1 ((x::xs).toArray.eraseIdxIfInBounds 0) (bump (x::xs).toArray ((x::xs).toArray.eraseIdxIfInBounds 0) e))::L)=_
   rw [q])⟩
theorem C9 {l b:Addr} (hz:xs.size+ys.size<=1000) :
  Tri W A (.call (.builtin "list.extend") ⟨[.ref l,.ref b],[]⟩) G ((l,A1 xs e)::(b,A1 ys e2)::L) (Gives G (fun _:Nat=> .none) fun e'=>(l,A1 (xs++ys) e')::(b,A1 ys e2)::L):=
 Tri.cb F.slot_list_extend F.entry_list_extend (F.args_list_extend_2 _ _) (fun h _ D=>⟨_,D.at0,rfl⟩) fun R hR h n tk hs D=>
  AutoSeq1.list_extend_list_list_0 l xs e b ys e2 (by
   have:Builtin.List.listTooLong (xs.size+ys.size)=false:=by
    unfold Builtin.List.listTooLong
    simp [sizeLine_eq];omega
   rw [this];simp) (line (by omega)) (by have:=line hz;omega) _ _ A R _ ⟨D.at0,D.at1,hR (bump xs (xs++ys) e) trivial _ n _ (by rw [(Heap.SameBut.update ..).1];exact hs) (D.update (i:=0) (f:=Obj.mapSeq fun xs=>xs++ys) rfl rfl)⟩
theorem BK {l b:Addr} (hz:xs.size+ys.size<=1000) :
  Tri W A (.call (.builtin "list.extend") ⟨[.ref l,.ref b],[]⟩) G ((l,A1 xs e)::(b,Af ys)::L) (Gives G (fun _:Nat=> .none) fun e'=>(l,A1 (xs++ys) e')::(b,Af ys)::L):=
 Tri.cb F.slot_list_extend F.entry_list_extend (F.args_list_extend_2 _ _) (fun h _ D=>⟨_,D.at0,rfl⟩) fun R hR h n tk hs D=>
  AutoSeq1.list_extend_list_tuple_0 l xs e b ys 0 (by
   have:Builtin.List.listTooLong (xs.size+ys.size)=false:=by
    unfold Builtin.List.listTooLong
    simp [sizeLine_eq];omega
   rw [this];simp) (line (by omega)) (by have:=line hz;omega) _ _ A R _ ⟨D.at0,D.at1,hR (bump xs (xs++ys) e) trivial _ n _ (by rw [(Heap.SameBut.update ..).1];exact hs) (D.update (i:=0) (f:=Obj.mapSeq fun xs=>xs++ys) rfl rfl)⟩
theorem Aa {l:Addr} {t:Nat} {k:Int} {x:Value} (h0:0<=k) (hk:k<2 ^ 63) (hx:xs[k.toNat]?=some x) :
  Tri W A (.call (.builtin "list.__getitem__") ⟨[.ref l,.int k t],[]⟩) G ((l,A1 xs e)::L) (Ret x G ((l,A1 xs e)::L)):=
 Tri.cb slot_list_getitem entry_list_getitem (args_list_getitem _ _) (fun h _ D=>⟨_,D.at0,rfl⟩) fun R hR h n tk hs D=>by
  show wpAny _ _ (Builtin.List.listSubscript? (.int k t)>>=_) _ _ _
  refine wpAny_bind (wpAny_listSubscript_int (fitsIndex_of h0 hk) ?_)
  clear hk
  obtain ⟨j,rfl⟩:=Int.eq_ofNat_of_zero_le h0
  show wpAny _ _ ((seqItemAt l j>>=fun r=>pure (r.map (j,·)))>>=_) _ _ _
  refine wpAny_bind (wpAny_bind (wpAny_seqItemAt D.at0 rfl (wpAny_pure ?_)))
  rw [show xs[j]?=some x from hx]
  have z:=hR () trivial h n tk hs D
  first
   | exact wpAny_bind (wpAny_pure (wpAny_pure z))
   | exact wpAny_pure z
theorem list_setitem {l:Addr} {t:Nat} {k:Int} {v:Value} (h0:0<=k) (hk:k<2 ^ 63) (hx:k.toNat<xs.size) :
  Tri W A (.call (.builtin "list.__setitem__") ⟨[.ref l,.int k t,v],[]⟩) G ((l,A1 xs e)::L) (Gives G (fun _:Nat=> .none) fun e'=>(l,A1 (xs.setIfInBounds k.toNat v) e')::L):=
 Tri.cb slot_list_setitem entry_list_setitem (args_list_setitem _ _ _) (fun h _ D=>⟨_,D.at0,rfl⟩) fun R hR h n tk hs D=>by
  show wpAny _ _ (Builtin.List.listSubscript? (.int k t)>>=_) _ _ _
  refine wpAny_bind (wpAny_listSubscript_int (fitsIndex_of h0 hk) ?_)
  clear hk
  obtain ⟨j,rfl⟩:=Int.eq_ofNat_of_zero_le h0
  have hx':xs[j]?=some xs[j]:=Array.getElem?_eq_getElem hx
  show wpAny _ _ ((seqItemAt l j>>=fun r=>pure (r.map (j,·)))>>=_) _ _ _
  refine wpAny_bind (wpAny_bind (wpAny_seqItemAt D.at0 rfl (wpAny_pure ?_)))
  rw [hx']
  have z:=hR (bump xs (xs.setIfInBounds j v) e) trivial _ n tk (by rw [(Heap.SameBut.update ..).1];exact hs) (D.update (i:=0) (f:=Obj.mapSeq (·.setIfInBounds j v)) rfl rfl)
  first
   | exact wpAny_bind (wpAny_setSeqItemAt D.at0 rfl (wpAny_bind (wpAny_pure (wpAny_pure z))))
   | exact wpAny_bind (wpAny_setSeqItemAt D.at0 rfl (wpAny_pure z))
noncomputable abbrev iv (l:List (Int×Nat)):Array Value:=(l.map fun p=>Value.int p.1 p.2).toArray
noncomputable abbrev lI (a:Nat) (l:List (Int×Nat)) (e:Nat):Cell:=(a+8,A1 (iv l) e)
theorem list_contains {l:Addr} {xs:List (Int×Nat)} {t:Nat} {k:Int} :
  Tri W A (.call (.builtin "list.__contains__") ⟨[.ref l,.int k t],[]⟩) G ((l,A1 (iv xs) e)::L) (Ret (.bool (xs.any fun p=>p.1==k)) G ((l,A1 (iv xs) e)::L)):=
 Tri.cb F.slot_list_contains F.entry_list_contains (F.args_list_contains_2 _ _) (fun h _ D=>⟨_,D.at0,rfl⟩) fun R hR h n tk hs D=>by
  refine MeetsSeq.list_contains l (iv xs) e (.int k t) (fun v=>match v with | .int i _=>i==k | _=>false) (fun y hy=>?_) _ _ A R _ ⟨D.at0,?_⟩
  ·obtain ⟨p,hp,rfl⟩:=List.mem_map.mp (List.mem_toArray.mp hy)
   exact MeetsSeq.EqGives.int _ _ _ _
  ·have z:=hR () trivial h n tk hs D
   have q:(iv xs).any (fun v=>match v with | .int i _=>i==k | _=>false)=xs.any fun p=>p.1==k:=by
    simp [iv,List.any_map,Function.comp_def]
   rw [q];exact z
end
section
open PySem PySem.W PySem.W.X
variable {W:Wd} {L:List Cell} {G:List GenState} {A:Around} {x:Str} {d r a m ep e2:Nat} {xs:Array Value} {np nf:Int} {es:Array DictEntry}
noncomputable def Au (q:Int×Int×Int×Int) (u:Nat×Nat×Nat×Nat×Nat×Nat×Nat) (m:Nat) (rv:Value) (np nf:Int):Obj:=
 sdict q.1 q.2.1 q.2.2.1 q.2.2.2 u.1 u.2.1 u.2.2.1 u.2.2.2.1 (m+8) rv np nf u.2.2.2.2.1 u.2.2.2.2.2.1 u.2.2.2.2.2.2
theorem is_active (ok:W.Ok) {s:Nat} {q:Int×Int×Int×Int} {u:Nat×Nat×Nat×Nat×Nat×Nat×Nat} (hA:Good A 800) (hx:xs.size<=1000) :
  Tri W A (.call (.ref 143) ⟨[.ref (s+8)],[]⟩) G (c8 s (An (d+8))::c8 d (Au q u m (.ref (r+8)) np nf)::lL r xs e2::L)
  (Ret (.bool (decide (nf<np)||!xs.isEmpty)) G (c8 s (An (d+8))::c8 d (Au q u m (.ref (r+8)) np nf)::lL r xs e2::L)):=by
 refine Tri.gof hA fun dp un F hd hu R n tk hR=>?_
 refine BC ok 7 4096 (entry W.kt 143 n 8) (dp+0) (by omega) ?_
 refine gc0 ok 63 1294291355615878626370515343346390442821955461664366184330831337619585 (.call (.builtin "int.__lt__") ⟨[.int nf u.2.2.2.2.2.1,.int np u.2.2.2.2.1],[]⟩) A6 (fun _ _ eA=>lt_int ok) fun _ n₁ tk₁ _=>?_
 cases h:decide (nf<np)
 ·refine AU ok 30 321922448245847300799218585600 (.builtin "len" ⟨[.ref (r+8)],[]⟩) [3] (lL r xs e2) A6 (fun _ _ eA=>C3 hx) fun t n₂ tk₂ _=>?_
  obtain ⟨l⟩:=xs
  cases l with
  | nil=>
   exact Aj ok 6 0 hR () trivial (.ret (.bool false)) (by rw [h];rfl) [1,2,3,0] 1
  | cons x l=>
   exact Aj ok 6 0 hR () trivial (.ret (.bool true)) (by rw [h];rfl) [1,2,3,0] 1
 ·exact Aj ok 1 0 hR () trivial (.ret (.bool true)) (by rw [h];rfl) [] 1
noncomputable def AO (d:Nat) (x:Str) (t:Nat) (p:Int) (tp l:Nat):Obj:=⟨.ref 77,some (d+8),.plain,#[some (.str x t),some (.int p tp),some (.ref (l+8))]⟩
theorem init_node (ok:W.Ok) {s t:Nat} (hA:Good A 900) :
  Tri W A (.call (.ref 73) ⟨[.ref (s+8),.str x t],[]⟩) G ((s+8,⟨.ref 77,some (d+8),.plain,#[]⟩)::dD d #[] 0::L)
  (Gives G (fun _:Nat×Nat=> .none) fun p=>c8 s (AO d x t 0 p.1 p.2)::lL p.2 #[] 0::L):=by
 refine Tri.gof hA fun dp un F hd hu R n tk hR=>?_
 refine BC ok 11 16781312 (entry W.kt 73 n 8) (dp+0) (by omega) ?_
 exact Aj ok 127 399730146403745197163015542569602232913022018422519841214126714685343778137271177400342383715955209207102255070667100350942953556502965255076323393 hR (tk+3,n+1) trivial (.ret .none) rfl [1,3,2,0] 2
theorem mk_node (ok:W.Ok) {t:Nat} (hA:Good A 850) :
  Tri W A (.call (.ref 77) ⟨[.str x t],[]⟩) G L (Gives G (fun p:Nat×Nat×Nat×Nat=> .ref (p.1+8)) fun p=>c8 p.1 (AO p.2.1 x t 0 p.2.2.1 p.2.2.2)::lL p.2.2.2 #[] 0::L):=by
 refine Tri.gof hA fun dp un F hd hu R n tk hR=>?_
 refine Cg ok 40 374235763009044328492531047477413220720647226785792 (.call (.ref 73) ⟨[.ref (n+1+8),.str x t],[]⟩) [0,1] (n+1+8,⟨.ref 77,some (n+8),.plain,#[]⟩) (dD n #[] 0) (gd (dp+1) (un+1)) (fun _ _ eA=>init_node ok (Ab (dp+1) (un+1) eA (by omega) (by omega))) fun p n₁ tk₁ _=>?_
 exact gend hR (n+1,n,p.1,p.2) trivial (.ret (.ref (n+1+8))) rfl (by kernel_rfl) (by kernel_rfl) (A4 [] 0 (by kernel_rfl))
theorem get_old (ok:W.Ok) {s t:Nat} {q:Int×Int×Int×Int} {u:Nat×Nat×Nat×Nat×Nat×Nat×Nat} {rv:Value} (hA:Good A 800) (hk:Keys W es) (hv:look es x=some (.ref (a+8))) :
  Tri W A (.call (.ref 117) ⟨[.ref (s+8),.str x t],[]⟩) G (c8 s (An (d+8))::c8 d (Au q u m rv np nf)::dD m es ep::L)
  (Ret (.ref (a+8)) G (c8 s (An (d+8))::c8 d (Au q u m rv np nf)::dD m es ep::L)):=by
 refine Tri.gof hA fun dp un F hd hu R n tk hR=>?_
 refine BC ok 11 16781312 (entry W.kt 117 n 8) (dp+0) (by omega) ?_
 refine AU ok 30 5392545405474832748774256803969 (.call (.builtin "dict.get") ⟨[.ref (m+8),.str x t],[]⟩) [3] (dD m es ep) A6 (fun _ _ eA=>dict_some hk hv) fun _ n₁ tk₁ _=>?_
 exact Aj ok 12 8258 hR () trivial (.ret (.ref (a+8))) rfl [1,2,3,0] 1
theorem get_new (ok:W.Ok) {s t:Nat} {q:Int×Int×Int×Int} {u:Nat×Nat×Nat×Nat×Nat×Nat×Nat} {rv:Value} (hA:Good A 800) (hk:Keys W es) (hv:look es x=none) (hz:es.size<=1000) :
  Tri W A (.call (.ref 117) ⟨[.ref (s+8),.str x t],[]⟩) G (c8 s (An (d+8))::c8 d (Au q u m rv np nf)::dD m es ep::L)
  (Gives G (fun p:Nat×Nat×Nat×Nat=> .ref (p.1+8)) fun p=>
   (c8 s (An (d+8)))::c8 d (Au q u m rv np nf)::dD m (es.push ⟨hashStr W.w x,.str x t,.ref (p.1+8)⟩) (ep+1)::c8 p.1 (AO p.2.1 x t 0 p.2.2.1 p.2.2.2)::lL p.2.2.2 #[] 0::L):=by
 refine Tri.gof hA fun dp un F hd hu R n tk hR=>?_
 refine BC ok 11 16781312 (entry W.kt 117 n 8) (dp+0) (by omega) ?_
 refine AU ok 30 5392545405474832748774256803969 (.call (.builtin "dict.get") ⟨[.ref (m+8),.str x t],[]⟩) [3] (dD m es ep) A6 (fun _ _ eA=>dict_none hk hv) fun _ n₁ tk₁ _=>?_
 refine gc0 ok 17 524354 (.call (.ref 77) ⟨[.str x t],[]⟩) (gd (dp+1) (un+3)) (fun _ _ eA=>mk_node ok (Ab (dp+1) (un+3) eA (by omega) (by omega))) fun p n₂ tk₂ _=>?_
 refine AU ok 25 3773085823070834393079611716 (.call (.builtin "dict.__setitem__") ⟨[.ref (m+8),.str x t,.ref (p.1+8)],[]⟩) [2] (dD m es ep) A6 (fun _ _ eA=>dict_put hk hv hz) fun _ n₃ tk₃ _=>?_
 exact Aj ok 11 16580 hR p trivial (.ret (.ref (p.1+8))) rfl [3,4,5,0,1,2] 1
end
section
open PySem PySem.W PySem.W.X PySem.Calls PySem.Spec PyProof.Rows
variable {W:Wd} {L C CF:List Cell} {G:List GenState} {n dp un e i it d D r a m acc l u ep tt tp un' e2 e1 tka tkb sk ik tkc vk nk tkd g tki:Nat} {A:Around} {F:List Env} {x y:Str} {h h₀:Heap} {xs ys:Array Value} {s:Shared} {R:Result->Shared->Prop} {o:Obj} {rs ps:List (Str×Nat)} {np nf:Int} {es:Array DictEntry} {env:Env} {prog:Program} {v0 v1:Value} {rk:Str->Nat} {body:List Stmt}
structure Nd where
 x:Str
 t:Nat
 a:Nat
 di:Nat
 p:Int
 tp:Nat
 l:Nat
 ss:List (Str×Nat)
 e:Nat
variable {nd n0 n1 n2 n3 n4 n5:Nd} {pre post:List Nd}
noncomputable def sv (l:List (Str×Nat)):Array Value:=(l.map fun p=>Value.str p.1 p.2).toArray
noncomputable abbrev lS (a:Nat) (l:List (Str×Nat)) (e:Nat):Cell:=(a+8,A1 (sv l) e)
theorem Am (l:List (Str×Nat)):(sv l).size=l.length:=by simp [sv]
theorem AB (l:List (Str×Nat)) (x:Str) (t:Nat):(sv l).push (.str x t)=sv (l++[(x,t)]):=by simp [sv]
noncomputable def Nd.cells (nd:Nd):List Cell:=[c8 nd.a (AO nd.di nd.x nd.t nd.p nd.tp nd.l),lS nd.l nd.ss nd.e]
noncomputable def A0 (ns:List Nd):List Cell:=ns.flatMap Nd.cells
noncomputable def ent (W:Wd) (nd:Nd):DictEntry:=⟨hashStr W.w nd.x,.str nd.x nd.t,.ref (nd.a+8)⟩
noncomputable def ents (W:Wd) (ns:List Nd):Array DictEntry:=(ns.map (ent W)).toArray
theorem AW (W:Wd) (ns:List Nd):Keys W (ents W ns):=by
 intro e he
 obtain ⟨nd,_,rfl⟩:=List.mem_map.mp (List.mem_toArray.mp he)
 exact ⟨nd.x,by simp [ent,PySem.strKind,Value.isStrOf],rfl⟩
theorem ents_size (W:Wd) (ns:List Nd):(ents W ns).size=ns.length:=by simp [ents]
theorem ents_push (W:Wd) (ns:List Nd) (nd:Nd):(ents W ns).push (ent W nd)=ents W (ns++[nd]):=by simp [ents]
theorem ents_none {ns:List Nd} (h:x∉ns.map Nd.x):look (ents W ns) x=none:=by
 simp only [look,findBy,ents,List.find?_toArray,Option.map_eq_none_iff,List.find?_eq_none]
 intro e he
 obtain ⟨nd,hn,rfl⟩:=List.mem_map.mp he
 have:nd.x≠x:=fun e=>h (e▸List.mem_map_of_mem hn)
 simpa [ent,Value.isStrOf] using this
theorem Bd (h:nd.x∉pre.map Nd.x):look (ents W (pre++nd::post)) nd.x=some (.ref (nd.a+8)):=by
 have z:=ents_none (W:=W) h
 simp only [look,findBy,ents,List.find?_toArray,Option.map_eq_none_iff] at z ⊢
 rw [List.map_append,List.find?_append,z]
 simp [ent,Value.isStrOf]
theorem Ae (pre post:List Nd) (nd:Nd) (L:List Cell):(A0 (pre++nd::post)++L).Perm (nd.cells++(A0 (pre++post)++L)):=by
 simp only [A0,List.flatMap_append,List.flatMap_cons,List.append_assoc]
 refine List.Perm.trans ?_ (List.perm_append_comm_assoc ..)
 exact .refl _
structure Sr where
 s:Nat
 d:Nat
 m:Nat
 q:Int×Int×Int×Int
 u:Nat×Nat×Nat×Nat×Nat×Nat×Nat
noncomputable def Sr.cells (W:Wd) (z:Sr) (rv:Value) (np nf:Int) (ns:List Nd) (ep:Nat):List Cell:=
 [c8 z.s (An (z.d+8)),c8 z.d (Au z.q z.u z.m rv np nf),dD z.m (ents W ns) ep]
noncomputable def hz (W:Wd) (x:Str):Int:=condFn Int x.cps.isEmpty 0 (PySem.W.ZFast.zw12210062019545310541 ((W.p true).strHash x.cps))
noncomputable def fr (W:Wd) (l:List (Str×Nat×Value)):Obj:=⟨.type "frame",none,.dict ⟨l.map fun p=>⟨hz W p.1,.str p.1 p.2.1,p.2.2⟩⟩ l.length,#[]⟩
noncomputable abbrev AF (W:Wd) (a:Nat) (l:List (Str×Nat×Value)):Cell:=(a+8,fr W l)
theorem len_tup {l:Addr} (hx:xs.size<=1000) :
  Tri W A (.builtin "len" ⟨[.ref l],[]⟩) G ((l,Af xs)::L) (Gives G (fun t:Nat=> .int xs.size t) fun _=>(l,Af xs)::L):=by
 refine Tri.bi plain_len entry_len fun R hR h n tk hs D=>?_
 have ht:IsTup h l xs:=⟨_,D.at0,rfl,_,rfl⟩
 unfold Builtin.«len»
 refine wpAny_bind (m:=oneArg "len" _) (wpAny_pure ?_)
 refine wpAny_bind (m:=callSpecial? (.ref l) (Str.ofString "__len__")) (wpAny_callSpecial?_slot (name:=Str.ofString "__len__") ht.typeIs slot_tuple_len
  (wpAny_call_entry slot_tuple_len ht.typeIs entry_tuple_len ?_ (args_tuple_len _)))
 show wpAny _ _ (do retInt (← Builtin.Tuple.tupleItemsOf (.ref l)).size) _ _ _
 refine wpAny_bind (tupleItemsOf_ ht ?_)
 refine wpAny_bind (wpAny_mkInt (wpAny_pure ⟨_,rfl,?_⟩))
 refine wpAny_bind (wpAny_holding (wpAny_pure ?_))
 refine wpAny_bind (wpAny_letGo ?_)
 show wpAny _ _ (if ((xs.size:Nat):Int)<0 then _ else _) _ _ _
 rw [if_neg (by omega)]
 show wpAny _ _ (if ((xs.size:Nat):Int)≥2 ^ 63 then _ else _) _ _ _
 rw [if_neg (by omega)]
 exact wpAny_bind (wpAny_mkInt (wpAny_pure (hR _ trivial h n _ hs D)))
theorem Bk (ok:W.Ok) {l:Addr} {α:Type} {Q:Post α} (spec:Tri W A (.builtin "len" ⟨[.ref l],[]⟩) G L Q):Tri W A (.call (.builtin "len") ⟨[.ref l],[]⟩) G L Q:=by
 refine Tri.of fun R n tk hR=>?_
 exact Cq ok 0 0 (.builtin "len" ⟨[.ref l],[]⟩) _ [] 0 hR spec
theorem tend (hA:Good A 900) {it l:Addr} (hx:xs[i]?=none) :
  Tri W A (.call (.builtin "tuple_iterator.__next__") ⟨[.ref it],[]⟩) G ((it,tit l i)::(l,Af xs)::L)
   ⟨fun _:Nat×Nat=>G,fun _=>True,fun p=> .error (.ref (p.1+8)),fun p=>c8 p.1 (stopO (p.2+8))::c8 p.2 (Af #[])::(it,titEnd i)::(l,Af xs)::L⟩:=by
 refine Tri.good hA fun dp un F hd hu=>?_
 exact tnext_end hx
theorem lend (hA:Good A 900) {it l:Addr} (hx:xs[i]?=none) :
  Tri W A (.call (.builtin "list_iterator.__next__") ⟨[.ref it],[]⟩) G ((it,lit l i)::(l,A1 xs e)::L)
   ⟨fun _:Nat×Nat=>G,fun _=>True,fun p=> .error (.ref (p.1+8)),fun p=>c8 p.1 (stopO (p.2+8))::c8 p.2 (Af #[])::(it,litEnd i)::(l,A1 xs e)::L⟩:=by
 refine Tri.good hA fun dp un F hd hu=>?_
 exact B1 hx
theorem Tri.at {A':Around} {c:Code} {α:Type} {Q:Post α} (e:A=A') (x:Tri W A' c G L Q):Tri W A c G L Q:=e▸x
noncomputable def B9 (s:Stmt) (it:Value) (env:Env):Code:= .forLoop (Br s).e it (Br s).b (Br s).o env
section
variable (W:Wd) (A:Around) (R:Result->Shared->Prop) (s:Stmt) (it:Value) (env:Env)
noncomputable def nEx:Value->Shared->Prop:=notedBy (model PySem.Challenge.rw_mr0319_01.prog W.w) A env fun e s'=>R (.error e) s'
noncomputable def fB:Flow->Shared->Prop:=fun f σ=>match f with
 | .next | .cont=>codeAny W.M A (B9 s it env) R σ
 | .brk=>R (.ok .next) σ
 | .ret v=>R (.ok (.ret v)) σ
noncomputable def fA:Unit->Shared->Prop:=fun _ σ=>wpAny W.M A (execs (Br s).b env) (fB W A R s it env) (nEx W A R env) σ
noncomputable def fK:Option Value->Shared->Prop:=fun r σ=>match r with
 | none=>codeAny W.M A (.block (Br s).o env) R σ
 | some v=>wpAny W.M A (letOwnedTupleGo (Br s).e it v) (fun _ σ=>wpAny W.M A (assign (Br s).e env v) (fA W A R s it env) (nEx W A R env) σ) (nEx W A R env) σ
variable {W A R s it env}
theorem BX {σ:Shared} (h:wpAny W.M A (pyNext it) (fK W A R s it env) (nEx W A R env) σ):codeAny W.M A (B9 s it env) R σ:=for_turn h
theorem fA_go (e:(Br s).b=body) {u:Unit} {σ:Shared} (h:wpAny W.M A (execs body env) (fB W A R s it env) (nEx W A R env) σ):fA W A R s it env u σ:=by
 subst e
 exact h
theorem DF (hl:∀ it v,letOwnedTupleGo (Br s).e it v=pure ()) {v:Value} {σ:Shared} (h:wpAny W.M A (assign (Br s).e env v) (fA W A R s it env) (nEx W A R env) σ):fK W A R s it env (some v) σ:=by
 show wpAny _ _ (letOwnedTupleGo (Br s).e it v) _ _ _
 rw [hl]
 exact wpAny_pure h
end
noncomputable abbrev Nx {α:Type} (G:List GenState) (L:α->List Cell) (P:α->Prop:=fun _=>True):Post α:=⟨fun _=>G,P,fun _=> .ok .next,L⟩
noncomputable def Nd.z (nd:Nd):Nd:={ nd with e:=0 }
noncomputable def app (x:Str) (t:Nat) (ps:List Str) (nd:Nd):Nd:={ nd with ss:=nd.ss++List.replicate (ps.count nd.x) (x,t),e:=0 }
theorem app_step {t e':Nat} {rest:List Str} (nd1:((pre++nd::post).map Nd.x).Nodup) :
  (pre++{ nd with ss:=nd.ss++[(x,t)],e:=e' }::post).map (app x t rest)=(pre++nd::post).map (app x t (nd.x::rest)):=by
 simp only [List.map_append,List.map_cons,List.nodup_append,List.nodup_cons] at nd1
 simp only [List.map_append,List.map_cons]
 congr 1
 ·refine List.map_congr_left fun b hb=>?_
  have:b.x≠nd.x:=nd1.2.2 _ (List.mem_map_of_mem hb) _ (List.mem_cons_self ..)
  simp [app,List.count_cons,Ne.symm this]
 ·congr 1
  ·simp [app,List.count_cons,List.replicate_succ,List.append_assoc]
  ·refine List.map_congr_left fun b hb=>?_
   have:b.x≠nd.x:=fun e=>nd1.2.1.1 (e▸List.mem_map_of_mem hb)
   simp [app,List.count_cons,Ne.symm this]
theorem ents_of_z {ns ns':List Nd} (h:ns'.map (fun nd=>(nd.x,nd.t,nd.a))=ns.map (fun nd=>(nd.x,nd.t,nd.a))):ents W ns'=ents W ns:=by
 have e:∀ l:List Nd,l.map (ent W)=(l.map (fun nd=>(nd.x,nd.t,nd.a))).map fun p=>(⟨hashStr W.w p.1,.str p.1 p.2.1,.ref (p.2.2+8)⟩:DictEntry):=fun l=>by
  rw [List.map_map];rfl
 unfold ents
 rw [e,e,h]
theorem add_loop (ok:W.Ok) {t:Nat} {z:Sr} {v:Value} (hd:dp<=700) (hu:un<=700) :
  ∀ (q:List (Str×Nat)) (i:Nat) (ns:List Nd) (tk₅ tk₆:Nat) (v₁ v₂:Value),ps.drop i=q->(ns.map Nd.x).Nodup->(∀ y∈q,y.1∈ns.map Nd.x)->(∀ nd∈ns,nd.ss.length+q.length<=900) ->
  Tri W (Ar dp un F) (B9 (AE (Ak W.kt 124) 3) (.ref (it+8)) (A5 W.kt 124 n 9)) G
  ((n+9,fr W [(sad,tka,.ref (z.s+8)),(saj,tkb,.str x t),(sae,tkc,.ref (n+8)),(sah,tkd,v),(scn,tk₅,v₁),(scd,tk₆,v₂)])::c8 it (tit (n+8) i)::c8 n (Af (sv ps))::(z.cells W .none np nf ns ep++(A0 ns++L)))
  (Nx G (fun ns'=>z.cells W .none np nf ns' ep++(A0 ns'++L)) fun ns'=>ns'.map Nd.z=ns.map (app x t (q.map (·.1)))):=by
 intro q
 induction q with
 | nil=>
  intro i ns tk₅ tk₆ v₁ v₂ hq hnd hin hl
  have hi:(sv ps)[i]?=none:=by
   have:ps.length<=i:=List.drop_eq_nil_iff.mp hq
   simp [sv,this]
  refine Tri.of fun R n' tk' hR=>?_
  refine Cg ok 2 2 (.call (.builtin "tuple_iterator.__next__") ⟨[.ref (it+8)],[]⟩) [1,2] (c8 it (tit (n+8) i)) (c8 n (Af (sv ps))) (gd dp un) (fun _ _ eA=>tend (Ab dp un eA (by omega) (by omega)) hi) fun p n₁ tk₁ _=>?_
  exact Aj ok 2 1 hR ns (List.map_congr_left fun b _=>by simp [app,Nd.z]) .next rfl [] 5
 | cons y q ih=>
  obtain ⟨y,ty⟩:=y
  intro i ns tk₅ tk₆ v₁ v₂ hq hnd hin hl
  obtain ⟨pre,nd,post,rfl,rfl⟩:∃ pre nd post,ns=pre++nd::post/\y=nd.x:=by
   obtain ⟨nd,hm,e⟩:=List.mem_map.mp (hin (y,ty) (List.mem_cons_self ..))
   obtain ⟨pre,post,rfl⟩:=List.append_of_mem hm
   exact ⟨pre,nd,post,rfl,e.symm⟩
  have hi:(sv ps)[i]?=some (.str nd.x ty):=by
   have:ps[i]?=some (nd.x,ty):=by rw [← List.head?_drop,hq];rfl
   simp [sv,this]
  have hq':ps.drop (i+1)=q:=by rw [← List.tail_drop,hq];rfl
  have hnp:nd.x∉pre.map Nd.x:=by
   rw [List.map_append,List.nodup_append] at hnd
   exact fun hm=>hnd.2.2 _ hm _ (List.mem_cons_self ..) rfl
  have hss:(sv nd.ss).size<=1000:=by
   have:=hl nd (by simp)
   rw [Am];simp at this;omega
  refine Tri.own ?_ (fun h D=>D.perm (List.Perm.append_left (_::_::_::z.cells W .none np nf _ ep) (Ae pre post nd L)))
  refine Tri.of fun R n' tk' hR=>?_
  refine Cg ok 2 2 (.call (.builtin "tuple_iterator.__next__") ⟨[.ref (it+8)],[]⟩) [1,2] (c8 it (tit (n+8) i)) (c8 n (Af (sv ps))) A6 (fun _ _ eA=>BT hi) fun _ n₁ tk₁ _=>?_
  refine gc3 ok 31 999225585630196973652547841568899 (.call (.ref 117) ⟨[.ref (z.s+8),.str nd.x ty],[]⟩) [3,4,5] (c8 z.s (An (z.d+8))) (c8 z.d (Au z.q z.u z.m .none np nf)) (dD z.m (ents W (pre++nd::post)) ep) (gd dp un) (fun _ _ eA=>get_old ok (Ab dp un eA (by omega) (by omega)) (AW W _) (Bd hnp)) fun _ n₂ tk₂ _=>?_
  refine AU ok 55 38459702689600344858271917081071712756707123509064137204038 (.call (.builtin "list.append") ⟨[.ref (nd.l+8),.str x t],[]⟩) [7] (lS nd.l nd.ss nd.e) A6 (fun _ _ eA=>A8 hss) fun e' n₃ tk₃ _=>?_
  refine gmagn ok 1 0 (B9 (AE (Ak W.kt 124) 3) (.ref (it+8)) (A5 W.kt 124 n 9)) (Q:=Nx G (fun ns'=>z.cells W .none np nf ns' ep++(A0 ns'++L)) fun ns'=>ns'.map Nd.z=(pre++{ nd with ss:=nd.ss++[(x,t)],e:=e' }::post).map (app x t (q.map (·.1)))) ?_ ?_
   (ih (i+1) (pre++{ nd with ss:=nd.ss++[(x,t)],e:=e' }::post) tk₅ tk₆ (.str nd.x ty) (.ref (nd.a+8)) hq' ?_ ?_ ?_)
  ·intro p hp
   exact hR p (hp.trans (app_step hnd))
  ·intro h D
   have D1:Own W.h₀ 53 h ((n+9,fr W [(sad,tka,.ref (z.s+8)),(saj,tkb,.str x t),(sae,tkc,.ref (n+8)),(sah,tkd,v),(scn,tk₅,.str nd.x ty),(scd,tk₆,.ref (nd.a+8))])::c8 it (tit (n+8) (i+1))::c8 n (Af (sv ps)) ::
    (z.cells W .none np nf (pre++nd::post) ep++(c8 nd.a (AO nd.di nd.x nd.t nd.p nd.tp nd.l)::(nd.l+8,A1 ((sv nd.ss).push (.str x t)) e')::(A0 (pre++post)++L)))):=A4 [6,4,5,1,2,3,7,0] 0 (by kernel_rfl) h D
   rw [AB] at D1
   have D2:=D1.perm (List.Perm.append_left (_::_::_::z.cells W .none np nf (pre++nd::post) ep) (Ae pre post { nd with ss:=nd.ss++[(x,t)],e:=e' } L).symm)
   rw [show z.cells W .none np nf (pre++nd::post) ep=z.cells W .none np nf (pre++{ nd with ss:=nd.ss++[(x,t)],e:=e' }::post) ep from by simp [Sr.cells,ents,ent]] at D2
   exact D2
  ·simpa using hnd
  ·intro y hy;simpa using hin y (List.mem_cons_of_mem _ hy)
  ·intro b hb
   rcases List.mem_append.mp hb with hb | hb
   ·have:=hl b (by simp [hb]);simp at this;omega
   ·rcases List.mem_cons.mp hb with rfl | hb
    ·have:=hl nd (by simp);simp at this ⊢;omega
    ·have:=hl b (by simp [hb]);simp at this;omega
theorem add_loop0 (ok:W.Ok) {t:Nat} {z:Sr} {v:Value} (hd:dp<=700) (hu:un<=700)
  (q:List (Str×Nat)) (i:Nat) (ns:List Nd) (hq:ps.drop i=q) (hnd:(ns.map Nd.x).Nodup) (hin:∀ y∈q,y.1∈ns.map Nd.x) (hl:∀ nd∈ns,nd.ss.length+q.length<=900) :
  Tri W (Ar dp un F) (B9 (AE (Ak W.kt 124) 3) (.ref (it+8)) (A5 W.kt 124 n 9)) G
  ((n+9,fr W [(sad,tka,.ref (z.s+8)),(saj,tkb,.str x t),(sae,tkc,.ref (n+8)),(sah,tkd,v)])::c8 it (tit (n+8) i)::c8 n (Af (sv ps))::(z.cells W .none np nf ns ep++(A0 ns++L)))
  (Nx G (fun ns'=>z.cells W .none np nf ns' ep++(A0 ns'++L)) fun ns'=>ns'.map Nd.z=ns.map (app x t (q.map (·.1)))):=by
 cases q with
 | nil=>
  have hi:(sv ps)[i]?=none:=by
   have:ps.length<=i:=List.drop_eq_nil_iff.mp hq
   simp [sv,this]
  refine Tri.of fun R n' tk' hR=>?_
  refine Cg ok 2 2 (.call (.builtin "tuple_iterator.__next__") ⟨[.ref (it+8)],[]⟩) [1,2] (c8 it (tit (n+8) i)) (c8 n (Af (sv ps))) (gd dp un) (fun _ _ eA=>tend (Ab dp un eA (by omega) (by omega)) hi) fun p n₁ tk₁ _=>?_
  exact Aj ok 2 1 hR ns (List.map_congr_left fun b _=>by simp [app,Nd.z]) .next rfl [] 5
 | cons y q=>
  obtain ⟨y,ty⟩:=y
  obtain ⟨pre,nd,post,rfl,rfl⟩:∃ pre nd post,ns=pre++nd::post/\y=nd.x:=by
   obtain ⟨nd,hm,e⟩:=List.mem_map.mp (hin (y,ty) (List.mem_cons_self ..))
   obtain ⟨pre,post,rfl⟩:=List.append_of_mem hm
   exact ⟨pre,nd,post,rfl,e.symm⟩
  have hi:(sv ps)[i]?=some (.str nd.x ty):=by
   have:ps[i]?=some (nd.x,ty):=by rw [← List.head?_drop,hq];rfl
   simp [sv,this]
  have hq':ps.drop (i+1)=q:=by rw [← List.tail_drop,hq];rfl
  have hnp:nd.x∉pre.map Nd.x:=by
   rw [List.map_append,List.nodup_append] at hnd
   exact fun hm=>hnd.2.2 _ hm _ (List.mem_cons_self ..) rfl
  have hss:(sv nd.ss).size<=1000:=by
   have:=hl nd (by simp)
   rw [Am];simp at this;omega
  refine Tri.own ?_ (fun h D=>D.perm (List.Perm.append_left (_::_::_::z.cells W .none np nf _ ep) (Ae pre post nd L)))
  refine Tri.of fun R n' tk' hR=>?_
  refine Cg ok 2 2 (.call (.builtin "tuple_iterator.__next__") ⟨[.ref (it+8)],[]⟩) [1,2] (c8 it (tit (n+8) i)) (c8 n (Af (sv ps))) A6 (fun _ _ eA=>BT hi) fun _ n₁ tk₁ _=>?_
  refine gc3 ok 31 999225585630196973652547841568899 (.call (.ref 117) ⟨[.ref (z.s+8),.str nd.x ty],[]⟩) [3,4,5] (c8 z.s (An (z.d+8))) (c8 z.d (Au z.q z.u z.m .none np nf)) (dD z.m (ents W (pre++nd::post)) ep) (gd dp un) (fun _ _ eA=>get_old ok (Ab dp un eA (by omega) (by omega)) (AW W _) (Bd hnp)) fun _ n₂ tk₂ _=>?_
  refine AU ok 55 38459702689600344858271917081071712756707123509064137204038 (.call (.builtin "list.append") ⟨[.ref (nd.l+8),.str x t],[]⟩) [7] (lS nd.l nd.ss nd.e) A6 (fun _ _ eA=>A8 hss) fun e' n₃ tk₃ _=>?_
  refine gmagn ok 1 0 (B9 (AE (Ak W.kt 124) 3) (.ref (it+8)) (A5 W.kt 124 n 9)) (Q:=Nx G (fun ns'=>z.cells W .none np nf ns' ep++(A0 ns'++L)) fun ns'=>ns'.map Nd.z=(pre++{ nd with ss:=nd.ss++[(x,t)],e:=e' }::post).map (app x t (q.map (·.1)))) ?_ ?_
   (add_loop (tka:=tka) (tkb:=tkb) (tkc:=tkc) (tkd:=tkd) (v:=v) (ps:=ps) (L:=L) ok hd hu q (i+1) (pre++{ nd with ss:=nd.ss++[(x,t)],e:=e' }::post) tk₁ tk₂ (.str nd.x ty) (.ref (nd.a+8)) hq' ?_ ?_ ?_)
  ·intro p hp
   exact hR p (hp.trans (app_step hnd))
  ·intro h D
   have D1:Own W.h₀ 53 h ((n+9,fr W [(sad,tka,.ref (z.s+8)),(saj,tkb,.str x t),(sae,tkc,.ref (n+8)),(sah,tkd,v),(scn,tk₁,.str nd.x ty),(scd,tk₂,.ref (nd.a+8))])::c8 it (tit (n+8) (i+1))::c8 n (Af (sv ps)) ::
    (z.cells W .none np nf (pre++nd::post) ep++(c8 nd.a (AO nd.di nd.x nd.t nd.p nd.tp nd.l)::(nd.l+8,A1 ((sv nd.ss).push (.str x t)) e')::(A0 (pre++post)++L)))):=A4 [6,4,5,1,2,3,7,0] 0 (by kernel_rfl) h D
   rw [AB] at D1
   have D2:=D1.perm (List.Perm.append_left (_::_::_::z.cells W .none np nf (pre++nd::post) ep) (Ae pre post { nd with ss:=nd.ss++[(x,t)],e:=e' } L).symm)
   rw [show z.cells W .none np nf (pre++nd::post) ep=z.cells W .none np nf (pre++{ nd with ss:=nd.ss++[(x,t)],e:=e' }::post) ep from by simp [Sr.cells,ents,ent]] at D2
   exact D2
  ·simpa using hnd
  ·intro y hy;simpa using hin y (List.mem_cons_of_mem _ hy)
  ·intro b hb
   rcases List.mem_append.mp hb with hb | hb
   ·have:=hl b (by simp [hb]);simp at this;omega
   ·rcases List.mem_cons.mp hb with rfl | hb
    ·have:=hl nd (by simp);simp at this ⊢;omega
    ·have:=hl b (by simp [hb]);simp at this;omega
theorem add_body (ok:W.Ok) {t:Nat} {z:Sr} (hA:Good A 650)
  (ns:List Nd) (hnd:(ns.map Nd.x).Nodup) (hx:x∉ns.map Nd.x) (hin:∀ y∈ps,y.1∈ns.map Nd.x) (hps:ps.length<=100) (hns:ns.length<=100) (hl:∀ nd∈ns,nd.ss.length<=100) :
  Tri W A (entry W.kt 124 n 9) G ((n+9,fr W [(sad,tka,.ref (z.s+8)),(saj,tkb,.str x t),(sae,tkc,.ref (n+8))])::c8 n (Af (sv ps))::(z.cells W .none np nf ns ep++(A0 ns++L)))
  ⟨fun _=>G,fun ns'=>∃ a di tp l,ns'.map Nd.z=ns.map (app x t (ps.map (·.1)))++[⟨x,t,a,di,ps.length,tp,l,[],0⟩],fun _=> .ok (.ret .none),fun ns'=>z.cells W .none np nf ns' (ep+1)++(A0 ns'++L)⟩:=by
 refine Tri.gof hA fun dp un F hd hu R n' tk hR=>?_
 refine gc3 ok 46 25459358522320662389693950551488736139057586665160897 (.call (.ref 117) ⟨[.ref (z.s+8),.str x t],[]⟩) [2,3,4] (c8 z.s (An (z.d+8))) (c8 z.d (Au z.q z.u z.m .none np nf)) (dD z.m (ents W ns) ep) (gd (dp+1) (un+3)) (fun _ _ eA=>get_new ok (Ab (dp+1) (un+3) eA (by omega) (by omega)) (AW W _) (ents_none hx) (by rw [ents_size];omega)) fun p n₁ tk₁ _=>?_
 refine AU ok 52 9194996634930521215503689695828879682095235307007926598 (.call (.builtin "len") ⟨[.ref (n+8)],[]⟩) [6] (c8 n (Af (sv ps))) A6 (fun _ _ eA=>Bk ok (len_tup (by rw [Am];omega))) fun p₂ n₂ tk₂ _=>?_
 refine gmore ok 56 1556821419235323755341455953796234231949182414301954053 ⟨by kernel_rfl,?_⟩
 have hy:x∉ps.map (·.1):=fun h=>by
  obtain ⟨y,hy,e⟩:=List.mem_map.mp h
  exact hx (e▸hin y hy)
 refine gcall (B9 (AE (Ak W.kt 124) 3) (.ref (n₂+8)) (A5 W.kt 124 n 9)) (by kernel_rfl) (by kernel_rfl) (L:=(n+9,fr W [(sad,tka,.ref (z.s+8)),(saj,tkb,.str x t),(sae,tkc,.ref (n+8)),(sah,tk₁,.ref (p.1+8))])::c8 n₂ (tit (n+8) 0)::c8 n (Af (sv ps))::(z.cells W .none np nf (ns++[⟨x,t,p.1,p.2.1,ps.length,tk₂,p.2.2.2,[],0⟩]) (ep+1)++(A0 (ns++[⟨x,t,p.1,p.2.1,ps.length,tk₂,p.2.2.2,[],0⟩])++L))) (fun h D=>?_)
  (Tri.at (by kernel_rfl:aOf (Ar dp un F) _=Ar (dp+1) (un+3) (A5 W.kt 124 n 9::F)) (add_loop0 ok (by omega) (by omega) ps 0 (ns++[⟨x,t,p.1,p.2.1,ps.length,tk₂,p.2.2.2,[],0⟩]) rfl ?_ ?_ ?_)) fun ns' n₃ tk₃ hn=>?_
 ·have D1:Own W.h₀ 53 h ((n+9,fr W [(sad,tka,.ref (z.s+8)),(saj,tkb,.str x t),(sae,tkc,.ref (n+8)),(sah,tk₁,.ref (p.1+8))])::c8 n₂ (tit (n+8) 0)::c8 n (Af (sv ps))::c8 z.s (An (z.d+8))::c8 z.d (Au z.q z.u z.m .none np nf)::dD z.m ((ents W ns).push ⟨hashStr W.w x,.str x t,.ref (p.1+8)⟩) (ep+1)::c8 p.1 (AO p.2.1 x t (0+(sv ps).size) tk₂ p.2.2.2)::lL p.2.2.2 #[] 0::(A0 ns++L)):=A4 [7,0,1,2,3,4,5,6] 0 (by kernel_rfl) h D
  rw [Am,Int.zero_add,show (⟨hashStr W.w x,.str x t,.ref (p.1+8)⟩:DictEntry)=ent W ⟨x,t,p.1,p.2.1,ps.length,tk₂,p.2.2.2,[],0⟩ from rfl,ents_push] at D1
  refine Own.perm D1 (List.Perm.append_left (_::_::_::z.cells W .none np nf _ _) ?_)
  have:=(Ae ns [] ⟨x,t,p.1,p.2.1,ps.length,tk₂,p.2.2.2,[],0⟩ L).symm
  rw [List.append_nil] at this
  exact this
 ·rw [List.map_append,List.nodup_append]
  exact ⟨hnd,by simp,fun a ha b hb=>by simp at hb;subst hb;rintro rfl;exact hx ha⟩
 ·intro y hy;rw [List.map_append];exact List.mem_append_left _ (hin y hy)
 ·intro b hb
  rcases List.mem_append.mp hb with hb | hb
  ·have:=hl b hb;omega
  ·simp at hb;subst hb;simp;omega
 refine gmend ok 0 0 hR ns' ⟨p.1,p.2.1,tk₂,p.2.2.2,?_⟩ (.ret .none) rfl (A4 [] 0 (by kernel_rfl))
 rw [hn,List.map_append]
 simp [app,List.count_eq_zero.mpr hy]
theorem AS (ok:W.Ok) {t:Nat} {z:Sr} (hA:Good A 650)
  (ns:List Nd) (hnd:(ns.map Nd.x).Nodup) (hx:x∉ns.map Nd.x) (hin:∀ y∈ps,y.1∈ns.map Nd.x) (hps:ps.length<=10) (hns:ns.length<=100) (hl:∀ nd∈ns,nd.ss.length<=100) :
  Tri W A (.call (.ref 124) ⟨.ref (z.s+8):: .str x t::ps.map fun p=> .str p.1 p.2,[]⟩) G (z.cells W .none np nf ns ep++(A0 ns++L))
  ⟨fun _=>G,fun ns'=>∃ a di tp l,ns'.map Nd.z=ns.map (app x t (ps.map (·.1)))++[⟨x,t,a,di,ps.length,tp,l,[],0⟩],fun _=> .ok (.ret .none),fun ns'=>z.cells W .none np nf ns' (ep+1)++(A0 ns'++L)⟩:=by
 refine Tri.gof hA fun dp un F hd hu R n tk hR=>?_
 exact gbN ok 16 68736258048 (entry W.kt 124 n 9) (dp+0) (L:=(n+9,fr W [(sad,tk,.ref (z.s+8)),(saj,tk+1,.str x t),(sae,tk+2,.ref (n+8))])::c8 n (Af (sv ps))::(z.cells W .none np nf ns ep++(A0 ns++L))) [] 0 (x:=by clear hin;cases ps,hps using short<;>kernel_rfl) (by omega) hR (add_body ok ⟨dp,un,F,rfl,hd,hu⟩ ns hnd hx hin (by omega) hns hl)
noncomputable def srO (W:Wd) (s d m tk:Nat):Sr:=⟨s,d,m,(hz W (S [95,110,111,100,101,50,105,110,102,111]),hz W (S [95,114,101,97,100,121,95,110,111,100,101,115]),hz W (S [95,110,112,97,115,115,101,100,111,117,116]),hz W (S [95,110,102,105,110,105,115,104,101,100])),(tk+3,tk+5,tk+8,tk+11,tk+6,tk+9,4)⟩
theorem init0 (ok:W.Ok) {s:Nat} (hA:Good A 600) :
  Tri W A (.call (.ref 110) ⟨[.ref (s+8)],[]⟩) G (c8 s (An (d+8))::dD d #[] 0::L)
  ⟨fun _=>G,fun z:Sr=>z.s=s,fun _=> .ok (.ret .none),fun z=>z.cells W .none 0 0 [] 0++L⟩:=by
 refine Tri.gof hA fun dp un F hd hu R n tk hR=>?_
 refine BC ok 12 1074003968 (entry W.kt 110 n 8) (dp+0) (by omega) ?_
 exact Aj ok 118 22882817293556227854410143640499422541376907359381198015462743994525375083623027111118850507627284518982605555711075322131157876930 hR (srO W s d (n+1) tk) rfl (.ret .none) rfl [1,2,3,0] 1
theorem new0 (ok:W.Ok) (hA:Good A 550) :
  Tri W A (.call (.ref 174) ⟨[],[]⟩) G L
  (Gives G (fun z:Sr=> .ref (z.s+8)) fun z=>z.cells W .none 0 0 [] 0++L):=by
 refine Tri.gof hA fun dp un F hd hu R n tk hR=>?_
 refine Cg ok 35 348534214318771221202361441661988590583808 (.call (.ref 110) ⟨[.ref (n+1+8)],[]⟩) [0,1] (c8 (n+1) (An (n+8))) (dD n #[] 0) (gd (dp+1) (un+1)) (fun _ _ eA=>init0 ok (Ab (dp+1) (un+1) eA (by omega) (by omega))) fun z n₁ tk₁ hz=>?_
 exact gend hR z trivial (.ret (.ref (n+1+8))) (congrArg (fun s=>Except.ok (Flow.ret (Value.ref (s+8)))) hz) (by kernel_rfl) (by kernel_rfl) (A4 [] 0 (by kernel_rfl))
noncomputable def gE (h:Nat->Int) (x:Nat->Str) (t l:Nat->Nat):Array DictEntry:=#[⟨h 0,.str (x 0) (t 0),.ref (l 0+8)⟩,⟨h 1,.str (x 1) (t 1),.ref (l 1+8)⟩,⟨h 2,.str (x 2) (t 2),.ref (l 2+8)⟩,⟨h 3,.str (x 3) (t 3),.ref (l 3+8)⟩,⟨h 4,.str (x 4) (t 4),.ref (l 4+8)⟩,⟨h 5,.str (x 5) (t 5),.ref (l 5+8)⟩]
noncomputable def gL (l:Nat->Nat) (ps:Nat->List (Str×Nat)) (le:Nat->Nat):List Cell:=[lS (l 0) (ps 0) (le 0),lS (l 1) (ps 1) (le 1),lS (l 2) (ps 2) (le 2),lS (l 3) (ps 3) (le 3),lS (l 4) (ps 4) (le 4),lS (l 5) (ps 5) (le 5)]
noncomputable def C4 (f0:Value) (b:Bool) (g:Nat) (i:Int) (f6 f7:Value):Obj:=⟨.type "dict_itemiterator",none,.fields #[f0,.bool b,.ref (g+8),.int i 0,.int 6 0,.int 6 0,f6,f7],#[]⟩
theorem inext (ok:W.Ok) {h:Nat->Int} {x:Nat->Str} {t l:Nat->Nat} {s:Str} {ts:Nat} (hi:i<6) :
  Pc W (Ar dp un F) (pyNext (.ref (it+8))) G (c8 it (C4 .none false g (i:Nat) (.str s ts) (.ref r))::dD g (gE h x t l) 6::L)
  (⟨fun _=>G,fun _=>True,fun a=>some (.ref (a+8)),fun a=>c8 a (Af #[.str (x i) (t i),.ref (l i+8)])::c8 it (C4 (.int (((a+8:Nat)):Int) 0) false g (i+1:Nat) (.str (x i) (t i)) (.ref (l i+8)))::dD g (gE h x t l) 6::L⟩:A3 (Option Value) Nat):=by
 refine Pc.of Ea Ba _ (by rw [BS]) fun R n tk c₀ d f gg u hA hR=>?_
 exact Aj ok 29 5616030155307639644093820791858915446849 hR n trivial (.ret (.ref (n+8))) rfl [] 0 (x:=by rcases i with _|_|_|_|_|_|i<;>first | (exfalso;omega) | kernel_rfl)
theorem inext0 (ok:W.Ok) {h:Nat->Int} {x:Nat->Str} {t l:Nat->Nat} :
  Pc W (Ar dp un F) (pyNext (.ref (it+8))) G (c8 it (C4 .none false g (0:Nat) .none .none)::dD g (gE h x t l) 6::L)
  (⟨fun _=>G,fun _=>True,fun a=>some (.ref (a+8)),fun a=>c8 a (Af #[.str (x 0) (t 0),.ref (l 0+8)])::c8 it (C4 (.int (((a+8:Nat)):Int) 0) false g (1:Nat) (.str (x 0) (t 0)) (.ref (l 0+8)))::dD g (gE h x t l) 6::L⟩:A3 (Option Value) Nat):=by
 refine Pc.of Ea Ba _ (by rw [BS]) fun R n tk c₀ d f gg u hA hR=>?_
 exact Aj ok 29 5616030155307639644093820791858915446849 hR n trivial (.ret (.ref (n+8))) rfl [] 0
theorem inext6 (ok:W.Ok) {h:Nat->Int} {x:Nat->Str} {t l:Nat->Nat} {ov ow:Value} :
  Pc W (Ar dp un F) (pyNext (.ref (it+8))) G (c8 it (C4 .none false g (6:Nat) ov ow)::dD g (gE h x t l) 6::L)
  (⟨fun _=>G,fun _=>True,fun _=>none,fun _=>L⟩:A3 (Option Value) Unit):=by
 refine Pc.of Ea Ba _ (by rw [BS]) fun R n tk c₀ d f gg u hA hR=>?_
 exact Aj ok 16 18018867456774209 hR () trivial .next rfl [] 4
theorem own_in {X:List Cell} {a b:Cell} (D:Own h₀ 53 h (X++(a::b::(C++L)))):Own h₀ 53 h (X++(C++a::b::L)):=
 D.perm (List.Perm.append_left X (((List.perm_middle (l₁:=C) (l₂:=b::L) (a:=a)).trans ((List.perm_middle (l₁:=C) (l₂:=L) (a:=b)).cons a)).symm))
theorem own_out {X:List Cell} {a b:Cell} (D:Own h₀ 53 h (X++(C++a::b::L))):Own h₀ 53 h (a::b::(X++(C++L))):=by
 have e:=D.perm (List.Perm.append_left X ((List.perm_middle (l₁:=C) (l₂:=b::L) (a:=a)).trans ((List.perm_middle (l₁:=C) (l₂:=L) (a:=b)).cons a)))
 exact e.perm ((List.perm_middle (l₁:=X) (l₂:=b::(C++L)) (a:=a)).trans ((List.perm_middle (l₁:=X) (l₂:=C++L) (a:=b)).cons a))
theorem iadd_list {l b:Addr} (hz:xs.size+ys.size<=1000) :
  Tri W A (.builtin "list.__iadd__" ⟨[.ref l,.ref b],[]⟩) G ((l,A1 xs e)::(b,A1 ys e2)::L) (Gives G (fun _:Nat=> .ref l) fun e'=>(l,A1 (xs++ys) e')::(b,A1 ys e2)::L):=
 Tri.bi (by kernel_rfl) F.entry_list_iadd fun R hR h n tk hs D=>
  AutoSeq1.list___iadd___list_list_0 l xs e b ys e2 (by
   have:Builtin.List.listTooLong (xs.size+ys.size)=false:=by
    unfold Builtin.List.listTooLong
    simp [sizeLine_eq];omega
   rw [this];simp) (line (by omega)) (by have:=line hz;omega) _ _ A R _ ⟨D.at0,D.at1,hR (bump xs (xs++ys) e) trivial _ n _ (by rw [(Heap.SameBut.update ..).1];exact hs) (D.update (i:=0) (f:=Obj.mapSeq fun xs=>xs++ys) rfl rfl)⟩
theorem collect (ok:W.Ok) (hz:xs.size<=900) (hA:Good A 900) :
  Tri W A (.builtin "proto.collect" ⟨[.ref (l+8)],[]⟩) G (lL l xs e::L) (Gives G (fun p:Nat×Nat=> .ref (p.1+8)) fun p=>lL p.1 xs p.2::lL l xs e::L):=by
 refine Tri.gof hA fun dp un F hd hu R n tk hR=>?_
 refine gmagn ok 1 0 (.builtin "list.__iadd__" ⟨[.ref (n+8),.ref (l+8)],[]⟩) (Q:=Gives G (fun _:Nat=> .ref (n+8)) fun e'=>lL n xs e'::lL l xs e::L) (fun p hp=>hR (n,p) trivial) (L:=lL n #[] 0::lL l xs e::L) (A4 [] 0 (by kernel_rfl)) ?_
 have z:=iadd_list (W:=W) (A:=Ar dp un F) (G:=G) (L:=L) (l:=n+8) (b:=l+8) (xs:=#[]) (ys:=xs) (e:=0) (e2:=e) (by simp;omega)
 simp only [Array.empty_append] at z
 exact z
noncomputable def AI (f s:Nat):Obj:=⟨.type "method",none,.fields #[.ref f,.ref s],#[]⟩
theorem bound (ok:W.Ok) {b s:Nat} {args:List Value} {α:Type} {Q:Post α} (spec:Tri W A (.call (.ref 124) ⟨.ref (s+8)::args,[]⟩) G L Q) :
  Tri W A (.call (.ref (b+8)) ⟨args,[]⟩) G (c8 b (AI 124 (s+8))::L) Q:=by
 refine Tri.of fun R n tk hR=>?_
 exact Cq ok 1 1 (.call (.ref 124) ⟨.ref (s+8)::args,[]⟩) _ [] 1 hR spec
noncomputable def isFor (s:Stmt):Stmt:=AE (Br s).b 0
noncomputable def tgF (s:Stmt):PySem.Expr:=(Br s).e
noncomputable def DC (s:Stmt):List Stmt:=(Br s).b
noncomputable def isTup (e:PySem.Expr):PySem.Expr:= .Tuple (Bp e).l (Bp e).k (Bp e).p
noncomputable abbrev fF (W:Wd):Stmt:=isFor (AE (Ak W.kt 110) 4)
noncomputable def oeF (s:Stmt):List Stmt:=(Br s).o
theorem AJ {X Y:List Cell} (D:Own h₀ 53 h (X++(Y++(C++L)))):Own h₀ 53 h (X++(C++(Y++L))):=
 D.perm (List.Perm.append_left X (List.perm_append_comm_assoc ..))
theorem lotg {tg:PySem.Expr} {ov ow:Value} (ht:tg=isTup tg) :
  Pc W A (letOwnedTupleGo tg (.ref (it+8)) (.ref (a+8))) G (c8 a (Af #[ov,ow])::c8 it (C4 (.int (((a+8:Nat)):Int) 0) false g i ov ow)::L)
  (⟨fun _=>G,fun _=>True,fun _=>(),fun _=>c8 a (Af #[ov,ow])::c8 it (C4 .none false g i ov ow)::L⟩:A3 Unit Unit):=by
 intro K hK E h n tk hs D
 rw [ht]
 unfold isTup
 unfold letOwnedTupleGo
 refine wpAny_bind (wpAny_load D.at1 ?_)
 show wpAny _ _ (if (["enumerate","zip","dict_itemiterator","dict_reverseitemiterator","odict_iterator","itertools.zip_longest","itertools.pairwise"].contains "dict_itemiterator" &&
   (#[.int (((a+8:Nat)):Int) 0,.bool false,.ref (g+8),.int i 0,.int 6 0,.int 6 0,ov,ow]:Array Value)[0]?==some (rawInt ((a+8:Nat))))=true then _ else _) _ _ _
 rw [if_pos (by simp [rawInt])]
 refine wpAny_bind (wpAny_rule ?_)
 show wpAny _ _ (setField (.ref (it+8)) 0 .none) _ _ _
 exact wpAny_setField D.at1 rfl (by simp) (hK () trivial _ n tk (by rw [(Heap.SameBut.update ..).1];exact hs) (D.update (i:=1) (f:=Obj.mapFields fun vs=>vs.setIfInBounds 0 .none) rfl rfl))
theorem iassign0 (ok:W.Ok) {t:Nat} {v w:Value} :
  Pc W (Ar dp un F) (assign (tgF (fF W)) (A5 W.kt 110 n 8) (.ref (a+8))) G (c8 a (Af #[.str x t,.ref (l+8)])::AF W n [(sad,tka,v),(sbl,tkb,w)]::L)
  (⟨fun _=>G,fun _=>True,fun _=>(),fun p=>AF W n [(sad,tka,v),(sbl,tkb,w),(saj,p.1,.str x t),(sae,p.2,.ref (l+8))]::L⟩:A3 Unit (Nat×Nat)):=by
 refine Pc.of Bo Ap _ (by rw [Ax]) fun R n' tk c₀ d f gg u hA hR=>?_
 exact Aj ok 60 6251234276669931970745120588693123405265466726352687169 hR (tk,tk+1) trivial .next rfl [] 4
theorem iassign1 (ok:W.Ok) {t:Nat} {v w v₁ v₂:Value} :
  Pc W (Ar dp un F) (assign (tgF (fF W)) (A5 W.kt 110 n 8) (.ref (a+8))) G (c8 a (Af #[.str x t,.ref (l+8)])::AF W n [(sad,tka,v),(sbl,tkb,w),(saj,tkc,v₁),(sae,tkd,v₂)]::L)
  (⟨fun _=>G,fun _=>True,fun _=>(),fun p=>AF W n [(sad,tka,v),(sbl,tkb,w),(saj,p.1,.str x t),(sae,p.2,.ref (l+8))]::L⟩:A3 Unit (Nat×Nat)):=by
 refine Pc.of Bo Ap _ (by rw [Ax]) fun R n' tk c₀ d f gg u hA hR=>?_
 exact Aj ok 60 6251234276669931970745120588693123405265466726352687169 hR (tkc,tkd) trivial .next rfl [] 4
theorem ibody (ok:W.Ok) {l le t:Nat} {z:Sr} {w:Value} (hd:dp<=600) (hu:un<=600)
  (ns:List Nd) (hnd:(ns.map Nd.x).Nodup) (hx:x∉ns.map Nd.x) (hin:∀ y∈ps,y.1∈ns.map Nd.x) (hps:ps.length<=10) (hns:ns.length<=100) (hl:∀ nd∈ns,nd.ss.length<=100) :
  Pc W (Ar dp un F) (execs (DC (fF W)) (A5 W.kt 110 n 8)) G (AF W n [(sad,tka,.ref (z.s+8)),(sbl,tkb,w),(saj,tkc,.str x t),(sae,tkd,.ref (l+8))]::lS l ps le::(z.cells W .none 0 0 ns ep++(A0 ns++L)))
  (⟨fun _=>G,fun ns'=>∃ a di tp l,ns'.map Nd.z=ns.map (app x t (ps.map (·.1)))++[⟨x,t,a,di,ps.length,tp,l,[],0⟩],fun _=> .next,fun ns'=>AF W n [(sad,tka,.ref (z.s+8)),(sbl,tkb,w),(saj,tkc,.str x t),(sae,tkd,.ref (l+8))]::lS l ps le::(z.cells W .none 0 0 ns' (ep+1)++(A0 ns'++L))⟩:A3 Flow (List Nd)):=by
 refine Pc.of id Ai _ (by rw [Ao]) fun R n' tk c₀ d f gg u hA hR=>?_
 refine BB ok 37 16506353251662037990738081755244953338049 hA (.builtin "proto.collect" ⟨[.ref (l+8)],[]⟩) [2] (lS l ps le) (gd dp un) (fun _ _ eA=>collect ok (by rw [Am];omega) (Ab dp un eA (by omega) (by omega))) fun p n₁ tk₁ _=>?_
 let qs:=ps
 induction ps,hps using short
 all_goals
  refine pcL ok 4 193 hA (.call (.ref (n'+8)) ⟨.str x t::qs.map fun p=> .str p.1 p.2,[]⟩) (c8 n' (AI 124 (z.s+8))::(z.cells W .none 0 0 ns ep++(A0 ns++(AF W n [(sad,tka,.ref (z.s+8)),(sbl,tkb,w),(saj,tkc,.str x t),(sae,tkd,.ref (l+8))]::lS l qs le::L)))) (gd dp un) (fun h D=>own_in (X:=c8 n' (AI 124 (z.s+8))::z.cells W .none 0 0 ns ep) (A4 [0,2,4,5,6,3,1] 1 (by kernel_rfl) h D)) (fun _ eA=>bound ok (AS (ps:=qs) ok (Ab dp un eA (Nat.le_trans hd (by decide)) (Nat.le_trans hu (by decide))) ns hnd hx hin (by assumption) hns hl)) fun ns' n₂ tk₂ hn=>?_
  exact gmend ok 1 0 hR ns' hn .next rfl (fun h D=>own_out (X:=z.cells W .none 0 0 ns' (ep+1)) (C:=A0 ns') (A4 [] 0 (by kernel_rfl) h D))
noncomputable def St (x:Str) (t:Nat) (ps:List (Str×Nat)) (ns ns':List Nd):Prop:=∃ a di tp l,ns'.map Nd.z=ns.map (app x t (ps.map (·.1)))++[⟨x,t,a,di,ps.length,tp,l,[],0⟩]
noncomputable def Ch (x:Nat->Str) (t:Nat->Nat) (ps:Nat->List (Str×Nat)):Nat->Nat->List Nd->List Nd->Prop
 | 0,_,ns,ns'=>ns'=ns
 | f+1,k,ns,ns'=>∃ ns1,St (x k) (t k) (ps k) ns ns1/\Ch x t ps f (k+1) ns1 ns'
structure GOk (x:Nat->Str) (ps:Nat->List (Str×Nat)):Prop where
 inj:∀ i j,i<6->j<6->x i=x j->i=j
 len:∀ k,k<6->(ps k).length<=10
 mem:∀ k,k<6->∀ y∈ps k,∃ i,i<k/\y.1=x i
structure Inv (x:Nat->Str) (k:Nat) (ns:List Nd):Prop where
 nm:ns.map Nd.x=(List.range k).map x
 len:∀ nd∈ns,nd.ss.length<=10*k
 le:k<=6
theorem Inv.nodup {x:Nat->Str} {k:Nat} {ns:List Nd} (h:Inv x k ns) (hg:∀ i j,i<6->j<6->x i=x j->i=j):(ns.map Nd.x).Nodup:=by
 rw [h.nm,List.nodup_iff_pairwise_ne,List.pairwise_map]
 refine List.Pairwise.imp_of_mem (fun {a b} ha hb hab e=>?_) List.nodup_range
 have:=h.le
 exact hab (hg a b (by have:=List.mem_range.mp ha;omega) (by have:=List.mem_range.mp hb;omega) e)
theorem Inv.new {x:Nat->Str} {ps:Nat->List (Str×Nat)} {k:Nat} {ns:List Nd} (h:Inv x k ns) (hg:GOk x ps) (hk:k<6):x k∉ns.map Nd.x:=by
 rw [h.nm]
 intro hm
 obtain ⟨i,hi,e⟩:=List.mem_map.mp hm
 have:=List.mem_range.mp hi
 have:=hg.inj i k (by omega) hk e
 omega
theorem Inv.old {x:Nat->Str} {ps:Nat->List (Str×Nat)} {k:Nat} {ns:List Nd} (h:Inv x k ns) (hg:GOk x ps) (hk:k<6):∀ y∈ps k,y.1∈ns.map Nd.x:=by
 intro y hy
 obtain ⟨i,hi,e⟩:=hg.mem k hk y hy
 rw [h.nm,e]
 exact List.mem_map_of_mem (List.mem_range.mpr hi)
theorem Inv.size {x:Nat->Str} {k:Nat} {ns:List Nd} (h:Inv x k ns):ns.length<=100:=by
 have:=congrArg List.length h.nm
 simp at this
 have:=h.le
 omega
theorem Inv.sum {x:Nat->Str} {k:Nat} {ns:List Nd} (h:Inv x k ns):∀ nd∈ns,nd.ss.length<=100:=by
 intro nd hn
 have:=h.len nd hn
 have:=h.le
 omega
theorem Inv.step {x:Nat->Str} {t:Nat} {ps:Nat->List (Str×Nat)} {k:Nat} {ns ns':List Nd} (h:Inv x k ns) (hg:GOk x ps) (hk:k<6) (hs:St (x k) t (ps k) ns ns'):Inv x (k+1) ns':=by
 obtain ⟨a,di,tp,l,e⟩:=hs
 refine ⟨?_,fun nd hn=>?_,hk⟩
 ·have:=congrArg (List.map Nd.x) e
  rw [List.map_map,show Nd.x ∘ Nd.z=Nd.x from rfl,List.map_append,List.map_map,show Nd.x ∘ app (x k) t ((ps k).map (·.1))=Nd.x from rfl,h.nm] at this
  rw [this,List.range_succ,List.map_append];rfl
 ·have hm:nd.z∈ns'.map Nd.z:=List.mem_map_of_mem hn
  rw [e] at hm
  have hl:=hg.len k hk
  rcases List.mem_append.mp hm with hm | hm
  ·obtain ⟨b,hb,eb⟩:=List.mem_map.mp hm
   have e2:nd.ss=(app (x k) t ((ps k).map (·.1)) b).ss:=(congrArg Nd.ss eb).symm
   have:=h.len b hb
   rw [e2]
   simp only [app,List.length_append,List.length_replicate]
   have:((ps k).map (·.1)).count b.x<=(ps k).length:=by simpa using List.count_le_length (a:=b.x) (l:=(ps k).map (·.1))
   omega
  ·have e2:nd.z=_:=List.mem_singleton.mp hm
   have:nd.ss=[]:=congrArg Nd.ss e2
   rw [this];simp
theorem blk (ok:W.Ok) {c:Cell}:Tri W A (.block (oeF (fF W)) (A5 W.kt 110 n 8)) G (c::L) (Nx G fun _:Unit=>L):=by
 refine Tri.of fun R n' tk hR=>?_
 exact Aj ok 0 0 hR () trivial .next rfl [] 1
theorem tgT:tgF (fF W)=isTup (tgF (fF W)):=by kernel_rfl
theorem DV {α:Type}:∀ {l:List α} {i:Nat} {c:α},l[i]?=some c->l.Perm (c::l.eraseIdx i)
 | x::l,0,c,h=>by cases h;exact .refl _
 | x::l,i+1,c,h=>((DV (l:=l) h).cons x).trans (.swap ..)
noncomputable abbrev gC (l:Nat->Nat) (ps:Nat->List (Str×Nat)) (le:Nat->Nat) (i:Nat):Cell:=(lS (l i) (ps i) (le i))
theorem gL_at {l le:Nat->Nat} {ps:Nat->List (Str×Nat)} (hi:i<6):(gL l ps le)[i]?=some (gC l ps le i):=by
 rcases i with _|_|_|_|_|_|i<;>first | (exfalso;omega) | rfl
noncomputable abbrev gI (W:Wd) (n tka tkb:Nat) (z:Sr) (w:Value) (ext:List (Str×Nat×Value)):Cell:=(AF W n ((sad,tka,.ref (z.s+8))::(sbl,tkb,w)::ext))
noncomputable abbrev gN (tkc tkd:Nat) (v₁ v₂:Value):List (Str×Nat×Value):=[(saj,tkc,v₁),(sae,tkd,v₂)]
section
variable {W:Wd} (ok:W.Ok) {dp un:Nat} {F:List Env} {G:List GenState} {L:List Cell} {n g it tka tkb:Nat} {z:Sr} {w:Value} {h:Nat->Int} {x:Nat->Str} {t l le:Nat->Nat} {ps:Nat->List (Str×Nat)} (hd:dp<=600) (hu:un<=600) (hg:GOk x ps)
include ok hd hu hg
theorem ilt (hi6:i<6) {ns:List Nd} (hi:Inv x i ns) {hh:Nat->Int} {E:Value->Shared->Prop} {p:Nat×Nat} {K:Flow->Shared->Prop}
  (nx:∀ ns1,St (x i) (t i) (ps i) ns ns1->∀ h n0 tk0,h.objs.size=n0+8->Own W.h₀ 53 h (gI W n tka tkb z w (gN p.1 p.2 (.str (x i) (t i)) (.ref (l i+8)))::c8 it (C4 .none false g (i+1:Nat) (.str (x i) (t i)) (.ref (l i+8)))::dD g (gE hh x t l) 6::(gL l ps le++(z.cells W .none 0 0 ns1 (i+1)++(A0 ns1++L))))->K .next ⟨h,⟨G⟩,W.d,tk0,W.os⟩)
  {hp:Heap} {n0 tk0:Nat} (hs:hp.objs.size=n0+8) (D:Own W.h₀ 53 hp (gI W n tka tkb z w (gN p.1 p.2 (.str (x i) (t i)) (.ref (l i+8)))::c8 it (C4 .none false g (i+1:Nat) (.str (x i) (t i)) (.ref (l i+8)))::dD g (gE hh x t l) 6::(gL l ps le++(z.cells W .none 0 0 ns i++(A0 ns++L))))) :
  wpAny W.M (Ar dp un F) (execs (DC (fF W)) (A5 W.kt 110 n 8)) K E ⟨hp,⟨G⟩,W.d,tk0,W.os⟩:=
 ibody (ep:=i) (ps:=ps i) (l:=l i) (le:=le i) (L:=c8 it (C4 .none false g (i+1:Nat) (.str (x i) (t i)) (.ref (l i+8)))::dD g (gE hh x t l) 6::((gL l ps le).eraseIdx i++L)) ok hd hu ns (hi.nodup hg.inj) (hi.new hg hi6) (hi.old hg hi6) (hg.len _ hi6) hi.size hi.sum _
  (fun ns1 hn h4 n4 tk4 hs4 D4=>nx ns1 hn h4 n4 tk4 hs4
   ((A2 [[gI W n tka tkb z w (gN p.1 p.2 (.str (x i) (t i)) (.ref (l i+8)))],[gC l ps le i],z.cells W .none 0 0 ns1 (i+1),A0 ns1,[c8 it (C4 .none false g (i+1:Nat) (.str (x i) (t i)) (.ref (l i+8)))],[dD g (gE hh x t l) 6],(gL l ps le).eraseIdx i] [0,4,5,1,6,2,3] (tail:=L)  D4).perm (List.Perm.append_left [_,_,_] ((DV (gL_at hi6)).symm.append_right _))))
  _ _ _ _ hs (A2 [[gI W n tka tkb z w (gN p.1 p.2 (.str (x i) (t i)) (.ref (l i+8)))],[c8 it (C4 .none false g (i+1:Nat) (.str (x i) (t i)) (.ref (l i+8)))],[dD g (gE hh x t l) 6],[gC l ps le i],(gL l ps le).eraseIdx i,z.cells W .none 0 0 ns i,A0 ns] [0,3,5,6,1,2,4] (tail:=L)  (D.perm (List.Perm.append_left [_,_,_] ((DV (gL_at hi6)).append_right _))))
theorem ilk:∀ (k i:Nat) (ns:List Nd) (tkc tkd:Nat) (v₁ v₂:Value) (s:Str) (ts r:Nat),i+k=6->Inv x i ns ->
  Tri W (Ar dp un F) (B9 (fF W) (.ref (it+8)) (A5 W.kt 110 n 8)) G (gI W n tka tkb z w (gN tkc tkd v₁ v₂)::c8 it (C4 .none false g (i:Nat) (.str s ts) (.ref r))::dD g (gE h x t l) 6::(gL l ps le++(z.cells W .none 0 0 ns i++(A0 ns++L))))
  (Nx G (fun ns'=>gL l ps le++(z.cells W .none 0 0 ns' 6++(A0 ns'++L))) fun ns'=>Ch x t ps k i ns ns')
 | 0,i,ns,tkc,tkd,v₁,v₂,s,ts,r,hik,hi=>fun R hR hp n₀ tk hs D=>by
  obtain rfl:i=6:=hik
  refine BX (Pc.go (inext6 (g:=g) (h:=h) (x:=x) (t:=t) (l:=l) (ov:= .str s ts) (ow:= .ref r) (L:=gI W n tka tkb z w (gN tkc tkd v₁ v₂)::(gL l ps le++(z.cells W .none 0 0 ns 6++(A0 ns++L)))) ok) (fun _ _ h1 n1 tk1 hs1 D1=>?_) hs (A4 [1,2,0] 0 (by kernel_rfl) hp D))
  exact blk ok R (fun _ _ h2 n2 tk2 hs2 D2=>hR ns rfl h2 n2 tk2 hs2 D2) h1 n1 tk1 hs1 D1
 | k+1,i,ns,tkc,tkd,v₁,v₂,s,ts,r,hik,hi=>fun R hR hp n₀ tk hs D=>by
  have hi6:i<6:=by omega
  refine BX (Pc.go (inext (g:=g) (h:=h) (x:=x) (t:=t) (l:=l) (s:=s) (ts:=ts) (r:=r) (L:=gI W n tka tkb z w (gN tkc tkd v₁ v₂)::(gL l ps le++(z.cells W .none 0 0 ns i++(A0 ns++L)))) ok hi6) (fun a _ h1 n1 tk1 hs1 D1=>?_) hs (A4 [1,2,0] 0 (by kernel_rfl) hp D))
  refine Pc.go (lotg tgT) (fun _ _ h2 n2 tk2 hs2 D2=>?_) hs1 D1
  refine Pc.go (iassign1 (tka:=tka) (tkb:=tkb) (tkc:=tkc) (tkd:=tkd) (v:= .ref (z.s+8)) (w:=w) (v₁:=v₁) (v₂:=v₂) (l:=l i) (t:=t i) (x:=x i) (L:=c8 it (C4 .none false g (i+1:Nat) (.str (x i) (t i)) (.ref (l i+8)))::dD g (gE h x t l) 6::(gL l ps le++(z.cells W .none 0 0 ns i++(A0 ns++L)))) ok) (fun p _ h3 n3 tk3 hs3 D3=>?_) hs2 (A4 [0,3] 0 (by kernel_rfl) h2 D2)
  refine ilt ok hd hu hg hi6 hi (fun ns1 hn h4 n4 tk4 hs4 D4=>?_) hs3 D3
  exact ilk k (i+1) ns1 p.1 p.2 (.str (x i) (t i)) (.ref (l i+8)) (x i) (t i) (l i+8) (by omega) (hi.step hg hi6 hn) R (fun ns' hc=>hR ns' ⟨ns1,hn,hc⟩) h4 n4 tk4 hs4 D4
theorem il0 (ns:List Nd) (hi:Inv x 0 ns) :
  Tri W (Ar dp un F) (B9 (fF W) (.ref (it+8)) (A5 W.kt 110 n 8)) G (gI W n tka tkb z w []::c8 it (C4 .none false g (0:Nat) .none .none)::dD g (gE h x t l) 6::(gL l ps le++(z.cells W .none 0 0 ns 0++(A0 ns++L))))
  (Nx G (fun ns'=>gL l ps le++(z.cells W .none 0 0 ns' 6++(A0 ns'++L))) fun ns'=>Ch x t ps 6 0 ns ns'):=by
 intro R hR hp n₀ tk hs D
 refine BX (Pc.go (inext0 (g:=g) (h:=h) (x:=x) (t:=t) (l:=l) (L:=gI W n tka tkb z w []::(gL l ps le++(z.cells W .none 0 0 ns 0++(A0 ns++L)))) ok) (fun a _ h1 n1 tk1 hs1 D1=>?_) hs (A4 [1,2,0] 0 (by kernel_rfl) hp D))
 refine Pc.go (lotg tgT) (fun _ _ h2 n2 tk2 hs2 D2=>?_) hs1 D1
 refine Pc.go (iassign0 (tka:=tka) (tkb:=tkb) (v:= .ref (z.s+8)) (w:=w) (l:=l 0) (t:=t 0) (x:=x 0) (L:=c8 it (C4 .none false g (0+1:Nat) (.str (x 0) (t 0)) (.ref (l 0+8)))::dD g (gE h x t l) 6::(gL l ps le++(z.cells W .none 0 0 ns 0++(A0 ns++L)))) ok) (fun p _ h3 n3 tk3 hs3 D3=>?_) hs2 (A4 [0,3] 0 (by kernel_rfl) h2 D2)
 refine ilt ok hd hu hg (by decide) hi (fun ns1 hn h4 n4 tk4 hs4 D4=>?_) hs3 D3
 exact ilk (F:=F) ok hd hu hg 5 1 ns1 p.1 p.2 (.str (x 0) (t 0)) (.ref (l 0+8)) (x 0) (t 0) (l 0+8) rfl (hi.step hg (by decide) hn) R (fun ns' hc=>hR ns' ⟨ns1,hn,hc⟩) h4 n4 tk4 hs4 D4
end
theorem initg (ok:W.Ok) {s:Nat} {h:Nat->Int} {x:Nat->Str} {t l le:Nat->Nat} {ps:Nat->List (Str×Nat)} (hA:Good A 550) (hg:GOk x ps) :
  Tri W A (.call (.ref 110) ⟨[.ref (s+8),.ref (g+8)],[]⟩) G (c8 s (An (d+8))::dD d #[] 0::dD g (gE h x t l) 6::(gL l ps le++L))
  ⟨fun _=>G,fun p:Sr×List Nd=>p.1.s=s/\Ch x t ps 6 0 [] p.2,fun _=> .ok (.ret .none),fun p=>gL l ps le++(p.1.cells W .none 0 0 p.2 6++(A0 p.2++L))⟩:=by
 refine Tri.gof hA fun dp un F hd hu R n tk hR=>?_
 refine BC ok 12 1074003968 (entry W.kt 110 n 8) (dp+0) (by omega) ?_
 refine gcD ok 148 234951715609848928583829369071727539422498157543973354059506122138048707980905883854525994231672316601734006533118522660194718139722158046712533578604871874 (B9 (fF W) (.ref (n+3+8)) (A5 W.kt 110 n 8)) (AF W n [(sad,tk,.ref (s+8)),(sbl,tk+1,.ref (g+8))]::c8 (n+3) (C4 .none false g (0:Nat) .none .none)::dD g (gE h x t l) 6::(gL l ps le++((srO W s d (n+1) tk).cells W .none 0 0 [] 0++(A0 []++L)))) [1,3,0,6,7,8,9,10,11,12,4,5,2] 1 (BP (Ar (dp+1) (un+3) (A5 W.kt 110 n 8::F))) (fun _ eA=>Tri.at eA (il0 (z:=srO W s d (n+1) tk) ok (by omega) (by omega) hg [] ⟨rfl,by simp,by omega⟩)) fun ns' n₃ tk₃ hn=>?_
 exact Aj ok 0 0 hR (srO W s d (n+1) tk,ns') ⟨rfl,hn⟩ (.ret .none) rfl [] 0
theorem newg (ok:W.Ok) {h:Nat->Int} {x:Nat->Str} {t l le:Nat->Nat} {ps:Nat->List (Str×Nat)} (hA:Good A 500) (hg:GOk x ps) :
  Tri W A (.call (.ref 174) ⟨[.ref (g+8)],[]⟩) G (dD g (gE h x t l) 6::(gL l ps le++L))
  ⟨fun _=>G,fun p:Sr×List Nd=>Ch x t ps 6 0 [] p.2,fun p=> .ok (.ret (.ref (p.1.s+8))),fun p=>gL l ps le++(p.1.cells W .none 0 0 p.2 6++(A0 p.2++L))⟩:=by
 refine Tri.gof hA fun dp un F hd hu R n tk hR=>?_
 refine gcD ok 40 374235763009044328492531047477413220720647226785792 (.call (.ref 110) ⟨[.ref (n+1+8),.ref (g+8)],[]⟩) (c8 (n+1) (An (n+8))::dD n #[] 0::dD g (gE h x t l) 6::(gL l ps le++L)) [] 0 (gd (dp+1) (un+1)) (fun _ eA=>initg ok (Ab (dp+1) (un+1) eA (by omega) (by omega)) hg) fun p n₁ tk₁ hp=>?_
 exact gend hR p hp.2 (.ret (.ref (n+1+8))) (congrArg (fun s=>Except.ok (Flow.ret (Value.ref (s+8)))) hp.1) (by kernel_rfl) (by kernel_rfl) (A4 [] 0 (by kernel_rfl))
noncomputable def Nd.v (nd:Nd):Str×Int×List Str:=(nd.x,nd.p,nd.ss.map (·.1))
theorem tup_of (ok:W.Ok) {xs:List Value} (hx:xs.length<=6) (hA:Good A 800) :
  Tri W A (.call (.type "tuple") ⟨[.ref (r+8)],[]⟩) G (lL r xs.toArray e::L)
  (Gives G (fun q:Nat=> .ref (q+8)) fun q=>c8 q (Af xs.toArray)::lL r xs.toArray e::L):=by
 refine Tri.gof hA fun dp un F hd hu R n tk hR=>?_
 refine AU ok 4 1 (.builtin "proto.collect" ⟨[.ref (r+8)],[]⟩) [0] (lL r xs.toArray e) (gd dp (un+2)) (fun _ _ eA=>collect ok (by simp;omega) (Ab dp (un+2) eA (by omega) (by omega))) fun p n₁ tk₁ _=>?_
 exact Aj ok 10 17043521 hR n₁ trivial (.ret (.ref (n₁+8))) rfl [1,0] 1 (x:=by have h10:xs.length<=10:=Nat.le_trans hx (by decide);clear hx;cases xs,h10 using short<;>kernel_rfl)
noncomputable def C7 (q:List Str) (nd:Nd):Str×Int×List Str:=(nd.x,if nd.x∈q then -1 else nd.p,nd.ss.map (·.1))
theorem gr_loop (ok:W.Ok) {tu:Nat} {z:Sr} {v:Value} (hd:dp<=700) (hu:un<=700) :
  ∀ (q:List (Str×Nat)) (i:Nat) (ns:List Nd) (tk₅:Nat) (v₁:Value),ps.drop i=q->(ns.map Nd.x).Nodup->(∀ y∈q,y.1∈ns.map Nd.x) ->
  Tri W (Ar dp un F) (B9 (AE (Ak W.kt 136) 3) (.ref (it+8)) (A5 W.kt 136 n 8)) G
  (AF W n [(sad,tka,v),(sau,tkb,.ref (tu+8)),(sas,tkc,.ref (z.m+8)),(saj,tk₅,v₁)]::c8 it (tit (tu+8) i)::c8 tu (Af (sv ps))::dD z.m (ents W ns) ep::(A0 ns++L))
  (Nx G (fun p=>AF W n ((sad,tka,v)::(sau,tkb,.ref (tu+8))::(sas,tkc,.ref (z.m+8))::p.2)::c8 tu (Af (sv ps))::dD z.m (ents W p.1) ep::(A0 p.1++L)) fun p:List Nd×List (Str×Nat×Value)=>p.1.map Nd.v=ns.map (C7 (q.map (·.1)))):=by
 intro q
 induction q with
 | nil=>
  intro i ns tk₅ v₁ hq hnd hin
  have hi:(sv ps)[i]?=none:=by
   have:ps.length<=i:=List.drop_eq_nil_iff.mp hq
   simp [sv,this]
  refine Tri.of fun R n' tk' hR=>?_
  refine Cg ok 2 2 (.call (.builtin "tuple_iterator.__next__") ⟨[.ref (it+8)],[]⟩) [1,2] (c8 it (tit (tu+8) i)) (c8 tu (Af (sv ps))) (gd dp un) (fun _ _ eA=>tend (Ab dp un eA (by omega) (by omega)) hi) fun p n₁ tk₁ _=>?_
  exact Aj ok 2 1 hR (ns,[(saj,tk₅,v₁)]) (List.map_congr_left fun b _=>by simp [C7,Nd.v]) .next rfl [0,1,2,4,3,5] 3
 | cons y q ih=>
  obtain ⟨y,ty⟩:=y
  intro i ns tk₅ v₁ hq hnd hin
  obtain ⟨pre,nd,post,rfl,rfl⟩:∃ pre nd post,ns=pre++nd::post/\y=nd.x:=by
   obtain ⟨nd,hm,e⟩:=List.mem_map.mp (hin (y,ty) (List.mem_cons_self ..))
   obtain ⟨pre,post,rfl⟩:=List.append_of_mem hm
   exact ⟨pre,nd,post,rfl,e.symm⟩
  have hi:(sv ps)[i]?=some (.str nd.x ty):=by
   have:ps[i]?=some (nd.x,ty):=by rw [← List.head?_drop,hq];rfl
   simp [sv,this]
  have hq':ps.drop (i+1)=q:=by rw [← List.tail_drop,hq];rfl
  have hnp:nd.x∉pre.map Nd.x:=by
   rw [List.map_append,List.nodup_append] at hnd
   exact fun hm=>hnd.2.2 _ hm _ (List.mem_cons_self ..) rfl
  refine Tri.own ?_ (fun h D=>D.perm (List.Perm.append_left [_,_,_,_] (Ae pre post nd L)))
  refine Tri.of fun R n' tk' hR=>?_
  refine Cg ok 2 2 (.call (.builtin "tuple_iterator.__next__") ⟨[.ref (it+8)],[]⟩) [1,2] (c8 it (tit (tu+8) i)) (c8 tu (Af (sv ps))) A6 (fun _ _ eA=>BT hi) fun _ n₁ tk₁ _=>?_
  refine AU ok 18 17871410036867 (.call (.builtin "dict.__getitem__") ⟨[.ref (z.m+8),.str nd.x ty],[]⟩) [3] (dD z.m (ents W (pre++nd::post)) ep) A6 (fun _ _ eA=>B7 (AW W _) (Bd hnp)) fun _ n₂ tk₂ _=>?_
  refine gmagn ok 37 5710733016542500082178080920377468851402571781 (B9 (AE (Ak W.kt 136) 3) (.ref (it+8)) (A5 W.kt 136 n 8)) (Q:=Nx G (fun p=>AF W n ((sad,tka,v)::(sau,tkb,.ref (tu+8))::(sas,tkc,.ref (z.m+8))::p.2)::c8 tu (Af (sv ps))::dD z.m (ents W p.1) ep::(A0 p.1++L)) fun p:List Nd×List (Str×Nat×Value)=>p.1.map Nd.v=(pre++{ nd with p:= -1,tp:=392 }::post).map (C7 (q.map (·.1)))) ?_ ?_
   (ih (i+1) (pre++{ nd with p:= -1,tp:=392 }::post) tk₅ (.str nd.x ty) hq' ?_ ?_)
  ·intro p hp
   refine hR p (hp.trans ?_)
   simp only [List.map_append,List.map_cons,List.nodup_append,List.nodup_cons] at hnd
   simp only [List.map_append,List.map_cons]
   congr 1
   ·refine List.map_congr_left fun b hb=>?_
    have:b.x≠nd.x:=hnd.2.2 _ (List.mem_map_of_mem hb) _ (List.mem_cons_self ..)
    simp only [C7,List.map_cons,List.mem_cons,this,false_or]
   ·congr 1
    ·simp [C7]
    ·refine List.map_congr_left fun b hb=>?_
     have:b.x≠nd.x:=fun e=>hnd.2.1.1 (e▸List.mem_map_of_mem hb)
     simp only [C7,List.map_cons,List.mem_cons,this,false_or]
  ·intro h D
   have D1:Own W.h₀ 53 h (AF W n [(sad,tka,v),(sau,tkb,.ref (tu+8)),(sas,tkc,.ref (z.m+8)),(saj,tk₅,.str nd.x ty)]::c8 it (tit (tu+8) (i+1))::c8 tu (Af (sv ps))::dD z.m (ents W (pre++nd::post)) ep ::
    (c8 nd.a (AO nd.di nd.x nd.t (-1) 392 nd.l)::lS nd.l nd.ss nd.e::(A0 (pre++post)++L))):=A4 [3,1,2,0,4,5] 0 (by kernel_rfl) h D
   have D2:=D1.perm (List.Perm.append_left [_,_,_,_] (Ae pre post { nd with p:= -1,tp:=392 } L).symm)
   rw [show ents W (pre++nd::post)=ents W (pre++{ nd with p:= -1,tp:=392 }::post) from by simp [ents,ent]] at D2
   exact D2
  ·simpa using hnd
  ·intro y hy;simpa using hin y (List.mem_cons_of_mem _ hy)
theorem gr_loop0 (ok:W.Ok) {tu:Nat} {z:Sr} {v:Value} (hd:dp<=700) (hu:un<=700)
  (q:List (Str×Nat)) (i:Nat) (ns:List Nd) (hq:ps.drop i=q) (hnd:(ns.map Nd.x).Nodup) (hin:∀ y∈q,y.1∈ns.map Nd.x) :
  Tri W (Ar dp un F) (B9 (AE (Ak W.kt 136) 3) (.ref (it+8)) (A5 W.kt 136 n 8)) G
  (AF W n [(sad,tka,v),(sau,tkb,.ref (tu+8)),(sas,tkc,.ref (z.m+8))]::c8 it (tit (tu+8) i)::c8 tu (Af (sv ps))::dD z.m (ents W ns) ep::(A0 ns++L))
  (Nx G (fun p=>AF W n ((sad,tka,v)::(sau,tkb,.ref (tu+8))::(sas,tkc,.ref (z.m+8))::p.2)::c8 tu (Af (sv ps))::dD z.m (ents W p.1) ep::(A0 p.1++L)) fun p:List Nd×List (Str×Nat×Value)=>p.1.map Nd.v=ns.map (C7 (q.map (·.1)))):=by
 cases q with
 | nil=>
  have hi:(sv ps)[i]?=none:=by
   have:ps.length<=i:=List.drop_eq_nil_iff.mp hq
   simp [sv,this]
  refine Tri.of fun R n' tk' hR=>?_
  refine Cg ok 2 2 (.call (.builtin "tuple_iterator.__next__") ⟨[.ref (it+8)],[]⟩) [1,2] (c8 it (tit (tu+8) i)) (c8 tu (Af (sv ps))) (gd dp un) (fun _ _ eA=>tend (Ab dp un eA (by omega) (by omega)) hi) fun p n₁ tk₁ _=>?_
  exact Aj ok 2 1 hR (ns,[]) (List.map_congr_left fun b _=>by simp [C7,Nd.v]) .next rfl [0,1,2,4,3,5] 3
 | cons y q=>
  obtain ⟨y,ty⟩:=y
  obtain ⟨pre,nd,post,rfl,rfl⟩:∃ pre nd post,ns=pre++nd::post/\y=nd.x:=by
   obtain ⟨nd,hm,e⟩:=List.mem_map.mp (hin (y,ty) (List.mem_cons_self ..))
   obtain ⟨pre,post,rfl⟩:=List.append_of_mem hm
   exact ⟨pre,nd,post,rfl,e.symm⟩
  have hi:(sv ps)[i]?=some (.str nd.x ty):=by
   have:ps[i]?=some (nd.x,ty):=by rw [← List.head?_drop,hq];rfl
   simp [sv,this]
  have hq':ps.drop (i+1)=q:=by rw [← List.tail_drop,hq];rfl
  have hnp:nd.x∉pre.map Nd.x:=by
   rw [List.map_append,List.nodup_append] at hnd
   exact fun hm=>hnd.2.2 _ hm _ (List.mem_cons_self ..) rfl
  refine Tri.own ?_ (fun h D=>D.perm (List.Perm.append_left [_,_,_,_] (Ae pre post nd L)))
  refine Tri.of fun R n' tk' hR=>?_
  refine Cg ok 2 2 (.call (.builtin "tuple_iterator.__next__") ⟨[.ref (it+8)],[]⟩) [1,2] (c8 it (tit (tu+8) i)) (c8 tu (Af (sv ps))) A6 (fun _ _ eA=>BT hi) fun _ n₁ tk₁ _=>?_
  refine AU ok 18 17871410036867 (.call (.builtin "dict.__getitem__") ⟨[.ref (z.m+8),.str nd.x ty],[]⟩) [3] (dD z.m (ents W (pre++nd::post)) ep) A6 (fun _ _ eA=>B7 (AW W _) (Bd hnp)) fun _ n₂ tk₂ _=>?_
  refine gmagn ok 37 5710733016542500082178080920377468851402571781 (B9 (AE (Ak W.kt 136) 3) (.ref (it+8)) (A5 W.kt 136 n 8)) (Q:=Nx G (fun p=>AF W n ((sad,tka,v)::(sau,tkb,.ref (tu+8))::(sas,tkc,.ref (z.m+8))::p.2)::c8 tu (Af (sv ps))::dD z.m (ents W p.1) ep::(A0 p.1++L)) fun p:List Nd×List (Str×Nat×Value)=>p.1.map Nd.v=(pre++{ nd with p:= -1,tp:=392 }::post).map (C7 (q.map (·.1)))) ?_ ?_
   (gr_loop (tka:=tka) (tkb:=tkb) (tkc:=tkc) (v:=v) (ps:=ps) (L:=L) ok hd hu q (i+1) (pre++{ nd with p:= -1,tp:=392 }::post) tk₁ (.str nd.x ty) hq' ?_ ?_)
  ·intro p hp
   refine hR p (hp.trans ?_)
   simp only [List.map_append,List.map_cons,List.nodup_append,List.nodup_cons] at hnd
   simp only [List.map_append,List.map_cons]
   congr 1
   ·refine List.map_congr_left fun b hb=>?_
    have:b.x≠nd.x:=hnd.2.2 _ (List.mem_map_of_mem hb) _ (List.mem_cons_self ..)
    simp only [C7,List.map_cons,List.mem_cons,this,false_or]
   ·congr 1
    ·simp [C7]
    ·refine List.map_congr_left fun b hb=>?_
     have:b.x≠nd.x:=fun e=>hnd.2.1.1 (e▸List.mem_map_of_mem hb)
     simp only [C7,List.map_cons,List.mem_cons,this,false_or]
  ·intro h D
   have D1:Own W.h₀ 53 h (AF W n [(sad,tka,v),(sau,tkb,.ref (tu+8)),(sas,tkc,.ref (z.m+8)),(saj,tk₁,.str nd.x ty)]::c8 it (tit (tu+8) (i+1))::c8 tu (Af (sv ps))::dD z.m (ents W (pre++nd::post)) ep ::
    (c8 nd.a (AO nd.di nd.x nd.t (-1) 392 nd.l)::lS nd.l nd.ss nd.e::(A0 (pre++post)++L))):=A4 [3,1,2,0,4,5] 0 (by kernel_rfl) h D
   have D2:=D1.perm (List.Perm.append_left [_,_,_,_] (Ae pre post { nd with p:= -1,tp:=392 } L).symm)
   rw [show ents W (pre++nd::post)=ents W (pre++{ nd with p:= -1,tp:=392 }::post) from by simp [ents,ent]] at D2
   exact D2
  ·simpa using hnd
  ·intro y hy;simpa using hin y (List.mem_cons_of_mem _ hy)
noncomputable def Sr.all (W:Wd) (z:Sr) (r:Nat) (rs:List (Str×Nat)) (e:Nat) (np nf:Int) (ns:List Nd) (ep:Nat) (L:List Cell):List Cell:=
 z.cells W (.ref (r+8)) np nf ns ep++(lS r rs e::(A0 ns++L))
theorem get_ready (ok:W.Ok) {z:Sr} {ns:List Nd} (hA:Good A 600) (hnd:(ns.map Nd.x).Nodup) (hin:∀ y∈rs,y.1∈ns.map Nd.x) (hr:rs.length<=6) :
  Tri W A (.call (.ref 136) ⟨[.ref (z.s+8)],[]⟩) G (z.all W r rs e np nf ns ep L)
  ⟨fun _=>G,fun p:Nat×Nat×Sr×List Nd=>p.2.2.1.s=z.s/\p.2.2.2.map Nd.v=ns.map (C7 (rs.map (·.1))),fun p=> .ok (.ret (.ref (p.1+8))),fun p=>c8 p.1 (Af (sv rs))::p.2.2.1.all W r [] p.2.1 (np+rs.length) nf p.2.2.2 ep L⟩:=by
 refine Tri.good hA fun dp un F hd hu=>?_
 unfold Sr.all
 refine Tri.of fun R n tk hR=>?_
 refine BC ok 7 4096 (entry W.kt 136 n 8) (dp+0) (by omega) ?_
 refine AU ok 46 17540918744849302455603881746953903512866831466625 (.call (.type "tuple") ⟨[.ref (r+8)],[]⟩) [4] (lS r rs e) (gd (dp+1) (un+3)) (fun _ _ eA=>tup_of (xs:=rs.map fun p=> .str p.1 p.2) ok (by simpa using hr) (Ab (dp+1) (un+3) eA (by omega) (by omega))) fun tu n₁ tk₁ _=>?_
 refine gcL ok 48 86420928806081410611309022615880872067 (B9 (AE (Ak W.kt 136) 3) (.ref (n₁+8)) (A5 W.kt 136 n 8)) (AF W n [(sad,tk,.ref (z.s+8)),(sau,tk₁,.ref (tu+8)),(sas,tk₁+2,.ref (z.m+8))]::c8 n₁ (tit (tu+8) 0)::c8 tu (Af (sv rs))::dD z.m (ents W ns) ep::(A0 ns++(c8 z.s (An (z.d+8))::c8 z.d (Au z.q z.u z.m (.ref (r+8)) np nf)::lS r rs e::L))) (BP (Ar (dp+1) (un+3) (A5 W.kt 136 n 8::F))) (fun h D=>AJ (X:=[_,_,_,_]) (Y:=[c8 z.s (An (z.d+8)),c8 z.d (Au z.q z.u z.m (.ref (r+8)) np nf),lS r rs e]) (A4 [3,0,1,6,4,5,2] 0 (by kernel_rfl) h D)) (fun _ eA=>Tri.at eA (gr_loop0 ok (by omega) (by omega) rs 0 ns rfl hnd hin)) fun p n₂ tk₂ hp=>?_
 refine gown (AF W n ((sad,tk,.ref (z.s+8))::(sau,tk₁,.ref (tu+8))::(sas,tk₁+2,.ref (z.m+8))::p.2)::c8 tu (Af (sv rs))::dD z.m (ents W p.1) ep::c8 z.s (An (z.d+8))::c8 z.d (Au z.q z.u z.m (.ref (r+8)) np nf)::lS r rs e::(A0 p.1++L)) (by kernel_rfl)
  (fun h D=>AJ (L:=L) (X:=[AF W n ((sad,tk,.ref (z.s+8))::(sau,tk₁,.ref (tu+8))::(sas,tk₁+2,.ref (z.m+8))::p.2),c8 tu (Af (sv rs)),dD z.m (ents W p.1) ep]) (Y:=A0 p.1) (C:=[c8 z.s (An (z.d+8)),c8 z.d (Au z.q z.u z.m (.ref (r+8)) np nf),lS r rs e]) (A4 [] 0 (by kernel_rfl) h D)) ?_
 refine AU ok 27 482914509205226891520178651393 (.call (.builtin "list.clear") ⟨[.ref (r+8)],[]⟩) [5] (lS r rs e) A6 (fun _ _ eA=>list_clear (by rw [Am];omega)) fun e' n₃ tk₃ _=>?_
 refine AU ok 27 2475908418624337288619884866 (.call (.builtin "len") ⟨[.ref (tu+8)],[]⟩) [2] (c8 tu (Af (sv rs))) A6 (fun _ _ eA=>Bk ok (len_tup (by rw [Am];omega))) fun p₂ n₄ tk₄ _=>?_
 refine gmend ok 33 15693481958511282571363760472069 hR (tu,e',{ z with u:=(z.u.1,z.u.2.1,z.u.2.2.1,z.u.2.2.2.1,tk₄,z.u.2.2.2.2.2.1,z.u.2.2.2.2.2.2) },p.1) ⟨rfl,hp⟩ (.ret (.ref (tu+8))) rfl fun h D=>?_
 have D1:Own W.h₀ 53 h (c8 tu (Af (sv rs))::c8 z.s (An (z.d+8))::c8 z.d (Au z.q (z.u.1,z.u.2.1,z.u.2.2.1,z.u.2.2.2.1,tk₄,z.u.2.2.2.2.2.1,z.u.2.2.2.2.2.2) z.m (.ref (r+8)) (np+(sv rs).size) nf)::dD z.m (ents W p.1) ep::lL r #[] e'::(A0 p.1++L)):=A4 [2,0,4,5,3,1] 1 (by kernel_rfl) h D
 rw [Am] at D1
 exact D1
theorem Ca (ok:W.Ok) {a b:Int} {t:Nat} :
  Tri W A (.call (.builtin "int.__eq__") ⟨[.int a t,.int b u],[]⟩) G L (Ret (.bool (decide (a=b))) G L):=by
 refine Tri.of fun R n tk hR=>?_
 exact Aj ok 1 0 hR () trivial (.ret (.bool (@decide (a=b) (PySem.W.Z.eqZ a b)))) (congrArg (fun b=>Except.ok (Flow.ret (Value.bool b))) (by congr)) [] 0
noncomputable def C1 (ns:List Nd) (s:Str):Int:=((ns.find? fun nd=>decide (nd.x=s)).map Nd.p).getD 0
noncomputable def rdy:(Str->Int)->List (Str×Nat)->List (Str×Nat)
 | _,[]=>[]
 | f,y::q=>(if f y.1 - 1=0 then [y] else [])++rdy (fun s=>if s=y.1 then f s - 1 else f s) q
noncomputable def BL (q:List Str) (nd:Nd):Str×Int×List Str:=(nd.x,nd.p - q.count nd.x,nd.ss.map (·.1))
noncomputable def Nd.k (b:Nd):Str×Nat×Nat:=(b.x,b.t,b.a)
noncomputable def Knows (es:Array DictEntry) (ns:List Nd):Prop:=∀ b∈ns,look es b.x=some (.ref (b.a+8))
noncomputable def inF (W:Wd):Stmt:=AE (DC (AE (Ak W.kt 157) 2)) 4
theorem find_pre {s:Str} (h:s∉pre.map Nd.x):(pre.find? fun nd=>decide (nd.x=s))=none:=by
 rw [List.find?_eq_none]
 intro b hb e
 exact h ((by simpa using e:b.x=s)▸List.mem_map_of_mem hb)
theorem Dm (h:nd.x∉pre.map Nd.x):C1 (pre++nd::post) nd.x=nd.p:=by
 simp [C1,List.find?_append,find_pre h]
theorem DH (h:nd.x∉pre.map Nd.x):C1 (pre++{ nd with p:=nd.p - 1,tp:=tp }::post)=fun s=>if s=nd.x then C1 (pre++nd::post) s - 1 else C1 (pre++nd::post) s:=by
 funext s
 by_cases e:s=nd.x
 ·subst e
  rw [if_pos rfl,Dm h]
  exact Dm (nd:={ nd with p:=nd.p - 1,tp:=tp }) h
 ·rw [if_neg e]
  have e':¬ nd.x=s:=fun x=>e x.symm
  simp [C1,List.find?_append,List.find?_cons,e']
theorem CN {q:List Str} (hnd:((pre++nd::post).map Nd.x).Nodup):(pre++{ nd with p:=nd.p - 1,tp:=tp }::post).map (BL q)=(pre++nd::post).map (BL (nd.x::q)):=by
 simp only [List.map_append,List.map_cons,List.nodup_append,List.nodup_cons] at hnd
 simp only [List.map_append,List.map_cons]
 congr 1
 ·refine List.map_congr_left fun b hb=>?_
  have:b.x≠nd.x:=hnd.2.2 _ (List.mem_map_of_mem hb) _ (List.mem_cons_self ..)
  simp [BL,List.count_cons,Ne.symm this]
 ·congr 1
  ·simp [BL,List.count_cons];omega
  ·refine List.map_congr_left fun b hb=>?_
   have:b.x≠nd.x:=fun e=>hnd.2.1.1 (e▸List.mem_map_of_mem hb)
   simp [BL,List.count_cons,Ne.symm this]
theorem dn_loop (ok:W.Ok) {tu e0 tke tkf:Nat} {z:Sr} {v v₂ v₃ v₄:Value} (hd:dp<=700) (hu:un<=700) (hk:Keys W es) :
  ∀ (q:List (Str×Nat)) (i e:Nat) (ns:List Nd) (rs:List (Str×Nat)) (tk₅ tk₆:Nat) (v₅ v₆:Value),ps.drop i=q->(ns.map Nd.x).Nodup->Knows es ns->(∀ y∈q,y.1∈ns.map Nd.x)->rs.length+q.length<=900 ->
  Tri W (Ar dp un F) (B9 (inF W) (.ref (it+8)) (A5 W.kt 157 n 9)) G
  ((n+9,fr W [(sad,tka,.ref (z.s+8)),(sat,tkb,v),(sas,tkc,.ref (z.m+8)),(saj,tkd,v₂),(sah,tke,v₃),(sbb,tkf,v₄),(sbd,tk₅,v₅),(sar,tk₆,v₆)])::c8 it (lit (tu+8) i)::lS tu ps e0::c8 z.s (An (z.d+8))::c8 z.d (Au z.q z.u z.m (.ref (r+8)) np nf)::dD z.m es ep::lS r rs e::(A0 ns++L))
  (Nx G (fun p=>(n+9,fr W ((sad,tka,.ref (z.s+8))::(sat,tkb,v)::(sas,tkc,.ref (z.m+8))::(saj,tkd,v₂)::(sah,tke,v₃)::(sbb,tkf,v₄)::p.2.2))::lS tu ps e0::c8 z.s (An (z.d+8))::c8 z.d (Au z.q z.u z.m (.ref (r+8)) np nf)::dD z.m es ep::(r+8,A1 (sv (rs++rdy (C1 ns) q)) p.2.1)::(A0 p.1++L)) fun p:List Nd×Nat×List (Str×Nat×Value)=>p.1.map Nd.v=ns.map (BL (q.map (·.1)))/\p.1.map Nd.k=ns.map Nd.k):=by
 intro q
 induction q with
 | nil=>
  intro i e ns rs tk₅ tk₆ v₅ v₆ hq hnd hkn hin hrl
  have hi:(sv ps)[i]?=none:=by
   have:ps.length<=i:=List.drop_eq_nil_iff.mp hq
   simp [sv,this]
  rw [show rdy (C1 ns) []=[] from rfl,List.append_nil]
  refine Tri.of fun R n' tk' hR=>?_
  refine Cg ok 2 2 (.call (.builtin "list_iterator.__next__") ⟨[.ref (it+8)],[]⟩) [1,2] (c8 it (lit (tu+8) i)) (lS tu ps e0) (gd dp un) (fun _ _ eA=>lend (Ab dp un eA (by omega) (by omega)) hi) fun p n₁ tk₁ _=>?_
  exact Aj ok 2 1 hR (ns,e,[(sbd,tk₅,v₅),(sar,tk₆,v₆)]) ⟨List.map_congr_left fun b _=>by simp [BL,Nd.v],rfl⟩ .next rfl [0,1,2,4,3,5] 3
 | cons y q ih=>
  obtain ⟨y,ty⟩:=y
  intro i e ns rs tk₅ tk₆ v₅ v₆ hq hnd hkn hin hrl
  obtain ⟨pre,nd,post,rfl,rfl⟩:∃ pre nd post,ns=pre++nd::post/\y=nd.x:=by
   obtain ⟨nd,hm,e⟩:=List.mem_map.mp (hin (y,ty) (List.mem_cons_self ..))
   obtain ⟨pre,post,rfl⟩:=List.append_of_mem hm
   exact ⟨pre,nd,post,rfl,e.symm⟩
  have hi:(sv ps)[i]?=some (.str nd.x ty):=by
   have:ps[i]?=some (nd.x,ty):=by rw [← List.head?_drop,hq];rfl
   simp [sv,this]
  have hq':ps.drop (i+1)=q:=by rw [← List.tail_drop,hq];rfl
  have hlk:=hkn nd (by simp)
  refine Tri.own ?_ (fun h D=>D.perm (List.Perm.append_left [_,_,_,_,_,_,_] (Ae pre post nd L)))
  refine Tri.of fun R n' tk' hR=>?_
  refine Cg ok 2 2 (.call (.builtin "list_iterator.__next__") ⟨[.ref (it+8)],[]⟩) [1,2] (c8 it (lit (tu+8) i)) (lS tu ps e0) A6 (fun _ _ eA=>AM hi) fun _ n₁ tk₁ _=>?_
  refine AU ok 16 418860773507 (.call (.builtin "dict.__getitem__") ⟨[.ref (z.m+8),.str nd.x ty],[]⟩) [5] (dD z.m es ep) A6 (fun _ _ eA=>B7 hk hlk) fun _ n₂ tk₂ _=>?_
  refine gc0 ok 129 390313836994771289043904795101723074249561480340578262553229729274980569846313576956307869888334335258452443039417166305453503403295898618314948 (.call (.builtin "int.__eq__") ⟨[.int (nd.p - 1) (tk₂+3),.int 0 (tk₂+6)],[]⟩) A6 (fun _ _ eA=>Ca ok) fun _ n₃ tk₃ _=>?_
  have hnp:nd.x∉pre.map Nd.x:=by
   rw [List.map_append,List.nodup_append] at hnd
   exact fun hm=>hnd.2.2 _ hm _ (List.mem_cons_self ..) rfl
  cases hh:decide (nd.p - 1=0)
  ·have hh':=of_decide_eq_false hh
   refine gmagn ok 0 0 (B9 (inF W) (.ref (it+8)) (A5 W.kt 157 n 9)) (Q:=Nx G (fun p=>(n+9,fr W ((sad,tka,.ref (z.s+8))::(sat,tkb,v)::(sas,tkc,.ref (z.m+8))::(saj,tkd,v₂)::(sah,tke,v₃)::(sbb,tkf,v₄)::p.2.2))::lS tu ps e0::c8 z.s (An (z.d+8))::c8 z.d (Au z.q z.u z.m (.ref (r+8)) np nf)::dD z.m es ep::(r+8,A1 (sv (rs++rdy (C1 (pre++{ nd with p:=nd.p - 1,tp:=tk₂+3 }::post)) q)) p.2.1)::(A0 p.1++L)) fun p:List Nd×Nat×List (Str×Nat×Value)=>p.1.map Nd.v=(pre++{ nd with p:=nd.p - 1,tp:=tk₂+3 }::post).map (BL (q.map (·.1)))/\p.1.map Nd.k=(pre++{ nd with p:=nd.p - 1,tp:=tk₂+3 }::post).map Nd.k) ?_ ?_
    (ih (i+1) e (pre++{ nd with p:=nd.p - 1,tp:=tk₂+3 }::post) (rs) tk₅ tk₆ (.str nd.x ty) (.ref (nd.a+8)) hq' ?_ ?_ ?_ ?_)
   ·intro p hp
    have z:=hR p ⟨hp.1.trans (CN hnd),hp.2.trans (by simp [Nd.k])⟩
    have e1:rs++rdy (C1 (pre++{ nd with p:=nd.p - 1,tp:=tk₂+3 }::post)) q=rs++rdy (C1 (pre++nd::post)) ((nd.x,ty)::q):=by
     simp only [rdy,DH hnp,Dm hnp]
     simp [hh']
    rw [e1]
    exact z
   ·intro h D
    have D1:Own W.h₀ 53 h ((n+9,fr W [(sad,tka,.ref (z.s+8)),(sat,tkb,v),(sas,tkc,.ref (z.m+8)),(saj,tkd,v₂),(sah,tke,v₃),(sbb,tkf,v₄),(sbd,tk₅,.str nd.x ty),(sar,tk₆,.ref (nd.a+8))])::c8 it (lit (tu+8) (i+1))::lS tu ps e0::c8 z.s (An (z.d+8))::c8 z.d (Au z.q z.u z.m (.ref (r+8)) np nf)::dD z.m es ep::lS r (rs) e ::
     (c8 nd.a (AO nd.di nd.x nd.t (nd.p - 1) (tk₂+3) nd.l)::lS nd.l nd.ss nd.e::(A0 (pre++post)++L))):=A4 [3,1,2,4,5,0,6,7,8] 0 (by kernel_rfl) h D
    exact D1.perm (List.Perm.append_left [_,_,_,_,_,_,_] (Ae pre post { nd with p:=nd.p - 1,tp:=tk₂+3 } L).symm)
   ·simpa using hnd
   ·intro b hb
    rcases List.mem_append.mp hb with hb | hb
    ·exact hkn b (by simp [hb])
    ·rcases List.mem_cons.mp hb with rfl | hb
     ·exact hlk
     ·exact hkn b (by simp [hb])
   ·intro y hy;simpa using hin y (List.mem_cons_of_mem _ hy)
   ·simp at hrl ⊢;omega
  ·have hh':=of_decide_eq_true hh
   refine AU ok 29 20845809865178553189833797271876 (.call (.builtin "list.append") ⟨[.ref (r+8),.str nd.x ty],[]⟩) [6] (lS r rs e) A6 (fun _ _ eA=>A8 (by rw [Am];simp at hrl;omega)) fun e' n₄ tk₄ _=>?_
   refine gmagn ok 1 0 (B9 (inF W) (.ref (it+8)) (A5 W.kt 157 n 9)) (Q:=Nx G (fun p=>(n+9,fr W ((sad,tka,.ref (z.s+8))::(sat,tkb,v)::(sas,tkc,.ref (z.m+8))::(saj,tkd,v₂)::(sah,tke,v₃)::(sbb,tkf,v₄)::p.2.2))::lS tu ps e0::c8 z.s (An (z.d+8))::c8 z.d (Au z.q z.u z.m (.ref (r+8)) np nf)::dD z.m es ep::(r+8,A1 (sv (rs++[(nd.x,ty)]++rdy (C1 (pre++{ nd with p:=nd.p - 1,tp:=tk₂+3 }::post)) q)) p.2.1)::(A0 p.1++L)) fun p:List Nd×Nat×List (Str×Nat×Value)=>p.1.map Nd.v=(pre++{ nd with p:=nd.p - 1,tp:=tk₂+3 }::post).map (BL (q.map (·.1)))/\p.1.map Nd.k=(pre++{ nd with p:=nd.p - 1,tp:=tk₂+3 }::post).map Nd.k) ?_ ?_
    (ih (i+1) e' (pre++{ nd with p:=nd.p - 1,tp:=tk₂+3 }::post) (rs++[(nd.x,ty)]) tk₅ tk₆ (.str nd.x ty) (.ref (nd.a+8)) hq' ?_ ?_ ?_ ?_)
   ·intro p hp
    have z:=hR p ⟨hp.1.trans (CN hnd),hp.2.trans (by simp [Nd.k])⟩
    have e1:rs++[(nd.x,ty)]++rdy (C1 (pre++{ nd with p:=nd.p - 1,tp:=tk₂+3 }::post)) q=rs++rdy (C1 (pre++nd::post)) ((nd.x,ty)::q):=by
     simp only [rdy,DH hnp,Dm hnp]
     simp [hh']
    rw [e1]
    exact z
   ·intro h D
    have D1:Own W.h₀ 53 h ((n+9,fr W [(sad,tka,.ref (z.s+8)),(sat,tkb,v),(sas,tkc,.ref (z.m+8)),(saj,tkd,v₂),(sah,tke,v₃),(sbb,tkf,v₄),(sbd,tk₅,.str nd.x ty),(sar,tk₆,.ref (nd.a+8))])::c8 it (lit (tu+8) (i+1))::lS tu ps e0::c8 z.s (An (z.d+8))::c8 z.d (Au z.q z.u z.m (.ref (r+8)) np nf)::dD z.m es ep::(r+8,A1 (sv (rs++[(nd.x,ty)])) e') ::
     (c8 nd.a (AO nd.di nd.x nd.t (nd.p - 1) (tk₂+3) nd.l)::lS nd.l nd.ss nd.e::(A0 (pre++post)++L))):=(AB rs nd.x ty)▸A4 [4,2,3,5,6,1,0,7,8] 0 (by kernel_rfl) h D
    exact D1.perm (List.Perm.append_left [_,_,_,_,_,_,_] (Ae pre post { nd with p:=nd.p - 1,tp:=tk₂+3 } L).symm)
   ·simpa using hnd
   ·intro b hb
    rcases List.mem_append.mp hb with hb | hb
    ·exact hkn b (by simp [hb])
    ·rcases List.mem_cons.mp hb with rfl | hb
     ·exact hlk
     ·exact hkn b (by simp [hb])
   ·intro y hy;simpa using hin y (List.mem_cons_of_mem _ hy)
   ·simp at hrl ⊢;omega
theorem dn_loop0 (ok:W.Ok) {tu e0 tke tkf:Nat} {z:Sr} {v v₂ v₃ v₄:Value} (hd:dp<=700) (hu:un<=700) (hk:Keys W es)
  (q:List (Str×Nat)) (i e:Nat) (ns:List Nd) (rs:List (Str×Nat)) (hq:ps.drop i=q) (hnd:(ns.map Nd.x).Nodup) (hkn:Knows es ns) (hin:∀ y∈q,y.1∈ns.map Nd.x) (hrl:rs.length+q.length<=900) :
  Tri W (Ar dp un F) (B9 (inF W) (.ref (it+8)) (A5 W.kt 157 n 9)) G
  ((n+9,fr W [(sad,tka,.ref (z.s+8)),(sat,tkb,v),(sas,tkc,.ref (z.m+8)),(saj,tkd,v₂),(sah,tke,v₃),(sbb,tkf,v₄)])::c8 it (lit (tu+8) i)::lS tu ps e0::c8 z.s (An (z.d+8))::c8 z.d (Au z.q z.u z.m (.ref (r+8)) np nf)::dD z.m es ep::lS r rs e::(A0 ns++L))
  (Nx G (fun p=>(n+9,fr W ((sad,tka,.ref (z.s+8))::(sat,tkb,v)::(sas,tkc,.ref (z.m+8))::(saj,tkd,v₂)::(sah,tke,v₃)::(sbb,tkf,v₄)::p.2.2))::lS tu ps e0::c8 z.s (An (z.d+8))::c8 z.d (Au z.q z.u z.m (.ref (r+8)) np nf)::dD z.m es ep::(r+8,A1 (sv (rs++rdy (C1 ns) q)) p.2.1)::(A0 p.1++L)) fun p:List Nd×Nat×List (Str×Nat×Value)=>p.1.map Nd.v=ns.map (BL (q.map (·.1)))/\p.1.map Nd.k=ns.map Nd.k):=by
 cases q with
 | nil=>
  have hi:(sv ps)[i]?=none:=by
   have:ps.length<=i:=List.drop_eq_nil_iff.mp hq
   simp [sv,this]
  rw [show rdy (C1 ns) []=[] from rfl,List.append_nil]
  refine Tri.of fun R n' tk' hR=>?_
  refine Cg ok 2 2 (.call (.builtin "list_iterator.__next__") ⟨[.ref (it+8)],[]⟩) [1,2] (c8 it (lit (tu+8) i)) (lS tu ps e0) (gd dp un) (fun _ _ eA=>lend (Ab dp un eA (by omega) (by omega)) hi) fun p n₁ tk₁ _=>?_
  exact Aj ok 2 1 hR (ns,e,[]) ⟨List.map_congr_left fun b _=>by simp [BL,Nd.v],rfl⟩ .next rfl [0,1,2,4,3,5] 3
 | cons y q=>
  obtain ⟨y,ty⟩:=y
  obtain ⟨pre,nd,post,rfl,rfl⟩:∃ pre nd post,ns=pre++nd::post/\y=nd.x:=by
   obtain ⟨nd,hm,e⟩:=List.mem_map.mp (hin (y,ty) (List.mem_cons_self ..))
   obtain ⟨pre,post,rfl⟩:=List.append_of_mem hm
   exact ⟨pre,nd,post,rfl,e.symm⟩
  have hi:(sv ps)[i]?=some (.str nd.x ty):=by
   have:ps[i]?=some (nd.x,ty):=by rw [← List.head?_drop,hq];rfl
   simp [sv,this]
  have hq':ps.drop (i+1)=q:=by rw [← List.tail_drop,hq];rfl
  have hlk:=hkn nd (by simp)
  refine Tri.own ?_ (fun h D=>D.perm (List.Perm.append_left [_,_,_,_,_,_,_] (Ae pre post nd L)))
  refine Tri.of fun R n' tk' hR=>?_
  refine Cg ok 2 2 (.call (.builtin "list_iterator.__next__") ⟨[.ref (it+8)],[]⟩) [1,2] (c8 it (lit (tu+8) i)) (lS tu ps e0) A6 (fun _ _ eA=>AM hi) fun _ n₁ tk₁ _=>?_
  refine AU ok 16 418860773507 (.call (.builtin "dict.__getitem__") ⟨[.ref (z.m+8),.str nd.x ty],[]⟩) [5] (dD z.m es ep) A6 (fun _ _ eA=>B7 hk hlk) fun _ n₂ tk₂ _=>?_
  refine gc0 ok 129 390313836994771289043904795101723074249561480340578262553229729274980569846313576956307869888334335258452443039417166305453503403295898618314948 (.call (.builtin "int.__eq__") ⟨[.int (nd.p - 1) (tk₂+3),.int 0 (tk₂+6)],[]⟩) A6 (fun _ _ eA=>Ca ok) fun _ n₃ tk₃ _=>?_
  have hnp:nd.x∉pre.map Nd.x:=by
   rw [List.map_append,List.nodup_append] at hnd
   exact fun hm=>hnd.2.2 _ hm _ (List.mem_cons_self ..) rfl
  cases hh:decide (nd.p - 1=0)
  ·have hh':=of_decide_eq_false hh
   refine gmagn ok 0 0 (B9 (inF W) (.ref (it+8)) (A5 W.kt 157 n 9)) (Q:=Nx G (fun p=>(n+9,fr W ((sad,tka,.ref (z.s+8))::(sat,tkb,v)::(sas,tkc,.ref (z.m+8))::(saj,tkd,v₂)::(sah,tke,v₃)::(sbb,tkf,v₄)::p.2.2))::lS tu ps e0::c8 z.s (An (z.d+8))::c8 z.d (Au z.q z.u z.m (.ref (r+8)) np nf)::dD z.m es ep::(r+8,A1 (sv (rs++rdy (C1 (pre++{ nd with p:=nd.p - 1,tp:=tk₂+3 }::post)) q)) p.2.1)::(A0 p.1++L)) fun p:List Nd×Nat×List (Str×Nat×Value)=>p.1.map Nd.v=(pre++{ nd with p:=nd.p - 1,tp:=tk₂+3 }::post).map (BL (q.map (·.1)))/\p.1.map Nd.k=(pre++{ nd with p:=nd.p - 1,tp:=tk₂+3 }::post).map Nd.k) ?_ ?_
    (dn_loop (tka:=tka) (tkb:=tkb) (tkc:=tkc) (tkd:=tkd) (tke:=tke) (tkf:=tkf) (v:=v) (v₂:=v₂) (v₃:=v₃) (v₄:=v₄) (np:=np) (nf:=nf) (r:=r) (e0:=e0) (ep:=ep) (ps:=ps) (L:=L) ok hd hu hk q (i+1) e (pre++{ nd with p:=nd.p - 1,tp:=tk₂+3 }::post) (rs) tk₁ tk₂ (.str nd.x ty) (.ref (nd.a+8)) hq' ?_ ?_ ?_ ?_)
   ·intro p hp
    have z:=hR p ⟨hp.1.trans (CN hnd),hp.2.trans (by simp [Nd.k])⟩
    have e1:rs++rdy (C1 (pre++{ nd with p:=nd.p - 1,tp:=tk₂+3 }::post)) q=rs++rdy (C1 (pre++nd::post)) ((nd.x,ty)::q):=by
     simp only [rdy,DH hnp,Dm hnp]
     simp [hh']
    rw [e1]
    exact z
   ·intro h D
    have D1:Own W.h₀ 53 h ((n+9,fr W [(sad,tka,.ref (z.s+8)),(sat,tkb,v),(sas,tkc,.ref (z.m+8)),(saj,tkd,v₂),(sah,tke,v₃),(sbb,tkf,v₄),(sbd,tk₁,.str nd.x ty),(sar,tk₂,.ref (nd.a+8))])::c8 it (lit (tu+8) (i+1))::lS tu ps e0::c8 z.s (An (z.d+8))::c8 z.d (Au z.q z.u z.m (.ref (r+8)) np nf)::dD z.m es ep::lS r (rs) e ::
     (c8 nd.a (AO nd.di nd.x nd.t (nd.p - 1) (tk₂+3) nd.l)::lS nd.l nd.ss nd.e::(A0 (pre++post)++L))):=A4 [3,1,2,4,5,0,6,7,8] 0 (by kernel_rfl) h D
    exact D1.perm (List.Perm.append_left [_,_,_,_,_,_,_] (Ae pre post { nd with p:=nd.p - 1,tp:=tk₂+3 } L).symm)
   ·simpa using hnd
   ·intro b hb
    rcases List.mem_append.mp hb with hb | hb
    ·exact hkn b (by simp [hb])
    ·rcases List.mem_cons.mp hb with rfl | hb
     ·exact hlk
     ·exact hkn b (by simp [hb])
   ·intro y hy;simpa using hin y (List.mem_cons_of_mem _ hy)
   ·simp at hrl ⊢;omega
  ·have hh':=of_decide_eq_true hh
   refine AU ok 29 20845809865178553189833797271876 (.call (.builtin "list.append") ⟨[.ref (r+8),.str nd.x ty],[]⟩) [6] (lS r rs e) A6 (fun _ _ eA=>A8 (by rw [Am];simp at hrl;omega)) fun e' n₄ tk₄ _=>?_
   refine gmagn ok 1 0 (B9 (inF W) (.ref (it+8)) (A5 W.kt 157 n 9)) (Q:=Nx G (fun p=>(n+9,fr W ((sad,tka,.ref (z.s+8))::(sat,tkb,v)::(sas,tkc,.ref (z.m+8))::(saj,tkd,v₂)::(sah,tke,v₃)::(sbb,tkf,v₄)::p.2.2))::lS tu ps e0::c8 z.s (An (z.d+8))::c8 z.d (Au z.q z.u z.m (.ref (r+8)) np nf)::dD z.m es ep::(r+8,A1 (sv (rs++[(nd.x,ty)]++rdy (C1 (pre++{ nd with p:=nd.p - 1,tp:=tk₂+3 }::post)) q)) p.2.1)::(A0 p.1++L)) fun p:List Nd×Nat×List (Str×Nat×Value)=>p.1.map Nd.v=(pre++{ nd with p:=nd.p - 1,tp:=tk₂+3 }::post).map (BL (q.map (·.1)))/\p.1.map Nd.k=(pre++{ nd with p:=nd.p - 1,tp:=tk₂+3 }::post).map Nd.k) ?_ ?_
    (dn_loop (tka:=tka) (tkb:=tkb) (tkc:=tkc) (tkd:=tkd) (tke:=tke) (tkf:=tkf) (v:=v) (v₂:=v₂) (v₃:=v₃) (v₄:=v₄) (np:=np) (nf:=nf) (r:=r) (e0:=e0) (ep:=ep) (ps:=ps) (L:=L) ok hd hu hk q (i+1) e' (pre++{ nd with p:=nd.p - 1,tp:=tk₂+3 }::post) (rs++[(nd.x,ty)]) tk₁ tk₂ (.str nd.x ty) (.ref (nd.a+8)) hq' ?_ ?_ ?_ ?_)
   ·intro p hp
    have z:=hR p ⟨hp.1.trans (CN hnd),hp.2.trans (by simp [Nd.k])⟩
    have e1:rs++[(nd.x,ty)]++rdy (C1 (pre++{ nd with p:=nd.p - 1,tp:=tk₂+3 }::post)) q=rs++rdy (C1 (pre++nd::post)) ((nd.x,ty)::q):=by
     simp only [rdy,DH hnp,Dm hnp]
     simp [hh']
    rw [e1]
    exact z
   ·intro h D
    have D1:Own W.h₀ 53 h ((n+9,fr W [(sad,tka,.ref (z.s+8)),(sat,tkb,v),(sas,tkc,.ref (z.m+8)),(saj,tkd,v₂),(sah,tke,v₃),(sbb,tkf,v₄),(sbd,tk₁,.str nd.x ty),(sar,tk₂,.ref (nd.a+8))])::c8 it (lit (tu+8) (i+1))::lS tu ps e0::c8 z.s (An (z.d+8))::c8 z.d (Au z.q z.u z.m (.ref (r+8)) np nf)::dD z.m es ep::(r+8,A1 (sv (rs++[(nd.x,ty)])) e') ::
     (c8 nd.a (AO nd.di nd.x nd.t (nd.p - 1) (tk₂+3) nd.l)::lS nd.l nd.ss nd.e::(A0 (pre++post)++L))):=(AB rs nd.x ty)▸A4 [4,2,3,5,6,1,0,7,8] 0 (by kernel_rfl) h D
    exact D1.perm (List.Perm.append_left [_,_,_,_,_,_,_] (Ae pre post { nd with p:=nd.p - 1,tp:=tk₂+3 } L).symm)
   ·simpa using hnd
   ·intro b hb
    rcases List.mem_append.mp hb with hb | hb
    ·exact hkn b (by simp [hb])
    ·rcases List.mem_cons.mp hb with rfl | hb
     ·exact hlk
     ·exact hkn b (by simp [hb])
   ·intro y hy;simpa using hin y (List.mem_cons_of_mem _ hy)
   ·simp at hrl ⊢;omega
theorem done_ (ok:W.Ok) {t:Nat} {z:Sr} (hp:nd.p= -1) (hA:Good A 600)
  (hnd:((pre++nd::post).map Nd.x).Nodup) (hin:∀ y∈nd.ss,y.1∈(pre++post).map Nd.x) (hrl:rs.length+nd.ss.length<=900) :
  Tri W A (.call (.ref 157) ⟨[.ref (z.s+8),.str nd.x t],[]⟩) G (z.all W r rs e np nf (pre++nd::post) ep L)
  ⟨fun _=>G,fun p:Nat×Sr×List Nd=>p.2.1.s=z.s/\p.2.2.map Nd.v=(pre++nd::post).map fun b=>if b.x=nd.x then (b.x,-2,b.ss.map (·.1)) else BL (nd.ss.map (·.1)) b,fun _=> .ok (.ret .none),fun p=>p.2.1.all W r (rs++rdy (C1 (pre++post)) nd.ss) p.1 np (nf+1) p.2.2 ep L⟩:=by
 refine Tri.good hA fun dp un F hd hu=>?_
 have hnp:nd.x∉pre.map Nd.x:=by
  rw [List.map_append,List.nodup_append] at hnd
  exact fun hm=>hnd.2.2 _ hm _ (List.mem_cons_self ..) rfl
 refine Tri.own ?_ (fun h D=>D.perm (List.Perm.append_left (z.cells W (.ref (r+8)) np nf (pre++nd::post) ep++[lS r rs e]) (Ae pre post nd L)))
 obtain ⟨x,tt,a,di,pp,tp,l,ss,e0⟩:=nd
 obtain rfl:pp= -1:=hp
 refine Tri.of fun R n tk hR=>?_
 refine BC ok 12 16781312 (entry W.kt 157 n 9) (dp+0) (by omega) ?_
 refine AU ok 93 16281415448180699826116261346411437795925962031788058484329175583518863354405083676865 (.call (.builtin "dict.get") ⟨[.ref (z.m+8),.str x t],[]⟩) [5] (dD z.m (ents W (pre++⟨x,tt,a,di,-1,tp,l,ss,e0⟩::post)) ep) A6 (fun _ _ eA=>dict_some (AW W _) (Bd hnp)) fun _ n₁ tk₁ _=>?_
 refine gmore ok 154 64270193240647320986724645033946994533624364715760594664944046637880065903114006167167982460033277912567981761296506304386317114610644903259327831942698280956035 ⟨by kernel_rfl,?_⟩
 have hkn:Knows (ents W (pre++⟨x,tt,a,di,-1,tp,l,ss,e0⟩::post)) (pre++post):=by
  intro b hb
  have hb':b∈pre++⟨x,tt,a,di,-1,tp,l,ss,e0⟩::post:=by
   rcases List.mem_append.mp hb with h | h
   ·simp [h]
   ·simp [h]
  obtain ⟨p1,p2,e⟩:=List.append_of_mem hb'
  have hn:b.x∉p1.map Nd.x:=by
   rw [e,List.map_append,List.nodup_append] at hnd
   exact fun hm=>hnd.2.2 _ hm _ (List.mem_cons_self ..) rfl
  rw [e]
  exact Bd hn
 have hnd':((pre++post).map Nd.x).Nodup:=by
  refine List.Nodup.sublist ?_ hnd
  refine List.Sublist.map _ (List.Sublist.append_left (List.sublist_cons_self ..) _)
 refine gcall (B9 (inF W) (.ref (n₁+8)) (A5 W.kt 157 n 9)) (by kernel_rfl) (by kernel_rfl) (L:=(n+9,fr W [(sad,tk,.ref (z.s+8)),(sat,tk+1,.ref (n+8)),(sas,tk+4,.ref (z.m+8)),(saj,tk+5,.str x t),(sah,tk₁,.ref (a+8)),(sbb,tk₁+2,.int (-1) tp)])::c8 n₁ (lit (l+8) 0)::lS l ss e0::c8 z.s (An (z.d+8))::c8 z.d (Au z.q z.u z.m (.ref (r+8)) np nf)::dD z.m (ents W (pre++⟨x,tt,a,di,-1,tp,l,ss,e0⟩::post)) ep::lS r rs e::(A0 (pre++post)++([c8 (n+2) (tit (n+8) 1),c8 n (Af #[.str x t]),c8 a (AO di x tt (-2) 395 l)]++L)))
  (fun h D=>AJ (X:=[_,_,_,_,_,_,_]) (Y:=[c8 (n+2) (tit (n+8) 1),c8 n (Af #[.str x t]),c8 a (AO di x tt (-2) 395 l)]) (A4 [3,0,9,5,6,1,7,2,4,8] 0 (by kernel_rfl) h D))
  (Tri.at (by kernel_rfl:aOf (Ar dp un F) _=Ar (dp+1) (un+3) (A5 W.kt 157 n 9::F)) (dn_loop0 ok (by omega) (by omega) (AW W _) ss 0 e (pre++post) rs rfl hnd' hkn hin hrl)) fun p n₂ tk₂ hp=>?_
 refine gown ([(n+9,fr W ((sad,tk,.ref (z.s+8))::(sat,tk+1,.ref (n+8))::(sas,tk+4,.ref (z.m+8))::(saj,tk+5,.str x t)::(sah,tk₁,.ref (a+8))::(sbb,tk₁+2,.int (-1) tp)::p.2.2)),lS l ss e0,c8 z.s (An (z.d+8)),c8 z.d (Au z.q z.u z.m (.ref (r+8)) np nf),dD z.m (ents W (pre++⟨x,tt,a,di,-1,tp,l,ss,e0⟩::post)) ep,(r+8,A1 (sv (rs++rdy (C1 (pre++post)) ss)) p.2.1)]++([c8 (n+2) (tit (n+8) 1),c8 n (Af #[.str x t]),c8 a (AO di x tt (-2) 395 l)]++(A0 p.1++L))) (by kernel_rfl)
  (fun h D=>AJ (L:=L) (X:=[(n+9,fr W ((sad,tk,.ref (z.s+8))::(sat,tk+1,.ref (n+8))::(sas,tk+4,.ref (z.m+8))::(saj,tk+5,.str x t)::(sah,tk₁,.ref (a+8))::(sbb,tk₁+2,.int (-1) tp)::p.2.2)),lS l ss e0,c8 z.s (An (z.d+8)),c8 z.d (Au z.q z.u z.m (.ref (r+8)) np nf),dD z.m (ents W (pre++⟨x,tt,a,di,-1,tp,l,ss,e0⟩::post)) ep,(r+8,A1 (sv (rs++rdy (C1 (pre++post)) ss)) p.2.1)]) (Y:=A0 p.1) (C:=[c8 (n+2) (tit (n+8) 1),c8 n (Af #[.str x t]),c8 a (AO di x tt (-2) 395 l)]) (A4 [] 0 (by kernel_rfl) h D)) ?_
 refine gmore ok 69 7383587493548588660731212597934814087498363671852712232566015393985 ⟨by kernel_rfl,?_⟩
 have hlen:p.1.length=pre.length+post.length:=by
  have:=congrArg List.length hp.2
  simpa using this
 have hsp:p.1.take pre.length++p.1.drop pre.length=p.1:=List.take_append_drop ..
 have hk1:(p.1.take pre.length).map Nd.k=pre.map Nd.k:=by
  rw [List.map_take,hp.2,List.map_append,List.take_left' (by simp)]
 have hk2:(p.1.drop pre.length).map Nd.k=post.map Nd.k:=by
  rw [List.map_drop,hp.2,List.map_append,List.drop_left' (by simp)]
 have hv1:(p.1.take pre.length).map Nd.v=pre.map (BL (ss.map (·.1))):=by
  rw [List.map_take,hp.1,List.map_append,List.take_left' (by simp)]
 have hv2:(p.1.drop pre.length).map Nd.v=post.map (BL (ss.map (·.1))):=by
  rw [List.map_drop,hp.1,List.map_append,List.drop_left' (by simp)]
 refine gend hR (p.2.1,{ z with u:=(z.u.1,z.u.2.1,z.u.2.2.1,z.u.2.2.2.1,z.u.2.2.2.2.1,tk₂+2,z.u.2.2.2.2.2.2) },p.1.take pre.length++(⟨x,tt,a,di,-2,395,l,ss,e0⟩:Nd)::p.1.drop pre.length) ⟨rfl,?_⟩ (.ret .none) rfl (by kernel_rfl) (by kernel_rfl) fun h D=>?_
 ·simp only [List.map_append,List.map_cons,hv1,hv2]
  simp only [List.map_append,List.map_cons,List.nodup_append,List.nodup_cons] at hnd
  congr 1
  ·refine List.map_congr_left fun b hb=>?_
   have:b.x≠x:=hnd.2.2 _ (List.mem_map_of_mem hb) _ (List.mem_cons_self ..)
   rw [if_neg this]
  ·rw [if_pos True.intro]
   refine congrArg _ (List.map_congr_left fun b hb=>?_)
   have:b.x≠x:=fun e=>hnd.2.1.1 (e▸List.mem_map_of_mem hb)
   rw [if_neg this]
 ·have D1:Own W.h₀ 53 h (c8 z.s (An (z.d+8))::c8 z.d (Au z.q (z.u.1,z.u.2.1,z.u.2.2.1,z.u.2.2.2.1,z.u.2.2.2.2.1,tk₂+2,z.u.2.2.2.2.2.2) z.m (.ref (r+8)) np (nf+1))::dD z.m (ents W (pre++⟨x,tt,a,di,-1,tp,l,ss,e0⟩::post)) ep::(r+8,A1 (sv (rs++rdy (C1 (pre++post)) ss)) p.2.1)::((⟨x,tt,a,di,-2,395,l,ss,e0⟩:Nd).cells++(A0 p.1++L))):=A4 [0,1,2,8,9,4,5,6,7,10,3] 5 (by kernel_rfl) h D
  rw [← hsp] at D1
  have D2:=D1.perm (List.Perm.append_left [_,_,_,_] (Ae (p.1.take pre.length) (p.1.drop pre.length) (⟨x,tt,a,di,-2,395,l,ss,e0⟩:Nd) L).symm)
  rw [← ents_of_z (W:=W) (ns:=pre++⟨x,tt,a,di,-1,tp,l,ss,e0⟩::post) (ns':=p.1.take pre.length++(⟨x,tt,a,di,-2,395,l,ss,e0⟩:Nd)::p.1.drop pre.length) (by
   have e1:(fun nd:Nd=>(nd.x,nd.t,nd.a))=Nd.k:=rfl
   rw [e1,List.map_append,List.map_append,List.map_cons,List.map_cons,hk1,hk2];rfl)] at D2
  exact D2
noncomputable def lo (W:Wd) (l:List (Str×Nat×Value)):Obj:=⟨.type "dict",none,.dict ⟨l.map fun p=>⟨hz W p.1,.str p.1 p.2.1,p.2.2⟩⟩ l.length,#[]⟩
noncomputable def freeC:NameKind->NameKind
 | .free=> .cell
 | k=>k
noncomputable def scC (e:PySem.Expr):Scope:={ (Bp e).s with names:=(Bp e).s.names.map fun p=>(p.1,freeC p.2) }
noncomputable def Cm (env:Env) (e:PySem.Expr) (D:Nat) (cs:List (Str×Addr)):Env:={ env with scope:=scC e,locals:=D,cells:=cs,func:=none }
noncomputable def Bh (s:Stmt):PySem.Expr:=(Br s).e
noncomputable def Ej (m k:Nat):Obj:=⟨.type "dict_valueiterator",none,.fields #[.ref (m+8),.int k 0,.int 6 0,.int 6 0],#[]⟩
noncomputable def zero (nd:Nd):List (Str×Nat):=if nd.p=0 then [(nd.x,nd.t)] else []
noncomputable def prC (W:Wd) (it acc n D:Nat):Code:= .compLoop (Bh (AE (Ak W.kt 129) 1)) 0 (.ref (it+8)) (.ref (acc+8)) (Cm (A5 W.kt 129 n 8) (Bh (AE (Ak W.kt 129) 1)) (D+8) [])
theorem pl6 (ok:W.Ok) {v:Value} {z:Sr} (hd:dp<=700) (hu:un<=700) (hr:rs.length<=6) :
  Tri W (Ar dp un F) (prC W it acc n D) G (c8 D (lo W [(sbq,tki,v)])::lS acc rs e::c8 it (Ej z.m 6)::dD z.m (ents W [n0,n1,n2,n3,n4,n5]) 6::(A0 [n0,n1,n2,n3,n4,n5]++L))
  (Nx G (fun p=>c8 D (lo W [(sbq,p.1,p.2.1)])::lS acc (rs) p.2.2::dD z.m (ents W [n0,n1,n2,n3,n4,n5]) 6::(A0 [n0,n1,n2,n3,n4,n5]++L)):Post (Nat×Value×Nat)):=by
 refine Tri.of fun R n' tk hR=>?_
 exact Aj ok 17 18590753123741891 hR (tki,v,e) trivial .next rfl [0,1,4,2,3] 3
theorem pl5 (ok:W.Ok) {v:Value} {z:Sr} (hd:dp<=700) (hu:un<=700) (hr:rs.length<=5) :
  Tri W (Ar dp un F) (prC W it acc n D) G (c8 D (lo W [(sbq,tki,v)])::lS acc rs e::c8 it (Ej z.m 5)::dD z.m (ents W [n0,n1,n2,n3,n4,n5]) 6::(A0 [n0,n1,n2,n3,n4,n5]++L))
  (Nx G (fun p=>c8 D (lo W [(sbq,p.1,p.2.1)])::(acc+8,A1 (sv (rs++zero n5)) p.2.2)::dD z.m (ents W [n0,n1,n2,n3,n4,n5]) 6::(A0 [n0,n1,n2,n3,n4,n5]++L)):Post (Nat×Value×Nat)):=by
 refine Tri.of fun R n' tk hR=>?_
 refine gc0 ok 63 414205880607437113341034584296501875086776572019162001775543752850157763 (.call (.builtin "int.__eq__") ⟨[.int n5.p n5.tp,.int 0 (tk+2)],[]⟩) A6 (fun _ _ eA=>Ca ok) fun _ n₁ tk₁ _=>?_
 cases hh:decide (n5.p=0)
 ·have hz:zero n5=[]:=if_neg (of_decide_eq_false hh)
  refine gmagn ok 0 0 (prC W it acc n D) (Q:=(Nx G (fun p=>c8 D (lo W [(sbq,p.1,p.2.1)])::lS acc (rs) p.2.2::dD z.m (ents W [n0,n1,n2,n3,n4,n5]) 6::(A0 [n0,n1,n2,n3,n4,n5]++L)):Post (Nat×Value×Nat))) (fun p hp=>by have q:=hR p hp;simp only [hz,List.append_nil] at q;exact q) (L:=c8 D (lo W [(sbq,tki,.ref (n5.a+8))])::lS acc (rs) e::c8 it (Ej z.m 6)::dD z.m (ents W [n0,n1,n2,n3,n4,n5]) 6::(A0 [n0,n1,n2,n3,n4,n5]++L)) (A4 [] 0 (by kernel_rfl)) (pl6 (tki:=tki) (v:= .ref (n5.a+8)) (z:=z) (F:=F) (G:=G) (L:=L) (it:=it) (acc:=acc) (n:=n) (D:=D) (n0:=n0) (n1:=n1) (n2:=n2) (n3:=n3) (n4:=n4) (n5:=n5) ok hd hu (by omega))
 ·have hz:zero n5=[(n5.x,n5.t)]:=if_pos (of_decide_eq_true hh)
  refine AU ok 37 21413942127745379889709100669476668823767614401 (.call (.builtin "list.append") ⟨[.ref (acc+8),.str n5.x n5.t],[]⟩) [1] (lS acc rs e) A6 (fun _ _ eA=>A8 (by rw [Am];omega)) fun e' n₂ tk₂ _=>?_
  refine gmagn ok 0 0 (prC W it acc n D) (Q:=(Nx G (fun p=>c8 D (lo W [(sbq,p.1,p.2.1)])::(acc+8,A1 (sv ((rs++[(n5.x,n5.t)]))) p.2.2)::dD z.m (ents W [n0,n1,n2,n3,n4,n5]) 6::(A0 [n0,n1,n2,n3,n4,n5]++L)):Post (Nat×Value×Nat))) (fun p hp=>by have q:=hR p hp;simp only [hz] at q;exact q) (L:=c8 D (lo W [(sbq,tki,.ref (n5.a+8))])::(acc+8,A1 (sv (rs++[(n5.x,n5.t)])) e')::c8 it (Ej z.m 6)::dD z.m (ents W [n0,n1,n2,n3,n4,n5]) 6::(A0 [n0,n1,n2,n3,n4,n5]++L)) (fun h D=>(AB rs n5.x n5.t)▸A4 [1,0] 0 (by kernel_rfl) h D) (pl6 (tki:=tki) (v:= .ref (n5.a+8)) (z:=z) (F:=F) (G:=G) (L:=L) (it:=it) (acc:=acc) (n:=n) (D:=D) (n0:=n0) (n1:=n1) (n2:=n2) (n3:=n3) (n4:=n4) (n5:=n5) ok hd hu (by rw [List.length_append];simp only [List.length_cons,List.length_nil];omega))
theorem pl4 (ok:W.Ok) {v:Value} {z:Sr} (hd:dp<=700) (hu:un<=700) (hr:rs.length<=4) :
  Tri W (Ar dp un F) (prC W it acc n D) G (c8 D (lo W [(sbq,tki,v)])::lS acc rs e::c8 it (Ej z.m 4)::dD z.m (ents W [n0,n1,n2,n3,n4,n5]) 6::(A0 [n0,n1,n2,n3,n4,n5]++L))
  (Nx G (fun p=>c8 D (lo W [(sbq,p.1,p.2.1)])::(acc+8,A1 (sv (rs++zero n4++zero n5)) p.2.2)::dD z.m (ents W [n0,n1,n2,n3,n4,n5]) 6::(A0 [n0,n1,n2,n3,n4,n5]++L)):Post (Nat×Value×Nat)):=by
 refine Tri.of fun R n' tk hR=>?_
 refine gc0 ok 63 358978429859778831562229973056968291741873029085853436250390847321551043 (.call (.builtin "int.__eq__") ⟨[.int n4.p n4.tp,.int 0 (tk+2)],[]⟩) A6 (fun _ _ eA=>Ca ok) fun _ n₁ tk₁ _=>?_
 cases hh:decide (n4.p=0)
 ·have hz:zero n4=[]:=if_neg (of_decide_eq_false hh)
  refine gmagn ok 0 0 (prC W it acc n D) (Q:=(Nx G (fun p=>c8 D (lo W [(sbq,p.1,p.2.1)])::(acc+8,A1 (sv (rs++zero n5)) p.2.2)::dD z.m (ents W [n0,n1,n2,n3,n4,n5]) 6::(A0 [n0,n1,n2,n3,n4,n5]++L)):Post (Nat×Value×Nat))) (fun p hp=>by have q:=hR p hp;simp only [hz,List.append_nil] at q;exact q) (L:=c8 D (lo W [(sbq,tki,.ref (n4.a+8))])::lS acc (rs) e::c8 it (Ej z.m 5)::dD z.m (ents W [n0,n1,n2,n3,n4,n5]) 6::(A0 [n0,n1,n2,n3,n4,n5]++L)) (A4 [] 0 (by kernel_rfl)) (pl5 (tki:=tki) (v:= .ref (n4.a+8)) (z:=z) (F:=F) (G:=G) (L:=L) (it:=it) (acc:=acc) (n:=n) (D:=D) (n0:=n0) (n1:=n1) (n2:=n2) (n3:=n3) (n4:=n4) (n5:=n5) ok hd hu (by omega))
 ·have hz:zero n4=[(n4.x,n4.t)]:=if_pos (of_decide_eq_true hh)
  refine AU ok 37 18558749844045995904414553913546446313931932481 (.call (.builtin "list.append") ⟨[.ref (acc+8),.str n4.x n4.t],[]⟩) [1] (lS acc rs e) A6 (fun _ _ eA=>A8 (by rw [Am];omega)) fun e' n₂ tk₂ _=>?_
  refine gmagn ok 0 0 (prC W it acc n D) (Q:=(Nx G (fun p=>c8 D (lo W [(sbq,p.1,p.2.1)])::(acc+8,A1 (sv ((rs++[(n4.x,n4.t)])++zero n5)) p.2.2)::dD z.m (ents W [n0,n1,n2,n3,n4,n5]) 6::(A0 [n0,n1,n2,n3,n4,n5]++L)):Post (Nat×Value×Nat))) (fun p hp=>by have q:=hR p hp;simp only [hz] at q;exact q) (L:=c8 D (lo W [(sbq,tki,.ref (n4.a+8))])::(acc+8,A1 (sv (rs++[(n4.x,n4.t)])) e')::c8 it (Ej z.m 5)::dD z.m (ents W [n0,n1,n2,n3,n4,n5]) 6::(A0 [n0,n1,n2,n3,n4,n5]++L)) (fun h D=>(AB rs n4.x n4.t)▸A4 [1,0] 0 (by kernel_rfl) h D) (pl5 (tki:=tki) (v:= .ref (n4.a+8)) (z:=z) (F:=F) (G:=G) (L:=L) (it:=it) (acc:=acc) (n:=n) (D:=D) (n0:=n0) (n1:=n1) (n2:=n2) (n3:=n3) (n4:=n4) (n5:=n5) ok hd hu (by rw [List.length_append];simp only [List.length_cons,List.length_nil];omega))
theorem pl3 (ok:W.Ok) {v:Value} {z:Sr} (hd:dp<=700) (hu:un<=700) (hr:rs.length<=3) :
  Tri W (Ar dp un F) (prC W it acc n D) G (c8 D (lo W [(sbq,tki,v)])::lS acc rs e::c8 it (Ej z.m 3)::dD z.m (ents W [n0,n1,n2,n3,n4,n5]) 6::(A0 [n0,n1,n2,n3,n4,n5]++L))
  (Nx G (fun p=>c8 D (lo W [(sbq,p.1,p.2.1)])::(acc+8,A1 (sv (rs++zero n3++zero n4++zero n5)) p.2.2)::dD z.m (ents W [n0,n1,n2,n3,n4,n5]) 6::(A0 [n0,n1,n2,n3,n4,n5]++L)):Post (Nat×Value×Nat)):=by
 refine Tri.of fun R n' tk hR=>?_
 refine gc0 ok 63 303750979112120549783425361817434708396969486152544870725237941792944323 (.call (.builtin "int.__eq__") ⟨[.int n3.p n3.tp,.int 0 (tk+2)],[]⟩) A6 (fun _ _ eA=>Ca ok) fun _ n₁ tk₁ _=>?_
 cases hh:decide (n3.p=0)
 ·have hz:zero n3=[]:=if_neg (of_decide_eq_false hh)
  refine gmagn ok 0 0 (prC W it acc n D) (Q:=(Nx G (fun p=>c8 D (lo W [(sbq,p.1,p.2.1)])::(acc+8,A1 (sv (rs++zero n4++zero n5)) p.2.2)::dD z.m (ents W [n0,n1,n2,n3,n4,n5]) 6::(A0 [n0,n1,n2,n3,n4,n5]++L)):Post (Nat×Value×Nat))) (fun p hp=>by have q:=hR p hp;simp only [hz,List.append_nil] at q;exact q) (L:=c8 D (lo W [(sbq,tki,.ref (n3.a+8))])::lS acc (rs) e::c8 it (Ej z.m 4)::dD z.m (ents W [n0,n1,n2,n3,n4,n5]) 6::(A0 [n0,n1,n2,n3,n4,n5]++L)) (A4 [] 0 (by kernel_rfl)) (pl4 (tki:=tki) (v:= .ref (n3.a+8)) (z:=z) (F:=F) (G:=G) (L:=L) (it:=it) (acc:=acc) (n:=n) (D:=D) (n0:=n0) (n1:=n1) (n2:=n2) (n3:=n3) (n4:=n4) (n5:=n5) ok hd hu (by omega))
 ·have hz:zero n3=[(n3.x,n3.t)]:=if_pos (of_decide_eq_true hh)
  refine AU ok 37 15703557560346611919120007157616223804096250561 (.call (.builtin "list.append") ⟨[.ref (acc+8),.str n3.x n3.t],[]⟩) [1] (lS acc rs e) A6 (fun _ _ eA=>A8 (by rw [Am];omega)) fun e' n₂ tk₂ _=>?_
  refine gmagn ok 0 0 (prC W it acc n D) (Q:=(Nx G (fun p=>c8 D (lo W [(sbq,p.1,p.2.1)])::(acc+8,A1 (sv ((rs++[(n3.x,n3.t)])++zero n4++zero n5)) p.2.2)::dD z.m (ents W [n0,n1,n2,n3,n4,n5]) 6::(A0 [n0,n1,n2,n3,n4,n5]++L)):Post (Nat×Value×Nat))) (fun p hp=>by have q:=hR p hp;simp only [hz] at q;exact q) (L:=c8 D (lo W [(sbq,tki,.ref (n3.a+8))])::(acc+8,A1 (sv (rs++[(n3.x,n3.t)])) e')::c8 it (Ej z.m 4)::dD z.m (ents W [n0,n1,n2,n3,n4,n5]) 6::(A0 [n0,n1,n2,n3,n4,n5]++L)) (fun h D=>(AB rs n3.x n3.t)▸A4 [1,0] 0 (by kernel_rfl) h D) (pl4 (tki:=tki) (v:= .ref (n3.a+8)) (z:=z) (F:=F) (G:=G) (L:=L) (it:=it) (acc:=acc) (n:=n) (D:=D) (n0:=n0) (n1:=n1) (n2:=n2) (n3:=n3) (n4:=n4) (n5:=n5) ok hd hu (by rw [List.length_append];simp only [List.length_cons,List.length_nil];omega))
theorem pl2 (ok:W.Ok) {v:Value} {z:Sr} (hd:dp<=700) (hu:un<=700) (hr:rs.length<=2) :
  Tri W (Ar dp un F) (prC W it acc n D) G (c8 D (lo W [(sbq,tki,v)])::lS acc rs e::c8 it (Ej z.m 2)::dD z.m (ents W [n0,n1,n2,n3,n4,n5]) 6::(A0 [n0,n1,n2,n3,n4,n5]++L))
  (Nx G (fun p=>c8 D (lo W [(sbq,p.1,p.2.1)])::(acc+8,A1 (sv (rs++zero n2++zero n3++zero n4++zero n5)) p.2.2)::dD z.m (ents W [n0,n1,n2,n3,n4,n5]) 6::(A0 [n0,n1,n2,n3,n4,n5]++L)):Post (Nat×Value×Nat)):=by
 refine Tri.of fun R n' tk hR=>?_
 refine gc0 ok 63 248523528364462268004620750577901125052065943219236305200085036264337603 (.call (.builtin "int.__eq__") ⟨[.int n2.p n2.tp,.int 0 (tk+2)],[]⟩) A6 (fun _ _ eA=>Ca ok) fun _ n₁ tk₁ _=>?_
 cases hh:decide (n2.p=0)
 ·have hz:zero n2=[]:=if_neg (of_decide_eq_false hh)
  refine gmagn ok 0 0 (prC W it acc n D) (Q:=(Nx G (fun p=>c8 D (lo W [(sbq,p.1,p.2.1)])::(acc+8,A1 (sv (rs++zero n3++zero n4++zero n5)) p.2.2)::dD z.m (ents W [n0,n1,n2,n3,n4,n5]) 6::(A0 [n0,n1,n2,n3,n4,n5]++L)):Post (Nat×Value×Nat))) (fun p hp=>by have q:=hR p hp;simp only [hz,List.append_nil] at q;exact q) (L:=c8 D (lo W [(sbq,tki,.ref (n2.a+8))])::lS acc (rs) e::c8 it (Ej z.m 3)::dD z.m (ents W [n0,n1,n2,n3,n4,n5]) 6::(A0 [n0,n1,n2,n3,n4,n5]++L)) (A4 [] 0 (by kernel_rfl)) (pl3 (tki:=tki) (v:= .ref (n2.a+8)) (z:=z) (F:=F) (G:=G) (L:=L) (it:=it) (acc:=acc) (n:=n) (D:=D) (n0:=n0) (n1:=n1) (n2:=n2) (n3:=n3) (n4:=n4) (n5:=n5) ok hd hu (by omega))
 ·have hz:zero n2=[(n2.x,n2.t)]:=if_pos (of_decide_eq_true hh)
  refine AU ok 37 12848365276647227933825460401686001294260568641 (.call (.builtin "list.append") ⟨[.ref (acc+8),.str n2.x n2.t],[]⟩) [1] (lS acc rs e) A6 (fun _ _ eA=>A8 (by rw [Am];omega)) fun e' n₂ tk₂ _=>?_
  refine gmagn ok 0 0 (prC W it acc n D) (Q:=(Nx G (fun p=>c8 D (lo W [(sbq,p.1,p.2.1)])::(acc+8,A1 (sv ((rs++[(n2.x,n2.t)])++zero n3++zero n4++zero n5)) p.2.2)::dD z.m (ents W [n0,n1,n2,n3,n4,n5]) 6::(A0 [n0,n1,n2,n3,n4,n5]++L)):Post (Nat×Value×Nat))) (fun p hp=>by have q:=hR p hp;simp only [hz] at q;exact q) (L:=c8 D (lo W [(sbq,tki,.ref (n2.a+8))])::(acc+8,A1 (sv (rs++[(n2.x,n2.t)])) e')::c8 it (Ej z.m 3)::dD z.m (ents W [n0,n1,n2,n3,n4,n5]) 6::(A0 [n0,n1,n2,n3,n4,n5]++L)) (fun h D=>(AB rs n2.x n2.t)▸A4 [1,0] 0 (by kernel_rfl) h D) (pl3 (tki:=tki) (v:= .ref (n2.a+8)) (z:=z) (F:=F) (G:=G) (L:=L) (it:=it) (acc:=acc) (n:=n) (D:=D) (n0:=n0) (n1:=n1) (n2:=n2) (n3:=n3) (n4:=n4) (n5:=n5) ok hd hu (by rw [List.length_append];simp only [List.length_cons,List.length_nil];omega))
theorem pl1 (ok:W.Ok) {v:Value} {z:Sr} (hd:dp<=700) (hu:un<=700) (hr:rs.length<=1) :
  Tri W (Ar dp un F) (prC W it acc n D) G (c8 D (lo W [(sbq,tki,v)])::lS acc rs e::c8 it (Ej z.m 1)::dD z.m (ents W [n0,n1,n2,n3,n4,n5]) 6::(A0 [n0,n1,n2,n3,n4,n5]++L))
  (Nx G (fun p=>c8 D (lo W [(sbq,p.1,p.2.1)])::(acc+8,A1 (sv (rs++zero n1++zero n2++zero n3++zero n4++zero n5)) p.2.2)::dD z.m (ents W [n0,n1,n2,n3,n4,n5]) 6::(A0 [n0,n1,n2,n3,n4,n5]++L)):Post (Nat×Value×Nat)):=by
 refine Tri.of fun R n' tk hR=>?_
 refine gc0 ok 63 193296077616803986225816139338367541707162400285927739674932130735730883 (.call (.builtin "int.__eq__") ⟨[.int n1.p n1.tp,.int 0 (tk+2)],[]⟩) A6 (fun _ _ eA=>Ca ok) fun _ n₁ tk₁ _=>?_
 cases hh:decide (n1.p=0)
 ·have hz:zero n1=[]:=if_neg (of_decide_eq_false hh)
  refine gmagn ok 0 0 (prC W it acc n D) (Q:=(Nx G (fun p=>c8 D (lo W [(sbq,p.1,p.2.1)])::(acc+8,A1 (sv (rs++zero n2++zero n3++zero n4++zero n5)) p.2.2)::dD z.m (ents W [n0,n1,n2,n3,n4,n5]) 6::(A0 [n0,n1,n2,n3,n4,n5]++L)):Post (Nat×Value×Nat))) (fun p hp=>by have q:=hR p hp;simp only [hz,List.append_nil] at q;exact q) (L:=c8 D (lo W [(sbq,tki,.ref (n1.a+8))])::lS acc (rs) e::c8 it (Ej z.m 2)::dD z.m (ents W [n0,n1,n2,n3,n4,n5]) 6::(A0 [n0,n1,n2,n3,n4,n5]++L)) (A4 [] 0 (by kernel_rfl)) (pl2 (tki:=tki) (v:= .ref (n1.a+8)) (z:=z) (F:=F) (G:=G) (L:=L) (it:=it) (acc:=acc) (n:=n) (D:=D) (n0:=n0) (n1:=n1) (n2:=n2) (n3:=n3) (n4:=n4) (n5:=n5) ok hd hu (by omega))
 ·have hz:zero n1=[(n1.x,n1.t)]:=if_pos (of_decide_eq_true hh)
  refine AU ok 37 9993172992947843948530913645755778784424886721 (.call (.builtin "list.append") ⟨[.ref (acc+8),.str n1.x n1.t],[]⟩) [1] (lS acc rs e) A6 (fun _ _ eA=>A8 (by rw [Am];omega)) fun e' n₂ tk₂ _=>?_
  refine gmagn ok 0 0 (prC W it acc n D) (Q:=(Nx G (fun p=>c8 D (lo W [(sbq,p.1,p.2.1)])::(acc+8,A1 (sv ((rs++[(n1.x,n1.t)])++zero n2++zero n3++zero n4++zero n5)) p.2.2)::dD z.m (ents W [n0,n1,n2,n3,n4,n5]) 6::(A0 [n0,n1,n2,n3,n4,n5]++L)):Post (Nat×Value×Nat))) (fun p hp=>by have q:=hR p hp;simp only [hz] at q;exact q) (L:=c8 D (lo W [(sbq,tki,.ref (n1.a+8))])::(acc+8,A1 (sv (rs++[(n1.x,n1.t)])) e')::c8 it (Ej z.m 2)::dD z.m (ents W [n0,n1,n2,n3,n4,n5]) 6::(A0 [n0,n1,n2,n3,n4,n5]++L)) (fun h D=>(AB rs n1.x n1.t)▸A4 [1,0] 0 (by kernel_rfl) h D) (pl2 (tki:=tki) (v:= .ref (n1.a+8)) (z:=z) (F:=F) (G:=G) (L:=L) (it:=it) (acc:=acc) (n:=n) (D:=D) (n0:=n0) (n1:=n1) (n2:=n2) (n3:=n3) (n4:=n4) (n5:=n5) ok hd hu (by rw [List.length_append];simp only [List.length_cons,List.length_nil];omega))
theorem pl0 (ok:W.Ok) {z:Sr} (hd:dp<=700) (hu:un<=700) (hr:rs.length<=0) :
  Tri W (Ar dp un F) (prC W it acc n D) G (c8 D (lo W [])::lS acc rs e::c8 it (Ej z.m 0)::dD z.m (ents W [n0,n1,n2,n3,n4,n5]) 6::(A0 [n0,n1,n2,n3,n4,n5]++L))
  (Nx G (fun p=>c8 D (lo W [(sbq,p.1,p.2.1)])::(acc+8,A1 (sv (rs++zero n0++zero n1++zero n2++zero n3++zero n4++zero n5)) p.2.2)::dD z.m (ents W [n0,n1,n2,n3,n4,n5]) 6::(A0 [n0,n1,n2,n3,n4,n5]++L)):Post (Nat×Value×Nat)):=by
 refine Tri.of fun R n' tk hR=>?_
 refine gc0 ok 63 138068626869145704447011528098833958362258857352619174149779225207124163 (.call (.builtin "int.__eq__") ⟨[.int n0.p n0.tp,.int 0 (tk+2)],[]⟩) A6 (fun _ _ eA=>Ca ok) fun _ n₁ tk₁ _=>?_
 cases hh:decide (n0.p=0)
 ·have hz:zero n0=[]:=if_neg (of_decide_eq_false hh)
  refine gmagn ok 0 0 (prC W it acc n D) (Q:=(Nx G (fun p=>c8 D (lo W [(sbq,p.1,p.2.1)])::(acc+8,A1 (sv (rs++zero n1++zero n2++zero n3++zero n4++zero n5)) p.2.2)::dD z.m (ents W [n0,n1,n2,n3,n4,n5]) 6::(A0 [n0,n1,n2,n3,n4,n5]++L)):Post (Nat×Value×Nat))) (fun p hp=>by have q:=hR p hp;simp only [hz,List.append_nil] at q;exact q) (L:=c8 D (lo W [(sbq,tk,.ref (n0.a+8))])::lS acc (rs) e::c8 it (Ej z.m 1)::dD z.m (ents W [n0,n1,n2,n3,n4,n5]) 6::(A0 [n0,n1,n2,n3,n4,n5]++L)) (A4 [] 0 (by kernel_rfl)) (pl1 (tki:=tk) (v:= .ref (n0.a+8)) (z:=z) (F:=F) (G:=G) (L:=L) (it:=it) (acc:=acc) (n:=n) (D:=D) (n0:=n0) (n1:=n1) (n2:=n2) (n3:=n3) (n4:=n4) (n5:=n5) ok hd hu (by omega))
 ·have hz:zero n0=[(n0.x,n0.t)]:=if_pos (of_decide_eq_true hh)
  refine AU ok 37 7137980709248459963236366889825556274589204801 (.call (.builtin "list.append") ⟨[.ref (acc+8),.str n0.x n0.t],[]⟩) [1] (lS acc rs e) A6 (fun _ _ eA=>A8 (by rw [Am];omega)) fun e' n₂ tk₂ _=>?_
  refine gmagn ok 0 0 (prC W it acc n D) (Q:=(Nx G (fun p=>c8 D (lo W [(sbq,p.1,p.2.1)])::(acc+8,A1 (sv ((rs++[(n0.x,n0.t)])++zero n1++zero n2++zero n3++zero n4++zero n5)) p.2.2)::dD z.m (ents W [n0,n1,n2,n3,n4,n5]) 6::(A0 [n0,n1,n2,n3,n4,n5]++L)):Post (Nat×Value×Nat))) (fun p hp=>by have q:=hR p hp;simp only [hz] at q;exact q) (L:=c8 D (lo W [(sbq,tk,.ref (n0.a+8))])::(acc+8,A1 (sv (rs++[(n0.x,n0.t)])) e')::c8 it (Ej z.m 1)::dD z.m (ents W [n0,n1,n2,n3,n4,n5]) 6::(A0 [n0,n1,n2,n3,n4,n5]++L)) (fun h D=>(AB rs n0.x n0.t)▸A4 [1,0] 0 (by kernel_rfl) h D) (pl1 (tki:=tk) (v:= .ref (n0.a+8)) (z:=z) (F:=F) (G:=G) (L:=L) (it:=it) (acc:=acc) (n:=n) (D:=D) (n0:=n0) (n1:=n1) (n2:=n2) (n3:=n3) (n4:=n4) (n5:=n5) ok hd hu (by rw [List.length_append];simp only [List.length_cons,List.length_nil];omega))
theorem Own.swap {h':Heap} {a:Addr} {o':Obj} (D:Own h₀ 53 h ((a,o)::L)) (hs:Heap.SameBut a h h') (ho:h'.get? a=some o'):Own h₀ 53 h' ((a,o')::L):=by
 have nd:=D.nd
 rw [List.map_cons,List.nodup_cons] at nd
 refine ⟨fun b ob e q=>?_,fun p hp=>?_,?_,fun p hp=>?_,by rw [hs.1];exact D.sz⟩
 ·have ne:b≠a:=by
   rintro rfl
   rcases D.new _ (.head _) with z | z
   ·exact q z
   ·rw [e] at z;cases z
  exact (hs.2 b ne).trans (D.keep b ob e q)
 ·rcases List.mem_cons.mp hp with rfl | hp
  ·exact ho
  ·have ne:p.1≠a:=fun e=>nd.1 (by rw [← e];exact List.mem_map_of_mem (f:=(·.1)) hp)
   exact (hs.2 _ ne).trans (D.own p (.tail _ hp))
 ·rw [List.map_cons,List.nodup_cons];exact nd
 ·rcases List.mem_cons.mp hp with rfl | hp
  ·exact D.new (a,o) (.head _)
  ·exact D.new p (.tail _ hp)
noncomputable abbrev knd (W:Wd):=PySem.strKind AA W.w
noncomputable def Dk (W:Wd) (S:Str->Bool) (n:Nat) (o:Obj):Prop:=∃ es ep t,o.ExactSet/\o.data= .set es ep t/\ElemsOf (knd W) es.toList/\(∀ k,S k=true↔∃ e∈es.toList,(knd W).is k e.2=true)/\es.size<scanBound/\t.fits es.size=true/\es.size=n
noncomputable def AQ (p:Array (Int×Value)×Nat×SetTable):Obj:=⟨.type "set",none,.set p.1 p.2.1 p.2.2,#[]⟩
theorem exactSet {es:Array (Int×Value)} {t:SetTable} (h:o.ExactSet) (hd:o.data= .set es ep t):o=AQ (es,ep,t):=by
 obtain ⟨c,d,dt,sl⟩:=o
 obtain ⟨h1,h2,h3⟩:=h
 simp only at h1 h2 h3 hd
 subst h1 h2 h3 hd
 rfl
theorem exactDict (h:o.ExactDict) (hd:o.data= .dict es ep):o=AR es ep:=by
 obtain ⟨c,d,dt,sl⟩:=o
 obtain ⟨h1,h2,h3⟩:=h
 simp only at h1 h2 h3 hd
 subst h1 h2 h3 hd
 rfl
theorem Dk.of {S:Str->Bool} {a:Addr} (z:Dk W S n o) (ho:h.get? a=some o):h.SetOf (knd W) a S n:=by
 obtain ⟨es,ep,t,r⟩:=z
 exact ⟨o,es,ep,t,ho,r⟩
theorem CS {t:Nat} {o:Array (Int×Value)×Nat×SetTable} {S:Str->Bool} (hS:Dk W S n (AQ o)) :
  Tri W A (.call (.builtin "set.__contains__") ⟨[.ref a,.str x t],[]⟩) G ((a,AQ o)::L) (Ret (.bool (S x)) G ((a,AQ o)::L)):=
 Tri.cb F.slot_set_contains entry_set_contains (F.args_set_contains_2 _ _) (fun h _ D=>(hS.of D.at0).typeIs (s:=⟨h,_,_,_,_⟩)) fun R hR h n tk hs D=>by
  unfold Builtin.«frozenset.__contains__» Builtin.Frozenset.oneOther
  simp only [List.isEmpty_nil,bind_assoc]
  unfold Builtin.Frozenset.addrOf Builtin.Frozenset.withSetAsKey setContains
  refine wpAny_bind (wpAny_pure ?_)
  try dsimp only
  refine wpAny_bind (wpAny_pure ?_)
  try dsimp only
  refine wpAny_bind (wpAny_tryCatch ?_)
  refine wpAny_holding ?_
  refine wpAny_bind ((knd W).pyHash (strKind_is _ _ x t) ?_)
  refine wpAny_bind (wpAny_setFind_of (strKind_is _ _ x t) rfl (hS.of D.at0) fun r hr=>?_)
  refine wpAny_pure ?_
  show wpAny _ _ (ret (Value.bool r.isSome)) _ _ _
  rw [hr]
  exact wpAny_pure (hR () trivial h n _ hs D)
theorem set_add {t k:Nat} {o:Array (Int×Value)×Nat×SetTable} {S:Str->Bool} (hS:Dk W S k (AQ o)) (hk:k<=100) :
  Tri W A (.call (.builtin "set.add") ⟨[.ref a,.str x t],[]⟩) G ((a,AQ o)::L) ⟨fun _=>G,fun o'=>Dk W (fun y=>S y||decide (y=x)) (if S x then k else k+1) (AQ o'),fun _=> .ok (.ret .none),fun o'=>(a,AQ o')::L⟩:=
 Tri.cb F.slot_set_add F.entry_set_add (F.args_set_add_2 _ _) (fun h _ D=>(hS.of D.at0).typeIs (s:=⟨h,_,_,_,_⟩)) fun R hR h n tk hs D=>by
  unfold Builtin.«set.add» Builtin.Frozenset.oneOther
  simp only [List.isEmpty_nil,bind_assoc]
  unfold Builtin.Frozenset.addrOf setAdd
  refine wpAny_bind (wpAny_pure ?_)
  try dsimp only
  refine wpAny_bind (wpAny_pure ?_)
  try dsimp only
  refine wpAny_bind ?_
  refine wpAny_holding ?_
  refine wpAny_bind ((knd W).pyHash (strKind_is _ _ x t) ?_)
  refine wpAny_setAddHashed_of (strKind_is _ _ x t) rfl (hS.of D.at0) (by unfold scanBound;omega) fun h' hsb hS'=>?_
  show wpAny _ _ (ret Value.none) _ _ _
  obtain ⟨o',es,ep,tt,ho',r⟩:=hS'
  obtain rfl:=exactSet r.1 r.2.1
  exact wpAny_pure (hR (es,ep,tt) ⟨es,ep,tt,r⟩ h' n _ (by rw [hsb.1];exact hs) (D.swap hsb ho'))
noncomputable def DK (W:Wd) (ks:List Str) (o:Obj):Prop:=∃ kvs:List (Str×Value),kvs.map (·.1)=ks/\∃ es ep,o.ExactDict/\o.data= .dict es ep/\KeysOf (knd W) es/\Pairs (knd W) es.toList kvs/\(kvs.map (·.1)).Nodup
theorem DK.of {ks:List Str} (z:DK W ks o):∃ kvs:List (Str×Value),kvs.map (·.1)=ks/\(kvs.map (·.1)).Nodup/\∀ (h:Heap) (a:Addr),h.get? a=some o->h.DictOf (knd W) a kvs:=by
 obtain ⟨kvs,e,es,ep,r⟩:=z
 exact ⟨kvs,e,r.2.2.2.2,fun h a ho=>⟨o,es,ep,ho,r⟩⟩
theorem value_mem {kvs:List (Str×Value)}:(valueAt kvs x).isSome=decide (x∈kvs.map (·.1)):=by
 induction kvs with
 | nil=>rfl
 | cons a l ih=>
  unfold valueAt at ih ⊢
  rw [List.find?_cons]
  by_cases h:a.1=x
  ·simp [h]
  ·have h':¬ x=a.1:=fun e=>h e.symm
   simp only [h,decide_false,List.map_cons,List.mem_cons,h',false_or]
   exact ih
theorem dk_contains {t:Nat} {o:Array DictEntry×Nat} {ks:List Str} (hk:DK W ks (AR o.1 o.2)) :
  Tri W A (.call (.builtin "dict.__contains__") ⟨[.ref (d+8),.str x t],[]⟩) G (dD d o.1 o.2::L) (Ret (.bool (decide (x∈ks))) G (dD d o.1 o.2::L)):=by
 obtain ⟨kvs,rfl,hnd,hof⟩:=hk.of
 exact Tri.cb F.slot_dict_contains F.entry_dict_contains (F.args_dict_contains_2 _ _) (fun h _ D=>(hof h _ D.at0).typeIs (s:=⟨h,_,_,_,_⟩)) fun R hR h n tk hs D=>
  meets_dict_contains (PySem.strKind AA W.w) (d+8) (strKind_is _ _ x t) (no_sys d) A R _ ⟨_,(hof h _ D.at0).mapOf,by rw [value_mem];exact hR () trivial h n _ hs D⟩
theorem dk_put {t:Nat} {o:Array DictEntry×Nat} {ks:List Str} {v:Value} (hk:DK W ks (AR o.1 o.2)) (hx:x∉ks) (hl:ks.length<=900) :
  Tri W A (.call (.builtin "dict.__setitem__") ⟨[.ref (d+8),.str x t,v],[]⟩) G (dD d o.1 o.2::L) ⟨fun _=>G,fun o':Array DictEntry×Nat=>DK W (ks++[x]) (AR o'.1 o'.2),fun _=> .ok (.ret .none),fun o'=>dD d o'.1 o'.2::L⟩:=by
 obtain ⟨kvs,rfl,hnd,hof⟩:=hk.of
 refine Tri.cb slot_dict_setitem entry_dict_setitem (args_dict_setitem _ _ _) (fun h _ D=>(hof h _ D.at0).typeIs (s:=⟨h,_,_,_,_⟩)) fun R hR h n tk hs D=>
  meets_dict_setitem_pairs (PySem.strKind AA W.w) (d+8) (strKind_is _ _ x t) v A R _ ⟨_,hof h _ D.at0,line (by simp at hl;omega),fun h' hd' hsb=>?_⟩
 obtain ⟨o',es,ep,ho',r⟩:=hd'
 have e:stored kvs x v=kvs++[(x,v)]:=by
  unfold stored
  rw [if_neg]
  simp only [List.any_eq_true,decide_eq_true_eq,not_exists,not_and]
  exact fun a ha e=>hx (e▸List.mem_map_of_mem ha)
 rw [e] at r
 obtain rfl:=exactDict r.1 r.2.1
 exact hR (es,ep) ⟨_,by simp,es,ep,r⟩ h' n _ (by rw [hsb.1];exact hs) (D.swap hsb ho')
theorem dk_del {t:Nat} {o:Array DictEntry×Nat} {ks:List Str} (hk:DK W (ks++[x]) (AR o.1 o.2)) (hl:ks.length<=900) :
  Tri W A (.call (.builtin "dict.__delitem__") ⟨[.ref (d+8),.str x t],[]⟩) G (dD d o.1 o.2::L) ⟨fun _=>G,fun o':Array DictEntry×Nat=>DK W ks (AR o'.1 o'.2),fun _=> .ok (.ret .none),fun o'=>dD d o'.1 o'.2::L⟩:=by
 obtain ⟨kvs,e,hnd,hof⟩:=hk.of
 have hm:(valueAt kvs x).isSome=true:=by rw [value_mem,e];simp
 refine Tri.cb F.slot_dict_delitem F.entry_dict_delitem (F.args_dict_delitem_2 _ _) (fun h _ D=>(hof h _ D.at0).typeIs (s:=⟨h,_,_,_,_⟩)) fun R hR h n tk hs D=>
  meets_dict_delitem_pairs (PySem.strKind AA W.w) (d+8) (strKind_is _ _ x t) A R _ ⟨_,hof h _ D.at0,line (by have:=congrArg List.length e;simp at this;omega),hm,fun h' hd' hsb=>?_⟩
 obtain ⟨o',es,ep,ho',r⟩:=hd'
 have q:(without kvs x).map (·.1)=ks:=by
  rw [e] at hnd
  have e2:(without kvs x).map (·.1)=(kvs.map (·.1)).filter fun y=>decide (y≠x):=by
   unfold without
   rw [List.filter_map];rfl
  rw [e2,e,List.filter_append]
  have h1:ks.filter (fun y=>decide (y≠x))=ks:=List.filter_eq_self.mpr fun a ha=>by
   have:=List.nodup_append.mp hnd
   simpa using this.2.2 a ha x (by simp)
  rw [h1];simp
 obtain rfl:=exactDict r.1 r.2.1
 exact hR (es,ep) ⟨_,q,es,ep,r⟩ h' n _ (by rw [hsb.1];exact hs) (D.swap hsb ho')
theorem list_last {l:Addr} {xs:List Value} {t:Nat} {x:Value} (hl:xs.length<=900) :
  Tri W A (.call (.builtin "list.__getitem__") ⟨[.ref l,.int (-1) t],[]⟩) G ((l,A1 (xs++[x]).toArray e)::L) (Ret x G ((l,A1 (xs++[x]).toArray e)::L)):=
 Tri.cb slot_list_getitem entry_list_getitem (args_list_getitem _ _) (fun h _ D=>⟨_,D.at0,rfl⟩) fun R hR h n tk hs D=>by
  show wpAny _ _ (Builtin.List.listSubscript? (.int (-1) t)>>=_) _ _ _
  refine wpAny_bind (wpAny_listSubscript_int (by decide) ?_)
  have hx:(xs++[x]).toArray[(xs++[x]).toArray.size - 1]?=some x:=by simp
  have hz:(xs++[x]).toArray.size≠0:=by simp
  generalize (xs++[x]).toArray=ys at hx hz D hR
  show wpAny _ _ ((Builtin.List.listItems (.ref l)>>=fun ys=>pure ((seqIndex? (-1) ys.size).bind fun j=>ys[j]?.map (j,·)))>>=_) _ _ _
  refine wpAny_bind (wpAny_bind (wpAny_listItems D.at0 rfl (wpAny_pure ?_)))
  have e1:(seqIndex? (-1) ys.size).bind (fun j=>ys[j]?.map (j,·))=some (ys.size - 1,x):=by
   have:seqIndex? (-1) ys.size=some (ys.size - 1):=by
    unfold seqIndex?
    simp only
    split<;>first | (simp;omega) | (rename_i h;simp at h;omega)
   rw [this]
   simp [hx]
  rw [e1]
  have z:=hR () trivial h n tk hs D
  first
   | exact wpAny_bind (wpAny_pure (wpAny_pure z))
   | exact wpAny_pure z
noncomputable def DO:List Env->List Cell->Prop
 | [],[]=>True
 | env::l,p::C=>env.scope.kind≠ .module/\env.frame=some p.1/\(∃ c d es ep sl,p.2=⟨c,d,.dict es ep,sl⟩)/\DO l C
 | _,_=>False
noncomputable def Up:List Cell->List Cell->Prop
 | [],[]=>True
 | p::C,q::C'=>q.1=p.1/\(∃ sl,q.2={ p.2 with slots:=sl })/\Up C C'
 | _,_=>False
theorem Up.rfl':∀ C,Up C C
 | []=>trivial
 | p::C=>⟨rfl,⟨p.2.slots,rfl⟩,Up.rfl' C⟩
theorem DO.up {l:List Env}:∀ {C C':List Cell},DO l C->Up C C'->DO l C':=by
 induction l with
 | nil=>
  intro C C' h u
  cases C with
  | cons=>exact h.elim
  | nil=>cases C' with
   | nil=>trivial
   | cons=>exact u.elim
 | cons env l ih=>
  intro C C' h u
  cases C with
  | nil=>exact h.elim
  | cons p C=>cases C' with
   | nil=>exact u.elim
   | cons q C'=>
    obtain ⟨h1,h2,⟨c,d,es,ep,sl,e⟩,h4⟩:=h
    obtain ⟨u1,⟨sl',u2⟩,u3⟩:=u
    exact ⟨h1,by rw [u1];exact h2,⟨c,d,es,ep,sl',by rw [u2,e]⟩,ih h4 u3⟩
theorem own_snoc {X Y:List Cell} {p:Cell} (D:Own h₀ 53 h (X++p::Y)):Own h₀ 53 h ((X++[p])++Y):=by
 rw [List.append_assoc];exact D
theorem ready {K:Unit->Shared->Prop} {E:Value->Shared->Prop} (l:List Env):∀ (C X:List Cell) (h:Heap) (tk:Nat),DO l C->h.objs.size=m->Own W.h₀ 53 h (X++(C++L)) ->
  (∀ C' h',Up C C'->h'.objs.size=m->Own W.h₀ 53 h' (X++(C'++L))->K () ⟨h',⟨G⟩,W.d,tk,W.os⟩)->wpAny W.M A (readyFrames l) K E ⟨h,⟨G⟩,W.d,tk,W.os⟩:=by
 induction l with
 | nil=>
  intro C X h tk hC hs D k
  cases C with
  | cons=>exact hC.elim
  | nil=>exact wpAny_pure (k [] h trivial hs D)
 | cons env l ih=>
  intro C X h tk hC hs D k
  cases C with
  | nil=>exact hC.elim
  | cons p C=>
  obtain ⟨hk,hf,⟨c,d,es,ep,sl,eo⟩,hC⟩:=hC
  have ho:h.get? p.1=some p.2:=D.own p (by simp)
  simp only [readyFrames,hf]
  refine wpAny_bind (wpAny_load ho ?_)
  by_cases hr:((p.2.slots.getD 3 none).isSome)=true
  ·rw [if_pos hr];exact wpAny_pure (k (p::C) h (Up.rfl' _) hs D)
  ·rw [if_neg hr]
   refine wpAny_bind (wpAny_of_eq (a:=false) (by simp [behindIsImport,hk]) ?_)
   have fin:∀ back,wpAny W.M A (update p.1 (fun o=>{ o with slots:=#[some env.code,some (.ref env.globals),o.slots.getD 2 none,some back,o.slots.getD 4 none,env.func.map Value.ref,some (.ref env.builtins)]++(env.cells.map fun c=>some (Value.ref c.2)).toArray })>>=fun _=>readyFrames l) K E ⟨h,⟨G⟩,W.d,tk,W.os⟩:=fun back=>by
    obtain ⟨a,o⟩:=p
    simp only at ho eo hf
    subst eo
    have hi:(X++((a,(⟨c,d,.dict es ep,sl⟩:Obj))::C++L))[X.length]?=some (a,⟨c,d,.dict es ep,sl⟩):=by simp
    refine wpAny_bind (wpAny_update ho ?_)
    have D':=D.update hi (f:=fun o=>{ o with slots:=#[some env.code,some (.ref env.globals),o.slots.getD 2 none,some back,o.slots.getD 4 none,env.func.map Value.ref,some (.ref env.builtins)]++(env.cells.map fun c=>some (Value.ref c.2)).toArray }) rfl
    simp only [List.cons_append,List.set_append_right _ _ (Nat.le_refl _),Nat.sub_self,List.set_cons_zero] at D'
    have D2:=own_snoc D'
    refine ih C _ _ tk hC (by rw [(Heap.SameBut.update ..).1];exact hs) D2 fun C' h' hu hs' D3=>?_
    rw [List.append_assoc] at D3
    exact k ((a,⟨c,d,.dict es ep,#[some env.code,some (.ref env.globals),sl.getD 2 none,some back,sl.getD 4 none,env.func.map Value.ref,some (.ref env.builtins)]++(env.cells.map fun c=>some (Value.ref c.2)).toArray⟩)::C') h' ⟨rfl,⟨_,rfl⟩,hu⟩ hs' D3
   cases l with
   | nil=>exact wpAny_bind (wpAny_keptBack_nil fun v=>fin v)
   | cons e2 l2=>
    simp only [keptBack]
    exact wpAny_bind (wpAny_pure (fin _))
noncomputable def tbO (f:Nat) (fl:Value) (pl:List Value):Obj:=⟨.type "traceback",none,.fields ([Value.none,.ref f,.none,fl,.none]++pl).toArray,#[]⟩
noncomputable def C0 (X:String) (t:Addr) (tb:Value):Obj:=⟨.type X,none,.fields #[.ref t,tb,.none,.none,.bool false,.none],#[]⟩
theorem note {X:String} {t f:Nat} (hf:env.frame=some f) (hC:DO (env::F) C) :
  Pc W (Ar dp un (env::F)) (noteFrame (.ref (e+8)) env) G (c8 e (C0 X t .none)::(C++L))
   (⟨fun _=>G,fun p=>Up C p.1,fun _=>(),fun p=>c8 p.2.1 (tbO f (rawInt f) p.2.2)::c8 e (C0 X t (.ref (p.2.1+8)))::(p.1++L)⟩:A3 Unit (List Cell×Nat×List Value)):=by
 intro K hK E h n tk hs D
 unfold noteFrame
 simp only [hf]
 refine wpAny_bind (wpAny_field D.at0 rfl (x:= .none) rfl ?_)
 rw [if_neg (by decide)]
 unfold PySem.frameOf
 refine wpAny_bind (wpAny_bind (wpAny_frameEnvs (l:=env::F) rfl ?_))
 have hdw:((env::F).dropWhile fun x=>x.frame != env.frame)=env::F:=by simp [List.dropWhile]
 rw [hdw]
 unfold frameObject
 refine wpAny_bind (wpAny_bind (ready (env::F) C [c8 e (C0 X t .none)] h tk hC hs D fun C' h' hu hs' D'=>wpAny_pure ?_))
 rw [hf]
 refine wpAny_pure ?_
 refine wpAny_bind (wpAny_entryPlaceOf fun pl hpl=>?_)
 unfold EntryCells.newEntry newFields
 refine wpAny_bind (wpAny_newObj_type ?_ (hpl.sizeOk5 _ _ _ _ _))
 have D2:=D'.alloc (o:={ cls:= .type "traceback",dict:=none,data:= .fields ([Value.none,.ref f,.none,rawInt f,.none]++(if pl.isEmpty then List.replicate 6 Value.none else pl)).toArray }) rfl
 rw [hs'] at D2
 have D3:Own W.h₀ 53 _ (c8 n (tbO f (rawInt f) (if pl.isEmpty then List.replicate 6 Value.none else pl))::c8 e (C0 X t .none)::(C'++L)):=D2
 refine wpAny_setField D3.at1 rfl (by simp) ?_
 have D4:=D3.update (i:=1) (f:=Obj.mapFields fun vs=>vs.setIfInBounds 1 (.ref (n+8))) rfl rfl
 have:=hK (C',n,if pl.isEmpty then List.replicate 6 Value.none else pl) hu _ (n+1) tk (by rw [(Heap.SameBut.update ..).1,Heap.size_push,hs']) D4
 rw [← hs'] at this
 exact this
noncomputable abbrev ArH (hd:Option Value) (dp un:Nat) (F:List Env):Around:=⟨hd,dp,some F,some [],un⟩
structure Bt (α β:Type) where
 G:β->List GenState
 P:β->Prop
 v:β->Except Value α
 L:β->List Cell
noncomputable def PcX (W:Wd) (A:Around) {α β:Type} (m:Sem α) (G:List GenState) (L:List Cell) (Q:Bt α β):Prop:=
 ∀ (K:α->Shared->Prop) (E:Value->Shared->Prop),(∀ p,Q.P p->∀ h n tk,h.objs.size=n+8->Own W.h₀ 53 h (Q.L p)->match Q.v p with | .ok a=>K a ⟨h,⟨Q.G p⟩,W.d,tk,W.os⟩ | .error e=>E e ⟨h,⟨Q.G p⟩,W.d,tk,W.os⟩) ->
  ∀ h n tk,h.objs.size=n+8->Own W.h₀ 53 h L->wpAny W.M A m K E ⟨h,⟨G⟩,W.d,tk,W.os⟩
noncomputable abbrev embR {α:Type} (emb:α->Flow):Except Value α->Result
 | .ok a=> .ok (emb a)
 | .error e=> .error e
noncomputable abbrev Bt.to {α β:Type} (Q:Bt α β) (emb:α->Flow):Post β:=⟨Q.G,Q.P,fun p=>embR emb (Q.v p),Q.L⟩
theorem PcX.of {hd:Option Value} {α β:Type} {m:Sem α} {Q:Bt α β} (emb:α->Flow) (inj:∀ a b,emb a=emb b->a=b) (mq:Sem α) (hm:m=mq)
  (x:∀ R n tk c₀ d f g u,(Around.mk hd d f g u).under c₀=ArH hd dp un F->Takes W R (Q.to emb)->AG (bs false W ⟨hd,d,f,g,u⟩ R n tk G) (Cu c₀ (PySem.W.R.bindR mq fun a=> .pure (.done (emb a))) L)):PcX W (ArH hd dp un F) m G L Q:=
 fun K E hK h n tk hs D=>DQ (BQ emb inj (fun c₀ d f g u hA=>hm▸x _ n tk c₀ d f g u hA fun p hp h' n' tk' hs' D'=>by
  have q:=hK p hp h' n' tk' hs' D'
  revert q
  cases e:Q.v p with
  | ok a=>intro q;exact .inl ⟨a,by simp [embR,e],q⟩
  | error x=>intro q;exact .inr ⟨x,by simp [embR,e],q⟩) hs D)
noncomputable def PcXC (W:Wd) (A:Around) {α β:Type} (m:Sem α) (G:List GenState) (L:List Cell) (Q:Bt α β):Prop:=
 ∀ (K:α->Shared->Prop) (E:Value->Shared->Prop),(∀ p,Q.P p->∀ h n tk,h.objs.size=n+8->Own W.h₀ 53 h (Q.L p)->match Q.v p with | .ok a=>K a ⟨h,⟨Q.G p⟩,W.d,tk,W.os⟩ | .error e=>E e ⟨h,⟨Q.G p⟩,W.d,tk,W.os⟩) ->
  ∀ h n tk,h.objs.size=n+8->Own W.h₀ 53 h L->As true W.M A m K E ⟨h,⟨G⟩,W.d,tk,W.os⟩
theorem PcXC.of {hd:Option Value} {α β:Type} {m:Sem α} {Q:Bt α β} (emb:α->Flow) (inj:∀ a b,emb a=emb b->a=b) (mq:Sem α) (hm:m=mq)
  (x:∀ R n tk c₀ d f g u,(Around.mk hd d f g u).under c₀=ArH hd dp un F->Takes W R (Q.to emb)->AG (bs true W ⟨hd,d,f,g,u⟩ R n tk G) (Cu c₀ (PySem.W.R.bindR mq fun a=> .pure (.done (emb a))) L)):PcXC W (ArH hd dp un F) m G L Q:=
 fun K E hK h n tk hs D=>BQ emb inj (fun c₀ d f g u hA=>hm▸x _ n tk c₀ d f g u hA fun p hp h' n' tk' hs' D'=>by
  have q:=hK p hp h' n' tk' hs' D'
  revert q
  cases e:Q.v p with
  | ok a=>intro q;exact .inl ⟨a,by simp [embR,e],q⟩
  | error x=>intro q;exact .inr ⟨x,by simp [embR,e],q⟩) hs D
theorem BA:@PySem.isTrue=PySem.W.ZFast.zw15418851999007992765:=PySem.W.ZFast.ze15418851999007992765
theorem E7 {w:World} {test:PySem.Expr} {orelse:List Stmt}
  (h:wpAny (model prog w) A (PySem.isTrue test env (eval test env)) (fun b s₁=>if b=true then wpAny (model prog w) A (execs body env) (fun f s₂=>match f with
    | .next | .cont=>codeAny (model prog w) A (.whileLoop test body orelse env) R s₂
    | .brk=>R (.ok .next) s₂
    | .ret v=>R (.ok (.ret v)) s₂) (notedBy (model prog w) A env fun e s'=>R (.error e) s') s₁
   else wpAny (model prog w) A (execs orelse env) (fun f s₂=>R (.ok f) s₂) (notedBy (model prog w) A env fun e s'=>R (.error e) s') s₁) (notedBy (model prog w) A env fun e s'=>R (.error e) s') s) :
  codeAny (model prog w) A (.whileLoop test body orelse env) R s:=by
 refine codeAny_of_tree ?_
 show wpAny _ A ((whileTurn test body orelse env).onRaise (fun x=>do noteFrame x env;theTreesLotGoes x)) _ _ s
 refine wpAny_noted ?_
 simp only [whileTurn]
 refine wpAny_bind (wpAny_mono h (fun b s₁ h₁=>?_) fun _ _ h'=>h')
 cases b with
 | false=>exact wpAny_bind (wpAny_mono h₁ (fun f s₂ h₂=>wpAny_pure h₂) fun _ _ h'=>h')
 | true=>
  refine wpAny_bind (wpAny_mono h₁ (fun f s₂ h₂=>?_) fun _ _ h'=>h')
  cases f with
  | next=>exact wpAny_pure (And.intro rfl h₂)
  | cont=>exact wpAny_pure (And.intro rfl h₂)
  | brk=>exact wpAny_pure h₂
  | ret v=>exact wpAny_pure h₂
noncomputable def w1 (W:Wd):Stmt:=AE (DC (AE (Ak W.kt 164) 5)) 1
noncomputable def whC (s:Stmt) (env:Env):Code:= .whileLoop (Br s).e (Br s).b (Br s).o env
noncomputable def bdW (s:Stmt):List Stmt:=(Br s).b
noncomputable def oeW (s:Stmt):List Stmt:=(Br s).o
noncomputable def tsW (s:Stmt):PySem.Expr:=(Br s).e
noncomputable def w2 (W:Wd):Stmt:=AE (bdW (w1 W)) 1
noncomputable def tryB (s:Stmt):List Stmt:=(Br s).b
noncomputable def mwO (it:Nat):Obj:=⟨.type "method-wrapper",none,.fields #[.builtin "list_iterator.__next__",.ref (it+8)],#[]⟩
noncomputable def fS (W:Wd) (l:List (Str×Nat×Value)) (sl:Array (Option Value)):Obj:=⟨.type "frame",none,.dict ⟨l.map fun p=>⟨hz W p.1,.str p.1 p.2.1,p.2.2⟩⟩ l.length,sl⟩
theorem nextb_item {it l:Addr} {x:Value} (hx:xs[i]?=some x) :
  Tri W A (.builtin "list_iterator.__next__" ⟨[.ref it],[]⟩) G ((it,lit l i)::(l,A1 xs e)::L)
   (Ret x G ((it,lit l (i+1))::(l,A1 xs e)::L)):=by
 refine Tri.bi (by kernel_rfl) entry_listiter_next fun R hR h n tk hs D=>?_
 show wpAny _ _ (field (.ref it) 0>>=_) _ _ _
 refine wpAny_bind (wpAny_field D.at0 rfl (x:= .ref l) rfl ?_)
 show wpAny _ _ (if (Value.ref l==Value.none)=true then _ else _) _ _ _
 rw [if_neg (show ¬ ((Value.ref l==Value.none)=true) from Bool.false_ne_true)]
 show wpAny _ _ (field (.ref it) 1>>=_) _ _ _
 refine wpAny_bind (wpAny_field D.at0 rfl (x:= .int i 0) rfl ?_)
 show wpAny _ _ (seqItems? (.ref l)>>=_) _ _ _
 refine wpAny_bind (wpAny_seqItems D.at1 rfl ?_)
 simp only [Int.toNat_natCast,hx]
 refine wpAny_bind (wpAny_setField D.at0 rfl (by simp) (wpAny_pure ?_))
 have D':=D.update (i:=0) (f:=Obj.mapFields fun vs=>vs.setIfInBounds 1 (rawInt (i+1))) rfl rfl
 exact hR () trivial _ n _ (by rw [(Heap.SameBut.update ..).1];exact hs) D'
theorem nextb_end (hA:Good A 900) {it l:Addr} (hx:xs[i]?=none) :
  Tri W A (.builtin "list_iterator.__next__" ⟨[.ref it],[]⟩) G ((it,lit l i)::(l,A1 xs e)::L)
   ⟨fun _:Nat×Nat=>G,fun _=>True,fun p=> .error (.ref (p.1+8)),fun p=>c8 p.1 (stopO (p.2+8))::c8 p.2 (Af #[])::(it,litEnd i)::(l,A1 xs e)::L⟩:=by
 refine Tri.good hA fun dp un F hd hu=>?_
 refine Tri.bi (by kernel_rfl) entry_listiter_next fun R hR h n tk hs D=>?_
 show wpAny _ _ (field (.ref it) 0>>=_) _ _ _
 refine wpAny_bind (wpAny_field D.at0 rfl (x:= .ref l) rfl ?_)
 show wpAny _ _ (if (Value.ref l==Value.none)=true then _ else _) _ _ _
 rw [if_neg (show ¬ ((Value.ref l==Value.none)=true) from Bool.false_ne_true)]
 show wpAny _ _ (field (.ref it) 1>>=_) _ _ _
 refine wpAny_bind (wpAny_field D.at0 rfl (x:= .int i 0) rfl ?_)
 show wpAny _ _ (seqItems? (.ref l)>>=_) _ _ _
 refine wpAny_bind (wpAny_seqItems D.at1 rfl ?_)
 simp only [Int.toNat_natCast,hx]
 refine wpAny_bind (wpAny_rule (wpAny_bind (wpAny_setField D.at0 rfl (by simp) ?_)))
 show wpAny _ _ (newExc (.type "StopIteration") []>>=_) _ _ _
 refine wpAny_bind ?_
 simp only [newExc,newTuple]
 refine wpAny_bind (wpAny_newObj_type ?_ (by size_fits))
 refine wpAny_bind (m:=firstArgMember _ _) (wpAny_of_eq (a:=Value.none) (by first | rfl | (simp only [firstArgMember];rfl)) ?_)
 refine wpAny_newObj_type ?_ (by size_fits)
 simp only [raiseNew]
 refine wpAny_bind (wpAny_handled ?_)
 refine wpAny_bind (wpAny_pure (wpAny_throw ?_))
 have D':=D.update (i:=0) (f:=Obj.mapFields fun vs=>vs.setIfInBounds 0 .none) rfl rfl
 have hs':(h.update it (Obj.mapFields fun vs=>vs.setIfInBounds 0 .none)).objs.size=n+8:=by rw [(Heap.SameBut.update ..).1];exact hs
 have D2:=D'.alloc (o:={ cls:= .type "tuple",data:= .seq #[] }) rfl
 have D3:=D2.alloc (o:={ cls:= .type "StopIteration",data:= .fields #[.ref (n+8),.none,.none,.none,.bool false,.none] }) rfl
 rw [Heap.size_push,hs'] at D3
 refine cast ?_ (hR (n+1,n) trivial _ (n+2) tk (by rw [Heap.size_push,Heap.size_push,hs']) D3)
 rw [hs',Heap.size_push,hs']
 rfl
theorem mw_call (ok:W.Ok) {w:Nat} {α:Type} {Q:Post α} (spec:Tri W A (.builtin "list_iterator.__next__" ⟨[.ref (it+8)],[]⟩) G L Q) :
  Tri W A (.call (.ref (w+8)) ⟨[],[]⟩) G (c8 w (mwO it)::L) Q:=by
 refine Tri.of fun R n tk hR=>?_
 exact Cq ok 1 1 (.builtin "list_iterator.__next__" ⟨[.ref (it+8)],[]⟩) _ [] 1 hR spec
theorem mw_keep (ok:W.Ok) {w:Nat} {x:Value} (hx:xs[i]?=some x) :
  Tri W A (.call (.ref (w+8)) ⟨[],[]⟩) G (c8 w (mwO it)::c8 it (lit (l+8) i)::lL l xs e::L) (Ret x G (c8 w (mwO it)::c8 it (lit (l+8) (i+1))::lL l xs e::L)):=by
 refine Tri.of fun R n tk hR=>?_
 refine gmagn ok 1 1 (.builtin "list_iterator.__next__" ⟨[.ref (it+8)],[]⟩) (Q:=Ret x G (c8 it (lit (l+8) (i+1))::lL l xs e::c8 w (mwO it)::L)) (fun p hp h' n' tk' hs' D'=>hR p hp h' n' tk' hs' (A4 [2,0,1] 0 (by kernel_rfl) h' D')) (L:=c8 it (lit (l+8) i)::lL l xs e::c8 w (mwO it)::L) (A4 [1,2,0] 0 (by kernel_rfl)) (nextb_item hx)
theorem len_pos {l:Addr} (k:Nat) (hk:xs.size=k+1) (hx:xs.size<=1000) :
  Tri W A (.builtin "len" ⟨[.ref l],[]⟩) G ((l,A1 xs e)::L) (Gives G (fun t:Nat=> .int ((k+1:Nat):Int) t) fun _=>(l,A1 xs e)::L):=by
 have z:=C3 (W:=W) (A:=A) (G:=G) (L:=L) (l:=l) (e:=e) hx
 rw [hk] at z
 exact z
noncomputable abbrev Bj (tk:Nat->Nat) (v0:Value) (m sk ik vk nk:Nat) (v1:Value):List (Str×Nat×Value):=[(sad,tk 0,v0),(sas,tk 1,.ref (m+8)),(S [115,116,97,99,107],tk 2,.ref (sk+8)),(S [105,116,115,116,97,99,107],tk 3,.ref (ik+8)),(S [115,101,101,110],tk 4,.ref (vk+8)),(sci,tk 5,.ref (nk+8)),(saj,tk 6,v1)]
theorem w2_nil (ok:W.Ok) {tk:Nat->Nat} {sl:Array (Option Value)} :
  Tri W A (whC (w2 W) (A5 W.kt 164 n 8)) G (c8 n (fS W (Bj tk v0 m sk ik vk nk v1) sl)::lL sk #[] e1::L)
  ⟨fun _:Unit=>G,fun _=>True,fun _=> .ok .brk,fun _=>c8 n (fS W (Bj tk v0 m sk ik vk nk v1) sl)::lL sk #[] e1::L⟩:=by
 refine Tri.of fun R n' tk' hR=>?_
 refine AU ok 5 8321 (.builtin "len" ⟨[.ref (sk+8)],[]⟩) [1] (lL sk #[] e1) A6 (fun _ _ eA=>C3 (by simp)) fun t₁ n₁ tk₁ _=>?_
 exact Aj ok 1 0 hR () trivial .brk rfl [1,0] 0
theorem w2_item (ok:W.Ok) {w e3 ty:Nat} {tk:Nat->Nat} {sl:Array (Option Value)} {st:List (Str×Nat)} {its:List Value} (hA:Good A 700) (hx:xs[i]?=some (.str y ty)) (h1:st.length<=100) (h2:its.length<=100) :
  Tri W A (whC (w2 W) (A5 W.kt 164 n 8)) G (c8 n (fS W (Bj tk v0 m sk ik vk nk v1) sl)::(sk+8,A1 (sv (st++[(x,tt)])) e1)::(ik+8,A1 (its++[Value.ref (w+8)]).toArray e2)::c8 w (mwO it)::c8 it (lit (l+8) i)::lL l xs e3::L)
  ⟨fun _:Unit=>G,fun _=>True,fun _=> .ok .next,fun _=>c8 n (fS W (Bj tk v0 m sk ik vk nk (.str y ty)) sl)::(sk+8,A1 (sv (st++[(x,tt)])) e1)::(ik+8,A1 (its++[Value.ref (w+8)]).toArray e2)::c8 w (mwO it)::c8 it (lit (l+8) (i+1))::lL l xs e3::L⟩:=by
 refine Tri.gof hA fun dp un F hd hu R n' tk' hR=>?_
 refine AU ok 5 8321 (.builtin "len" ⟨[.ref (sk+8)],[]⟩) [1] (sk+8,A1 (sv (st++[(x,tt)])) e1) A6 (fun _ _ eA=>len_pos st.length (by rw [Am];simp) (by rw [Am];simp;omega)) fun t₁ n₁ tk₁ _=>?_
 refine AU ok 14 798914 (.call (.builtin "list.__getitem__") ⟨[.ref (ik+8),.int (-1) (tk₁+1)],[]⟩) [2] (ik+8,A1 (its++[Value.ref (w+8)]).toArray e2) A6 (fun _ _ eA=>list_last (by omega)) fun _ n₂ tk₂ _=>?_
 refine gc3 ok 2 4 (.call (.ref (w+8)) ⟨[],[]⟩) [3,4,5] (c8 w (mwO it)) (c8 it (lit (l+8) i)) (lL l xs e3) A6 (fun _ _ eA=>mw_keep ok hx) fun _ n₃ tk₃ _=>?_
 exact Aj ok 9 326 hR () trivial .next rfl [5,4,3,0,1,2] 0
noncomputable def tr (W:Wd):Stmt:=AE (bdW (w2 W)) 0
noncomputable def hdH (s:Stmt):ExceptHandler:=(Br s).h.headD ⟨none,none,[],default⟩
noncomputable def hdT (s:Stmt):PySem.Expr:=match hdH s with | .ExceptHandler t _ _ _=>t.getD default
noncomputable def hdB (s:Stmt):List Stmt:=match hdH s with | .ExceptHandler _ _ b _=>b
noncomputable def hdP (s:Stmt):Pos:=match hdH s with | .ExceptHandler _ _ _ p=>p
noncomputable def tryP (s:Stmt):Pos:=(Br s).p
theorem tr_eq (W:Wd):bdW (w2 W)=[.Try (tryB (tr W)) [.ExceptHandler (some (hdT (tr W))) none (AE (hdB (tr W)) 0::(hdB (tr W)).tail) (hdP (tr W))] [] [] (tryP (tr W))]:=by kernel_rfl
theorem suite_eq (W:Wd):AE (hdB (tr W)) 0::(hdB (tr W)).tail=hdB (tr W):=by kernel_rfl
theorem w2_eq (W:Wd) (env:Env):whC (w2 W) env= .whileLoop (tsW (w2 W)) (bdW (w2 W)) (oeW (w2 W)) env:=by kernel_rfl
theorem p_test (ok:W.Ok) {tk:Nat->Nat} {sl:Array (Option Value)} {st:List (Str×Nat)} (h1:st.length<=100) :
  Pc W (Ar dp un F) (PySem.isTrue (tsW (w2 W)) (A5 W.kt 164 n 8) (eval (tsW (w2 W)) (A5 W.kt 164 n 8))) G (c8 n (fS W (Bj tk v0 m sk ik vk nk v1) sl)::(sk+8,A1 (sv (st++[(x,tt)])) e1)::L)
  (⟨fun _=>G,fun _=>True,fun _=>true,fun _=>c8 n (fS W (Bj tk v0 m sk ik vk nk v1) sl)::(sk+8,A1 (sv (st++[(x,tt)])) e1)::L⟩:A3 Bool Unit):=by
 refine Pc.of embB Bv _ (by rw [BA,Ag]) fun R n' tk' c₀ d f gg u hA hR=>?_
 refine BB ok 5 8321 hA (.builtin "len" ⟨[.ref (sk+8)],[]⟩) [1] (sk+8,A1 (sv (st++[(x,tt)])) e1) A6 (fun _ _ eA=>len_pos st.length (by rw [Am];simp) (by rw [Am];simp;omega)) fun t₁ n₁ tk₁ _=>?_
 exact Aj ok 0 0 hR () trivial (.ret (.bool true)) rfl [1,0] 0
theorem p_body (ok:W.Ok) {w e3:Nat} {tk:Nat->Nat} {sl:Array (Option Value)} {its:List Value} (hd:dp<=800) (hu:un<=800) (h2:its.length<=100) (hx:xs[i]?=none) :
  PcX W (Ar dp un F) (execs (tryB (tr W)) (A5 W.kt 164 n 8)) G (c8 n (fS W (Bj tk v0 m sk ik vk nk v1) sl)::(ik+8,A1 (its++[Value.ref (w+8)]).toArray e2)::c8 w (mwO it)::c8 it (lit (l+8) i)::lL l xs e3::L)
  (⟨fun _=>G,fun _=>True,fun p=> .error (.ref (p.1+8)),fun p=>c8 p.1 (C0 "StopIteration" (p.2+8) .none)::c8 n (fS W (Bj tk v0 m sk ik vk nk v1) sl)::(ik+8,A1 (its++[Value.ref (w+8)]).toArray e2)::lL l xs e3::L⟩:Bt Flow (Nat×Nat)):=by
 refine PcX.of id Ai _ (by rw [Ao]) fun R n' tk' c₀ d f gg u hA hR=>?_
 refine BB ok 13 532609 hA (.call (.builtin "list.__getitem__") ⟨[.ref (ik+8),.int (-1) (tk'+1)],[]⟩) [1] (ik+8,A1 (its++[Value.ref (w+8)]).toArray e2) A6 (fun _ _ eA=>list_last (by omega)) fun _ n₂ tk₂ _=>?_
 refine pc3 ok 2 3 hA (.call (.ref (w+8)) ⟨[],[]⟩) [2,3,4] (c8 w (mwO it)) (c8 it (lit (l+8) i)) (lL l xs e3) (gd dp un) (fun _ _ eA=>mw_call ok (nextb_end (Ab dp un eA (by omega) (by omega)) hx)) fun p n₃ tk₃ _=>?_
 refine gmore ok 0 0 ⟨by kernel_rfl,?_⟩
 exact gerr hR p trivial (.ref (p.1+8)) rfl (by kernel_rfl) (by kernel_rfl) (A4 [1,2,0,5,4,3] 2 (by kernel_rfl))
theorem p_exc (ok:W.Ok) {tk:Nat->Nat} {sl:Array (Option Value)} :
  PcX W (ArH (some (.ref (e+8))) dp un F) (eval (hdT (tr W)) (A5 W.kt 164 n 8)) G (c8 n (fS W (Bj tk v0 m sk ik vk nk v1) sl)::L)
  (⟨fun _=>G,fun _=>True,fun _=> .ok (.type "StopIteration"),fun _=>c8 n (fS W (Bj tk v0 m sk ik vk nk v1) sl)::L⟩:Bt Value Unit):=by
 refine PcX.of AL Ac _ (by rw [Ag]) fun R n' tk' c₀ d f gg u hA hR=>?_
 exact Aj ok 3 0 hR () trivial (.ret (.type "StopIteration")) rfl [] 0
theorem p_suite (ok:W.Ok) {w:Nat} {tk:Nat->Nat} {sl:Array (Option Value)} {st:List (Str×Nat)} {its:List Value} {ks:List Str} {o:Array DictEntry×Nat} (h1:st.length<=100) (h2:its.length<=100) (h3:ks.length<=100) (hk:DK W (ks++[x]) (AR o.1 o.2)) :
  PcX W (ArH (some (.ref (e+8))) dp un F) (execs (hdB (tr W)) (A5 W.kt 164 n 8)) G (c8 n (fS W (Bj tk v0 m sk ik vk nk v1) sl)::(sk+8,A1 (sv (st++[(x,tt)])) e1)::(ik+8,A1 (its++[Value.ref (w+8)]).toArray e2)::dD nk o.1 o.2::L)
  (⟨fun _=>G,fun p=>DK W ks (AR p.1.1 p.1.2),fun _=> .ok .next,fun p=>c8 n (fS W (Bj tk v0 m sk ik vk nk v1) sl)::lS sk st p.2.1::lL ik its.toArray p.2.2::dD nk p.1.1 p.1.2::L⟩:Bt Flow ((Array DictEntry×Nat)×Nat×Nat)):=by
 have hsv:sv (st++[(x,tt)])=(st.map (fun p:Str×Nat=>Value.str p.1 p.2)++[Value.str x tt]).toArray:=by simp [sv]
 rw [hsv]
 refine PcX.of id Ai _ (by rw [Ao]) fun R n' tk' c₀ d f gg u hA hR=>?_
 refine BB ok 12 2181570625 hA (.call (.builtin "list.pop") ⟨[.ref (sk+8)],[]⟩) [1] (sk+8,A1 (st.map (fun p:Str×Nat=>Value.str p.1 p.2)++[Value.str x tt]).toArray e1) A6 (fun _ _ eA=>list_pop_last (by simp;omega)) fun e1' n₁ tk₁ _=>?_
 refine BB ok 4 260 hA (.call (.builtin "dict.__delitem__") ⟨[.ref (nk+8),.str x tt],[]⟩) [3] (dD nk o.1 o.2) A6 (fun _ _ eA=>dk_del hk (by omega)) fun o' n₂ tk₂ ho'=>?_
 refine BB ok 10 68174083 hA (.call (.builtin "list.pop") ⟨[.ref (ik+8)],[]⟩) [3] (ik+8,A1 (its++[Value.ref (w+8)]).toArray e2) A6 (fun _ _ eA=>list_pop_last (by omega)) fun e2' n₃ tk₃ _=>?_
 exact Aj ok 4 0 hR (o',e1',e2') ho' .next rfl [3,2,0,1] 0
theorem w2_pop (ok:W.Ok) {w e3:Nat} {tk:Nat->Nat} {sl:Array (Option Value)} {st:List (Str×Nat)} {its:List Value} {ks:List Str} {o:Array DictEntry×Nat} {α:Type} {Q:Post α} (hd:dp<=800) (hu:un<=800)
  (h1:st.length<=100) (h2:its.length<=100) (h3:ks.length<=100) (hk:DK W (ks++[x]) (AR o.1 o.2)) (hx:xs[i]?=none) (hC:DO (A5 W.kt 164 n 8::F) (c8 n (fS W (Bj tk v0 m sk ik vk nk v1) sl)::CF))
  (next:∀ sl' CF' (o':Array DictEntry×Nat) e1' e2',Up CF CF'->DK W ks (AR o'.1 o'.2)->Tri W (Ar dp un (A5 W.kt 164 n 8::F)) (whC (w2 W) (A5 W.kt 164 n 8)) G (c8 n (fS W (Bj tk v0 m sk ik vk nk v1) sl')::lS sk st e1'::lL ik its.toArray e2'::dD nk o'.1 o'.2::lL l xs e3::(CF'++L)) Q) :
  Tri W (Ar dp un (A5 W.kt 164 n 8::F)) (whC (w2 W) (A5 W.kt 164 n 8)) G (c8 n (fS W (Bj tk v0 m sk ik vk nk v1) sl)::(sk+8,A1 (sv (st++[(x,tt)])) e1)::(ik+8,A1 (its++[Value.ref (w+8)]).toArray e2)::dD nk o.1 o.2::c8 w (mwO it)::c8 it (lit (l+8) i)::lL l xs e3::(CF++L)) Q:=by
 intro R hR h n₀ tk₀ hs D
 rw [w2_eq]
 refine E7 ?_
 refine Pc.go (p_test ok h1) (fun _ _ ha na ta hsa Da=>?_) hs D
 rw [if_pos rfl,tr_eq,execs_cons]
 refine wpAny_bind (wpAny_Try_except ?_)
 refine p_body (w:=w) (it:=it) (l:=l) (i:=i) (e3:=e3) (xs:=xs) (its:=its) (e2:=e2) (tk:=tk) (v0:=v0) (v1:=v1) (sl:=sl) (m:=m) (sk:=sk) (ik:=ik) (vk:=vk) (nk:=nk) (L:=(sk+8,A1 (sv (st++[(x,tt)])) e1)::dD nk o.1 o.2::(CF++L)) ok hd hu h2 hx _ _ (fun p _ hb nb tb hsb Db=>?_) ha na ta hsa (A4 [0,2,4,5,6,1,3] 0 (by kernel_rfl) ha Da)
 refine Pc.go (note (C:=c8 n (fS W (Bj tk v0 m sk ik vk nk v1) sl)::CF) (L:=(ik+8,A1 (its++[Value.ref (w+8)]).toArray e2)::lL l xs e3::(sk+8,A1 (sv (st++[(x,tt)])) e1)::dD nk o.1 o.2::L) (f:=n+8) rfl hC) (fun q hq hc nc tc hsc Dc=>?_) hsb (AJ (L:=L) (X:=[c8 p.1 (C0 "StopIteration" (p.2+8) .none),c8 n (fS W (Bj tk v0 m sk ik vk nk v1) sl)]) (Y:=[(ik+8,A1 (its++[Value.ref (w+8)]).toArray e2),lL l xs e3,(sk+8,A1 (sv (st++[(x,tt)])) e1),dD nk o.1 o.2]) (C:=CF) Db)
 obtain ⟨C',tb',pl⟩:=q
 cases C' with
 | nil=>exact hq.elim
 | cons c0 CF'=>
 obtain ⟨a0,o0⟩:=c0
 obtain ⟨u1,⟨sl',u2⟩,hup⟩:=hq
 simp only at u1 u2
 subst u1 u2
 refine wpAny_setFlight_none Dc.at1 rfl rfl Dc.at0 rfl (by simp [tbO]) ?_
 have Dd:=Dc.update (i:=0) (f:=Obj.mapFields fun vs=>vs.setIfInBounds 3 .none) rfl rfl
 refine wpAny_handleBy_builtin (X:="StopIteration") (T:="StopIteration") (b:=true) (by kernel_rfl) (by kernel_rfl) (by kernel_rfl) ?_
 refine p_exc (e:=p.1) (tk:=tk) (v0:=v0) (v1:=v1) (sl:=sl') (m:=m) (sk:=sk) (ik:=ik) (vk:=vk) (nk:=nk) (L:=c8 tb' (tbO (n+8) .none pl)::c8 p.1 (C0 "StopIteration" (p.2+8) (.ref (tb'+8)))::(CF'++((ik+8,A1 (its++[Value.ref (w+8)]).toArray e2)::lL l xs e3::(sk+8,A1 (sv (st++[(x,tt)])) e1)::dD nk o.1 o.2::L))) ok _ _ (fun _ _ he ne te hse De=>?_) _ nc tc (by rw [(Heap.SameBut.update ..).1];exact hsc) (A4 [2,0,1] 0 (by kernel_rfl) _ Dd)
 refine ⟨rfl,⟨_,De.own _ (.tail _ (.tail _ (.head _))),rfl⟩,?_⟩
 rw [if_pos rfl]
 refine wpAny_setFlight_none (De.own _ (.tail _ (.tail _ (.head _)))) rfl rfl De.at1 rfl (by simp [tbO]) ?_
 have Df:=De.update (i:=1) (f:=Obj.mapFields fun vs=>vs.setIfInBounds 3 .none) rfl rfl
 rw [suite_eq]
 refine p_suite (e:=p.1) (tk:=tk) (v0:=v0) (v1:=v1) (sl:=sl') (m:=m) (sk:=sk) (ik:=ik) (vk:=vk) (nk:=nk) (st:=st) (its:=its) (w:=w) (e1:=e1) (e2:=e2) (x:=x) (tt:=tt) (o:=o) (L:=lL l xs e3::(CF'++L)) ok h1 h2 h3 hk _ _ (fun r hr hg ng tg hsg Dg=>?_) _ ne te (by rw [(Heap.SameBut.update ..).1];exact hse)
  (A4 [0,1,2,5,3,6,4] 2 (by kernel_rfl) _ (AJ (L:=L) (X:=[c8 tb' (tbO (n+8) .none pl),c8 p.1 (C0 "StopIteration" (p.2+8) (.ref (tb'+8))),c8 n (fS W (Bj tk v0 m sk ik vk nk v1) sl')]) (Y:=CF') (C:=[(ik+8,A1 (its++[Value.ref (w+8)]).toArray e2),lL l xs e3,(sk+8,A1 (sv (st++[(x,tt)])) e1),dD nk o.1 o.2]) (A4 [1,2,0] 0 (by kernel_rfl) _ Df)))
 refine wpAny_pure ?_
 have z:=next sl' CF' r.1 r.2.1 r.2.2 hup hr R hR hg ng tg hsg Dg
 rw [w2_eq,tr_eq] at z
 exact z
structure Fs where
 nd:Nd
 t:Nat
 w:Nat
 it:Nat
 i:Nat
noncomputable def Ah (fs:List Fs):List Cell:=fs.flatMap fun f=>[c8 f.w (mwO f.it),c8 f.it (lit (f.nd.l+8) f.i)]
noncomputable def stk (fs:List Fs):List (Str×Nat):=fs.map fun f=>(f.nd.x,f.t)
noncomputable def itl (fs:List Fs):List Value:=fs.map fun f=> .ref (f.w+8)
noncomputable def kys (fs:List Fs):List Str:=fs.map fun f=>f.nd.x
structure W2R where
 r:Option (List Fs×Str×Nat)
 sl:Array (Option Value)
 CF:List Cell
 o:Array DictEntry×Nat
 e1:Nat
 e2:Nat
noncomputable def NextOf (fs fs':List Fs) (y:Str×Nat):Prop:=∃ fs1 f tl,fs=fs1++f::tl/\f.nd.ss[f.i]?=some y/\fs'=fs1++[{ f with i:=f.i+1 }]
noncomputable def w2Q (W:Wd) (G:List GenState) (L CF:List Cell) (n sk ik vk nk m:Nat) (tk:Nat->Nat) (v0 v1:Value) (ns:List Nd) (fs:List Fs):Post W2R where
 G:=fun _=>G
 P:=fun p=>Up CF p.CF/\match p.r with
  | none=>DK W [] (AR p.o.1 p.o.2)
  | some (fs',y)=>NextOf fs fs' y/\DK W (kys fs') (AR p.o.1 p.o.2)
 res:=fun p=>match p.r with
  | none=> .ok .brk
  | some _=> .ok .next
 L:=fun p=>match p.r with
  | none=>c8 n (fS W (Bj tk v0 m sk ik vk nk v1) p.sl)::lS sk (stk []) p.e1::lL ik (itl []).toArray p.e2::dD nk p.o.1 p.o.2::(Ah []++(A0 ns++(p.CF++L)))
  | some (fs',y)=>c8 n (fS W (Bj tk v0 m sk ik vk nk (.str y.1 y.2)) p.sl)::lS sk (stk fs') p.e1::lL ik (itl fs').toArray p.e2::dD nk p.o.1 p.o.2::(Ah fs'++(A0 ns++(p.CF++L)))
theorem Up.trans:∀ {A B C:List Cell},Up A B->Up B C->Up A C:=by
 intro A
 induction A with
 | nil=>
  intro B C h1 h2
  cases B with
  | cons=>exact h1.elim
  | nil=>exact h2
 | cons a A ih=>
  intro B C h1 h2
  cases B with
  | nil=>exact h1.elim
  | cons b B=>cases C with
   | nil=>exact h2.elim
   | cons c C=>
    obtain ⟨u1,⟨s1,u2⟩,u3⟩:=h1
    obtain ⟨v1,⟨s2,v2⟩,v3⟩:=h2
    exact ⟨v1.trans u1,⟨s2,by rw [v2,u2]⟩,ih u3 v3⟩
theorem w2_all (ok:W.Ok) {tk:Nat->Nat} {ns:List Nd} (hd:dp<=700) (hu:un<=700) :
  ∀ (k:Nat) (fs:List Fs) (CF:List Cell) (sl:Array (Option Value)) (o:Array DictEntry×Nat) (e1 e2:Nat),fs.length=k->k<=100->(∀ f∈fs,f.nd∈ns)->DK W (kys fs) (AR o.1 o.2)->DO (A5 W.kt 164 n 8::F) (c8 n (fS W (Bj tk v0 m sk ik vk nk v1) sl)::CF) ->
  Tri W (Ar dp un (A5 W.kt 164 n 8::F)) (whC (w2 W) (A5 W.kt 164 n 8)) G (c8 n (fS W (Bj tk v0 m sk ik vk nk v1) sl)::lS sk (stk fs) e1::lL ik (itl fs).toArray e2::dD nk o.1 o.2::(Ah fs++(A0 ns++(CF++L))))
  (w2Q W G L CF n sk ik vk nk m tk v0 v1 ns fs):=by
 intro k
 induction k with
 | zero=>
  intro fs CF sl o e1 e2 hl hk hm hD hC
  obtain rfl:fs=[]:=List.length_eq_zero_iff.mp hl
  intro R hR h n₀ tk₀ hs D
  exact w2_nil (tk:=tk) (sl:=sl) (v0:=v0) (v1:=v1) (m:=m) (ik:=ik) (vk:=vk) (nk:=nk) (e1:=e1) ok R (fun _ _ h' n' tk' hs' D'=>hR ⟨none,sl,CF,o,e1,e2⟩ ⟨Up.rfl' _,hD⟩ h' n' tk' hs' D') h n₀ tk₀ hs D
 | succ k ih=>
  intro fs CF sl o e1 e2 hl hk hm hD hC
  obtain ⟨fs1,f,rfl⟩:∃ fs1 f,fs=fs1++[f]:=by
   have hne:fs≠[]:=fun e=>by rw [e] at hl;cases hl
   exact ⟨_,_,(List.dropLast_concat_getLast hne).symm⟩
  have hl1:fs1.length=k:=by simpa using hl
  obtain ⟨pre,post,rfl⟩:=List.append_of_mem (hm f (by simp))
  have es:stk (fs1++[f])=stk fs1++[(f.nd.x,f.t)]:=by simp [stk]
  have ei:itl (fs1++[f])=itl fs1++[Value.ref (f.w+8)]:=by simp [itl]
  have ek:kys (fs1++[f])=kys fs1++[f.nd.x]:=by simp [kys]
  have ec:Ah (fs1++[f])=Ah fs1++[c8 f.w (mwO f.it),c8 f.it (lit (f.nd.l+8) f.i)]:=by simp [Ah]
  rw [es,ei,ec]
  rw [ek] at hD
  intro R hR h n₀ tk₀ hs D
  have D1:=D.perm (List.Perm.append_left ((_::_::_::_::(Ah fs1++[c8 f.w (mwO f.it),c8 f.it (lit (f.nd.l+8) f.i)])):List Cell) (Ae pre post f.nd (CF++L)))
  simp only [List.cons_append,List.append_assoc,List.nil_append] at D1
  have hst:(stk fs1).length<=100:=by simp only [stk,List.length_map];omega
  have hit:(itl fs1).length<=100:=by simp only [itl,List.length_map];omega
  have hky:(kys fs1).length<=100:=by simp only [kys,List.length_map];omega
  cases hx:f.nd.ss[f.i]? with
  | some y=>
   have hx':(sv f.nd.ss)[f.i]?=some (.str y.1 y.2):=by simp [sv,hx]
   refine w2_item (w:=f.w) (it:=f.it) (l:=f.nd.l) (i:=f.i) (e3:=f.nd.e) (xs:=sv f.nd.ss) (x:=f.nd.x) (tt:=f.t) (st:=stk fs1) (its:=itl fs1) (e1:=e1) (e2:=e2) (tk:=tk) (sl:=sl) (v0:=v0) (v1:=v1) (m:=m) (vk:=vk) (nk:=nk) (L:=dD nk o.1 o.2::(Ah fs1++(c8 f.nd.a (AO f.nd.di f.nd.x f.nd.t f.nd.p f.nd.tp f.nd.l)::(A0 (pre++post)++(CF++L))))) ok ⟨dp,un,_,rfl,hd,hu⟩ hx' hst hit R (fun _ _ h' n' tk' hs' D'=>?_) h n₀ tk₀ hs
    (A2 [[c8 n (fS W (Bj tk v0 m sk ik vk nk v1) sl)],[(sk+8,A1 (sv (stk fs1++[(f.nd.x,f.t)])) e1)],[(ik+8,A1 (itl fs1++[Value.ref (f.w+8)]).toArray e2)],[dD nk o.1 o.2],Ah fs1,[c8 f.w (mwO f.it),c8 f.it (lit (f.nd.l+8) f.i)],[c8 f.nd.a (AO f.nd.di f.nd.x f.nd.t f.nd.p f.nd.tp f.nd.l)],[lS f.nd.l f.nd.ss f.nd.e],A0 (pre++post),CF] [0,1,2,5,7,3,4,6,8,9] (tail:=L)  D1)
   have D2:=A2 [[c8 n (fS W (Bj tk v0 m sk ik vk nk (.str y.1 y.2)) sl)],[(sk+8,A1 (sv (stk fs1++[(f.nd.x,f.t)])) e1)],[(ik+8,A1 (itl fs1++[Value.ref (f.w+8)]).toArray e2)],[c8 f.w (mwO f.it),c8 f.it (lit (f.nd.l+8) (f.i+1))],[lS f.nd.l f.nd.ss f.nd.e],[dD nk o.1 o.2],Ah fs1,[c8 f.nd.a (AO f.nd.di f.nd.x f.nd.t f.nd.p f.nd.tp f.nd.l)],A0 (pre++post),CF] [0,1,2,5,6,3,7,4,8,9] (tail:=L)  D'
   have D3:Own W.h₀ 53 h' ((c8 n (fS W (Bj tk v0 m sk ik vk nk (.str y.1 y.2)) sl)::(sk+8,A1 (sv (stk fs1++[(f.nd.x,f.t)])) e1)::(ik+8,A1 (itl fs1++[Value.ref (f.w+8)]).toArray e2)::dD nk o.1 o.2::(Ah fs1++[c8 f.w (mwO f.it),c8 f.it (lit (f.nd.l+8) (f.i+1))]))++(f.nd.cells++(A0 (pre++post)++(CF++L)))):=by
    simp only [List.cons_append,List.append_assoc,List.nil_append]
    exact D2
   have D4:=D3.perm (List.Perm.append_left _ (Ae pre post f.nd (CF++L)).symm)
   refine hR ⟨some (fs1++[{ f with i:=f.i+1 }],y),sl,CF,o,e1,e2⟩ ⟨Up.rfl' _,⟨fs1,f,[],rfl,hx,rfl⟩,?_⟩ h' n' tk' hs' ?_
   ·show DK W (kys (fs1++[{ f with i:=f.i+1 }])) (AR o.1 o.2)
    rw [show kys (fs1++[{ f with i:=f.i+1 }])=kys fs1++[f.nd.x] from by simp [kys]]
    exact hD
   ·show Own W.h₀ 53 h' (c8 n (fS W (Bj tk v0 m sk ik vk nk (.str y.1 y.2)) sl)::(sk+8,A1 (sv (stk (fs1++[{ f with i:=f.i+1 }]))) e1)::(ik+8,A1 (itl (fs1++[{ f with i:=f.i+1 }])).toArray e2)::dD nk o.1 o.2::(Ah (fs1++[{ f with i:=f.i+1 }])++(A0 (pre++f.nd::post)++(CF++L))))
    rw [show stk (fs1++[{ f with i:=f.i+1 }])=stk fs1++[(f.nd.x,f.t)] from by simp [stk],show itl (fs1++[{ f with i:=f.i+1 }])=itl fs1++[Value.ref (f.w+8)] from by simp [itl],show Ah (fs1++[{ f with i:=f.i+1 }])=Ah fs1++[c8 f.w (mwO f.it),c8 f.it (lit (f.nd.l+8) (f.i+1))] from by simp [Ah]]
    exact D4
  | none=>
   have hx':(sv f.nd.ss)[f.i]?=none:=by simp [sv,hx]
   refine w2_pop (w:=f.w) (it:=f.it) (l:=f.nd.l) (i:=f.i) (e3:=f.nd.e) (xs:=sv f.nd.ss) (x:=f.nd.x) (tt:=f.t) (st:=stk fs1) (its:=itl fs1) (ks:=kys fs1) (e1:=e1) (e2:=e2) (tk:=tk) (sl:=sl) (v0:=v0) (v1:=v1) (m:=m) (vk:=vk) (o:=o) (CF:=CF) (L:=Ah fs1++(c8 f.nd.a (AO f.nd.di f.nd.x f.nd.t f.nd.p f.nd.tp f.nd.l)::(A0 (pre++post)++L))) ok (by omega) (by omega) hst hit hky hD hx' hC (fun sl' CF' o' e1' e2' hup hD'=>?_) R hR h n₀ tk₀ hs
    (A2 [[c8 n (fS W (Bj tk v0 m sk ik vk nk v1) sl)],[(sk+8,A1 (sv (stk fs1++[(f.nd.x,f.t)])) e1)],[(ik+8,A1 (itl fs1++[Value.ref (f.w+8)]).toArray e2)],[dD nk o.1 o.2],Ah fs1,[c8 f.w (mwO f.it),c8 f.it (lit (f.nd.l+8) f.i)],[c8 f.nd.a (AO f.nd.di f.nd.x f.nd.t f.nd.p f.nd.tp f.nd.l)],[lS f.nd.l f.nd.ss f.nd.e],A0 (pre++post),CF] [0,1,2,3,5,7,9,4,6,8] (tail:=L)  D1)
   intro R' hR' h2 n2 tk2 hs2 Dn
   refine ih fs1 CF' sl' o' e1' e2' hl1 (by omega) (fun g hg=>hm g (by simp [hg])) hD' (DO.up hC ⟨rfl,⟨sl',rfl⟩,hup⟩) R' (fun p hp=>hR' p ?_) h2 n2 tk2 hs2 ?_
   ·obtain ⟨u,q⟩:=hp
    refine ⟨hup.trans u,?_⟩
    revert q
    cases p.r with
    | none=>exact id
    | some z=>
     rintro ⟨⟨a,g,tl,e,hg,e'⟩,q⟩
     exact ⟨⟨a,g,tl++[f],by rw [e];simp,hg,e'⟩,q⟩
   ·have D2:=A2 [[c8 n (fS W (Bj tk v0 m sk ik vk nk v1) sl')],[lS sk (stk fs1) e1'],[lL ik (itl fs1).toArray e2'],[dD nk o'.1 o'.2],[lS f.nd.l f.nd.ss f.nd.e],CF',Ah fs1,[c8 f.nd.a (AO f.nd.di f.nd.x f.nd.t f.nd.p f.nd.tp f.nd.l)],A0 (pre++post)] [0,1,2,3,6,7,4,8,5] (tail:=L)  Dn
    have D3:Own W.h₀ 53 h2 ((c8 n (fS W (Bj tk v0 m sk ik vk nk v1) sl')::lS sk (stk fs1) e1'::lL ik (itl fs1).toArray e2'::dD nk o'.1 o'.2::Ah fs1)++(f.nd.cells++(A0 (pre++post)++(CF'++L)))):=by
     simp only [List.cons_append,List.append_assoc,List.nil_append]
     exact D2
    exact D3.perm (List.Perm.append_left _ (Ae pre post f.nd (CF'++L)).symm)
noncomputable def wt (ns:List Nd) (S:Str->Bool):Nat:=(ns.map fun nd=>if S nd.x then 0 else nd.ss.length+1).sum
noncomputable def uns (ns:List Nd) (S:Str->Bool):Nat:=(ns.map fun nd=>if S nd.x then 0 else 1).sum
noncomputable def rem (fs:List Fs):Nat:=(fs.map fun f=>f.nd.ss.length - f.i).sum
theorem E1 {α:Type} {f g:α->Nat}:∀ {l:List α},(∀ a∈l,f a<=g a)->(l.map f).sum<=(l.map g).sum
 | [],_=>Nat.le_refl _
 | a::l,h=>by
  simp only [List.map_cons,List.sum_cons]
  have:=h a (List.mem_cons_self ..)
  have:=E1 (l:=l) fun b hb=>h b (List.mem_cons_of_mem _ hb)
  omega
noncomputable def Dw (S:Str->Bool) (x:Str):Str->Bool:=fun y=>S y||decide (y=x)
theorem wt_add {ns:List Nd} {S:Str->Bool} (hm:nd∈ns) (hS:S nd.x=false):wt ns (Dw S nd.x)+(nd.ss.length+1)<=wt ns S:=by
 unfold Dw
 obtain ⟨pre,post,rfl⟩:=List.append_of_mem hm
 unfold wt
 simp only [List.map_append,List.map_cons,List.sum_append,List.sum_cons,hS]
 have mono:∀ l:List Nd,(l.map fun b=>if (S b.x||decide (b.x=nd.x))=true then 0 else b.ss.length+1).sum<=(l.map fun b=>if S b.x=true then 0 else b.ss.length+1).sum:=fun l=>E1 fun b _=>by
  cases S b.x<;>simp;split<;>omega
 have h1:=mono pre
 have h2:=mono post
 simp at h1 h2 ⊢
 omega
theorem un_add {ns:List Nd} {S:Str->Bool} (hm:nd∈ns) (hS:S nd.x=false):uns ns (Dw S nd.x)+1<=uns ns S:=by
 unfold Dw
 obtain ⟨pre,post,rfl⟩:=List.append_of_mem hm
 unfold uns
 simp only [List.map_append,List.map_cons,List.sum_append,List.sum_cons,hS]
 have mono:∀ l:List Nd,(l.map fun b=>if (S b.x||decide (b.x=nd.x))=true then 0 else 1).sum<=(l.map fun b=>if S b.x=true then 0 else 1).sum:=fun l=>E1 fun b _=>by
  cases S b.x<;>simp;split<;>omega
 have h1:=mono pre
 have h2:=mono post
 simp at h1 h2 ⊢
 omega
theorem rem_next {fs fs':List Fs} {y:Str×Nat} (h:NextOf fs fs' y):rem fs'+1<=rem fs:=by
 obtain ⟨a,f,tl,rfl,hy,rfl⟩:=h
 have:f.i<f.nd.ss.length:=(List.getElem?_eq_some_iff.mp hy).1
 simp only [rem,List.map_append,List.map_cons,List.sum_append,List.sum_cons,List.map_nil,List.sum_nil]
 omega
noncomputable def Rise (rk:Str->Nat) (l:List Str):Prop:=l.Pairwise fun a b=>rk a<rk b
theorem rise_next {ns:List Nd} {fs fs':List Fs} {y:Str×Nat} (hrk:∀ nd∈ns,∀ z∈nd.ss,rk nd.x<rk z.1) (hm:∀ f∈fs,f.nd∈ns) (hr:Rise rk (kys fs)) (h:NextOf fs fs' y):Rise rk (kys fs'++[y.1])/\(∀ f∈fs',f.nd∈ns):=by
 obtain ⟨a,f,tl,rfl,hy,rfl⟩:=h
 have hf:=hm f (by simp)
 have hlt:=hrk f.nd hf y (List.mem_of_getElem? hy)
 refine ⟨?_,fun g hg=>?_⟩
 ·unfold Rise kys at hr ⊢
  simp only [List.map_append,List.map_cons,List.map_nil] at hr ⊢
  rw [List.pairwise_append] at hr
  obtain ⟨r1,r2,r3⟩:=hr
  rw [List.append_assoc,List.pairwise_append]
  refine ⟨r1,?_,?_⟩
  ·simp [hlt]
  ·intro b hb c hc
   have hbf:=r3 b hb f.nd.x (by simp)
   simp at hc
   rcases hc with rfl | rfl
   ·exact hbf
   ·omega
 ·rcases List.mem_append.mp hg with hg | hg
  ·exact hm g (by simp [hg])
  ·simp at hg;subst hg;exact hf
structure W1R where
 sl:Array (Option Value)
 CF:List Cell
 o:Array DictEntry×Nat
 e1:Nat
 e2:Nat
 s:Array (Int×Value)×Nat×SetTable
 S:Str->Bool
 k:Nat
 v:Value
noncomputable def w1L (W:Wd) (L:List Cell) (n sk ik vk nk m:Nat) (tk:Nat->Nat) (v0:Value) (ns:List Nd) (es:Array DictEntry) (ep:Nat) (fs:List Fs) (p:W1R):List Cell:=
 (c8 n (fS W (Bj tk v0 m sk ik vk nk p.v) p.sl))::lS sk (stk fs) p.e1::lL ik (itl fs).toArray p.e2::dD nk p.o.1 p.o.2::c8 vk (AQ p.s)::dD m es ep::(Ah fs++(A0 ns++(p.CF++L)))
noncomputable def w1Q (W:Wd) (G:List GenState) (L CF:List Cell) (n sk ik vk nk m:Nat) (tk:Nat->Nat) (v0:Value) (ns:List Nd) (es:Array DictEntry) (ep:Nat):Post W1R where
 G:=fun _=>G
 P:=fun p=>Up CF p.CF/\DK W [] (AR p.o.1 p.o.2)/\Dk W p.S p.k (AQ p.s)/\p.k+uns ns p.S<=50
 res:=fun _=> .ok .next
 L:=fun p=>w1L W L n sk ik vk nk m tk v0 ns es ep [] p
theorem BW (ok:W.Ok) {l:Addr} (hx:xs.size<=1000) :
  Tri W A (.call (.builtin "len") ⟨[.ref l],[]⟩) G ((l,A1 xs e)::L) (Gives G (fun t:Nat=> .int xs.size t) fun _=>(l,A1 xs e)::L):=Bk ok (C3 hx)
theorem own_foc {a c x y:List Cell} (q:x.Perm y) (D:Own h₀ 53 h (a++(c++x))):Own h₀ 53 h (a++(c++y)):=D.perm (List.Perm.append_left a (List.Perm.append_left c q))
theorem own_a2 {f d:Cell} {x y:List Cell} {fs fs2:List Fs} {nx:Str} {x3:Nat} {v:Value} {wi:List Cell} (es:stk fs2=stk fs++[(nx,x3)]) (ei:(itl fs).toArray.push v=(itl fs2).toArray) (ec:Ah fs2=Ah fs++wi) (q:x.Perm y)
  (D:Own h₀ 53 h (f::(sk+8,A1 ((sv (stk fs)).push (.str nx x3)) e1)::(ik+8,A1 ((itl fs).toArray.push v) e2)::d::(Ah fs++(wi++x)))):Own h₀ 53 h (f::lS sk (stk fs2) e1::lL ik (itl fs2).toArray e2::d::(Ah fs2++y)):=by
 rw [AB,ei] at D
 rw [es,ec,List.append_assoc]
 exact D.perm (List.Perm.append_left [_,_,_,_] (List.Perm.append_left _ (List.Perm.append_left _ q)))
theorem dk_absent {t:Nat} {o:Array DictEntry×Nat} {ks:List Str} (hk:DK W ks (AR o.1 o.2)) (hx:x∉ks) :
  Tri W A (.call (.builtin "dict.__contains__") ⟨[.ref (d+8),.str x t],[]⟩) G (dD d o.1 o.2::L) (Ret (.bool false) G (dD d o.1 o.2::L)):=by
 have z:=dk_contains (A:=A) (G:=G) (L:=L) (d:=d) (t:=t) (x:=x) hk
 rw [decide_eq_false hx] at z
 exact z
theorem w1_all (ok:W.Ok) {tk:Nat->Nat} {ns:List Nd} (hd:dp<=700) (hu:un'<=700)
  (hk:Keys W es) (hkn:Knows es ns) (hrk:∀ nd∈ns,∀ z∈nd.ss,rk nd.x<rk z.1) (hin:∀ nd∈ns,∀ z∈nd.ss,z.1∈ns.map Nd.x) (hns:ns.length<=50) :
  ∀ (K:Nat) (fs:List Fs) (CF:List Cell) (nd:Nd) (x3:Nat) (p:W1R),wt ns p.S+rem fs<K->nd∈ns->p.v= .str nd.x x3->p.CF=CF->Rise rk (kys fs++[nd.x])->(∀ f∈fs,f.nd∈ns)->fs.length<=50->fs.length+uns ns p.S<=50 ->
  DK W (kys fs) (AR p.o.1 p.o.2)->Dk W p.S p.k (AQ p.s)->p.k+uns ns p.S<=50->DO (A5 W.kt 164 n 8::F) (c8 n (fS W (Bj tk v0 m sk ik vk nk p.v) p.sl)::CF) ->
  Tri W (Ar dp un' (A5 W.kt 164 n 8::F)) (whC (w1 W) (A5 W.kt 164 n 8)) G (w1L W L n sk ik vk nk m tk v0 ns es ep fs p) (w1Q W G L CF n sk ik vk nk m tk v0 ns es ep):=by
 intro K
 induction K with
 | zero=>intro fs CF nd x3 p hμ;omega
 | succ K ih=>
  intro fs CF nd x3 p hμ hnd hv hcf hr hm hl hl2 hD hS hk0 hC
  obtain ⟨sl,CF0,o,e1,e2,s,S,k,v⟩:=p
  simp only at hμ hv hcf hl2 hD hS hk0 hC
  subst hv hcf
  have hxk:nd.x∉kys fs:=fun hm'=>by
   have:=(List.pairwise_append.mp hr).2.2 nd.x hm' nd.x (by simp)
   omega
  have hrf:Rise rk (kys fs):=(List.pairwise_append.mp hr).1
  obtain ⟨pre,post,rfl⟩:=List.append_of_mem hnd
  have hlk:=hkn nd hnd
  unfold w1L
  refine Tri.own ?_ (fun h D=>A2 [[c8 n (fS W (Bj tk v0 m sk ik vk nk (.str nd.x x3)) sl)],[lS sk (stk fs) e1],[lL ik (itl fs).toArray e2],[dD nk o.1 o.2],[c8 vk (AQ s)],[dD m es ep],Ah fs,[c8 nd.a (AO nd.di nd.x nd.t nd.p nd.tp nd.l)],[lS nd.l nd.ss nd.e],A0 (pre++post),CF0] [0,1,2,3,4,5,7,8,6,9,10] (tail:=L)  (D.perm (List.Perm.append_left ([c8 n (fS W (Bj tk v0 m sk ik vk nk (.str nd.x x3)) sl),lS sk (stk fs) e1,lL ik (itl fs).toArray e2,dD nk o.1 o.2,c8 vk (AQ s),dD m es ep]) (List.Perm.append_left (Ah fs) (Ae pre post nd (CF0++L))))))
  refine Tri.of fun R n' tk' hR=>?_
  refine AU ok 9 1331265 (.call (.builtin "set.__contains__") ⟨[.ref (vk+8),.str nd.x x3],[]⟩) [4] (c8 vk (AQ s)) A6 (fun _ _ eA=>CS hS) fun _ n₁ tk₁ _=>?_
  cases hh:S nd.x
  ·refine AU ok 12 2164527170 (.call (.builtin "set.add") ⟨[.ref (vk+8),.str nd.x x3],[]⟩) [0] (c8 vk (AQ s)) A6 (fun _ _ eA=>set_add hS (by omega)) fun s' n₂ tk₂ hS'=>?_
   refine AU ok 21 449748044933841830146 (.call (.builtin "dict.__getitem__") ⟨[.ref (m+8),.str nd.x x3],[]⟩) [5] (dD m es ep) A6 (fun _ _ eA=>B7 hk hlk) fun _ n₃ tk₃ _=>?_
   refine AU ok 70 26119119957521032563620861648763910263044346178566459433680903 (.call (.builtin "list.append") ⟨[.ref (ik+8),.ref (n₃+1+8)],[]⟩) [6] (lL ik (itl fs).toArray e2) A6 (fun _ _ eA=>A8 (by simp only [itl,List.size_toArray,List.length_map];omega)) fun e2' n₄ tk₄ _=>?_
   refine AU ok 8 24576 (.call (.builtin "len") ⟨[.ref (sk+8)],[]⟩) [6] (lS sk (stk fs) e1) A6 (fun _ _ eA=>BW ok (by rw [Am];simp only [stk,List.length_map];omega)) fun t₅ n₅ tk₅ _=>?_
   refine AU ok 8 2130375 (.call (.builtin "dict.__setitem__") ⟨[.ref (nk+8),.str nd.x x3,.int (sv (stk fs)).size t₅],[]⟩) [7] (dD nk o.1 o.2) A6 (fun _ _ eA=>dk_put hD hxk (by simp only [kys,List.length_map];omega)) fun o' n₆ tk₆ hD'=>?_
   refine AU ok 12 8624021640 (.call (.builtin "list.append") ⟨[.ref (sk+8),.str nd.x x3],[]⟩) [1] (lS sk (stk fs) e1) A6 (fun _ _ eA=>A8 (by rw [Am];simp only [stk,List.length_map];omega)) fun e1' n₇ tk₇ _=>?_
   refine gmore ok 2 0 ⟨by kernel_rfl,?_⟩
   have hwt:=wt_add hnd hh
   have hun:=un_add hnd hh
   have es1:stk (fs++[(⟨nd,x3,n₃+1,n₃,0⟩:Fs)])=stk fs++[(nd.x,x3)]:=by simp [stk]
   have ei1:(itl fs).toArray.push (.ref (n₃+1+8))=(itl (fs++[(⟨nd,x3,n₃+1,n₃,0⟩:Fs)])).toArray:=by simp [itl]
   have ek1:kys (fs++[(⟨nd,x3,n₃+1,n₃,0⟩:Fs)])=kys fs++[nd.x]:=by simp [kys]
   have ec1:Ah (fs++[(⟨nd,x3,n₃+1,n₃,0⟩:Fs)])=Ah fs++[c8 (n₃+1) (mwO n₃),c8 n₃ (lit (nd.l+8) 0)]:=by simp [Ah]
   have er1:rem (fs++[(⟨nd,x3,n₃+1,n₃,0⟩:Fs)])=rem fs+nd.ss.length:=by simp [rem]
   have hS2:Dk W (Dw S nd.x) (k+1) (AQ s'):=by have q:=hS';rw [hh] at q;exact q
   have hD2:DK W (kys (fs++[(⟨nd,x3,n₃+1,n₃,0⟩:Fs)])) (AR o'.1 o'.2):=by rw [ek1];exact hD'
   have hm2:∀ f∈fs++[(⟨nd,x3,n₃+1,n₃,0⟩:Fs)],f.nd∈pre++nd::post:=fun f hf=>by
    rcases List.mem_append.mp hf with hf | hf
    ·exact hm f hf
    ·simp at hf;subst hf;exact hnd
   have hK2:(k+1)+uns (pre++nd::post) (Dw S nd.x)<=50:=by omega
   have hr2:Rise rk (kys (fs++[(⟨nd,x3,n₃+1,n₃,0⟩:Fs)])):=by rw [ek1];exact hr
   have hl3:(fs++[(⟨nd,x3,n₃+1,n₃,0⟩:Fs)]).length<=50:=by simp;omega
   have hl4:(fs++[(⟨nd,x3,n₃+1,n₃,0⟩:Fs)]).length+uns (pre++nd::post) (Dw S nd.x)<=50:=by simp;omega
   refine gcall (whC (w2 W) (A5 W.kt 164 n 8)) (by kernel_rfl) (by kernel_rfl) (L:=c8 n (fS W (Bj tk v0 m sk ik vk nk (.str nd.x x3)) sl)::(sk+8,A1 (sv (stk (fs++[(⟨nd,x3,n₃+1,n₃,0⟩:Fs)]))) e1')::(ik+8,A1 (itl (fs++[(⟨nd,x3,n₃+1,n₃,0⟩:Fs)])).toArray e2')::dD nk o'.1 o'.2::(Ah (fs++[(⟨nd,x3,n₃+1,n₃,0⟩:Fs)])++(A0 (pre++nd::post)++(CF0++(c8 vk (AQ s')::dD m es ep::L)))))
    (fun h D=>own_a2 es1 ei1 ec1 (Ae pre post nd (CF0++(c8 vk (AQ s')::dD m es ep::L))).symm (A2 [[(sk+8,A1 ((sv (stk fs)).push (.str nd.x x3)) e1')],[dD nk o'.1 o'.2],[(ik+8,A1 ((itl fs).toArray.push (.ref (n₃+1+8))) e2')],[c8 (n₃+1) (mwO n₃),c8 n₃ (lit (nd.l+8) 0)],[dD m es ep],[c8 vk (AQ s')],[c8 n (fS W (Bj tk v0 m sk ik vk nk (.str nd.x x3)) sl)],[c8 nd.a (AO nd.di nd.x nd.t nd.p nd.tp nd.l)],[lS nd.l nd.ss nd.e],Ah fs,A0 (pre++post),CF0] [6,0,2,1,9,3,7,8,10,11,5,4] (tail:=L)  (A4 [] 0 (by kernel_rfl) h D)))
    (Tri.at (by kernel_rfl:aOf (Ar dp un' (A5 W.kt 164 n 8::F)) _=Ar dp un' (A5 W.kt 164 n 8::F)) (w2_all ok hd hu _ (fs++[(⟨nd,x3,n₃+1,n₃,0⟩:Fs)]) CF0 sl o' e1' e2' rfl (Nat.le_trans hl3 (by decide)) hm2 hD2 hC)) fun q n₈ tk₈ hq=>?_
   obtain ⟨r,sl₂,CF₂,o₂,a₁,a₂⟩:=q
   obtain ⟨hup,hq⟩:=hq
   obtain ⟨c1,c2,c3,c4⟩:=hC
   cases r with
   | none=>
    exact gmend ok 0 0 hR ⟨sl₂,CF₂,o₂,a₁,a₂,s',Dw S nd.x,k+1,.str nd.x x3⟩ ⟨hup,hq,hS2,hK2⟩ .next rfl (fun h D=>A2 [[c8 n (fS W (Bj tk v0 m sk ik vk nk (.str nd.x x3)) sl₂)],[lS sk (stk []) a₁],[lL ik (itl []).toArray a₂],[dD nk o₂.1 o₂.2],Ah [],A0 (pre++nd::post),CF₂,[c8 vk (AQ s')],[dD m es ep]] [0,1,2,3,7,8,4,5,6] (tail:=L)  (A4 [] 0 (by kernel_rfl) h D))
   | some zz=>
    obtain ⟨fs',y,ty⟩:=zz
    obtain ⟨hnx,hD₂⟩:=hq
    obtain ⟨hr',hm'⟩:=rise_next hrk hm2 hr2 hnx
    have hrem:=rem_next hnx
    have hlen:fs'.length<=(fs++[(⟨nd,x3,n₃+1,n₃,0⟩:Fs)]).length:=by
     obtain ⟨a,f,tl,e,_,e'⟩:=hnx
     rw [e,e'];simp
    obtain ⟨nd2,hn2,rfl⟩:∃ nd2,nd2∈(pre++nd::post)/\nd2.x=y:=by
     obtain ⟨a,f,tl,e,hy,e'⟩:=hnx
     have:=hin f.nd (hm2 f (by rw [e];simp)) _ (List.mem_of_getElem? hy)
     obtain ⟨b,hb,eb⟩:=List.mem_map.mp this
     exact ⟨b,hb,eb⟩
    refine gmore ok 0 0 ⟨by kernel_rfl,?_⟩
    have hs3:=hl3
    have hs4:=hl4
    exact gagain (whC (w1 W) (A5 W.kt 164 n 8)) (by kernel_rfl) (by kernel_rfl) (Q:=w1Q W G L CF₂ n sk ik vk nk m tk v0 (pre++nd::post) es ep) (fun p hp=>hR p ⟨hup.trans hp.1,hp.2⟩) (L:=w1L W L n sk ik vk nk m tk v0 (pre++nd::post) es ep fs' ⟨sl₂,CF₂,o₂,a₁,a₂,s',Dw S nd.x,k+1,.str nd2.x ty⟩)
     (fun h D=>A2 [[c8 n (fS W (Bj tk v0 m sk ik vk nk (.str nd2.x ty)) sl₂)],[lS sk (stk fs') a₁],[lL ik (itl fs').toArray a₂],[dD nk o₂.1 o₂.2],Ah fs',A0 (pre++nd::post),CF₂,[c8 vk (AQ s')],[dD m es ep]] [0,1,2,3,7,8,4,5,6] (tail:=L)  (A4 [] 0 (by kernel_rfl) h D))
     (ih fs' CF₂ nd2 ty ⟨sl₂,CF₂,o₂,a₁,a₂,s',Dw S nd.x,k+1,.str nd2.x ty⟩ (by show wt _ (Dw S nd.x)+_<_;omega) hn2 rfl rfl hr' hm' (by omega) (by show _+uns _ (Dw S nd.x)<=_;omega) hD₂ hS2 hK2 ⟨c1,c2,⟨_,_,_,_,_,rfl⟩,c4.up hup⟩)
  ·refine AU ok 8 1331330 (.call (.builtin "dict.__contains__") ⟨[.ref (nk+8),.str nd.x x3],[]⟩) [4] (dD nk o.1 o.2) A6 (fun _ _ eA=>dk_absent hD hxk) fun _ n₂ tk₂ _=>?_
   refine gmcal ok 1 0 (whC (w2 W) (A5 W.kt 164 n 8)) (L:=c8 n (fS W (Bj tk v0 m sk ik vk nk (.str nd.x x3)) sl)::lS sk (stk (fs)) e1::lL ik (itl (fs)).toArray e2::dD nk o.1 o.2::(Ah (fs)++(A0 (pre++nd::post)++(CF0++(c8 vk (AQ s)::dD m es ep::L)))))
    (fun h D=>own_foc (a:=[c8 n (fS W (Bj tk v0 m sk ik vk nk (.str nd.x x3)) sl),lS sk (stk fs) e1,lL ik (itl fs).toArray e2,dD nk o.1 o.2]) (c:=Ah fs) (Ae pre post nd (CF0++(c8 vk (AQ s)::dD m es ep::L))).symm (A2 [[dD nk o.1 o.2],[c8 vk (AQ s)],[c8 n (fS W (Bj tk v0 m sk ik vk nk (.str nd.x x3)) sl)],[lS sk (stk fs) e1],[lL ik (itl fs).toArray e2],[dD m es ep],[c8 nd.a (AO nd.di nd.x nd.t nd.p nd.tp nd.l)],[lS nd.l nd.ss nd.e],Ah fs,A0 (pre++post),CF0] [2,3,4,0,8,6,7,9,10,1,5] (tail:=L)  (A4 [] 0 (by kernel_rfl) h D)))
    (Tri.at (by kernel_rfl:aOf (Ar dp un' (A5 W.kt 164 n 8::F)) _=Ar dp un' (A5 W.kt 164 n 8::F)) (w2_all ok hd hu _ (fs) CF0 sl o e1 e2 rfl (Nat.le_trans hl (by decide)) hm hD hC)) fun q n₈ tk₈ hq=>?_
   obtain ⟨r,sl₂,CF₂,o₂,a₁,a₂⟩:=q
   obtain ⟨hup,hq⟩:=hq
   obtain ⟨c1,c2,c3,c4⟩:=hC
   cases r with
   | none=>
    exact gmend ok 0 0 hR ⟨sl₂,CF₂,o₂,a₁,a₂,s,S,k,.str nd.x x3⟩ ⟨hup,hq,hS,hk0⟩ .next rfl (fun h D=>A2 [[c8 n (fS W (Bj tk v0 m sk ik vk nk (.str nd.x x3)) sl₂)],[lS sk (stk []) a₁],[lL ik (itl []).toArray a₂],[dD nk o₂.1 o₂.2],Ah [],A0 (pre++nd::post),CF₂,[c8 vk (AQ s)],[dD m es ep]] [0,1,2,3,7,8,4,5,6] (tail:=L)  (A4 [] 0 (by kernel_rfl) h D))
   | some zz=>
    obtain ⟨fs',y,ty⟩:=zz
    obtain ⟨hnx,hD₂⟩:=hq
    obtain ⟨hr',hm'⟩:=rise_next hrk hm hrf hnx
    have hrem:=rem_next hnx
    have hlen:fs'.length<=(fs).length:=by
     obtain ⟨a,f,tl,e,_,e'⟩:=hnx
     rw [e,e'];simp
    obtain ⟨nd2,hn2,rfl⟩:∃ nd2,nd2∈(pre++nd::post)/\nd2.x=y:=by
     obtain ⟨a,f,tl,e,hy,e'⟩:=hnx
     have:=hin f.nd (hm f (by rw [e];simp)) _ (List.mem_of_getElem? hy)
     obtain ⟨b,hb,eb⟩:=List.mem_map.mp this
     exact ⟨b,hb,eb⟩
    refine gmore ok 0 0 ⟨by kernel_rfl,?_⟩
    have hs3:=hl
    have hs4:=hl2
    exact gagain (whC (w1 W) (A5 W.kt 164 n 8)) (by kernel_rfl) (by kernel_rfl) (Q:=w1Q W G L CF₂ n sk ik vk nk m tk v0 (pre++nd::post) es ep) (fun p hp=>hR p ⟨hup.trans hp.1,hp.2⟩) (L:=w1L W L n sk ik vk nk m tk v0 (pre++nd::post) es ep fs' ⟨sl₂,CF₂,o₂,a₁,a₂,s,S,k,.str nd2.x ty⟩)
     (fun h D=>A2 [[c8 n (fS W (Bj tk v0 m sk ik vk nk (.str nd2.x ty)) sl₂)],[lS sk (stk fs') a₁],[lL ik (itl fs').toArray a₂],[dD nk o₂.1 o₂.2],Ah fs',A0 (pre++nd::post),CF₂,[c8 vk (AQ s)],[dD m es ep]] [0,1,2,3,7,8,4,5,6] (tail:=L)  (A4 [] 0 (by kernel_rfl) h D))
     (ih fs' CF₂ nd2 ty ⟨sl₂,CF₂,o₂,a₁,a₂,s,S,k,.str nd2.x ty⟩ (by show wt _ (S)+_<_;omega) hn2 rfl rfl hr' hm' (by omega) (by show _+uns _ (S)<=_;omega) hD₂ hS hk0 ⟨c1,c2,⟨_,_,_,_,_,rfl⟩,c4.up hup⟩)
def dkO (m k:Nat):Obj:=⟨.type "dict_keyiterator",none,.fields #[.ref (m+8),.int k 0,.int 6 0,.int 6 0],#[]⟩
def tset (tk:Nat->Nat) (t:Nat):Nat->Nat
 | 6=>t
 | j=>tk j
noncomputable abbrev fcN0 (tk:Nat->Nat) (v0:Value) (m sk ik vk nk:Nat):List (Str×Nat×Value):=[(sad,tk 0,v0),(sas,tk 1,.ref (m+8)),(S [115,116,97,99,107],tk 2,.ref (sk+8)),(S [105,116,115,116,97,99,107],tk 3,.ref (ik+8)),(S [115,101,101,110],tk 4,.ref (vk+8)),(sci,tk 5,.ref (nk+8))]
structure GrOk (rk:Str->Nat) (ns:List Nd):Prop where
 nd:(ns.map Nd.x).Nodup
 rk:∀ nd∈ns,∀ z∈nd.ss,rk nd.x<rk z.1
 mem:∀ nd∈ns,∀ z∈nd.ss,z.1∈ns.map Nd.x
theorem ents_know {ns:List Nd} (h:(ns.map Nd.x).Nodup):Knows (ents W ns) ns:=by
 intro b hb
 obtain ⟨p1,p2,e⟩:=List.append_of_mem hb
 have hn:b.x∉p1.map Nd.x:=by
  rw [e,List.map_append,List.nodup_append] at h
  exact fun hm=>h.2.2 _ hm _ (List.mem_cons_self ..) rfl
 rw [e]
 exact Bd hn
noncomputable abbrev flS (W:Wd):Stmt:=AE (Ak W.kt 164) 5
noncomputable abbrev CH (W:Wd) (n:Nat):Env:=A5 W.kt 164 n 8
theorem fl_lot (W:Wd) (it v:Value):letOwnedTupleGo (Br (flS W)).e it v=pure ():=by kernel_rfl
noncomputable def n6 (n0 n1 n2 n3 n4 n5:Nd):Nat->Nd:=fun i=>[n0,n1,n2,n3,n4,n5].getD i n0
section
variable {W:Wd} (ok:W.Ok) {dp un':Nat} {F:List Env} {G:List GenState} {L:List Cell} {n sk ik vk nk it m i t tk':Nat} {tk:Nat->Nat} {v0 v:Value} {x:Str} {sl:Array (Option Value)} {n0 n1 n2 n3 n4 n5:Nd} {ns:List Nd}
include ok
theorem fl_next (hi:i<6):Pc W (Ar dp un' F) (pyNext (.ref (it+8))) G (c8 it (dkO m i)::dD m (ents W [n0,n1,n2,n3,n4,n5]) 6::L)
  (⟨fun _=>G,fun _=>True,fun _=>some (.str (n6 n0 n1 n2 n3 n4 n5 i).x (n6 n0 n1 n2 n3 n4 n5 i).t),fun _=>c8 it (dkO m (i+1))::dD m (ents W [n0,n1,n2,n3,n4,n5]) 6::L⟩:A3 (Option Value) Unit):=by
 refine Pc.of Ea Ba _ (by rw [BS]) fun R n' tk c₀ d f gg u hA hR=>?_
 exact Aj ok 14 1153207448530849857 hR () trivial (.ret (.str (n6 n0 n1 n2 n3 n4 n5 i).x (n6 n0 n1 n2 n3 n4 n5 i).t)) rfl [] 0 (x:=by rcases i with _|_|_|_|_|_|i<;>first | (exfalso;omega) | kernel_rfl)
theorem fl_stop:Pc W (Ar dp un' F) (pyNext (.ref (it+8))) G (c8 it (dkO m 6)::dD m (ents W [n0,n1,n2,n3,n4,n5]) 6::L)
  (⟨fun _=>G,fun _=>True,fun _=>none,fun _=>dD m (ents W [n0,n1,n2,n3,n4,n5]) 6::L⟩:A3 (Option Value) Unit):=by
 refine Pc.of Ea Ba _ (by rw [BS]) fun R n' tk c₀ d f gg u hA hR=>?_
 exact Aj ok 16 18018867456774209 hR () trivial .next rfl [0,1,2] 3
theorem fl_blk:Tri W (Ar dp un' F) (.block (oeF (flS W)) (CH W n)) G L (Nx G fun _:Unit=>L):=by
 refine Tri.of fun R n' tk hR=>?_
 exact Aj ok 0 0 hR () trivial .next rfl [] 0
theorem fl_asg:Pc W (Ar dp un' F) (assign (tgF (flS W)) (CH W n) (.str x t)) G (c8 n (fS W (Bj tk v0 m sk ik vk nk v) sl)::L)
  (⟨fun _=>G,fun _=>True,fun _=>(),fun _=>c8 n (fS W (Bj tk v0 m sk ik vk nk (.str x t)) sl)::L⟩:A3 Unit Unit):=by
 refine Pc.of Bo Ap _ (by rw [Ax]) fun R n' tk' c₀ d f gg u hA hR=>?_
 exact Aj ok 7 1 hR () trivial .next rfl [] 0
theorem fl_asg0:Pc W (Ar dp un' F) (assign (tgF (flS W)) (CH W n) (.str x t)) G (c8 n (fS W (fcN0 tk v0 m sk ik vk nk) sl)::L)
  (⟨fun _=>G,fun _=>True,fun _=>(),fun t'=>c8 n (fS W (Bj (tset tk t') v0 m sk ik vk nk (.str x t)) sl)::L⟩:A3 Unit Nat):=by
 refine Pc.of Bo Ap _ (by rw [Ax]) fun R n' tk' c₀ d f gg u hA hR=>?_
 exact Aj ok 7 1 hR tk' trivial .next rfl [] 0
noncomputable abbrev flQ (W:Wd) (G:List GenState) (L CF:List Cell) (n sk ik vk nk m:Nat) (tk:Nat->Nat) (v0:Value) (ns:List Nd) (es:Array DictEntry):A3 Flow (W1R×Bool):=
 ⟨fun _=>G,fun q=>(w1Q W G L CF n sk ik vk nk m tk v0 ns es 6).P q.1,fun q=>cond q.2 .cont .next,fun q=>w1L W L n sk ik vk nk m tk v0 ns es 6 [] q.1⟩
theorem fl_body {nd:Nd} (hd:dp<=700) (hu:un'<=700) (hk:Keys W es) (hkn:Knows es ns) (hrk:∀ nd∈ns,∀ z∈nd.ss,rk nd.x<rk z.1) (hin:∀ nd∈ns,∀ z∈nd.ss,z.1∈ns.map Nd.x) (hns:ns.length<=50) (hnd:nd∈ns)
  {o:Array DictEntry×Nat} {k:Nat} {s:Array (Int×Value)×Nat×SetTable} {S:Str->Bool} (hD:DK W [] (AR o.1 o.2)) (hS:Dk W S k (AQ s)) (hk0:k+uns ns S<=50) (hC:DO (CH W n::F) (c8 n (fS W (Bj tk v0 m sk ik vk nk (.str nd.x nd.t)) sl)::CF)) :
  Pc W (Ar dp un' (CH W n::F)) (execs (DC (flS W)) (CH W n)) G (w1L W L n sk ik vk nk m tk v0 ns es 6 [] ⟨sl,CF,o,e1,e2,s,S,k,.str nd.x nd.t⟩) (flQ W G L CF n sk ik vk nk m tk v0 ns es):=by
 refine Pc.of id Ai _ (by rw [Ao]) fun R n' tk' c₀ d f gg u hA hR=>?_
 refine BB ok 8 1331265 hA (.call (.builtin "set.__contains__") ⟨[.ref (vk+8),.str nd.x nd.t],[]⟩) [4] (c8 vk (AQ s)) A6 (fun _ _ eA=>CS (S:=S) (n:=k) hS) fun _ n₁ tk₁ _=>?_
 cases hh:S nd.x
 ·refine gmore ok 1 0 ⟨by kernel_rfl,?_⟩
  refine pcall hA (by kernel_rfl) (whC (w1 W) (CH W n)) (by kernel_rfl) (by kernel_rfl) (A4 [1,2,3,4,0] 0 (by kernel_rfl) (L':=w1L W L n sk ik vk nk m tk v0 ns es 6 [] ⟨sl,CF,o,e1,e2,s,S,k,.str nd.x nd.t⟩))
   (Tri.at (by kernel_rfl:BN (Ar dp un' (CH W n::F)) _=Ar dp un' (CH W n::F)) (w1_all (rk:=rk) ok hd hu hk hkn hrk hin hns _ [] CF nd nd.t ⟨sl,CF,o,e1,e2,s,S,k,.str nd.x nd.t⟩ (Nat.lt_succ_self _) hnd rfl rfl (by simp [Rise,kys]) (by simp) (by simp) (by show 0+uns _ S<=_;omega) hD hS hk0 hC)) fun q n₂ tk₂ hq=>?_
  exact Aj ok 0 0 hR (q,false) hq .next rfl [] 0
 ·exact Aj ok 1 0 hR (⟨sl,CF,o,e1,e2,s,S,k,.str nd.x nd.t⟩,true) ⟨Up.rfl' _,hD,hS,hk0⟩ .cont rfl [1,2,3,4,0] 0
noncomputable abbrev flK (W:Wd) (L CF:List Cell) (n sk ik vk nk:Nat) (ns:List Nd) (e1 e2:Nat) (o:Array DictEntry×Nat) (s:Array (Int×Value)×Nat×SetTable):List Cell:=lS sk (stk []) e1::lL ik (itl []).toArray e2::dD nk o.1 o.2::c8 vk (AQ s)::(Ah []++(A0 ns++(CF++L)))
theorem flt {nd:Nd} (hd:dp<=700) (hu:un'<=700) (hk:Keys W es) (hkn:Knows es ns) (hrk:∀ nd∈ns,∀ z∈nd.ss,rk nd.x<rk z.1) (hin:∀ nd∈ns,∀ z∈nd.ss,z.1∈ns.map Nd.x) (hns:ns.length<=50) (hnd:nd∈ns)
  {o:Array DictEntry×Nat} {k:Nat} {s:Array (Int×Value)×Nat×SetTable} {S:Str->Bool} (hD:DK W [] (AR o.1 o.2)) (hS:Dk W S k (AQ s)) (hk0:k+uns ns S<=50) (hC:DO (CH W n::F) (c8 n (fS W (Bj tk v0 m sk ik vk nk (.str nd.x nd.t)) sl)::CF))
  {oi:Obj} {K:Flow->Shared->Prop} {E:Value->Shared->Prop} (hK:∀ (b:Bool) (q:W1R),(w1Q W G L CF n sk ik vk nk m tk v0 ns es 6).P q->∀ h n0 tk0,h.objs.size=n0+8->Own W.h₀ 53 h ((it+8,oi)::w1L W L n sk ik vk nk m tk v0 ns es 6 [] q)->K (cond b .cont .next) ⟨h,⟨G⟩,W.d,tk0,W.os⟩)
  {h:Heap} {n0 tk0:Nat} (hs:h.objs.size=n0+8) (D:Own W.h₀ 53 h (c8 n (fS W (Bj tk v0 m sk ik vk nk (.str nd.x nd.t)) sl)::(it+8,oi)::dD m es 6::flK W L CF n sk ik vk nk ns e1 e2 o s)) :
  wpAny W.M (Ar dp un' (CH W n::F)) (execs (DC (flS W)) (CH W n)) K E ⟨h,⟨G⟩,W.d,tk0,W.os⟩:=
 fl_body (L:=(it+8,oi)::L) (e1:=e1) (e2:=e2) ok hd hu hk hkn hrk hin hns hnd hD hS hk0 hC _ (fun q hq h1 n1 tk1 hs1 D1=>hK q.2 q.1 hq h1 n1 tk1 hs1
   (A2 [[c8 n (fS W (Bj tk v0 m sk ik vk nk q.1.v) q.1.sl)],[lS sk (stk []) q.1.e1],[lL ik (itl []).toArray q.1.e2],[dD nk q.1.o.1 q.1.o.2],[c8 vk (AQ q.1.s)],[dD m es 6],Ah [],A0 ns,q.1.CF,[(it+8,oi)]] [9,0,1,2,3,4,5,6,7,8] (tail:=L)  D1))
  _ _ _ _ hs (A2 [[c8 n (fS W (Bj tk v0 m sk ik vk nk (.str nd.x nd.t)) sl)],[(it+8,oi)],[dD m es 6],[lS sk (stk []) e1],[lL ik (itl []).toArray e2],[dD nk o.1 o.2],[c8 vk (AQ s)],Ah [],A0 ns,CF] [0,3,4,5,6,2,7,8,9,1] (tail:=L)  D)
omit ok in
theorem n6_mem (hi:i<6):n6 n0 n1 n2 n3 n4 n5 i∈[n0,n1,n2,n3,n4,n5]:=by
 have e:[n0,n1,n2,n3,n4,n5][i]?=some (n6 n0 n1 n2 n3 n4 n5 i):=by
  rcases i with _|_|_|_|_|_|i<;>first | (exfalso;omega) | rfl
 exact List.mem_of_getElem? e
theorem flk {z:Sr} (hd:dp<=700) (hu:un'<=700) (hg:GrOk rk [n0,n1,n2,n3,n4,n5]) :
  ∀ (k i:Nat) (p:W1R),i+k=6->DK W [] (AR p.o.1 p.o.2)->Dk W p.S p.k (AQ p.s)->p.k+uns [n0,n1,n2,n3,n4,n5] p.S<=50->DO (A5 W.kt 164 n 8::F) (c8 n (fS W (Bj tk v0 z.m sk ik vk nk p.v) p.sl)::p.CF) ->
  Tri W (Ar dp un' (A5 W.kt 164 n 8::F)) (B9 (flS W) (.ref (it+8)) (CH W n)) G (c8 it (dkO z.m i)::w1L W L n sk ik vk nk z.m tk v0 [n0,n1,n2,n3,n4,n5] (ents W [n0,n1,n2,n3,n4,n5]) 6 [] p)
  (Nx G (fun q:W1R=>w1L W L n sk ik vk nk z.m tk v0 [n0,n1,n2,n3,n4,n5] (ents W [n0,n1,n2,n3,n4,n5]) 6 [] q) fun q=>Up p.CF q.CF)
 | 0,i,p,hik,hD,hS,hk0,hC=>fun R hR h n0' tk0 hs D=>by
  obtain rfl:i=6:=hik
  refine BX (Pc.go (fl_stop (m:=z.m) (n0:=n0) (n1:=n1) (n2:=n2) (n3:=n3) (n4:=n4) (n5:=n5) (L:=c8 n (fS W (Bj tk v0 z.m sk ik vk nk p.v) p.sl)::flK W L p.CF n sk ik vk nk [n0,n1,n2,n3,n4,n5] p.e1 p.e2 p.o p.s) ok) (fun _ _ h1 n1' tk1 hs1 D1=>?_) hs (A4 [0,6] 0 (by kernel_rfl) h D))
  exact fl_blk ok R (fun _ _ h2 n2 tk2 hs2 D2=>hR p (Up.rfl' _) h2 n2 tk2 hs2 (A4 [1,2,3,4,5,0] 0 (by kernel_rfl) h2 D2)) h1 n1' tk1 hs1 D1
 | k+1,i,p,hik,hD,hS,hk0,hC=>fun R hR h n0' tk0 hs D=>by
  have hi:i<6:=by omega
  refine BX (Pc.go (fl_next (m:=z.m) (n0:=n0) (n1:=n1) (n2:=n2) (n3:=n3) (n4:=n4) (n5:=n5) (L:=c8 n (fS W (Bj tk v0 z.m sk ik vk nk p.v) p.sl)::flK W L p.CF n sk ik vk nk [n0,n1,n2,n3,n4,n5] p.e1 p.e2 p.o p.s) ok hi) (fun _ _ h1 n1' tk1 hs1 D1=>?_) hs (A4 [0,6] 0 (by kernel_rfl) h D))
  refine DF (fl_lot W) (Pc.go (fl_asg (sl:=p.sl) (v0:=v0) (tk:=tk) (m:=z.m) (sk:=sk) (ik:=ik) (vk:=vk) (nk:=nk) (v:=p.v) (L:=c8 it (dkO z.m (i+1))::dD z.m (ents W [n0,n1,n2,n3,n4,n5]) 6::flK W L p.CF n sk ik vk nk [n0,n1,n2,n3,n4,n5] p.e1 p.e2 p.o p.s) ok) (fun _ _ h2 n2' tk2 hs2 D2=>?_) hs1 (A4 [2] 0 (by kernel_rfl) h1 D1))
  refine flt (it:=it) (L:=L) (n:=n) (m:=z.m) (v0:=v0) (sk:=sk) (ik:=ik) (vk:=vk) (nk:=nk) (sl:=p.sl) (e1:=p.e1) (e2:=p.e2) (o:=p.o) (s:=p.s) (S:=p.S) (k:=p.k) (CF:=p.CF) ok hd hu (AW W _) (ents_know hg.nd) hg.rk hg.mem (Nat.le_of_ble_eq_true rfl) (n6_mem hi) hD hS hk0 ⟨hC.1,hC.2.1,⟨_,_,_,_,_,rfl⟩,hC.2.2.2⟩ (fun b q hq h3 n3' tk3 hs3 D3=>?_) hs2 D2
  have e:=flk hd hu hg k (i+1) q (by omega) hq.2.1 hq.2.2.1 hq.2.2.2 ⟨hC.1,hC.2.1,⟨_,_,_,_,_,rfl⟩,hC.2.2.2.up hq.1⟩ R (fun q' hq'=>hR q' (hq.1.trans hq')) h3 n3' tk3 hs3 D3
  cases b<;>exact e
theorem fl0 {z:Sr} (hd:dp<=700) (hu:un'<=700) (hg:GrOk rk [n0,n1,n2,n3,n4,n5]) (p:W1R) (hD:DK W [] (AR p.o.1 p.o.2)) (hS:Dk W p.S p.k (AQ p.s)) (hk0:p.k+uns [n0,n1,n2,n3,n4,n5] p.S<=50) (hC:DO (A5 W.kt 164 n 8::F) (c8 n (fS W (fcN0 tk v0 z.m sk ik vk nk) p.sl)::p.CF)) :
  Tri W (Ar dp un' (A5 W.kt 164 n 8::F)) (B9 (flS W) (.ref (it+8)) (CH W n)) G (c8 it (dkO z.m 0)::c8 n (fS W (fcN0 tk v0 z.m sk ik vk nk) p.sl)::lS sk (stk []) p.e1::lL ik (itl []).toArray p.e2::dD nk p.o.1 p.o.2::c8 vk (AQ p.s)::dD z.m (ents W [n0,n1,n2,n3,n4,n5]) 6::(Ah []++(A0 [n0,n1,n2,n3,n4,n5]++(p.CF++L))))
  (Nx G (fun q:W1R×Nat=>w1L W L n sk ik vk nk z.m (tset tk q.2) v0 [n0,n1,n2,n3,n4,n5] (ents W [n0,n1,n2,n3,n4,n5]) 6 [] q.1) fun q=>Up p.CF q.1.CF):=fun R hR h n0' tk0 hs D=>by
 refine BX (Pc.go (fl_next (i:=0) (m:=z.m) (n0:=n0) (n1:=n1) (n2:=n2) (n3:=n3) (n4:=n4) (n5:=n5) (L:=c8 n (fS W (fcN0 tk v0 z.m sk ik vk nk) p.sl)::flK W L p.CF n sk ik vk nk [n0,n1,n2,n3,n4,n5] p.e1 p.e2 p.o p.s) ok (by decide)) (fun _ _ h1 n1' tk1 hs1 D1=>?_) hs (A4 [0,6] 0 (by kernel_rfl) h D))
 refine DF (fl_lot W) (Pc.go (fl_asg0 (sl:=p.sl) (v0:=v0) (tk:=tk) (m:=z.m) (sk:=sk) (ik:=ik) (vk:=vk) (nk:=nk) (L:=c8 it (dkO z.m (0+1))::dD z.m (ents W [n0,n1,n2,n3,n4,n5]) 6::flK W L p.CF n sk ik vk nk [n0,n1,n2,n3,n4,n5] p.e1 p.e2 p.o p.s) ok) (fun t' _ h2 n2' tk2 hs2 D2=>?_) hs1 (A4 [2] 0 (by kernel_rfl) h1 D1))
 refine flt (it:=it) (L:=L) (n:=n) (m:=z.m) (v0:=v0) (sk:=sk) (ik:=ik) (vk:=vk) (nk:=nk) (sl:=p.sl) (e1:=p.e1) (e2:=p.e2) (o:=p.o) (s:=p.s) (S:=p.S) (k:=p.k) (CF:=p.CF) ok hd hu (AW W _) (ents_know hg.nd) hg.rk hg.mem (Nat.le_of_ble_eq_true rfl) (n6_mem (by decide)) hD hS hk0 ⟨hC.1,hC.2.1,⟨_,_,_,_,_,rfl⟩,hC.2.2.2⟩ (fun b q hq h3 n3' tk3 hs3 D3=>?_) hs2 D2
 have e:=flk (it:=it) (L:=L) ok hd hu hg 5 1 q rfl hq.2.1 hq.2.2.1 hq.2.2.2 ⟨hC.1,hC.2.1,⟨_,_,_,_,_,rfl⟩,hC.2.2.2.up hq.1⟩ R (fun q' hq'=>hR (q',t') (hq.1.trans hq')) h3 n3' tk3 hs3 D3
 cases b<;>exact e
end
noncomputable def tb0 (W:Wd):SetTable:={ mask:=7,place:=#[],dummies:=#[],finger:=0,led:=!((W.p true).followText "set-order"),moves:=0,plain:=true }
theorem set0 (W:Wd):Dk W (fun _=>false) 0 (AQ (#[],0,tb0 W)):=by
 refine ⟨#[],0,tb0 W,⟨rfl,rfl,rfl⟩,rfl,?_,?_,by decide,rfl,rfl⟩
 ·intro x hx;cases hx
 ·intro k;simp
theorem dk0 (W:Wd):DK W [] (AR #[] 0):=⟨[],rfl,#[],0,⟨rfl,rfl,rfl⟩,rfl,by intro x hx;simp at hx,.nil,by simp⟩
noncomputable def tkF (tk:Nat):Nat->Nat
 | 0=>tk
 | 1=>tk+2
 | 2=>tk+3
 | 3=>tk+4
 | 4=>tk+5
 | 5=>tk+6
 | _=>0
theorem kind164:(A5 W.kt 164 n 8).scope.kind= .function:=by kernel_rfl
theorem kind129:(A5 W.kt 129 n 8).scope.kind= .function:=by kernel_rfl
theorem find_cycle (ok:W.Ok) {z:Sr} {rv:Value} (hd:dp<=600) (hu:un'<=600) (hg:GrOk rk [n0,n1,n2,n3,n4,n5]) (hC:DO F CF) :
  Tri W (Ar dp un' F) (.call (.ref 164) ⟨[.ref (z.s+8)],[]⟩) G (z.cells W rv np nf [n0,n1,n2,n3,n4,n5] 6++(A0 [n0,n1,n2,n3,n4,n5]++(CF++L)))
  ⟨fun _=>G,fun CF'=>Up CF CF',fun _=> .ok (.ret .none),fun CF'=>z.cells W rv np nf [n0,n1,n2,n3,n4,n5] 6++(A0 [n0,n1,n2,n3,n4,n5]++(CF'++L))⟩:=by
 refine Tri.of fun R n tk hR=>?_
 refine BC ok 7 4096 (entry W.kt 164 n 8) (dp+0) (by omega) ?_
 refine gcL ok 104 486134911331177760425120877666894364455935172234124993527033345605761 (B9 (AE (Ak W.kt 164) 5) (.ref (n+5+8)) (A5 W.kt 164 n 8)) (c8 (n+5) (dkO z.m 0)::c8 n (fS W (fcN0 (tkF tk) (.ref (z.s+8)) z.m (n+1) (n+2) (n+3) (n+4)) #[])::lS (n+1) (stk []) 0::lL (n+2) (itl []).toArray 0::dD (n+4) #[] 0::c8 (n+3) (AQ (#[],0,tb0 W))::dD z.m (ents W [n0,n1,n2,n3,n4,n5]) 6::(Ah []++(A0 [n0,n1,n2,n3,n4,n5]++(CF++(c8 z.s (An (z.d+8))::c8 z.d (Au z.q z.u z.m rv np nf)::L))))) (BP (Ar (dp+1) (un'+3) (A5 W.kt 164 n 8::F))) (fun h D=>A2 [[c8 (n+5) (dkO z.m 0)],[c8 n (fS W (fcN0 (tkF tk) (.ref (z.s+8)) z.m (n+1) (n+2) (n+3) (n+4)) #[])],[lS (n+1) (stk []) 0],[lL (n+2) (itl []).toArray 0],[dD (n+4) #[] 0],[c8 (n+3) (AQ (#[],0,tb0 W))],[dD z.m (ents W [n0,n1,n2,n3,n4,n5]) 6],[c8 z.s (An (z.d+8))],[c8 z.d (Au z.q z.u z.m rv np nf)],A0 [n0,n1,n2,n3,n4,n5],CF] [0,1,2,3,4,5,6,9,10,7,8] (tail:=L)  (A4 [0,5,4,3,1,2,8,6,7] 0 (by kernel_rfl) h D)) (fun _ eA=>Tri.at eA (fl0 (tk:=tkF tk) ok (by omega) (by omega) hg ⟨#[],CF,(#[],0),0,0,(#[],0,tb0 W),fun _=>false,0,.none⟩ (dk0 W) (set0 W) (by simp [uns]) ⟨fun e=>(by rw [kind164] at e;cases e),rfl,⟨_,_,_,_,_,rfl⟩,hC⟩)) fun q n₁ tk₁ hq=>?_
 obtain ⟨⟨sl₂,CF₂,o₂,a₁,a₂,s₂,S₂,k₂,v₂⟩,t₂⟩:=q
 exact gmend ok 1 0 hR CF₂ hq (.ret .none) rfl (fun h D=>by
  have D2:=A2 [[c8 n (fS W (Bj (tset (tkF tk) t₂) (.ref (z.s+8)) z.m (n+1) (n+2) (n+3) (n+4) v₂) sl₂)],[lS (n+1) (stk []) a₁],[lL (n+2) (itl []).toArray a₂],[dD (n+4) o₂.1 o₂.2],[c8 (n+3) (AQ s₂)],[dD z.m (ents W [n0,n1,n2,n3,n4,n5]) 6],Ah [],A0 [n0,n1,n2,n3,n4,n5],CF₂,[c8 z.s (An (z.d+8))],[c8 z.d (Au z.q z.u z.m rv np nf)]] [0,1,2,3,4,9,10,5,6,7,8] (tail:=L)  (A4 [] 0 (by kernel_rfl) h D)
  have D3:=D2.sub (List.drop_sublist 5 _)
  exact D3)
noncomputable def prS (W:Wd) (it acc n D:Nat):Code:= .compStart (Bh (AE (Ak W.kt 129) 1)) 0 (.ref (it+8)) (.ref (acc+8)) (Cm (A5 W.kt 129 n 8) (Bh (AE (Ak W.kt 129) 1)) (D+8) [])
theorem pr_start (ok:W.Ok) {k:Nat} {α:Type} {Q:Post α} (spec:Tri W A (prC W it acc n D) G (c8 it (Ej m k)::L) Q):Tri W A (prS W it acc n D) G (c8 it (Ej m k)::L) Q:=by
 obtain ⟨w₀,b2,b3,h₀,dd,os⟩:=W
 cases b2
 ·refine Tri.of fun R n' tk hR=>?_
  exact Cq ok 11 266305 (prC _ it acc n D) _ [] 0 hR spec
 ·refine Tri.of fun R n' tk hR=>?_
  exact Cq ok 1 0 (prC _ it acc n D) _ [] 0 hR spec
theorem prepare (ok:W.Ok) {z:Sr} (hd:dp<=550) (hu:un'<=550) (hg:GrOk rk [n0,n1,n2,n3,n4,n5]) (hC:DO F CF) :
  Tri W (Ar dp un' F) (.call (.ref 129) ⟨[.ref (z.s+8)],[]⟩) G (z.cells W .none 0 0 [n0,n1,n2,n3,n4,n5] 6++(A0 [n0,n1,n2,n3,n4,n5]++(CF++L)))
  ⟨fun _=>G,fun q:Sr×Nat×Nat×List Cell=>q.1.s=z.s/\Up CF q.2.2.2,fun _=> .ok (.ret .none),fun q=>q.1.all W q.2.1 ([]++zero n0++zero n1++zero n2++zero n3++zero n4++zero n5) q.2.2.1 0 0 [n0,n1,n2,n3,n4,n5] 6 (q.2.2.2++L)⟩:=by
 refine Tri.of fun R n tk hR=>?_
 refine BC ok 7 4096 (entry W.kt 129 n 8) (dp+0) (by omega) ?_
 refine gcL ok 71 465587313090667510683444209584973348608803906599380627792073758605441 (prS W (n+2) (n+3) n (n+4)) (c8 (n+2) (Ej z.m 0)::c8 (n+4) (lo W [])::lS (n+3) [] 0::dD z.m (ents W [n0,n1,n2,n3,n4,n5]) 6::(A0 [n0,n1,n2,n3,n4,n5]++(AF W n [(sad,tk,.ref (z.s+8))]::c8 z.s (An (z.d+8))::c8 z.d (Au z.q z.u z.m .none 0 0)::(CF++L)))) (BP (Ar (dp+1) (un'+3) (A5 W.kt 129 n 8::F))) (fun h D=>A2 [[c8 (n+2) (Ej z.m 0)],[c8 (n+4) (lo W [])],[lS (n+3) [] 0],[dD z.m (ents W [n0,n1,n2,n3,n4,n5]) 6],[AF W n [(sad,tk,.ref (z.s+8))]],[c8 z.s (An (z.d+8))],[c8 z.d (Au z.q z.u z.m .none 0 0)],A0 [n0,n1,n2,n3,n4,n5]] [0,1,2,3,7,4,5,6] (tail:=CF++L)  (A4 [3,2,0,1,7,4,5,6] 1 (by kernel_rfl) h D)) (fun _ eA=>pr_start ok (Tri.at eA (Tri.own (pl0 (z:=z) (n0:=n0) (n1:=n1) (n2:=n2) (n3:=n3) (n4:=n4) (n5:=n5) (D:=n+4) (acc:=n+3) (it:=n+2) (n:=n) (e:=0) (rs:=[]) (L:=AF W n [(sad,tk,.ref (z.s+8))]::c8 z.s (An (z.d+8))::c8 z.d (Au z.q z.u z.m .none 0 0)::(CF++L)) ok (by omega) (by omega) (by simp)) (fun h D=>A4 [1,2,0] 0 (by kernel_rfl) h D)))) fun p n₁ tk₁ _=>?_
 refine gown (c8 (n+4) (lo W [(sbq,p.1,p.2.1)])::(n+3+8,A1 (sv ([]++zero n0++zero n1++zero n2++zero n3++zero n4++zero n5)) p.2.2)::dD z.m (ents W [n0,n1,n2,n3,n4,n5]) 6::AF W n [(sad,tk,.ref (z.s+8))]::c8 z.s (An (z.d+8))::c8 z.d (Au z.q z.u z.m .none 0 0)::(A0 [n0,n1,n2,n3,n4,n5]++(CF++L))) (by kernel_rfl)
  (fun h D=>A2 [[c8 (n+4) (lo W [(sbq,p.1,p.2.1)])],[(n+3+8,A1 (sv ([]++zero n0++zero n1++zero n2++zero n3++zero n4++zero n5)) p.2.2)],[dD z.m (ents W [n0,n1,n2,n3,n4,n5]) 6],A0 [n0,n1,n2,n3,n4,n5],[AF W n [(sad,tk,.ref (z.s+8))]],[c8 z.s (An (z.d+8))],[c8 z.d (Au z.q z.u z.m .none 0 0)]] [0,1,2,4,5,6,3] (tail:=CF++L)  (A4 [] 0 (by kernel_rfl) h D)) ?_
 refine gcL ok 54 640101272805611628559331745543461125528045826946012176507569438785 (.call (.ref 164) ⟨[.ref (z.s+8)],[]⟩) (z.cells W (.ref (n+3+8)) 0 0 [n0,n1,n2,n3,n4,n5] 6++(A0 [n0,n1,n2,n3,n4,n5]++((AF W n [(sad,tk,.ref (z.s+8))]::CF)++((n+3+8,A1 (sv ([]++zero n0++zero n1++zero n2++zero n3++zero n4++zero n5)) p.2.2)::L)))) (BP (Ar (dp+1) (un'+3) (A5 W.kt 129 n 8::F))) (fun h D=>A2 [[(n+3+8,A1 (sv ([]++zero n0++zero n1++zero n2++zero n3++zero n4++zero n5)) p.2.2)],[dD z.m (ents W [n0,n1,n2,n3,n4,n5]) 6],[AF W n [(sad,tk,.ref (z.s+8))]],[c8 z.s (An (z.d+8))],[c8 z.d (Au z.q z.u z.m (.ref (n+3+8)) 0 0)],A0 [n0,n1,n2,n3,n4,n5],CF] [3,4,1,5,2,6,0] (tail:=L)  (A4 [] 1 (by kernel_rfl) h D)) (fun _ eA=>Tri.at eA (find_cycle (rk:=rk) (z:=z) ok (by omega) (by omega) hg ⟨fun e=>(by rw [kind129] at e;cases e),rfl,⟨_,_,_,_,_,rfl⟩,hC⟩)) fun C₂ n₂ tk₂ hC₂=>?_
 obtain ⟨sl₂,C₂,rfl,ho⟩:∃ sl C,C₂=(c8 n (fS W [(sad,tk,.ref (z.s+8))] sl))::C/\Up CF C:=by
  match C₂,hC₂ with
  | (a,o)::C,⟨h1,⟨sl,h2⟩,h3⟩=>
   cases h1;cases h2
   exact ⟨sl,C,rfl,h3⟩
 exact gmend ok 12 66512 hR (z,n+3,p.2.2,C₂) ⟨rfl,ho⟩ (.ret .none) rfl (fun h D=>by
  have D2:=A2 [[c8 z.s (An (z.d+8))],[c8 z.d (Au z.q z.u z.m (.ref (n+3+8)) 0 0)],[dD z.m (ents W [n0,n1,n2,n3,n4,n5]) 6],A0 [n0,n1,n2,n3,n4,n5],[c8 n (fS W [(sad,tk,.ref (z.s+8)),(S [99,121,99,108,101],tk₂,.none)] sl₂)],C₂,[(n+3+8,A1 (sv ([]++zero n0++zero n1++zero n2++zero n3++zero n4++zero n5)) p.2.2)]] [4,0,1,2,6,3,5] (tail:=L)  (A4 [] 0 (by kernel_rfl) h D)
  have D3:=D2.sub (List.drop_sublist 1 _)
  exact D3)
end
section
open PySem PySem.Sre
variable {n hd pc:Nat} {f:Bool} {sn:Seen} {fs:List Sre.Frame}
noncomputable def DX:Array Nat:=#[14,4,0,1,4294967295,17,0,7,14,24,10,1,4294967295,13,5,22,48,57,0,1,15,17,15,13,11,9,0,26624,2147483648,0,0,0,0,0,0,15,2,0,17,1,1]
noncomputable def DW:Nat->M->M
 | 0,m=>m
 | k+1,m=>DW k m.step
theorem DE (m:M):∀ a b,DW (a+b) m=DW b (DW a m):=by
 intro a
 induction a generalizing m with
 | zero=>intro b;simp [DW]
 | succ a ih=>intro b;rw [Nat.succ_add];exact ih _ _
theorem step_end {m:M} (h:m.outcome.isSome=true):m.step=m:=by unfold M.step;rw [if_pos h]
theorem Dz {m:M} (h:m.outcome.isSome=true):∀ k,DW k m=m:=by
 intro k
 induction k with
 | zero=>rfl
 | succ k ih=>show DW k m.step=m;rw [step_end h];exact ih
theorem runFor_goN:∀ n (m:M),M.runFor n m=DW n m:=by
 intro n
 induction n with
 | zero=>intro m;rfl
 | succ n ih=>
  intro m
  show (if m.outcome.isSome then m else M.runFor n m.step)=DW n m.step
  split
  ·rename_i h;rw [step_end h,Dz h]
  ·exact ih _
noncomputable def rms (T:Array Nat) (s pc pos hd:Nat) (om:Bool) (a b:Option Nat) (lm li:Int) (fs:List Sre.Frame) (w:Nat) (an:Option Bool) (sn:Seen):M:=
 { code:=DX,text:=T,lim:=T.size,start:=s,lastStart:=T.size,pc,pos,handed:=hd,outermost:=om,marks:=#[a,b],lastmark:=lm,lastindex:=li,frames:=fs,weight:=w,answer:=an,seen:=sn }
noncomputable def rk0:Sre.Kept:={ lastmark:=0,lastindex:= -1 }
noncomputable def rA (s:Nat) (f:Bool):Sre.Frame:={ wait:= .nextStart,pc:=5,pos:=s,outermost:=f }
noncomputable def rB (pc s:Nat) (f:Bool):Sre.Frame:={ wait:= .nextBranch,pc,pos:=s,outermost:=f,kept:=rk0 }
noncomputable def rG (s n:Nat) (f:Bool):Sre.Frame:={ wait:= .giveBack,pc:=9,pos:=s+n,outermost:=f,count:=n,kept:=rk0 }
noncomputable def rs0 (T:Array Nat) (s:Nat) (f:Bool) (a b:Option Nat) (sn:Seen):M:=rms T s 5 s s f a b (-1) (-1) [rA s f] 1 none sn
theorem rt1 {T:Array Nat} {s:Nat} {f:Bool} {a b:Option Nat} {sn:Seen}:∃ sn',(rs0 T s f a b sn).step=rms T s 7 s s f (some s) b 0 (-1) [rA s f] 1 none sn':=⟨_,rfl⟩
theorem rt2 {T:Array Nat} {s hd:Nat} {f:Bool} {a b:Option Nat} {sn:Seen}:∃ sn',(rms T s 7 s hd f a b 0 (-1) [rA s f] 1 none sn).step=rms T s 9 s s f a b 0 (-1) [rB 8 s f,rA s f] 2 none sn':=⟨_,rfl⟩
theorem rt3 {T:Array Nat} {s hd n:Nat} {f:Bool} {a b:Option Nat} {sn:Seen} (hs:s<T.size) (hr:∀ sn',∃ sn'',run DX T 13 (T.size - s) s 0 sn'= .ok (n,sn'')) (hM:T.size<4294967295) (hn:1<=n):∃ sn',(rms T s 9 s hd f a b 0 (-1) [rB 8 s f,rA s f] 2 none sn).step=rms T s 20 (s+n) (s+n) f a b 0 (-1) [rG s n f,rB 8 s f,rA s f] 3 none sn':=by
 obtain ⟨sn'',h⟩:=hr ((sn.add 24).add 13)
 refine ⟨sn'',?_⟩
 show (if (1:Int)>(T.size:Int) - s then _ else match run DX T 13 (min 4294967295 ((T.size:Int) - s).toNat) s 0 ((sn.add 24).add 13) with
  | .error why=>_
  | .ok (n,seen)=>_)=_
 have e:min 4294967295 ((T.size:Int) - s).toNat=T.size - s:=by omega
 rw [if_neg (by omega),e,h]
 show (if n<1 then _ else _)=_
 rw [if_neg (by omega)]
 rfl
theorem rt3n {T:Array Nat} {s hd:Nat} {f:Bool} {a b:Option Nat} {sn:Seen} (hr:s<T.size->∀ sn',∃ sn'',run DX T 13 (T.size - s) s 0 sn'= .ok (0,sn'')) (hM:T.size<4294967295):∃ sn',(rms T s 9 s hd f a b 0 (-1) [rB 8 s f,rA s f] 2 none sn).step=rms T s 9 s hd f a b 0 (-1) [rB 8 s f,rA s f] 2 (some false) sn':=by
 by_cases hs:s<T.size
 ·obtain ⟨sn'',h⟩:=hr hs ((sn.add 24).add 13)
  refine ⟨sn'',?_⟩
  show (if (1:Int)>(T.size:Int) - s then _ else match run DX T 13 (min 4294967295 ((T.size:Int) - s).toNat) s 0 ((sn.add 24).add 13) with
   | .error why=>_
   | .ok (n,seen)=>_)=_
  have e:min 4294967295 ((T.size:Int) - s).toNat=T.size - s:=by omega
  rw [if_neg (by omega),e,h]
  rfl
 ·refine ⟨sn.add 24,?_⟩
  show (if (1:Int)>(T.size:Int) - s then _ else _)=_
  rw [if_pos (by omega)]
  rfl
theorem rt4 {T:Array Nat} {s p hd w:Nat} {f:Bool} {a b:Option Nat} {fs:List Sre.Frame} {sn:Seen}:∃ sn',(rms T s 20 p hd f a b 0 (-1) fs w none sn).step=rms T s 38 p hd f a b 0 (-1) fs w none sn':=⟨_,rfl⟩
theorem rt4' {T:Array Nat} {s p hd w:Nat} {f:Bool} {a b:Option Nat} {fs:List Sre.Frame} {sn:Seen}:∃ sn',(rms T s 35 p hd f a b 0 (-1) fs w none sn).step=rms T s 38 p hd f a b 0 (-1) fs w none sn':=⟨_,rfl⟩
theorem rt5 {T:Array Nat} {s p hd w:Nat} {f:Bool} {a b:Option Nat} {fs:List Sre.Frame} {sn:Seen}:∃ sn',(rms T s 38 p hd f a b 0 (-1) fs w none sn).step=rms T s 40 p hd f a (some p) 1 1 fs w none sn':=by
 refine ⟨sn.add 17,?_⟩
 show M.mark (rms T s 38 p hd f a b 0 (-1) fs w none (sn.add 17)) 1=_
 simp [M.mark,rms]
 decide
theorem rt6 {T:Array Nat} {s p hd w:Nat} {f:Bool} {a b:Option Nat} {lm li:Int} {fs:List Sre.Frame} {sn:Seen}:∃ sn',(rms T s 40 p hd f a b lm li fs w none sn).step=rms T s 40 p p f a b lm li fs w (some true) sn':=by
 refine ⟨sn.add 1,?_⟩
 show (if (f&&(false&&_||false&&_))=true then _ else _)=_
 rw [if_neg (by simp)]
 rfl
theorem rt7 {T:Array Nat} {s p w:Nat} {f':Bool} {a b:Option Nat} {lm li:Int}:(rms T s pc p hd f a b lm li (rG s n f'::fs) w (some true) sn).step=rms T s 9 (s+n) hd f' a b lm li fs (w - 1) (some true) sn:=rfl
theorem rt8 {T:Array Nat} {s pc' p w:Nat} {f':Bool} {a b:Option Nat} {lm li:Int}:(rms T s pc p hd f a b lm li (rB pc' s f'::fs) w (some true) sn).step=rms T s pc' s hd f' a b lm li fs (w - 1) (some true) sn:=rfl
theorem rt9 {T:Array Nat} {s p w:Nat} {f':Bool} {a b:Option Nat} {lm li:Int}:(rms T s pc p hd f a b lm li (rA s f'::fs) w (some true) sn).step=rms T s 5 s hd f' a b lm li fs (w - 1) (some true) sn:=rfl
theorem rt10 {T:Array Nat} {s p w:Nat} {a b:Option Nat} {lm li:Int} {an:Bool}:(rms T s pc p hd f a b lm li [] w (some an) sn).step={ rms T s pc p hd f a b lm li [] w (some an) sn with outcome:=some (if an then .matched else .failed) }:=rfl
theorem ru4 {T:Array Nat} {s p:Nat} {a b:Option Nat}:(rms T s 9 p hd f a b 0 (-1) [rB 8 s f,rA s f] 2 (some false) sn).step=rms T s 23 s s f a b 0 (-1) [rB 22 s f,rA s f] 2 none sn:=rfl
theorem ru5 {T:Array Nat} {s hd w:Nat} {f:Bool} {a b:Option Nat} {fs:List Sre.Frame} {sn:Seen} (hs:s<T.size) (hr:∀ sn',∃ sn'',inSet DX (T.getD s 0) 41 25 true sn'= .ok (true,sn'')):∃ sn',(rms T s 23 s hd f a b 0 (-1) fs w none sn).step=rms T s 35 (s+1) hd f a b 0 (-1) fs w none sn':=by
 obtain ⟨sn'',h⟩:=hr (sn.add 13)
 refine ⟨sn'',?_⟩
 show (if s≥T.size then _ else match inSet DX (T.getD s 0) 41 25 true (sn.add 13) with
  | .error why=>_
  | .ok (false,seen)=>_
  | .ok (true,seen)=>_)=_
 rw [if_neg (by omega),h]
 rfl
theorem ru5n {T:Array Nat} {s hd w:Nat} {f:Bool} {a b:Option Nat} {fs:List Sre.Frame} {sn:Seen} (hr:s<T.size->∀ sn',∃ sn'',inSet DX (T.getD s 0) 41 25 true sn'= .ok (false,sn'')):∃ sn',(rms T s 23 s hd f a b 0 (-1) fs w none sn).step=rms T s 23 s hd f a b 0 (-1) fs w (some false) sn':=by
 by_cases hs:s<T.size
 ·obtain ⟨sn'',h⟩:=hr hs (sn.add 13)
  refine ⟨sn'',?_⟩
  show (if s≥T.size then _ else match inSet DX (T.getD s 0) 41 25 true (sn.add 13) with
   | .error why=>_
   | .ok (false,seen)=>_
   | .ok (true,seen)=>_)=_
  rw [if_neg (by omega),h]
  rfl
 ·refine ⟨sn.add 13,?_⟩
  show (if s≥T.size then _ else _)=_
  rw [if_pos (by omega)]
  rfl
theorem ru6 {T:Array Nat} {s p:Nat} {a b:Option Nat}:(rms T s 23 p hd f a b 0 (-1) [rB 22 s f,rA s f] 2 (some false) sn).step=rms T s 22 s hd f a b 0 (-1) [rA s f] 1 (some false) sn:=rfl
theorem ru7 {T:Array Nat} {s p:Nat} {a b:Option Nat} (hs:s<T.size):(rms T s pc p hd f a b 0 (-1) [rA s f] 1 (some false) sn).step=rs0 T (s+1) false a b sn:=by
 show (if s<T.size then _ else _)=_
 rw [if_pos hs]
 rfl
theorem ru7n {T:Array Nat} {s p:Nat} {a b:Option Nat} (hs:¬ s<T.size):(rms T s pc p hd f a b 0 (-1) [rA s f] 1 (some false) sn).step=rms T s 5 s hd f a b 0 (-1) [] 0 (some false) sn:=by
 show (if s<T.size then _ else _)=_
 rw [if_neg hs]
 rfl
noncomputable def CW (c:Nat):Bool:=48<=c&&c<=57
noncomputable def C8 (c:Nat):Bool:=c==43||c==45||c==46||c==95
theorem acc_d (c:Nat) (sn:Seen):∃ sn',accepts DX 13 c sn= .ok (CW c,sn'):=by
 cases h:CW c
 ·refine ⟨(sn.add 22).add 0,?_⟩
  show (if CW c=true then _ else _)=_
  rw [if_neg (by rw [h];decide)]
  rfl
 ·refine ⟨sn.add 22,?_⟩
  show (if CW c=true then _ else _)=_
  rw [if_pos h]
  rfl
theorem inC_sep:∀ c:Fin 256,((DX.getD (26+c.val / 32) 0).testBit (c.val % 32))=C8 c.val:=by decide +kernel
theorem in_s (c:Nat) (sn:Seen):∃ sn',inSet DX c 41 25 true sn= .ok (C8 c,sn'):=by
 have e:(decide (c<256)&&(DX.getD (25+(1+c / 32)) 0).testBit (c % 32))=C8 c:=by
  by_cases h:c<256
  ·rw [decide_eq_true h,Bool.true_and,← Nat.add_assoc];exact inC_sep ⟨c,h⟩
  ·rw [decide_eq_false h,Bool.false_and]
   symm
   unfold C8
   simp only [Bool.or_eq_false_iff,beq_eq_false_iff_ne]
   omega
 cases h:C8 c
 ·refine ⟨(sn.add 9).add 0,?_⟩
  show (if (decide (c<256)&&(DX.getD (25+(1+c / 32)) 0).testBit (c % 32))=true then _ else _)=_
  rw [e,if_neg (by rw [h];decide)]
  rfl
 ·refine ⟨sn.add 9,?_⟩
  show (if (decide (c<256)&&(DX.getD (25+(1+c / 32)) 0).testBit (c % 32))=true then _ else _)=_
  rw [e,if_pos h]
  rfl
theorem run_d (T:Array Nat):∀ (n p found:Nat) (sn:Seen),p+n=T.size->∃ sn',run DX T 13 n p found sn= .ok (found+((T.toList.drop p).takeWhile CW).length,sn'):=by
 intro n
 induction n with
 | zero=>
  intro p found sn h
  refine ⟨sn,?_⟩
  rw [List.drop_of_length_le (by simp;omega)]
  rfl
 | succ n ih=>
  intro p found sn h
  have hp:p<T.toList.length:=by simp;omega
  have e:T.getD p 0=T.toList[p]:=by simp [Array.getD,show p<T.size by omega]
  obtain ⟨sn1,h1⟩:=acc_d (T.getD p 0) sn
  rw [List.drop_eq_getElem_cons hp,List.takeWhile_cons,← e]
  show ∃ sn',(do let (yes,seen) ← accepts DX 13 (T.getD p 0) sn;if yes then run DX T 13 n (p+1) (found+1) seen else pure (found,seen))=_
  rw [h1]
  cases hd:CW (T.getD p 0)
  ·exact ⟨sn1,rfl⟩
  ·obtain ⟨sn2,h2⟩:=ih (p+1) (found+1) sn1 (by omega)
   refine ⟨sn2,?_⟩
   show run DX T 13 n (p+1) (found+1) sn1=_
   rw [h2,if_pos rfl,List.length_cons]
   congr 2;omega
noncomputable def AP:List Nat->Option (Nat×Nat)
 | []=>none
 | c::l=>if CW c then some (0,1+(l.takeWhile CW).length) else if C8 c then some (0,1) else (AP l).map fun p=>(p.1+1,p.2)
noncomputable def Found (T:Array Nat) (s:Nat) (m:M):Prop:=
 match AP (T.toList.drop s) with
 | none=>m.outcome=some .failed
 | some (a,n)=>m.outcome=some .matched/\m.start=s+a/\m.handed=s+a+n/\m.marks=#[some (s+a),some (s+a+n)]/\m.lastmark=1
theorem Ad {k:Nat} {m m':M} (h:m.step=m'):DW (k+1) m=DW k m':=by rw [← h];rfl
theorem search (T:Array Nat) (hM:T.size<4294967295):∀ (j s:Nat) (f:Bool) (a b:Option Nat) (sn:Seen),s+j=T.size->∃ k,k<=9*j+12/\Found T s (DW k (rs0 T s f a b sn)):=by
 intro j
 induction j with
 | zero=>
  intro s f a b sn h
  have hs:¬ s<T.size:=by omega
  obtain ⟨sn1,h1⟩:=@rt1 T s f a b sn
  obtain ⟨sn2,h2⟩:=@rt2 T s s f (some s) b sn1
  obtain ⟨sn3,h3⟩:=@rt3n T s s f (some s) b sn2 (fun h=>absurd h hs) hM
  obtain ⟨sn5,h5⟩:=@ru5n T s s 2 f (some s) b [rB 22 s f,rA s f] sn3 (fun h=>absurd h hs)
  refine ⟨8,by omega,?_⟩
  rw [Ad h1,Ad h2,Ad h3,Ad ru4,Ad h5,Ad ru6,Ad (ru7n hs),Ad rt10]
  unfold Found
  rw [List.drop_of_length_le (by simp;omega)]
  rfl
 | succ j ih=>
  intro s f a b sn h
  have hs:s<T.size:=by omega
  have hp:s<T.toList.length:=by simp;omega
  have e:T.getD s 0=T.toList[s]:=by simp [Array.getD,hs]
  have ed:=List.drop_eq_getElem_cons hp
  rw [← e] at ed
  obtain ⟨sn1,h1⟩:=@rt1 T s f a b sn
  obtain ⟨sn2,h2⟩:=@rt2 T s s f (some s) b sn1
  have hrun:=fun sn'=>run_d T (T.size - s) s 0 sn' (by omega)
  rw [ed,List.takeWhile_cons] at hrun
  cases hd:CW (T.getD s 0)
  ·rw [hd] at hrun
   obtain ⟨sn3,h3⟩:=@rt3n T s s f (some s) b sn2 (fun _=>hrun) hM
   have hin:=fun sn'=>in_s (T.getD s 0) sn'
   cases hc:C8 (T.getD s 0)
   ·rw [hc] at hin
    obtain ⟨sn5,h5⟩:=@ru5n T s s 2 f (some s) b [rB 22 s f,rA s f] sn3 (fun _=>hin)
    obtain ⟨k,hk,hF⟩:=ih (s+1) false (some s) b sn5 (by omega)
    refine ⟨k+1+1+1+1+1+1+1,by omega,?_⟩
    rw [Ad h1,Ad h2,Ad h3,Ad ru4,Ad h5,Ad ru6,Ad (ru7 hs)]
    unfold Found at hF ⊢
    rw [ed]
    unfold AP
    rw [if_neg (by rw [hd];decide),if_neg (by rw [hc];decide)]
    revert hF
    cases AP (List.drop (s+1) T.toList) with
    | none=>exact id
    | some p=>
     intro hF
     obtain ⟨h1,h2,h3,h4,h5⟩:=hF
     show _=_/\_=s+(p.1+1)/\_=s+(p.1+1)+p.2/\_=#[some (s+(p.1+1)),some (s+(p.1+1)+p.2)]/\_=_
     rw [show s+(p.1+1)=s+1+p.1 by omega]
     exact ⟨h1,h2,h3,h4,h5⟩
   ·rw [hc] at hin
    obtain ⟨sn5,h5⟩:=@ru5 T s s 2 f (some s) b [rB 22 s f,rA s f] sn3 hs hin
    obtain ⟨sn6,h6⟩:=@rt4' T s (s+1) s 2 f (some s) b [rB 22 s f,rA s f] sn5
    obtain ⟨sn7,h7⟩:=@rt5 T s (s+1) s 2 f (some s) b [rB 22 s f,rA s f] sn6
    obtain ⟨sn8,h8⟩:=@rt6 T s (s+1) s 2 f (some s) (some (s+1)) 1 1 [rB 22 s f,rA s f] sn7
    refine ⟨11,by omega,?_⟩
    rw [Ad h1,Ad h2,Ad h3,Ad ru4,Ad h5,Ad h6,Ad h7,Ad h8,Ad rt8,Ad rt9,Ad rt10]
    unfold Found
    rw [ed]
    unfold AP
    rw [if_neg (by rw [hd];decide),if_pos hc]
    exact ⟨rfl,rfl,rfl,rfl,rfl⟩
  ·rw [hd,if_pos rfl] at hrun
   have ez:0+(T.getD s 0::List.takeWhile CW (List.drop (s+1) T.toList)).length=1+(List.takeWhile CW (List.drop (s+1) T.toList)).length:=by rw [List.length_cons];omega
   rw [ez] at hrun
   obtain ⟨sn3,h3⟩:=@rt3 T s s (1+(List.takeWhile CW (List.drop (s+1) T.toList)).length) f (some s) b sn2 hs hrun hM (by omega)
   obtain ⟨sn6,h6⟩:=@rt4 T s (s+(1+(List.takeWhile CW (List.drop (s+1) T.toList)).length)) (s+(1+(List.takeWhile CW (List.drop (s+1) T.toList)).length)) 3 f (some s) b _ sn3
   obtain ⟨sn7,h7⟩:=@rt5 T s (s+(1+(List.takeWhile CW (List.drop (s+1) T.toList)).length)) (s+(1+(List.takeWhile CW (List.drop (s+1) T.toList)).length)) 3 f (some s) b _ sn6
   obtain ⟨sn8,h8⟩:=@rt6 T s (s+(1+(List.takeWhile CW (List.drop (s+1) T.toList)).length)) (s+(1+(List.takeWhile CW (List.drop (s+1) T.toList)).length)) 3 f (some s) (some (s+(1+(List.takeWhile CW (List.drop (s+1) T.toList)).length))) 1 1 _ sn7
   refine ⟨10,by omega,?_⟩
   rw [Ad h1,Ad h2,Ad h3,Ad h6,Ad h7,Ad h8,Ad rt7,Ad rt8,Ad rt9,Ad rt10]
   unfold Found
   rw [ed]
   unfold AP
   rw [if_pos hd]
   exact ⟨rfl,rfl,rfl,rfl,rfl⟩
end
section
open PySem PySem.W PySem.W.X PySem.Calls PySem.Spec PySem.Builtin.Re
variable {W:Wd} {L:List Cell} {G:List GenState} {A:Around} {a:Nat} {h:Heap} {s:Shared} {b:Bool}
section
variable {M:Model} {A:Around} {E:Value->Shared->Prop} {s:Shared}
theorem goN_eq {m:Sre.M} {b:Nat} (ha:(DW a m).outcome.isSome=true) (hb:(DW b m).outcome.isSome=true):DW a m=DW b m:=by
 rcases Nat.le_total a b with h | h
 ·obtain ⟨c,rfl⟩:=Nat.exists_eq_add_of_le h;rw [DE,Dz ha]
 ·obtain ⟨c,rfl⟩:=Nat.exists_eq_add_of_le h;rw [DE,Dz hb]
theorem wp_drive {Q:Sre.M->Shared->Prop}:∀ (turns k:Nat) (m:Sre.M),(DW k m).outcome.isSome=true->k<4*turns->Q (DW k m) s->wpAny M A (reDrive turns m) Q E s:=by
 intro turns
 induction turns with
 | zero=>intro k m h hk;omega
 | succ t ih=>
  intro k m h hk hQ
  unfold reDrive
  rw [runFor_goN]
  show wpAny M A (if (DW 4 m).outcome.isSome=true then pure (DW 4 m) else _) Q E s
  split
  ·rename_i h4
   rw [goN_eq h h4] at hQ
   exact wpAny_pure hQ
  ·rename_i h4
   have h5:4<k:=by
    rcases Nat.lt_or_ge 4 k with h' | h'
    ·exact h'
    ·obtain ⟨c,e⟩:=Nat.exists_eq_add_of_le h'
     rw [e,DE,Dz h] at h4
     exact absurd h h4
   obtain ⟨c,rfl⟩:=Nat.exists_eq_add_of_le (Nat.le_of_lt h5)
   rw [DE] at h hQ
   exact wpAny_bind (wpAny_rule (ih c (DW 4 m) h (by omega) hQ))
theorem wp_end {Q:Option Sre.M->Shared->Prop} {m:Sre.M} {k:Nat} (h:(DW k m).outcome=some (if b then .matched else .failed)) (hk:k<4*2 ^ 64) (hQ:Q (if b then some (DW k m) else none) s):wpAny M A (reRunToEnd m) Q E s:=by
 unfold reRunToEnd
 refine wpAny_bind (wp_drive (2 ^ 64) k m (by rw [h];rfl) hk ?_)
 refine wpAny_bind (wpAny_forIn_list _ (fun _ _ s'=>s'=s) _ (fun x rest b' s' e=>?_) (fun b' s' e=>?_) _ _ rfl)
 ·subst e
  split
  ·exact wpAny_bind (wpAny_rule (wpAny_pure rfl))
  ·exact wpAny_pure rfl
 ·subst e
  rw [h]
  cases b
  ·exact wpAny_pure hQ
  ·exact wpAny_pure hQ
theorem wp_next {Q:Option Sre.M->Shared->Prop} {t:ReTarget} {st:Nat} (hc:t.code=DX) (hg:t.groups=1) (hl:t.lim=t.text.size) (hz:t.text.size<=1000) (hs:st<=t.text.size)
  (h0:AP (t.text.toList.drop st)=none->Q none s)
  (h1:∀ a n m,AP (t.text.toList.drop st)=some (a,n)->m.start=st+a->m.handed=st+a+n->m.marks=#[some (st+a),some (st+a+n)]->m.lastmark=1->Q (some m) s) :
  wpAny M A (reNextFound t st false) Q E s:=by
 unfold reNextFound
 rw [hc,hg,hl]
 rcases Nat.lt_or_ge st t.text.size with h | h
 ·obtain ⟨k,hk,hF⟩:=search t.text (by omega) (t.text.size - st) st true none none (({}:Sre.Seen).add 14) (by omega)
  have e:Sre.forSearch DX t.text 1 st t.text.size false=rs0 t.text st true none none (({}:Sre.Seen).add 14):=by
   unfold Sre.forSearch
   show (if (decide (st>t.text.size)||decide (t.text.size - st<1))=true then _ else _)=_
   rw [if_neg (by simp;omega)]
   rfl
  rw [e]
  unfold Found at hF
  revert hF h0 h1
  cases AP (t.text.toList.drop st) with
  | none=>
   intro h0 h1 hF
   generalize rs0 t.text st true none none (({}:Sre.Seen).add 14)=m at hF ⊢
   exact wp_end (k:=k) (b:=false) hF (by omega) (h0 rfl)
  | some p=>
   intro h0 h1 hF
   generalize rs0 t.text st true none none (({}:Sre.Seen).add 14)=m at hF ⊢
   obtain ⟨q1,q2,q3,q4,q5⟩:=hF
   exact wp_end (k:=k) (b:=true) q1 (by omega) (h1 p.1 p.2 _ rfl q2 q3 q4 q5)
 ·refine wp_end (k:=1) (b:=false) ?_ (by omega) (h0 (by rw [List.drop_of_length_le (by simp;omega)];rfl))
  generalize e:Sre.forSearch DX t.text 1 st t.text.size false=m
  unfold Sre.forSearch at e
  replace e:(if (decide (st>t.text.size)||decide (t.text.size - st<1))=true then _ else _)=m:=e
  rw [if_pos (by simp;omega)] at e
  rw [← e]
  rfl
end
theorem obj42 (ok:W.Ok) (D:Own W.h₀ 53 h L):h.get? 42=some (o42 W.w₀.params):=D.keep 42 _ (by have:=KT.Holds.get ok.1 (j:=42) (o:=o42 W.w₀.params) (by kernel_rfl);simpa using this) (by decide)
theorem obj43 (ok:W.Ok) (D:Own W.h₀ 53 h L):h.get? 43=some (o43 W.w₀.params):=D.keep 43 _ (by have:=KT.Holds.get ok.1 (j:=43) (o:=o43 W.w₀.params) (by kernel_rfl);simpa using this) (by decide)
inductive Pieces:List Nat->List (List Nat)->Prop
 | last {l:List Nat}:AP l=none->Pieces l [l]
 | more {l:List Nat} {a n:Nat} {ps:List (List Nat)}:AP l=some (a,n)->Pieces (l.drop (a+n)) ps->Pieces l (l.take a::(l.drop a).take n::ps)
theorem nextM_le:∀ {l:List Nat} {a n:Nat},AP l=some (a,n)->1<=n/\a+n<=l.length:=by
 intro l
 induction l with
 | nil=>intro a n h;cases h
 | cons c l ih=>
  intro a n h
  unfold AP at h
  split at h
  ·cases h
   have:=(List.takeWhile_prefix CW (l:=l)).length_le
   simp only [List.length_cons]
   omega
  ·split at h
   ·cases h;simp only [List.length_cons];omega
   ·cases e:AP l with
    | none=>rw [e] at h;cases h
    | some p=>
     rw [e] at h
     cases h
     have:=ih (a:=p.1) (n:=p.2) e
     simp only [List.length_cons]
     omega
theorem DU {M:Model} {E:Value->Shared->Prop} {Q:Value->Shared->Prop} {T:Array Nat} {b:Nat} (hT:T.size<=1000) (h:Q (.str ⟨T.extract a b⟩ s.toks) { s with toks:=s.toks+1 }):wpAny M A (reSlice T 0 a b) Q E s:=by
 unfold reSlice
 refine wpAny_mkStr h (line ?_)
 show (T.extract a b).size<=1000
 rw [Array.size_extract];omega
theorem split_b (ok:W.Ok) {T:Str} {t:Nat} (hT:T.cps.size<=400) :
  Tri W A (.builtin "re.Pattern.split" ⟨[.ref 43,.str T t],[]⟩) G L ⟨fun _=>G,fun p:Nat×List (Str×Nat)=>Pieces T.cps.toList (p.2.map fun x=>x.1.cps.toList),fun p=> .ok (.ret (.ref (p.1+8))),fun p=>lS p.1 p.2 0::L⟩:=by
 refine Tri.bi (by kernel_rfl) (entryFor_of_tree (b:=Builtin.«re.Pattern.split») (by kernel_rfl)) fun R hR h n tk hs D=>?_
 have h42:=obj42 ok D
 have h43:=obj43 ok D
 unfold Builtin.«re.Pattern.split»
 dsimp only
 refine wpAny_bind ?_
 have e:reNamed "re.Pattern.split" "split" ["string","maxsplit"] 1 [Value.str T t] []=pure [some (.str T t),none]:=by rfl
 rw [e]
 refine wpAny_pure ?_
 dsimp only
 refine wpAny_bind (wpAny_pure ?_)
 refine wpAny_bind ?_
 unfold reWholeTarget
 refine wpAny_bind (wpAny_fieldsOf h43 rfl ?_)
 have e2:reTextOf (.str T t)=pure (T.cps,0):=by rfl
 rw [e2]
 refine wpAny_bind (wpAny_pure ?_)
 dsimp only
 rw [if_neg (by decide),if_neg (by decide)]
 refine wpAny_bind (?_:wpAny _ _ (reNoCollectionInside (Value.str T t) 0) _ _ _)
 have e3:reNoCollectionInside (Value.str T t) 0=pure ():=by rfl
 rw [e3]
 refine wpAny_pure ?_
 refine wpAny_bind ?_
 unfold reRawItems
 refine wpAny_bind (wpAny_seqItems h42 rfl (wpAny_pure (wpAny_pure ?_)))
 generalize hRT:ReTarget.mk (Value.ref 43) (Value.str T t) _ T.cps 0 _ 0 T.cps.size=rt
 have hc:rt.code=DX:=by rw [← hRT];apply Array.toList_inj.mp;simp only [Array.toList_map];rfl
 have hg:rt.groups=1:=by rw [← hRT];rfl
 have ht:rt.text=T.cps:=by rw [← hRT]
 have hk:rt.kind=0:=by rw [← hRT]
 have hl:rt.lim=T.cps.size:=by rw [← hRT]
 have hmm:reMostMatches rt=2*T.cps.size+3:=by unfold reMostMatches;rw [ht]
 clear hRT
 rw [hmm,ht,hk,hl,hg]
 refine wpAny_bind (wpAny_forIn_list _ (fun rest b s'=>∃ (vs:List (Str×Nat)) (st:Nat) (nn:Int) (ov:Bool) (tk':Nat),b=(sv vs,st,st,false,nn,ov)/\s'=⟨h,⟨G⟩,W.d,tk',W.os⟩/\st<=T.cps.size/\vs.length<=2*st /\
   (∀ ps,Pieces (T.cps.toList.drop st) ps->Pieces T.cps.toList ((vs.map fun x=>x.1.cps.toList)++ps))/\(ov=false->T.cps.size - st+1<=rest.length)/\(ov=true->AP (T.cps.toList.drop st)=none)) _ (fun x rest b s' hI=>?_) (fun b s' hI=>?_) _ _ ⟨[],0,0,false,tk,rfl,rfl,by omega,by simp,fun ps hp=>hp,fun _=>by rw [List.length_range];omega,by simp⟩)
 ·obtain ⟨vs,st,nn,ov,tk',rfl,rfl,h1,h2,h3,h4,h5⟩:=hI
  dsimp only
  cases ov
  ·rw [if_pos (show (!false)=true from rfl)]
   refine wpAny_bind ?_
   rw [if_neg (show ¬ ((0:Int) != 0&&decide (nn≥0))=true by simp)]
   refine wp_next (t:=rt) hc hg (by rw [hl,ht]) (by rw [ht];omega) (by rw [ht];exact h1) (fun hn=>?_) (fun a m₁ m hn q1 q2 q3 q4=>?_)
   ·rw [ht] at hn
    exact wpAny_pure ⟨vs,st,nn,true,tk',rfl,rfl,h1,h2,h3,by simp,fun _=>hn⟩
   ·rw [ht] at hn
    dsimp only
    refine wpAny_bind (DU (by omega) ?_)
    rw [q1,q2]
    have hle:=nextM_le hn
    rw [List.length_drop,Array.length_toList] at hle
    refine wpAny_bind ?_
    rw [show List.range 1=[0] from rfl,List.forIn_cons]
    refine wpAny_bind (wpAny_bind ?_)
    unfold reMachineGroup
    rw [q4,if_neg (by decide),q3]
    show wpAny _ _ (if st+a+m₁<st+a then _ else reSlice rt.text rt.kind (st+a) (st+a+m₁)) _ _ _
    rw [if_neg (by omega),ht,hk]
    refine DU (by omega) (wpAny_pure ?_)
    dsimp only
    rw [List.forIn_nil]
    refine wpAny_pure (wpAny_pure ⟨vs++[(⟨T.cps.extract st (st+a)⟩,tk')]++[(⟨T.cps.extract (st+a) (st+a+m₁)⟩,tk'+1)],st+a+m₁,nn+1,false,tk'+1+1,?_,rfl,by omega,by simp only [List.length_append,List.length_cons,List.length_nil];omega,fun ps hp=>?_,fun _=>?_,by simp⟩)
    ·rw [← AB,← AB,show (st+a+m₁==st+a)=false from beq_eq_false_iff_ne.mpr (by omega)]
    ·rw [List.map_append,List.map_append,List.append_assoc,List.append_assoc]
     refine h3 _ ?_
     have hp':=Pieces.more hn (ps:=ps) (by rw [List.drop_drop,← Nat.add_assoc];exact hp)
     have e1:(T.cps.extract st (st+a)).toList=List.take a (List.drop st T.cps.toList):=by
      rw [Array.toList_extract];unfold List.extract;congr 1;omega
     have e2:(T.cps.extract (st+a) (st+a+m₁)).toList=List.take m₁ (List.drop a (List.drop st T.cps.toList)):=by
      rw [Array.toList_extract,List.drop_drop];unfold List.extract;congr 1;omega
     simp only [List.map_cons,List.map_nil,List.cons_append,List.nil_append]
     rw [e1,e2]
     exact hp'
    ·have:=h4 rfl
     simp only [List.length_cons] at this
     omega
  ·rw [if_neg (show ¬ (!true)=true by decide)]
   exact wpAny_pure ⟨vs,st,nn,true,tk',rfl,rfl,h1,h2,h3,by simp,h5⟩
 ·obtain ⟨vs,st,nn,ov,tk',rfl,rfl,h1,h2,h3,h4,h5⟩:=hI
  cases ov
  ·have:=h4 rfl;simp at this
  ·dsimp only
   rw [if_neg (show ¬ (!true)=true by decide)]
   refine wpAny_bind (DU (by omega) ?_)
   refine wpAny_bind (wpAny_newList ?_ (by rw [AB,Array.length_toList,Am,List.length_append];exact line (by simp only [List.length_cons,List.length_nil];omega)))
   refine wpAny_pure ?_
   have e1:(T.cps.extract st T.cps.size).toList=List.drop st T.cps.toList:=by
    rw [Array.toList_extract];unfold List.extract;rw [List.take_of_length_le];simp
   have hp:=h3 _ (.last (h5 rfl))
   rw [← e1] at hp
   have z:=hR (n,vs++[(⟨T.cps.extract st T.cps.size⟩,tk')]) (by
    show Pieces T.cps.toList ((vs++[((⟨T.cps.extract st T.cps.size⟩:Str),tk')]).map fun x:Str×Nat=>x.1.cps.toList)
    rw [List.map_append];exact hp) (h.push (A1 (sv (vs++[(⟨T.cps.extract st T.cps.size⟩,tk')])) 0)) (n+1) (tk'+1) (by rw [Heap.size_push,hs]) (by
     have:=D.alloc (o:=A1 (sv (vs++[(⟨T.cps.extract st T.cps.size⟩,tk')])) 0) rfl
     rw [hs] at this
     exact this)
   rw [AB,Array.toArray_toList]
   dsimp only
   rw [hs]
   exact z
end
section
open PySem PySem.W PySem.W.X PySem.Calls PySem.Spec
variable {W:Wd} {L:List Cell} {G:List GenState} {A:Around} {dp un:Nat} {F:List Env} {x:Str} {h:Heap} {R:Result->Shared->Prop} {env:Env} {prog:Program}
section
variable {b:Bool} {α β:Type} {M:Model} {A:Around} {E:Value->Shared->Prop} {s:Shared}
theorem As.up {t:Sem α} {Q:α->Shared->Prop} (h:wpAny M A t Q E s):As b M A t Q E s:=fun Γ p hΓ _=>h Γ p hΓ
theorem As.bind {m:Sem α} {f:α->Sem β} {Q:β->Shared->Prop} (h:As b M A m (fun a s'=>As b M A (f a) Q E s') E s):As b M A (m>>=f) Q E s:=fun Γ p hΓ hb=>by
 rw [Sem.wp_bind']
 exact Sem.wp_mono _ _ _ (fun a p' s' h'=>h' Γ p' hΓ hb) (fun _ _ _ h'=>h') _ _ (h Γ p hΓ hb)
theorem As.mono {t:Sem α} {Q Q':α->Shared->Prop} {E':Value->Shared->Prop} (h:As b M A t Q E s) (hQ:∀ a s,Q a s->Q' a s) (hE:∀ e s,E e s->E' e s):As b M A t Q' E' s:=
 fun Γ p hΓ hb=>Sem.wp_mono _ _ _ (fun a _ s=>hQ a s) (fun e _ s=>hE e s) _ _ (h Γ p hΓ hb)
theorem As.noted {m:Sem α} {Q:α->Shared->Prop} (h:As b M A m Q (notedBy M A env E) s):As b M A (m.onRaise fun x=>do noteFrame x env;theTreesLotGoes x) Q E s:=fun Γ p hΓ hb=>by
 rw [Sem.wp_onRaise]
 exact Sem.wp_mono _ _ _ (fun _ _ _ h'=>h') (fun e p' s' h'=>wpAny_bind (wpAny_mono (h':notedBy M A env E e s') (fun _ _ e=>wpAny_theTreesLotGoes e) fun _ _ e=>e) Γ p' hΓ) _ _ (h Γ p hΓ hb)
theorem As.attempt {m:Sem α} {Q:Except Value α->Shared->Prop} (h:As b M A m (fun a=>Q (.ok a)) (fun e=>Q (.error e)) s):As b M A m.attempt Q E s:=fun Γ p hΓ hb=>by
 rw [Sem.wp_attempt];exact h Γ p hΓ hb
theorem Ce {c:Code} (h:As b M (A.under c) (M.den c) (postB b M A R) (fun e s'=>R (.error e) s') s):Bb b M A c R s:=C6 fun Γ p hc hΓ hb=>h Γ p (hc▸hΓ.in) hb
theorem code_builtin {w:World} {id:String} {args:Args} {f:Builtin} (hf:entryFor table id=some f)
  (h:As b (model prog w) (A.under (.builtin id args)) (f args) (postB b (model prog w) A R) (fun e s'=>R (.error e) s') s):Bb b (model prog w) A (.builtin id args) R s:=by
 refine Ce ?_
 show As b _ _ (match entryFor table id with | some b=>b args | none=>unsupported ((withoutEnding? id "#data").getD id)) _ _ s
 rw [hf];exact h
theorem wp_mark {own:List String} {a:Value} {Q:Unit->Shared->Prop} (h0:Q () s):As true M A (markTheRefusal own a) Q E s:=fun Γ p hΓ hb=>by
 have hb:(Γ.below.any fun x=>x.1.isCaller)=true:=hb
 unfold markTheRefusal
 rw [Sem.wp_bind']
 show Sem.wp M Γ (if pythonCodeMadeTheCall own (((Γ.code,p)::Γ.below).map (·.1))=true then _ else pure ()) _ _ p s
 rw [if_neg]
 ·exact h0
 ·unfold pythonCodeMadeTheCall
  have e:((((Γ.code,p)::Γ.below).map (·.1)).any Code.isCaller)=true:=by
   rw [List.map_cons,List.any_cons,List.any_map]
   rw [show (Γ.below.any (Code.isCaller ∘ fun x=>x.1))=true from hb,Bool.or_true]
  intro h
  rw [Bool.and_eq_true,Bool.and_eq_true] at h
  have h:=h.1.1
  change (!((((Γ.code,p)::Γ.below).map (·.1)).any Code.isCaller))=true at h
  rw [e] at h
  exact Bool.noConfusion h
end
noncomputable def badT (x:Str) (t:Nat):Sem Value:=do
 rule "int.__new__.invalid-literal"
 let shown ← pyRepr (.str x t)
 let refusal ← newExc (.type "ValueError") [← mkStr (((s!"invalid literal for int() with base {(10 : Nat)}: ":String)++⟨shown.cps.extract 0 200⟩:Str))]
 markTheRefusal ["int.__new__"] refusal
 raiseNew refusal
noncomputable def msgOf (x:Str):Str:=((s!"invalid literal for int() with base {(10 : Nat)}: ":String)++(⟨(reprText x).cps.extract 0 200⟩:Str):Str)
structure Bad (x:Str):Prop where
 eq:∀ t t',Builtin.«int.__new__» ⟨[.type "int",.str x t,.int 10 t'],[]⟩=(badT x t>>=fun v=>ret v)
 r:Nat.ble (reprText x).length 1000=true
 m:Nat.ble (msgOf x).length 1000=true
theorem int_bad {t t':Nat} (hx:Bad x) :
  AK W (Ar dp un F) (.builtin "int.__new__" ⟨[.type "int",.str x t,.int 10 t'],[]⟩) G L
   ⟨fun _:Nat×Nat×Array Value=>G,fun _=>True,fun p=> .error (.ref (p.1+8)),fun p=>c8 p.1 (C0 "ValueError" (p.2.1+8) .none)::c8 p.2.1 (Af p.2.2)::L⟩:=fun R hR h n tk hs D=>by
 refine code_builtin (entryFor_of_tree (b:=Builtin.«int.__new__») (by kernel_rfl)) ?_
 rw [hx.eq]
 refine As.bind ?_
 unfold badT
 refine As.bind (As.up (wpAny_rule ?_))
 refine As.bind (As.up (wpAny_pyRepr_str ?_ (line (Nat.le_of_ble_eq_true hx.r))))
 refine As.bind (As.up (wpAny_mkStr ?_ (line (Nat.le_of_ble_eq_true hx.m))))
 refine As.bind (As.up ?_)
 simp only [newExc,newTuple]
 refine wpAny_bind (wpAny_newObj_type ?_ (by size_fits))
 refine wpAny_bind (m:=firstArgMember _ _) (wpAny_of_eq (a:=Value.none) (by first | rfl | (simp only [firstArgMember];rfl)) ?_)
 refine wpAny_newObj_type ?_ (by size_fits)
 generalize Str.ofString (toString "invalid literal for int() with base "++toString 10++toString ": ")++_=msg
 dsimp only
 have D2:=D.alloc (o:={ cls:= .type "tuple",data:= .seq #[.str msg (tk+1)] }) rfl
 have D3:=D2.alloc (o:={ cls:= .type "ValueError",data:= .fields #[.ref (n+8),.none,.none,.none,.bool false,.none] }) rfl
 rw [Heap.size_push,hs] at D3
 rw [Heap.size_push,hs]
 have hsz:((h.push { cls:= .type "tuple",data:= .seq #[.str msg (tk+1)] }).push { cls:= .type "ValueError",data:= .fields #[.ref (n+8),.none,.none,.none,.bool false,.none] }).objs.size=n+2+8:=by rw [Heap.size_push,Heap.size_push,hs]
 refine As.bind (wp_mark ?_)
 refine As.up ?_
 simp only [raiseNew]
 refine wpAny_bind (wpAny_handled ?_)
 refine wpAny_bind (wpAny_pure (wpAny_throw ?_))
 exact hR (n+1,n,#[.str msg (tk+1)]) trivial _ (n+2) _ hsz D3
theorem obj44 (ok:W.Ok) (D:Own W.h₀ 53 h L):h.get? 44=some (o44 W.w₀.params):=D.keep 44 _ (by have:=KT.Holds.get ok.1 (j:=44) (o:=o44 W.w₀.params) (by kernel_rfl);simpa using this) (by decide)
noncomputable def stages (W:Wd):Array DictEntry:=match (o44 W.w₀.params).data with | .dict es _=>es | _=>#[]
theorem keyE (W:Wd) (l:List Nat) (t:Nat) (v:Value):∃ k,(strKind AA W.w).is k (E W.w₀.params l t v).key=true/\(E W.w₀.params l t v).hash=(strKind AA W.w).hash k:=
 ⟨S l,by simp [E,PySem.strKind,Value.isStrOf],by kernel_rfl⟩
theorem stages_keys (W:Wd):Keys W (stages W):=by
 intro e he
 have he:e∈(stages W).toList:=he.val
 have q:(stages W).toList=[_,_,_,_,_,_,_,_,_,_]:=rfl
 rw [q] at he
 simp only [List.mem_cons,List.not_mem_nil,or_false] at he
 rcases he with rfl | rfl | rfl | rfl | rfl | rfl | rfl | rfl | rfl | rfl<;>exact keyE W _ _ _
theorem stage_get (ok:W.Ok) {t:Nat} {v dv:Value} (hv:((look (stages W) x).getD dv)=v) :
  Tri W A (.call (.builtin "dict.get") ⟨[.ref 44,.str x t,dv],[]⟩) G L (Ret v G L):=
 Tri.cb F.slot_dict_get F.entry_dict_get (F.args_dict_get_3 _ _ _) (fun h _ D=>⟨_,obj44 ok D,rfl⟩) fun R hR h n tk hs D=>
  meets_dict_get_default (strKind AA W.w) 44 (strKind_is _ _ x t) rfl dv A R _ ⟨look (stages W),⟨_,stages W,10,obj44 ok D,⟨rfl,rfl,rfl⟩,rfl,stages_keys W,fun _=>rfl⟩,hv▸hR () trivial h n _ hs D⟩
theorem look_x (W:Wd) (t:Nat):((look (stages W) (S [120])).getD (.int 0 t))= .int 0 t:=by kernel_rfl
theorem look_dev (W:Wd) (t:Nat):((look (stages W) (S [100,101,118])).getD (.int 0 t))= .int 10 339:=by kernel_rfl
end
section
open PySem PySem.W PySem.W.X PySem.Calls PySem.Spec PyProof.Rows
variable {W:Wd} {L CF:List Cell} {G:List GenState} {n dp un e i it r a tk m l tv tt tw un' e2:Nat} {A:Around} {F:List Env} {x:Str} {xs ys:Array Value} {s:Shared} {b:Bool} {R:Result->Shared->Prop} {env:Env} {prog:Program} {body:List Stmt}
noncomputable def AV (x:Str) (b:Bool):Prop:=∀ t t',Builtin.«str.__contains__» ⟨[.str scg t,.str x t'],[]⟩=pure (.done (.ret (.bool b)))
theorem in_x:AV (S [120]) false:=fun _ _=>by kernel_rfl
theorem in_dot:AV (S [46]) true:=fun _ _=>by kernel_rfl
theorem Dl:AV (S []) true:=fun _ _=>by kernel_rfl
noncomputable def Num (x:Str) (k:Int):Prop:=∀ t t',Builtin.«int.__new__» ⟨[.type "int",.str x t,.int 10 t'],[]⟩=(mkInt k>>=fun v=>ret v)
theorem words:(Bad (S [120])/\Bad (S [100,101,118])/\Bad (S [97])/\Bad (S [97,108,112,104,97])/\Bad (S [98])/\Bad (S [98,101,116,97])/\Bad (S [99])/\Bad (S [82,67])/\Bad (S [114,99])/\Bad (S [112])/\Bad (S [112,108]))/\Num (S [48]) 0/\Num (S [48,49,49]) 11/\Num (S [57]) 9/\Num (S [49,48]) 10:=⟨⟨⟨fun _ _=>by kernel_rfl,by kernel_rfl,by kernel_rfl⟩,⟨fun _ _=>by kernel_rfl,by kernel_rfl,by kernel_rfl⟩,⟨fun _ _=>by kernel_rfl,by kernel_rfl,by kernel_rfl⟩,⟨fun _ _=>by kernel_rfl,by kernel_rfl,by kernel_rfl⟩,⟨fun _ _=>by kernel_rfl,by kernel_rfl,by kernel_rfl⟩,⟨fun _ _=>by kernel_rfl,by kernel_rfl,by kernel_rfl⟩,⟨fun _ _=>by kernel_rfl,by kernel_rfl,by kernel_rfl⟩,⟨fun _ _=>by kernel_rfl,by kernel_rfl,by kernel_rfl⟩,⟨fun _ _=>by kernel_rfl,by kernel_rfl,by kernel_rfl⟩,⟨fun _ _=>by kernel_rfl,by kernel_rfl,by kernel_rfl⟩,⟨fun _ _=>by kernel_rfl,by kernel_rfl,by kernel_rfl⟩⟩,fun _ _=>by kernel_rfl,fun _ _=>by kernel_rfl,fun _ _=>by kernel_rfl,fun _ _=>by kernel_rfl⟩
theorem in_c {t t':Nat} (hx:AV x b) :
  Tri W A (.call (.builtin "str.__contains__") ⟨[.str scg t,.str x t'],[]⟩) G L (Ret (.bool b) G L):=
 Tri.cb F.slot_str_contains F.entry_str_contains (F.args_str_contains_2 _ _) (fun h _ D=>rfl) fun R hR h n tk hs D=>by
  rw [hx t t']
  exact wpAny_pure (hR () trivial h n tk hs D)
theorem int_ok {t t':Nat} {k:Int} (hx:Num x k) :
  Tri W A (.builtin "int.__new__" ⟨[.type "int",.str x t,.int 10 t'],[]⟩) G L (Gives G (fun t:Nat=> .int k t) fun _=>L):=by
 refine Tri.bi (by kernel_rfl) (entryFor_of_tree (b:=Builtin.«int.__new__») (by kernel_rfl)) fun R hR h n tk hs D=>?_
 rw [hx t t']
 exact wpAny_bind (wpAny_mkInt (wpAny_pure (hR tk trivial h n _ hs D)))
theorem int_ok_c (ok:W.Ok) {t t':Nat} {k:Int} (hx:Num x k) :
  Tri W A (.call (.builtin "int.__new__") ⟨[.type "int",.str x t,.int 10 t'],[]⟩) G L (Gives G (fun t:Nat=> .int k t) fun _=>L):=by
 refine Tri.of fun R n tk hR=>?_
 exact Cq ok 0 0 (.builtin "int.__new__" ⟨[.type "int",.str x t,.int 10 t'],[]⟩) (L) [] 0 hR (int_ok hx)
theorem int_bad_c (ok:W.Ok) (hA:Good A 900) {t t':Nat} (hx:Bad x) :
  AK W A (.call (.builtin "int.__new__") ⟨[.type "int",.str x t,.int 10 t'],[]⟩) G L
   ⟨fun _:Nat×Nat×Array Value=>G,fun _=>True,fun p=> .error (.ref (p.1+8)),fun p=>c8 p.1 (C0 "ValueError" (p.2.1+8) .none)::c8 p.2.1 (Af p.2.2)::L⟩:=by
 refine AK.good hA fun dp un F hd hu=>?_
 refine AK.of fun R n tk hR=>?_
 exact Cq ok 0 0 (.builtin "int.__new__" ⟨[.type "int",.str x t,.int 10 t'],[]⟩) (L) [] 0 hR (int_bad hx)
theorem tryC {w:World} {E:Value->Shared->Prop} {orelse:List Stmt} {h₀:ExceptHandler} {hs:List ExceptHandler} {pos:Pos} {Q:Flow->Shared->Prop}
  (h:As true (model prog w) A (execs body env) (fun f s₁=>match f with | .next=>wpAny (model prog w) A (execs orelse env) Q E s₁ | f=>Q f s₁)
   (fun e s₁=>wpAny (model prog w) A (noteFrame e env) (fun _ s₂=>wpAny (model prog w) A (setFlight e none) (fun _ s₃=>wpAny (model prog w) A (handleBy e env (h₀::hs)) Q E s₃) E s₂) E s₁) s) :
  As true (model prog w) A (exec (.Try body (h₀::hs) orelse [] pos) env) Q E s:=by
 rw [arm_exec_Try]
 refine As.bind (As.up (wpAny_standAt ?_))
 unfold tryStmt
 simp only [List.isEmpty_nil,if_true,List.isEmpty_cons,Bool.false_and,Bool.false_eq_true,if_false]
 refine As.bind (As.attempt (As.mono h (fun f s₁ h₁=>As.up ?_) fun e s₁ h₁=>As.up ?_))
 ·cases f<;>first | exact h₁ | exact wpAny_pure h₁
 ·exact wpAny_bind (wpAny_mono h₁ (fun _ _ h₂=>wpAny_bind h₂) fun _ _ x=>x)
noncomputable def cvF (W:Wd):Stmt:=AE (Ak W.kt 51) 2
noncomputable def cvI (W:Wd):Stmt:=AE (DC (cvF W)) 0
noncomputable def ifT (s:Stmt):PySem.Expr:=(Br s).e
noncomputable def ifB (s:Stmt):List Stmt:=(Br s).b
noncomputable def ifE (s:Stmt):List Stmt:=(Br s).o
noncomputable def ifP (s:Stmt):Pos:=(Br s).p
noncomputable def cvT (W:Wd):Stmt:=AE (ifB (cvI W)) 0
theorem cv_if (W:Wd):DC (cvF W)=[.If (ifT (cvI W)) (ifB (cvI W)) (ifE (cvI W)) (ifP (cvI W))]:=by kernel_rfl
theorem cv_try (W:Wd):ifB (cvI W)= .Try (tryB (cvT W)) [.ExceptHandler (some (hdT (cvT W))) none (AE (hdB (cvT W)) 0::(hdB (cvT W)).tail) (hdP (cvT W))] [] [] (tryP (cvT W))::(ifB (cvI W)).tail:=by kernel_rfl
theorem cv_suite (W:Wd):AE (hdB (cvT W)) 0::(hdB (cvT W)).tail=hdB (cvT W):=by kernel_rfl
noncomputable def cvL (W:Wd) (l:Nat) (n:Nat):Code:=B9 (cvF W) (.ref (l+8)) (A5 W.kt 51 n 8)
noncomputable def AN (tk tt r:Nat) (T:Str) (xs:List (Str×Nat×Value)):List (Str×Nat×Value):=(S [118,101,114,115,105,111,110],tk,.str T tt)::(S [99,111,109,112,111,110,101,110,116,95,114,101],tk+1,.ref 43)::(sau,tk+2,.ref (r+8))::xs
theorem cw_test1 (ok:W.Ok) {T:Str} {t tw:Nat} {w:Value} {sl:Array (Option Value)} (hx:AV x b) :
  Pc W (Ar dp un' F) (PySem.isTrue (ifT (cvI W)) (A5 W.kt 51 n 8) (eval (ifT (cvI W)) (A5 W.kt 51 n 8))) G (c8 n (fS W (AN tk tt r T [(sav,tv,.str x t)]) sl)::L)
  (⟨fun _=>G,fun _=>True,fun _=>!b,fun _=>c8 n (fS W (AN tk tt r T [(sav,tv,.str x t)]) sl)::L⟩:A3 Bool Unit):=by
 refine Pc.of embB Bv _ (by rw [BA,Ag]) fun R n' tk' c₀ d f gg u hA hR=>?_
 refine CQ ok 4 1 hA (.call (.builtin "str.__contains__") ⟨[.str scg tk',.str x t],[]⟩) (c8 n (fS W (AN tk tt r T [(sav,tv,.str x t)]) sl)::L) [] 0 A6 (fun _ eA=>in_c hx) fun _ n₁ tk₁ _=>?_
 cases b
 ·exact Aj ok 0 0 hR () trivial (.ret (.bool true)) rfl [] 0
 ·exact Aj ok 0 0 hR () trivial (.ret (.bool false)) rfl [] 0
theorem cw_body1 (ok:W.Ok) {T:Str} {t tw:Nat} {w:Value} {sl:Array (Option Value)} (hd:dp<=800) (hu:un'<=800) (hx:Bad x) :
  PcXC W (Ar dp un' F) (execs (tryB (cvT W)) (A5 W.kt 51 n 8)) G (c8 n (fS W (AN tk tt r T [(sav,tv,.str x t)]) sl)::L)
  (⟨fun _=>G,fun _=>True,fun p=> .error (.ref (p.1+8)),fun p=>c8 p.1 (C0 "ValueError" (p.2+8) .none)::c8 n (fS W (AN tk tt r T [(sav,tv,.str x t)]) sl)::L⟩:Bt Flow (Nat×Nat)):=by
 refine PcXC.of id Ai _ (by rw [Ao]) fun R n' tk' c₀ d f gg u hA hR=>?_
 refine CQ ok 10 4096 hA (.call (.builtin "int.__new__") ⟨[.type "int",.str x t,.int 10 tk'],[]⟩) (c8 n (fS W (AN tk tt r T [(sav,tv,.str x t)]) sl)::L) [] 0 (gd dp (un'+1)) (fun _ eA=>int_bad_c ok (Ab dp (un'+1) eA (by omega) (by omega)) hx) fun p n₁ tk₁ _=>?_
 refine gmore ok 1 0 ⟨by kernel_rfl,?_⟩
 exact gerr hR (p.1,p.2.1) trivial (.ref (p.1+8)) rfl (by kernel_rfl) (by kernel_rfl) (A4 [1,0,2] 1 (by kernel_rfl))
theorem cw_exc1 (ok:W.Ok) {sl:Array (Option Value)} {T:Str} {t tw:Nat} {w:Value} :
  PcX W (ArH (some (.ref (e+8))) dp un F) (eval (hdT (cvT W)) (A5 W.kt 51 n 8)) G (c8 n (fS W (AN tk tt r T [(sav,tv,.str x t)]) sl)::L)
  (⟨fun _=>G,fun _=>True,fun _=> .ok (.type "ValueError"),fun _=>c8 n (fS W (AN tk tt r T [(sav,tv,.str x t)]) sl)::L⟩:Bt Value Unit):=by
 refine PcX.of AL Ac _ (by rw [Ag]) fun R n' tk' c₀ d f gg u hA hR=>?_
 exact Aj ok 3 0 hR () trivial (.ret (.type "ValueError")) rfl [] 0
theorem cw_suite1 (ok:W.Ok) {sl:Array (Option Value)} {T:Str} {t tw:Nat} {w:Value} {k:Int} (hv:∀ t0,∃ a,((look (stages W) x).getD (.int 0 t0))= .int k a) :
  PcX W (ArH (some (.ref (e+8))) dp un F) (execs (hdB (cvT W)) (A5 W.kt 51 n 8)) G (c8 n (fS W (AN tk tt r T [(sav,tv,.str x t)]) sl)::L)
  (⟨fun _=>G,fun _=>True,fun _=> .ok .next,fun p=>c8 n (fS W (AN tk tt r T [(sav,tv,.str x t),(sbn,p.1,.int k p.2)]) sl)::L⟩:Bt Flow (Nat×Nat)):=by
 refine PcX.of id Ai _ (by rw [Ao]) fun R n' tk' c₀ d f gg u hA hR=>?_
 refine gmore ok 13 1073741824 ⟨by kernel_rfl,?_⟩
 obtain ⟨a,ha⟩:=hv tk'
 refine pcall hA (by kernel_rfl) (.call (.builtin "dict.get") ⟨[.ref 44,.str x t,.int 0 tk'],[]⟩) (by kernel_rfl) (by kernel_rfl) (L:=c8 n (fS W (AN tk tt r T [(sav,tv,.str x t)]) sl)::L) (A4 [] 0 (by kernel_rfl)) (stage_get ok ha) fun _ n₁ tk₁ _=>?_
 exact Aj ok 8 1 hR (tk₁,a) trivial .next rfl [] 0
theorem cw_test2 (ok:W.Ok) {T:Str} {t:Nat} {w:Value} {sl:Array (Option Value)} (hx:AV x b) :
  Pc W (Ar dp un' F) (PySem.isTrue (ifT (cvI W)) (A5 W.kt 51 n 8) (eval (ifT (cvI W)) (A5 W.kt 51 n 8))) G (c8 n (fS W (AN tk tt r T [(sav,tv,.str x t),(sbn,tw,w)]) sl)::L)
  (⟨fun _=>G,fun _=>True,fun _=>!b,fun _=>c8 n (fS W (AN tk tt r T [(sav,tv,.str x t),(sbn,tw,w)]) sl)::L⟩:A3 Bool Unit):=by
 refine Pc.of embB Bv _ (by rw [BA,Ag]) fun R n' tk' c₀ d f gg u hA hR=>?_
 refine CQ ok 4 1 hA (.call (.builtin "str.__contains__") ⟨[.str scg tk',.str x t],[]⟩) (c8 n (fS W (AN tk tt r T [(sav,tv,.str x t),(sbn,tw,w)]) sl)::L) [] 0 A6 (fun _ eA=>in_c hx) fun _ n₁ tk₁ _=>?_
 cases b
 ·exact Aj ok 0 0 hR () trivial (.ret (.bool true)) rfl [] 0
 ·exact Aj ok 0 0 hR () trivial (.ret (.bool false)) rfl [] 0
theorem cw_body2 (ok:W.Ok) {T:Str} {t:Nat} {w:Value} {sl:Array (Option Value)} (hd:dp<=800) (hu:un'<=800) (hx:Bad x) :
  PcXC W (Ar dp un' F) (execs (tryB (cvT W)) (A5 W.kt 51 n 8)) G (c8 n (fS W (AN tk tt r T [(sav,tv,.str x t),(sbn,tw,w)]) sl)::L)
  (⟨fun _=>G,fun _=>True,fun p=> .error (.ref (p.1+8)),fun p=>c8 p.1 (C0 "ValueError" (p.2+8) .none)::c8 n (fS W (AN tk tt r T [(sav,tv,.str x t),(sbn,tw,w)]) sl)::L⟩:Bt Flow (Nat×Nat)):=by
 refine PcXC.of id Ai _ (by rw [Ao]) fun R n' tk' c₀ d f gg u hA hR=>?_
 refine CQ ok 10 4096 hA (.call (.builtin "int.__new__") ⟨[.type "int",.str x t,.int 10 tk'],[]⟩) (c8 n (fS W (AN tk tt r T [(sav,tv,.str x t),(sbn,tw,w)]) sl)::L) [] 0 (gd dp (un'+1)) (fun _ eA=>int_bad_c ok (Ab dp (un'+1) eA (by omega) (by omega)) hx) fun p n₁ tk₁ _=>?_
 refine gmore ok 1 0 ⟨by kernel_rfl,?_⟩
 exact gerr hR (p.1,p.2.1) trivial (.ref (p.1+8)) rfl (by kernel_rfl) (by kernel_rfl) (A4 [1,0,2] 1 (by kernel_rfl))
theorem cw_exc2 (ok:W.Ok) {sl:Array (Option Value)} {T:Str} {t:Nat} {w:Value} :
  PcX W (ArH (some (.ref (e+8))) dp un F) (eval (hdT (cvT W)) (A5 W.kt 51 n 8)) G (c8 n (fS W (AN tk tt r T [(sav,tv,.str x t),(sbn,tw,w)]) sl)::L)
  (⟨fun _=>G,fun _=>True,fun _=> .ok (.type "ValueError"),fun _=>c8 n (fS W (AN tk tt r T [(sav,tv,.str x t),(sbn,tw,w)]) sl)::L⟩:Bt Value Unit):=by
 refine PcX.of AL Ac _ (by rw [Ag]) fun R n' tk' c₀ d f gg u hA hR=>?_
 exact Aj ok 3 0 hR () trivial (.ret (.type "ValueError")) rfl [] 0
theorem cw_suite2 (ok:W.Ok) {sl:Array (Option Value)} {T:Str} {t:Nat} {w:Value} {k:Int} (hv:∀ t0,∃ a,((look (stages W) x).getD (.int 0 t0))= .int k a) :
  PcX W (ArH (some (.ref (e+8))) dp un F) (execs (hdB (cvT W)) (A5 W.kt 51 n 8)) G (c8 n (fS W (AN tk tt r T [(sav,tv,.str x t),(sbn,tw,w)]) sl)::L)
  (⟨fun _=>G,fun _=>True,fun _=> .ok .next,fun p=>c8 n (fS W (AN tk tt r T [(sav,tv,.str x t),(sbn,p.1,.int k p.2)]) sl)::L⟩:Bt Flow (Nat×Nat)):=by
 refine PcX.of id Ai _ (by rw [Ao]) fun R n' tk' c₀ d f gg u hA hR=>?_
 refine gmore ok 13 1073741824 ⟨by kernel_rfl,?_⟩
 obtain ⟨a,ha⟩:=hv tk'
 refine pcall hA (by kernel_rfl) (.call (.builtin "dict.get") ⟨[.ref 44,.str x t,.int 0 tk'],[]⟩) (by kernel_rfl) (by kernel_rfl) (L:=c8 n (fS W (AN tk tt r T [(sav,tv,.str x t),(sbn,tw,w)]) sl)::L) (A4 [] 0 (by kernel_rfl)) (stage_get ok ha) fun _ n₁ tk₁ _=>?_
 exact Aj ok 8 1 hR (tw,a) trivial .next rfl [] 0
theorem cw_ext (ok:W.Ok) {T:Str} {t:Nat} {k:Int} {sl:Array (Option Value)} (hy:ys.size<=500) :
  Pc W (Ar dp un' F) (execs (ifB (cvI W)).tail (A5 W.kt 51 n 8)) G (c8 n (fS W (AN tk tt r T [(sav,tv,.str x t),(sbn,tw,.int k a)]) sl)::lL r ys e::L)
  (⟨fun _=>G,fun _=>True,fun _=> .next,fun e'=>c8 n (fS W (AN tk tt r T [(sav,tv,.str x t),(sbn,tw,.int k a)]) sl)::(r+8,A1 (ys++#[.int k a,.str x t]) e')::L⟩:A3 Flow Nat):=by
 refine Pc.of id Ai _ (by rw [Ao]) fun R n' tk' c₀ d f gg u hA hR=>?_
 refine CQ ok 16 69827305601 hA (.call (.builtin "list.extend") ⟨[.ref (r+8),.ref (n'+8)],[]⟩) (lL r ys e::c8 n' (Af #[.int k a,.str x t])::c8 n (fS W (AN tk tt r T [(sav,tv,.str x t),(sbn,tw,.int k a)]) sl)::L) [2,0,1] 0 A6 (fun _ eA=>BK (by simp;omega)) fun e' n₁ tk₁ _=>?_
 exact Aj ok 1 0 hR e' trivial .next rfl [1,2,0] 1
theorem cv_sep1 (ok:W.Ok) {T:Str} {t tw:Nat} {w:Value} {sl:Array (Option Value)} (hx:AV x true) :
  Pc W (Ar dp un' F) (execs (DC (cvF W)) (A5 W.kt 51 n 8)) G (c8 n (fS W (AN tk tt r T [(sav,tv,.str x t)]) sl)::L)
  (⟨fun _=>G,fun _=>True,fun _=> .next,fun _=>c8 n (fS W (AN tk tt r T [(sav,tv,.str x t)]) sl)::L⟩:A3 Flow Unit):=by
 refine Pc.of id Ai _ (by rw [Ao]) fun R n' tk' c₀ d f gg u hA hR=>?_
 refine CQ ok 5 1 hA (.call (.builtin "str.__contains__") ⟨[.str scg tk',.str x t],[]⟩) (c8 n (fS W (AN tk tt r T [(sav,tv,.str x t)]) sl)::L) [] 0 A6 (fun _ eA=>in_c hx) fun _ n₁ tk₁ _=>?_
 exact Aj ok 0 0 hR () trivial .next rfl [] 0
theorem cv_dig1 (ok:W.Ok) {T:Str} {t tw:Nat} {w:Value} {k:Int} {sl:Array (Option Value)} (hx:AV x false) (hn:Num x k) (hy:ys.size<=500) :
  Pc W (Ar dp un' F) (execs (DC (cvF W)) (A5 W.kt 51 n 8)) G (c8 n (fS W (AN tk tt r T [(sav,tv,.str x t)]) sl)::lL r ys e::L)
  (⟨fun _=>G,fun _=>True,fun _=> .next,fun p=>c8 n (fS W (AN tk tt r T [(sav,tv,.int k p.1),(sbn,p.2.1,.int 100 p.2.2.1)]) sl)::(r+8,A1 (ys++#[.int 100 p.2.2.1,.int k p.1]) p.2.2.2)::L⟩:A3 Flow (Nat×Nat×Nat×Nat)):=by
 refine Pc.of id Ai _ (by rw [Ao]) fun R n' tk' c₀ d f gg u hA hR=>?_
 refine CQ ok 5 1 hA (.call (.builtin "str.__contains__") ⟨[.str scg tk',.str x t],[]⟩) (c8 n (fS W (AN tk tt r T [(sav,tv,.str x t)]) sl)::lL r ys e::L) [] 0 A6 (fun _ eA=>in_c hx) fun _ n₁ tk₁ _=>?_
 refine CQ ok 11 4096 hA (.call (.builtin "int.__new__") ⟨[.type "int",.str x t,.int 10 tk₁],[]⟩) (c8 n (fS W (AN tk tt r T [(sav,tv,.str x t)]) sl)::lL r ys e::L) [] 0 A6 (fun _ eA=>int_ok_c ok hn) fun a n₂ tk₂ _=>?_
 refine CQ ok 37 1171507788765990913 hA (.call (.builtin "list.extend") ⟨[.ref (r+8),.ref (n₂+8)],[]⟩) (lL r ys e::c8 n₂ (Af #[.int 100 (tk₂+1),.int k a])::c8 n (fS W (AN tk tt r T [(sav,tv,.int k a),(sbn,(tk₂+2),.int 100 (tk₂+1))]) sl)::L) [2,0,1] 0 A6 (fun _ eA=>BK (by simp;omega)) fun e' n₃ tk₃ _=>?_
 exact Aj ok 1 0 hR (a,tk₂+2,tk₂+1,e') trivial .next rfl [1,2,0] 1
theorem cv_sep2 (ok:W.Ok) {T:Str} {t:Nat} {w:Value} {sl:Array (Option Value)} (hx:AV x true) :
  Pc W (Ar dp un' F) (execs (DC (cvF W)) (A5 W.kt 51 n 8)) G (c8 n (fS W (AN tk tt r T [(sav,tv,.str x t),(sbn,tw,w)]) sl)::L)
  (⟨fun _=>G,fun _=>True,fun _=> .next,fun _=>c8 n (fS W (AN tk tt r T [(sav,tv,.str x t),(sbn,tw,w)]) sl)::L⟩:A3 Flow Unit):=by
 refine Pc.of id Ai _ (by rw [Ao]) fun R n' tk' c₀ d f gg u hA hR=>?_
 refine CQ ok 5 1 hA (.call (.builtin "str.__contains__") ⟨[.str scg tk',.str x t],[]⟩) (c8 n (fS W (AN tk tt r T [(sav,tv,.str x t),(sbn,tw,w)]) sl)::L) [] 0 A6 (fun _ eA=>in_c hx) fun _ n₁ tk₁ _=>?_
 exact Aj ok 0 0 hR () trivial .next rfl [] 0
theorem cv_dig2 (ok:W.Ok) {T:Str} {t:Nat} {w:Value} {k:Int} {sl:Array (Option Value)} (hx:AV x false) (hn:Num x k) (hy:ys.size<=500) :
  Pc W (Ar dp un' F) (execs (DC (cvF W)) (A5 W.kt 51 n 8)) G (c8 n (fS W (AN tk tt r T [(sav,tv,.str x t),(sbn,tw,w)]) sl)::lL r ys e::L)
  (⟨fun _=>G,fun _=>True,fun _=> .next,fun p=>c8 n (fS W (AN tk tt r T [(sav,tv,.int k p.1),(sbn,p.2.1,.int 100 p.2.2.1)]) sl)::(r+8,A1 (ys++#[.int 100 p.2.2.1,.int k p.1]) p.2.2.2)::L⟩:A3 Flow (Nat×Nat×Nat×Nat)):=by
 refine Pc.of id Ai _ (by rw [Ao]) fun R n' tk' c₀ d f gg u hA hR=>?_
 refine CQ ok 5 1 hA (.call (.builtin "str.__contains__") ⟨[.str scg tk',.str x t],[]⟩) (c8 n (fS W (AN tk tt r T [(sav,tv,.str x t),(sbn,tw,w)]) sl)::lL r ys e::L) [] 0 A6 (fun _ eA=>in_c hx) fun _ n₁ tk₁ _=>?_
 refine CQ ok 11 4096 hA (.call (.builtin "int.__new__") ⟨[.type "int",.str x t,.int 10 tk₁],[]⟩) (c8 n (fS W (AN tk tt r T [(sav,tv,.str x t),(sbn,tw,w)]) sl)::lL r ys e::L) [] 0 A6 (fun _ eA=>int_ok_c ok hn) fun a n₂ tk₂ _=>?_
 refine CQ ok 37 1171507788765990913 hA (.call (.builtin "list.extend") ⟨[.ref (r+8),.ref (n₂+8)],[]⟩) (lL r ys e::c8 n₂ (Af #[.int 100 (tk₂+1),.int k a])::c8 n (fS W (AN tk tt r T [(sav,tv,.int k a),(sbn,(tw),.int 100 (tk₂+1))]) sl)::L) [2,0,1] 0 A6 (fun _ eA=>BK (by simp;omega)) fun e' n₃ tk₃ _=>?_
 exact Aj ok 1 0 hR (a,tw,tk₂+1,e') trivial .next rfl [1,2,0] 1
structure WR where
 sl:Array (Option Value)
 CF:List Cell
 e:Nat
 tw:Nat
 a:Nat
theorem cv_word1 (ok:W.Ok) {T:Str} {t tw:Nat} {w:Value} {k:Int} {sl:Array (Option Value)} (hd:dp<=800) (hu:un'<=800) (hx:AV x false) (hb:Bad x) (hv:∀ t0,∃ a,((look (stages W) x).getD (.int 0 t0))= .int k a) (hy:ys.size<=500)
  (hC:DO (A5 W.kt 51 n 8::F) (c8 n (fS W (AN tk tt r T [(sav,tv,.str x t)]) sl)::CF)) :
  PcC W (Ar dp un' (A5 W.kt 51 n 8::F)) (execs (DC (cvF W)) (A5 W.kt 51 n 8)) G (c8 n (fS W (AN tk tt r T [(sav,tv,.str x t)]) sl)::lL r ys e::(CF++L))
  (⟨fun _=>G,fun p=>Up CF p.CF,fun _=> .next,fun p=>c8 n (fS W (AN tk tt r T [(sav,tv,.str x t),(sbn,p.tw,.int k p.a)]) p.sl)::(r+8,A1 (ys++#[.int k p.a,.str x t]) p.e)::(p.CF++L)⟩:A3 Flow WR):=by
 intro K hK E h n₀ tk₀ hs D
 rw [cv_if,execs_cons]
 refine As.bind ?_
 rw [exec_If]
 refine As.bind (As.up (wpAny_standAt (As.bind (As.up ?_))))
 refine Pc.go (cw_test1 (tw:=tw) (w:=w) ok hx) (fun _ _ ha na ta hsa Da=>?_) hs D
 show As true _ _ (if (!false)=true then execs (ifB (cvI W)) (A5 W.kt 51 n 8) else execs (ifE (cvI W)) (A5 W.kt 51 n 8)) _ _ _
 rw [if_pos (show (!false)=true from rfl),cv_try,execs_cons]
 refine As.bind (tryC ?_)
 refine cw_body1 (tw:=tw) (w:=w) (tk:=tk) (tt:=tt) (r:=r) (T:=T) (x:=x) (tv:=tv) (t:=t) (sl:=sl) (L:=lL r ys e::(CF++L)) ok hd hu hb _ _ (fun p _ hb' nb tb hsb Db=>?_) ha na ta hsa Da
 refine Pc.go (note (C:=c8 n (fS W (AN tk tt r T [(sav,tv,.str x t)]) sl)::CF) (L:=lL r ys e::L) (f:=n+8) rfl hC) (fun q hq hc nc tc hsc Dc=>?_) hsb (AJ (L:=L) (X:=[c8 p.1 (C0 "ValueError" (p.2+8) .none),c8 n (fS W (AN tk tt r T [(sav,tv,.str x t)]) sl)]) (Y:=[lL r ys e]) (C:=CF) Db)
 obtain ⟨C',tb',pl⟩:=q
 cases C' with
 | nil=>exact hq.elim
 | cons c0 CF'=>
 obtain ⟨a0,o0⟩:=c0
 obtain ⟨u1,⟨sl',u2⟩,hup⟩:=hq
 simp only at u1 u2
 subst u1 u2
 refine wpAny_setFlight_none Dc.at1 rfl rfl Dc.at0 rfl (by simp [tbO]) ?_
 have Dd:=Dc.update (i:=0) (f:=Obj.mapFields fun vs=>vs.setIfInBounds 3 .none) rfl rfl
 refine wpAny_handleBy_builtin (X:="ValueError") (T:="ValueError") (b:=true) (by kernel_rfl) (by kernel_rfl) (by kernel_rfl) ?_
 refine cw_exc1 (e:=p.1) (tk:=tk) (tt:=tt) (r:=r) (T:=T) (x:=x) (tv:=tv) (t:=t) (tw:=tw) (w:=w) (sl:=sl') (L:=c8 tb' (tbO (n+8) .none pl)::c8 p.1 (C0 "ValueError" (p.2+8) (.ref (tb'+8)))::(CF'++(lL r ys e::L))) ok _ _ (fun _ _ he ne te hse De=>?_) _ nc tc (by rw [(Heap.SameBut.update ..).1];exact hsc) (A4 [2,0,1] 0 (by kernel_rfl) _ Dd)
 refine ⟨rfl,⟨_,De.own _ (.tail _ (.tail _ (.head _))),rfl⟩,?_⟩
 rw [if_pos rfl]
 refine wpAny_setFlight_none (De.own _ (.tail _ (.tail _ (.head _)))) rfl rfl De.at1 rfl (by simp [tbO]) ?_
 have Df:=De.update (i:=1) (f:=Obj.mapFields fun vs=>vs.setIfInBounds 3 .none) rfl rfl
 rw [cv_suite]
 refine cw_suite1 (e:=p.1) (tk:=tk) (tt:=tt) (r:=r) (T:=T) (x:=x) (tv:=tv) (t:=t) (tw:=tw) (w:=w) (sl:=sl') (k:=k) (L:=lL r ys e::(CF'++L)) ok hv _ _ (fun q2 _ hg ng tg hsg Dg=>?_) _ ne te (by rw [(Heap.SameBut.update ..).1];exact hse)
  (A4 [0,1] 2 (by kernel_rfl) _ (AJ (L:=L) (X:=[c8 tb' (tbO (n+8) .none pl),c8 p.1 (C0 "ValueError" (p.2+8) (.ref (tb'+8))),c8 n (fS W (AN tk tt r T [(sav,tv,.str x t)]) sl')]) (Y:=CF') (C:=[lL r ys e]) (A4 [1,2,0] 0 (by kernel_rfl) _ Df)))
 refine As.up (Pc.go (cw_ext (e:=e) (ys:=ys) (tk:=tk) (tt:=tt) (r:=r) (T:=T) (x:=x) (tv:=tv) (t:=t) (tw:=q2.1) (k:=k) (a:=q2.2) (sl:=sl') (L:=CF'++L) ok hy) (fun e' _ hi ni ti hsi Di=>?_) hsg Dg)
 exact As.up (wpAny_pure (hK ⟨sl',CF',e',q2.1,q2.2⟩ hup hi ni ti hsi Di))
theorem cv_word2 (ok:W.Ok) {T:Str} {t:Nat} {w:Value} {k:Int} {sl:Array (Option Value)} (hd:dp<=800) (hu:un'<=800) (hx:AV x false) (hb:Bad x) (hv:∀ t0,∃ a,((look (stages W) x).getD (.int 0 t0))= .int k a) (hy:ys.size<=500)
  (hC:DO (A5 W.kt 51 n 8::F) (c8 n (fS W (AN tk tt r T [(sav,tv,.str x t),(sbn,tw,w)]) sl)::CF)) :
  PcC W (Ar dp un' (A5 W.kt 51 n 8::F)) (execs (DC (cvF W)) (A5 W.kt 51 n 8)) G (c8 n (fS W (AN tk tt r T [(sav,tv,.str x t),(sbn,tw,w)]) sl)::lL r ys e::(CF++L))
  (⟨fun _=>G,fun p=>Up CF p.CF,fun _=> .next,fun p=>c8 n (fS W (AN tk tt r T [(sav,tv,.str x t),(sbn,p.tw,.int k p.a)]) p.sl)::(r+8,A1 (ys++#[.int k p.a,.str x t]) p.e)::(p.CF++L)⟩:A3 Flow WR):=by
 intro K hK E h n₀ tk₀ hs D
 rw [cv_if,execs_cons]
 refine As.bind ?_
 rw [exec_If]
 refine As.bind (As.up (wpAny_standAt (As.bind (As.up ?_))))
 refine Pc.go (cw_test2 (tw:=tw) (w:=w) ok hx) (fun _ _ ha na ta hsa Da=>?_) hs D
 show As true _ _ (if (!false)=true then execs (ifB (cvI W)) (A5 W.kt 51 n 8) else execs (ifE (cvI W)) (A5 W.kt 51 n 8)) _ _ _
 rw [if_pos (show (!false)=true from rfl),cv_try,execs_cons]
 refine As.bind (tryC ?_)
 refine cw_body2 (tw:=tw) (w:=w) (tk:=tk) (tt:=tt) (r:=r) (T:=T) (x:=x) (tv:=tv) (t:=t) (sl:=sl) (L:=lL r ys e::(CF++L)) ok hd hu hb _ _ (fun p _ hb' nb tb hsb Db=>?_) ha na ta hsa Da
 refine Pc.go (note (C:=c8 n (fS W (AN tk tt r T [(sav,tv,.str x t),(sbn,tw,w)]) sl)::CF) (L:=lL r ys e::L) (f:=n+8) rfl hC) (fun q hq hc nc tc hsc Dc=>?_) hsb (AJ (L:=L) (X:=[c8 p.1 (C0 "ValueError" (p.2+8) .none),c8 n (fS W (AN tk tt r T [(sav,tv,.str x t),(sbn,tw,w)]) sl)]) (Y:=[lL r ys e]) (C:=CF) Db)
 obtain ⟨C',tb',pl⟩:=q
 cases C' with
 | nil=>exact hq.elim
 | cons c0 CF'=>
 obtain ⟨a0,o0⟩:=c0
 obtain ⟨u1,⟨sl',u2⟩,hup⟩:=hq
 simp only at u1 u2
 subst u1 u2
 refine wpAny_setFlight_none Dc.at1 rfl rfl Dc.at0 rfl (by simp [tbO]) ?_
 have Dd:=Dc.update (i:=0) (f:=Obj.mapFields fun vs=>vs.setIfInBounds 3 .none) rfl rfl
 refine wpAny_handleBy_builtin (X:="ValueError") (T:="ValueError") (b:=true) (by kernel_rfl) (by kernel_rfl) (by kernel_rfl) ?_
 refine cw_exc2 (e:=p.1) (tk:=tk) (tt:=tt) (r:=r) (T:=T) (x:=x) (tv:=tv) (t:=t) (tw:=tw) (w:=w) (sl:=sl') (L:=c8 tb' (tbO (n+8) .none pl)::c8 p.1 (C0 "ValueError" (p.2+8) (.ref (tb'+8)))::(CF'++(lL r ys e::L))) ok _ _ (fun _ _ he ne te hse De=>?_) _ nc tc (by rw [(Heap.SameBut.update ..).1];exact hsc) (A4 [2,0,1] 0 (by kernel_rfl) _ Dd)
 refine ⟨rfl,⟨_,De.own _ (.tail _ (.tail _ (.head _))),rfl⟩,?_⟩
 rw [if_pos rfl]
 refine wpAny_setFlight_none (De.own _ (.tail _ (.tail _ (.head _)))) rfl rfl De.at1 rfl (by simp [tbO]) ?_
 have Df:=De.update (i:=1) (f:=Obj.mapFields fun vs=>vs.setIfInBounds 3 .none) rfl rfl
 rw [cv_suite]
 refine cw_suite2 (e:=p.1) (tk:=tk) (tt:=tt) (r:=r) (T:=T) (x:=x) (tv:=tv) (t:=t) (tw:=tw) (w:=w) (sl:=sl') (k:=k) (L:=lL r ys e::(CF'++L)) ok hv _ _ (fun q2 _ hg ng tg hsg Dg=>?_) _ ne te (by rw [(Heap.SameBut.update ..).1];exact hse)
  (A4 [0,1] 2 (by kernel_rfl) _ (AJ (L:=L) (X:=[c8 tb' (tbO (n+8) .none pl),c8 p.1 (C0 "ValueError" (p.2+8) (.ref (tb'+8))),c8 n (fS W (AN tk tt r T [(sav,tv,.str x t),(sbn,tw,w)]) sl')]) (Y:=CF') (C:=[lL r ys e]) (A4 [1,2,0] 0 (by kernel_rfl) _ Df)))
 refine As.up (Pc.go (cw_ext (e:=e) (ys:=ys) (tk:=tk) (tt:=tt) (r:=r) (T:=T) (x:=x) (tv:=tv) (t:=t) (tw:=q2.1) (k:=k) (a:=q2.2) (sl:=sl') (L:=CF'++L) ok hy) (fun e' _ hi ni ti hsi Di=>?_) hsg Dg)
 exact As.up (wpAny_pure (hK ⟨sl',CF',e',q2.1,q2.2⟩ hup hi ni ti hsi Di))
inductive It
 | sep
 | dig (k:Int)
 | word (k:Int)
noncomputable def Fit (W:Wd) (x:Str):It->Prop
 | .sep=>AV x true
 | .dig k=>AV x false/\Num x k
 | .word k=>AV x false/\Bad x/\∀ t0,∃ a,((look (stages W) x).getD (.int 0 t0))= .int k a
noncomputable abbrev KI:=Int ⊕ Str
noncomputable def Rep:Value->KI->Prop
 | .int i _,.inl j=>i=j
 | .str x _,.inr y=>x=y
 | _,_=>False
noncomputable def It.ks (x:Str):It->List KI
 | .sep=>[]
 | .dig k=>[.inl 100,.inl k]
 | .word k=>[.inl k,.inr x]
theorem cv_forE (W:Wd) (it n:Nat):cvL W it n= .forLoop (tgF (cvF W)) (.ref (it+8)) (DC (cvF W)) [] (A5 W.kt 51 n 8):=by kernel_rfl
theorem p_nextI (ok:W.Ok) {v:Value} (hx:xs[i]?=some v) :
  Pc W (Ar dp un F) (pyNext (.ref (it+8))) G (c8 it (lit (l+8) i)::lL l xs e::L)
  (⟨fun _=>G,fun _=>True,fun _=>some v,fun _=>c8 it (lit (l+8) (i+1))::lL l xs e::L⟩:A3 (Option Value) Unit):=by
 refine Pc.of Ea Ba _ (by rw [BS]) fun R n' tk' c₀ d f gg u hA hR=>?_
 refine CQ ok 1 1 hA (.call (.builtin "list_iterator.__next__") ⟨[.ref (it+8)],[]⟩) (c8 it (lit (l+8) i)::lL l xs e::L) [] 0 A6 (fun _ eA=>AM hx) fun _ n₁ tk₁ _=>?_
 exact Aj ok 0 0 hR () trivial (.ret v) rfl [] 0
theorem p_nextE (ok:W.Ok) (hd:dp<=800) (hu:un<=800) (hx:xs[i]?=none) :
  Pc W (Ar dp un F) (pyNext (.ref (it+8))) G (c8 it (lit (l+8) i)::lL l xs e::L)
  (⟨fun _=>G,fun _=>True,fun _=>none,fun _=>L⟩:A3 (Option Value) Unit):=by
 refine Pc.of Ea Ba _ (by rw [BS]) fun R n' tk' c₀ d f gg u hA hR=>?_
 refine CQ ok 1 1 hA (.call (.builtin "list_iterator.__next__") ⟨[.ref (it+8)],[]⟩) (c8 it (lit (l+8) i)::lL l xs e::L) [] 0 (BP (Ar dp un F)) (fun _ eA=>Tri.at eA (B1 hx)) fun p n₁ tk₁ _=>?_
 exact Aj ok 1 1 hR () trivial .next rfl [0,1,2,3] 4
theorem p_asg0 (ok:W.Ok) {T:Str} {tv t tw:Nat} {v w:Value} {sl:Array (Option Value)} :
  Pc W (Ar dp un F) (assign (tgF (cvF W)) (A5 W.kt 51 n 8) (.str x t)) G (c8 n (fS W (AN tk tt r T []) sl)::L)
  (⟨fun _=>G,fun _=>True,fun _=>(),fun tv=>c8 n (fS W (AN tk tt r T [(sav,tv,.str x t)]) sl)::L⟩:A3 Unit Nat):=by
 refine Pc.of Bo Ap _ (by rw [Ax]) fun R n' tk' c₀ d f gg u hA hR=>?_
 exact Aj ok 7 1 hR (tk') trivial .next rfl [] 0
theorem p_asg1 (ok:W.Ok) {T:Str} {tv t tw:Nat} {v w:Value} {sl:Array (Option Value)} :
  Pc W (Ar dp un F) (assign (tgF (cvF W)) (A5 W.kt 51 n 8) (.str x t)) G (c8 n (fS W (AN tk tt r T [(sav,tv,v)]) sl)::L)
  (⟨fun _=>G,fun _=>True,fun _=>(),fun tv=>c8 n (fS W (AN tk tt r T [(sav,tv,.str x t)]) sl)::L⟩:A3 Unit Nat):=by
 refine Pc.of Bo Ap _ (by rw [Ax]) fun R n' tk' c₀ d f gg u hA hR=>?_
 exact Aj ok 7 1 hR (tv) trivial .next rfl [] 0
theorem p_asg2 (ok:W.Ok) {T:Str} {tv t:Nat} {v w:Value} {sl:Array (Option Value)} :
  Pc W (Ar dp un F) (assign (tgF (cvF W)) (A5 W.kt 51 n 8) (.str x t)) G (c8 n (fS W (AN tk tt r T [(sav,tv,v),(sbn,tw,w)]) sl)::L)
  (⟨fun _=>G,fun _=>True,fun _=>(),fun tv=>c8 n (fS W (AN tk tt r T [(sav,tv,.str x t),(sbn,tw,w)]) sl)::L⟩:A3 Unit Nat):=by
 refine Pc.of Bo Ap _ (by rw [Ax]) fun R n' tk' c₀ d f gg u hA hR=>?_
 exact Aj ok 7 1 hR (tv) trivial .next rfl [] 0
inductive Shp:List (Str×Nat×Value)->Prop
 | s0:Shp []
 | s1 (tv v):Shp [(sav,tv,v)]
 | s2 (tv v tw w):Shp [(sav,tv,v),(sbn,tw,w)]
inductive Reps:List Value->List KI->Prop
 | nil:Reps [] []
 | cons {v k vs ks:_}:Rep v k->Reps vs ks->Reps (v::vs) (k::ks)
structure CR where
 ts:List (Str×Nat×Value)
 sl:Array (Option Value)
 zs:List Value
 e:Nat
 CF:List Cell
noncomputable def crL (W:Wd) (L:List Cell) (n r tk tt:Nat) (T:Str) (ys:Array Value) (p:CR):List Cell:=
 (c8 n (fS W (AN tk tt r T p.ts) p.sl))::(r+8,A1 (ys++p.zs.toArray) p.e)::(p.CF++L)
theorem AK.at {A':Around} {c:Code} {α:Type} {Q:Post α} (e:A=A') (x:AK W A' c G L Q):AK W A c G L Q:=e▸x
theorem for_turnC {w:World} {tg:PySem.Expr} {it:Value} {orelse:List Stmt}
  (h:wpAny (model prog w) A (pyNext it) (fun r s₁=>match r with
   | none=>codeAny (model prog w) A (.block orelse env) R s₁
   | some v=>wpAny (model prog w) A (letOwnedTupleGo tg it v) (fun _ s₂=>wpAny (model prog w) A (assign tg env v) (fun _ s₃=>As true (model prog w) A (execs body env) (fun f s₄=>match f with
    | .next | .cont=>Bb true (model prog w) A (.forLoop tg it body orelse env) R s₄
    | .brk=>R (.ok .next) s₄
    | .ret v=>R (.ok (.ret v)) s₄) (notedBy (model prog w) A env fun e s'=>R (.error e) s') s₃) (notedBy (model prog w) A env fun e s'=>R (.error e) s') s₂) (notedBy (model prog w) A env fun e s'=>R (.error e) s') s₁) (notedBy (model prog w) A env fun e s'=>R (.error e) s') s) :
  Bb true (model prog w) A (.forLoop tg it body orelse env) R s:=by
 refine Ce ?_
 show As true _ A ((forTurn tg it body orelse env).onRaise (fun x=>do noteFrame x env;theTreesLotGoes x)) _ _ s
 refine As.noted ?_
 simp only [forTurn]
 refine As.bind (As.up (wpAny_standAt (As.bind (As.up (wpAny_onRaise (wpAny_mono h (fun r s₁ h₁=>?_) fun _ _ h'=>wpAny_standAt h'))))))
 cases r with
 | none=>exact As.up (wpAny_pure (And.intro rfl fun Γ p hc hΓ _=>h₁ Γ p hc hΓ))
 | some v=>
  refine As.bind (As.up (wpAny_mono h₁ (fun _ s₁' h₁'=>?_) fun _ _ h'=>h'))
  refine As.bind (As.up (wpAny_mono h₁' (fun _ s₂ h₂=>As.bind (As.mono h₂ (fun f s₃ h₃=>?_) fun _ _ h'=>h')) fun _ _ h'=>h'))
  cases f with
  | next=>exact As.up (wpAny_pure (And.intro rfl h₃))
  | cont=>exact As.up (wpAny_pure (And.intro rfl h₃))
  | brk=>exact As.up (wpAny_pure h₃)
  | ret v=>exact As.up (wpAny_pure h₃)
theorem cv_lot (W:Wd) (it v:Value):letOwnedTupleGo (tgF (cvF W)) it v=pure ():=by kernel_rfl
theorem cv_body1 (ok:W.Ok) {T:Str} {t tw:Nat} {w:Value} {sl:Array (Option Value)} {im:It} (hd:dp<=800) (hu:un'<=800) (hf:Fit W x im) (hy:ys.size<=500)
  (hC:DO (A5 W.kt 51 n 8::F) (c8 n (fS W (AN tk tt r T [(sav,tv,.str x t)]) sl)::CF)) :
  PcC W (Ar dp un' (A5 W.kt 51 n 8::F)) (execs (DC (cvF W)) (A5 W.kt 51 n 8)) G (c8 n (fS W (AN tk tt r T [(sav,tv,.str x t)]) sl)::lL r ys e::(CF++L))
  (⟨fun _=>G,fun p=>Up CF p.CF/\Shp p.ts/\Reps p.zs (im.ks x),fun _=> .next,crL W L n r tk tt T ys⟩:A3 Flow CR):=by
 intro K hK E h n₀ tk₀ hs D
 cases im with
 | sep=>
  refine As.up (cv_sep1 (tw:=tw) (w:=w) ok hf K (fun _ _ ha na ta hsa Da=>?_) E h n₀ tk₀ hs D)
  exact hK ⟨[(sav,tv,.str x t)],sl,[],e,CF⟩ ⟨Up.rfl' CF,by constructor,.nil⟩ ha na ta hsa (by
   show Own W.h₀ 53 ha (c8 n (fS W (AN tk tt r T [(sav,tv,.str x t)]) sl)::(r+8,A1 (ys++#[]) e)::(CF++L))
   rw [Array.append_empty];exact Da)
 | dig k=>
  refine As.up (cv_dig1 (tw:=tw) (w:=w) ok hf.1 hf.2 hy K (fun p _ ha na ta hsa Da=>?_) E h n₀ tk₀ hs D)
  exact hK ⟨_,sl,[.int 100 p.2.2.1,.int k p.1],_,CF⟩ ⟨Up.rfl' CF,.s2 ..,.cons (show (100:Int)=100 from rfl) (.cons (show k=k from rfl) .nil)⟩ ha na ta hsa Da
 | word k=>
  refine cv_word1 (tw:=tw) (w:=w) ok hd hu hf.1 hf.2.1 hf.2.2 hy hC K (fun p hp ha na ta hsa Da=>?_) E h n₀ tk₀ hs D
  exact hK ⟨_,p.sl,[.int k p.a,.str x t],p.e,p.CF⟩ ⟨hp,.s2 ..,.cons (show k=k from rfl) (.cons (show x=x from rfl) .nil)⟩ ha na ta hsa Da
theorem cv_body2 (ok:W.Ok) {T:Str} {t:Nat} {w:Value} {sl:Array (Option Value)} {im:It} (hd:dp<=800) (hu:un'<=800) (hf:Fit W x im) (hy:ys.size<=500)
  (hC:DO (A5 W.kt 51 n 8::F) (c8 n (fS W (AN tk tt r T [(sav,tv,.str x t),(sbn,tw,w)]) sl)::CF)) :
  PcC W (Ar dp un' (A5 W.kt 51 n 8::F)) (execs (DC (cvF W)) (A5 W.kt 51 n 8)) G (c8 n (fS W (AN tk tt r T [(sav,tv,.str x t),(sbn,tw,w)]) sl)::lL r ys e::(CF++L))
  (⟨fun _=>G,fun p=>Up CF p.CF/\Shp p.ts/\Reps p.zs (im.ks x),fun _=> .next,crL W L n r tk tt T ys⟩:A3 Flow CR):=by
 intro K hK E h n₀ tk₀ hs D
 cases im with
 | sep=>
  refine As.up (cv_sep2 (tw:=tw) (w:=w) ok hf K (fun _ _ ha na ta hsa Da=>?_) E h n₀ tk₀ hs D)
  exact hK ⟨[(sav,tv,.str x t),(sbn,tw,w)],sl,[],e,CF⟩ ⟨Up.rfl' CF,by constructor,.nil⟩ ha na ta hsa (by
   show Own W.h₀ 53 ha (c8 n (fS W (AN tk tt r T [(sav,tv,.str x t),(sbn,tw,w)]) sl)::(r+8,A1 (ys++#[]) e)::(CF++L))
   rw [Array.append_empty];exact Da)
 | dig k=>
  refine As.up (cv_dig2 (tw:=tw) (w:=w) ok hf.1 hf.2 hy K (fun p _ ha na ta hsa Da=>?_) E h n₀ tk₀ hs D)
  exact hK ⟨_,sl,[.int 100 p.2.2.1,.int k p.1],_,CF⟩ ⟨Up.rfl' CF,.s2 ..,.cons (show (100:Int)=100 from rfl) (.cons (show k=k from rfl) .nil)⟩ ha na ta hsa Da
 | word k=>
  refine cv_word2 (tw:=tw) (w:=w) ok hd hu hf.1 hf.2.1 hf.2.2 hy hC K (fun p hp ha na ta hsa Da=>?_) E h n₀ tk₀ hs D
  exact hK ⟨_,p.sl,[.int k p.a,.str x t],p.e,p.CF⟩ ⟨hp,.s2 ..,.cons (show k=k from rfl) (.cons (show x=x from rfl) .nil)⟩ ha na ta hsa Da
theorem kind51:(A5 W.kt 51 n 8).scope.kind= .function:=by kernel_rfl
inductive Fits (W:Wd):List Str->List KI->Prop
 | nil:Fits W [] []
 | cons {x xs im ks:_}:Fit W x im->Fits W xs ks->Fits W (x::xs) (im.ks x++ks)
theorem Reps.app {a b c d} (h:Reps a b) (h':Reps c d):Reps (a++c) (b++d):=by
 induction h with
 | nil=>exact h'
 | cons q _ ih=>exact .cons q ih
theorem Reps.len {a b} (h:Reps a b):a.length=b.length:=by
 induction h with
 | nil=>rfl
 | cons _ _ ih=>simp [ih]
theorem cv_blk (ok:W.Ok):Tri W A (.block [] (A5 W.kt 51 n 8)) G L (Nx G fun _:Unit=>L):=by
 refine Tri.of fun R n' tk hR=>?_
 exact Aj ok 0 0 hR () trivial .next rfl [] 0
theorem sz_app {zs:List Value} {a:List KI} (h:zs.length=a.length) (hy:ys.size+(a.length+m)<=500):(ys++zs.toArray).size+m<=500:=by
 simp;omega
theorem cv_loop (ok:W.Ok) {T:Str} {vs:List (Str×Nat)} (hd:dp<=800) (hu:un'<=800) :
  ∀ (rest done:List (Str×Nat)) (ks:List KI) (CF:List Cell) (ts:List (Str×Nat×Value)) (sl:Array (Option Value)) (ys:Array Value) (e:Nat),vs=done++rest->Fits W (rest.map (·.1)) ks->Shp ts->ys.size+ks.length<=500->DO (A5 W.kt 51 n 8::F) (c8 n (fS W (AN tk tt r T ts) sl)::CF) ->
  AK W (Ar dp un' (A5 W.kt 51 n 8::F)) (cvL W it n) G (c8 n (fS W (AN tk tt r T ts) sl)::lL r ys e::(CF++(c8 it (lit (l+8) done.length)::lS l vs e2::L)))
  (Nx G (fun p:CR=>crL W L n r tk tt T ys p) fun p=>Up CF p.CF/\Shp p.ts/\Reps p.zs ks):=by
 intro rest
 induction rest with
 | nil=>
  intro done ks CF ts sl ys e hv hf hts hy hC R hR h n₀ tk₀ hs D
  cases hf
  rw [cv_forE]
  refine for_turnC ?_
  refine Pc.go (p_nextE (it:=it) (l:=l) (e:=e2) (i:=done.length) (xs:=sv vs) (L:=c8 n (fS W (AN tk tt r T ts) sl)::lL r ys e::(CF++L)) ok hd hu (by simp [sv,hv])) (fun _ _ h1 n1 tk1 hs1 D1=>?_) hs (A2 [[c8 n (fS W (AN tk tt r T ts) sl)],[lL r ys e],CF,[c8 it (lit (l+8) done.length)],[lS l vs e2]] [3,4,0,1,2] (tail:=L)  D)
  refine cv_blk ok R (fun _ _ h2 n2 tk2 hs2 D2=>hR ⟨ts,sl,[],e,CF⟩ ⟨Up.rfl' CF,hts,.nil⟩ h2 n2 tk2 hs2 ?_) h1 n1 tk1 hs1 D1
  show Own W.h₀ 53 h2 (c8 n (fS W (AN tk tt r T ts) sl)::(r+8,A1 (ys++#[]) e)::(CF++L))
  rw [Array.append_empty];exact D2
 | cons x rest ih=>
  intro done ks CF ts sl ys e hv hf hts hy hC R hR h n₀ tk₀ hs D
  obtain ⟨im,ks',rfl,hf,hfs⟩:∃ im ks',ks=im.ks x.1++ks'/\Fit W x.1 im/\Fits W (rest.map (·.1)) ks':=by
   cases hf with
   | cons a b=>exact ⟨_,_,rfl,a,b⟩
  rw [List.length_append] at hy
  have fin:∀ p:CR,(Up CF p.CF/\Shp p.ts/\Reps p.zs (im.ks x.1))->∀ h3 n3 tk3,h3.objs.size=n3+8->Own W.h₀ 53 h3 (crL W (c8 it (lit (l+8) (done.length+1))::lS l vs e2::L) n r tk tt T ys p) ->
    Bb true W.M (Ar dp un' (A5 W.kt 51 n 8::F)) (.forLoop (tgF (cvF W)) (.ref (it+8)) (DC (cvF W)) [] (A5 W.kt 51 n 8)) R ⟨h3,⟨G⟩,W.d,tk3,W.os⟩:=by
   intro p hp h3 n3 tk3 hs3 D3
   obtain ⟨hup,hsh,hrp⟩:=hp
   have z:=ih (done++[x]) ks' p.CF p.ts p.sl (ys++p.zs.toArray) p.e (by rw [hv,List.append_assoc];rfl) hfs hsh (sz_app hrp.len (by omega)) ⟨hC.1,hC.2.1,⟨_,_,_,_,_,rfl⟩,hC.2.2.2.up hup⟩ R (fun q hq h4 n4 tk4 hs4 D4=>by
    refine hR ⟨q.ts,q.sl,p.zs++q.zs,q.e,q.CF⟩ ⟨hup.trans hq.1,hq.2.1,hrp.app hq.2.2⟩ h4 n4 tk4 hs4 ?_
    have e1:ys++(p.zs++q.zs).toArray=ys++p.zs.toArray++q.zs.toArray:=by simp
    show Own W.h₀ 53 h4 (c8 n (fS W (AN tk tt r T q.ts) q.sl)::(r+8,A1 (ys++(p.zs++q.zs).toArray) q.e)::(q.CF++L))
    rw [e1];exact D4) h3 n3 tk3 hs3 (by rw [List.length_append];exact D3)
   rw [cv_forE] at z
   exact z
  rw [cv_forE]
  refine for_turnC ?_
  refine Pc.go (p_nextI (it:=it) (l:=l) (e:=e2) (i:=done.length) (xs:=sv vs) (v:= .str x.1 x.2) (L:=c8 n (fS W (AN tk tt r T ts) sl)::lL r ys e::(CF++L)) ok (by simp [sv,hv])) (fun _ _ h1 n1 tk1 hs1 D1=>?_) hs (A2 [[c8 n (fS W (AN tk tt r T ts) sl)],[lL r ys e],CF,[c8 it (lit (l+8) done.length)],[lS l vs e2]] [3,4,0,1,2] (tail:=L)  D)
  try dsimp only
  rw [cv_lot]
  refine wpAny_pure ?_
  cases hts with
  | s0=>
   refine Pc.go (p_asg0 (tv:=0) (tw:=0) (v:= .none) (w:= .none) (x:=x.1) (t:=x.2) (tk:=tk) (tt:=tt) (r:=r) (T:=T) (sl:=sl) (L:=lL r ys e::(CF++(c8 it (lit (l+8) (done.length+1))::lS l vs e2::L))) ok) (fun tv' _ h2 n2 tk2 hs2 D2=>?_) hs1 (A2 [[c8 it (lit (l+8) (done.length+1))],[lS l vs e2],[c8 n (fS W (AN tk tt r T []) sl)],[lL r ys e],CF] [2,3,4,0,1] (tail:=L)  D1)
   refine PcC.go (cv_body1 (tw:=0) (w:= .none) (x:=x.1) (t:=x.2) (tv:=tv') (tk:=tk) (tt:=tt) (r:=r) (T:=T) (sl:=sl) (e:=e) (ys:=ys) (CF:=CF) (L:=c8 it (lit (l+8) (done.length+1))::lS l vs e2::L) ok hd hu hf (by omega) ⟨hC.1,hC.2.1,⟨_,_,_,_,_,rfl⟩,hC.2.2.2⟩) (fun p hp h3 n3 tk3 hs3 D3=>?_) hs2 D2
   exact fin p hp h3 n3 tk3 hs3 D3
  | s1 tv v=>
   refine Pc.go (p_asg1 (tv:=tv) (tw:=0) (v:=v) (w:= .none) (x:=x.1) (t:=x.2) (tk:=tk) (tt:=tt) (r:=r) (T:=T) (sl:=sl) (L:=lL r ys e::(CF++(c8 it (lit (l+8) (done.length+1))::lS l vs e2::L))) ok) (fun tv' _ h2 n2 tk2 hs2 D2=>?_) hs1 (A2 [[c8 it (lit (l+8) (done.length+1))],[lS l vs e2],[c8 n (fS W (AN tk tt r T [(sav,tv,v)]) sl)],[lL r ys e],CF] [2,3,4,0,1] (tail:=L)  D1)
   refine PcC.go (cv_body1 (tw:=0) (w:= .none) (x:=x.1) (t:=x.2) (tv:=tv') (tk:=tk) (tt:=tt) (r:=r) (T:=T) (sl:=sl) (e:=e) (ys:=ys) (CF:=CF) (L:=c8 it (lit (l+8) (done.length+1))::lS l vs e2::L) ok hd hu hf (by omega) ⟨hC.1,hC.2.1,⟨_,_,_,_,_,rfl⟩,hC.2.2.2⟩) (fun p hp h3 n3 tk3 hs3 D3=>?_) hs2 D2
   exact fin p hp h3 n3 tk3 hs3 D3
  | s2 tv v tw w=>
   refine Pc.go (p_asg2 (tv:=tv) (tw:=tw) (v:=v) (w:=w) (x:=x.1) (t:=x.2) (tk:=tk) (tt:=tt) (r:=r) (T:=T) (sl:=sl) (L:=lL r ys e::(CF++(c8 it (lit (l+8) (done.length+1))::lS l vs e2::L))) ok) (fun tv' _ h2 n2 tk2 hs2 D2=>?_) hs1 (A2 [[c8 it (lit (l+8) (done.length+1))],[lS l vs e2],[c8 n (fS W (AN tk tt r T [(sav,tv,v),(sbn,tw,w)]) sl)],[lL r ys e],CF] [2,3,4,0,1] (tail:=L)  D1)
   refine PcC.go (cv_body2 (tw:=tw) (w:=w) (x:=x.1) (t:=x.2) (tv:=tv') (tk:=tk) (tt:=tt) (r:=r) (T:=T) (sl:=sl) (e:=e) (ys:=ys) (CF:=CF) (L:=c8 it (lit (l+8) (done.length+1))::lS l vs e2::L) ok hd hu hf (by omega) ⟨hC.1,hC.2.1,⟨_,_,_,_,_,rfl⟩,hC.2.2.2⟩) (fun p hp h3 n3 tk3 hs3 D3=>?_) hs2 D2
   exact fin p hp h3 n3 tk3 hs3 D3
theorem split_c (ok:W.Ok) {T:Str} {t:Nat} (hT:T.cps.size<=400) :
  Tri W A (.call (.builtin "re.Pattern.split") ⟨[.ref 43,.str T t],[]⟩) G L ⟨fun _=>G,fun p:Nat×List (Str×Nat)=>Pieces T.cps.toList (p.2.map fun x=>x.1.cps.toList),fun p=> .ok (.ret (.ref (p.1+8))),fun p=>lS p.1 p.2 0::L⟩:=by
 refine Tri.of fun R n tk hR=>?_
 exact Cq ok 1 0 (.builtin "re.Pattern.split" ⟨[.ref 43,.str T t],[]⟩) (L) [] 0 hR (split_b ok hT)
noncomputable def KeyOf (W:Wd) (T:Str) (ks:List KI):Prop:=∀ vs:List (Str×Nat),Pieces T.cps.toList (vs.map fun x=>x.1.cps.toList)->Fits W (vs.map (·.1)) ks
theorem cmpv (ok:W.Ok) {T:Str} {t:Nat} {ks:List KI} (hd:dp<=600) (hu:un'<=600) (hC:DO F CF) (hT:T.cps.size<=400) (hk:KeyOf W T ks) (hl:ks.length<=400) :
  AK W (Ar dp un' F) (.call (.ref 51) ⟨[.str T t],[]⟩) G (CF++L)
  ⟨fun _=>G,fun p:Nat×List Value×Nat×List Cell=>Reps p.2.1 ks/\Up CF p.2.2.2,fun p=> .ok (.ret (.ref (p.1+8))),fun p=>lL p.1 p.2.1.toArray p.2.2.1::(p.2.2.2++L)⟩:=by
 refine AK.of fun R n tk hR=>?_
 refine BC ok 7 4096 (entry W.kt 51 n 8) (dp+0) (by omega) ?_
 refine gcD ok 33 2305843011378479168 (.call (.builtin "re.Pattern.split") ⟨[.ref 43,.str T t],[]⟩) (lL (n+1) #[] 0::c8 n (fS W (AN tk t (n+1) T []) #[])::(CF++L)) [] 0 A6 (fun _ eA=>(split_c ok hT).up) fun p n₁ tk₁ hp=>?_
 refine gmcal ok 11 266305 (cvL W n₁ n) (L:=c8 n (fS W (AN tk t (n+1) T []) #[])::lL (n+1) #[] 0::(CF++(c8 n₁ (lit (p.1+8) 0)::lS p.1 p.2 0::L)))
  (fun h D=>A2 [[c8 n₁ (lit (p.1+8) 0)],[lS p.1 p.2 0],[lL (n+1) #[] 0],[c8 n (fS W (AN tk t (n+1) T []) #[])],CF] [3,2,4,0,1] (tail:=L)  (A4 [] 0 (by kernel_rfl) h D))
  (AK.at (by kernel_rfl:aOf (Ar dp un' F) _=Ar (dp+1) (un'+3) (A5 W.kt 51 n 8::F)) (cv_loop (vs:=p.2) (e2:=0) (l:=p.1) ok (by omega) (by omega) p.2 [] ks CF [] #[] #[] 0 rfl (hk _ hp) .s0 (by simp;omega) ⟨fun e=>(by rw [kind51] at e;cases e),rfl,⟨_,_,_,_,_,rfl⟩,hC⟩)) fun q n₂ tk₂ hq=>?_
 obtain ⟨ts,sl,zs,e,CF'⟩:=q
 obtain ⟨hup,hsh,hrp⟩:=hq
 replace hup:Up CF CF':=hup
 replace hrp:Reps zs ks:=hrp
 replace hsh:Shp ts:=hsh
 cases hsh with
 | s0=>
  exact gmend ok 3 1 hR (n+1,zs,e,CF') ⟨hrp,hup⟩ (.ret (.ref (n+1+8))) rfl (fun h D=>by
   have D2:Own W.h₀ 53 h ((n+1+8,A1 (#[]++zs.toArray) e)::(CF'++L)):=A4 [] 1 (by kernel_rfl) h D
   rw [Array.empty_append] at D2
   exact D2)
 | s1 tv v=>
  exact gmend ok 3 1 hR (n+1,zs,e,CF') ⟨hrp,hup⟩ (.ret (.ref (n+1+8))) rfl (fun h D=>by
   have D2:Own W.h₀ 53 h ((n+1+8,A1 (#[]++zs.toArray) e)::(CF'++L)):=A4 [] 1 (by kernel_rfl) h D
   rw [Array.empty_append] at D2
   exact D2)
 | s2 tv v tw w=>
  exact gmend ok 3 1 hR (n+1,zs,e,CF') ⟨hrp,hup⟩ (.ret (.ref (n+1+8))) rfl (fun h D=>by
   have D2:Own W.h₀ 53 h ((n+1+8,A1 (#[]++zs.toArray) e)::(CF'++L)):=A4 [] 1 (by kernel_rfl) h D
   rw [Array.empty_append] at D2
   exact D2)
end
section
open PySem PySem.W PySem.W.X PyProof.Rows
theorem pw_eq:PySem.Challenge.pw_mr0319_01=pq:=rfl
noncomputable abbrev lawN:Str:=S [108,97,119]
noncomputable def dOf (s:Stmt):DefRec:=⟨(Br s).n,(Br s).a,(Br s).b,(Br s).s,(Br s).p⟩
theorem s1:defOf (qOf pq) lawN=some (dOf (st 18),[]):=by kernel_rfl
theorem s2:pq.theDef lawN=some ((dOf (st 18)).params,(dOf (st 18)).body,(dOf (st 18)).scope):=by kernel_rfl
theorem s3:kwWritten? (dOf (st 18)).params.kwonlyargs (dOf (st 18)).params.kw_defaults=some []:=by kernel_rfl
theorem s4:(chainsOk (qOf pq)&&opensWell pq)=true:=by kernel_rfl
theorem s5:(frees PySem.Challenge.rw_mr0319_01.row.toRowW&&PySem.Challenge.rw_mr0319_01.row.within.isEmpty)=true:=by kernel_rfl
theorem s6:pq.bare:=⟨by kernel_rfl,by kernel_rfl,by kernel_rfl,by kernel_rfl,by kernel_rfl,by kernel_rfl⟩
theorem law_eq:Str.ofString "law"=lawN:=PySem.W.Fast.ofString_ofList ['l','a','w']
theorem hw0:PySem.Challenge.rw_mr0319_01.row.toRowW.promised:=by w_on;w_witness2
theorem head (call:WalkX (qOf PySem.Challenge.pw_mr0319_01) loN (XL (qOf PySem.Challenge.pw_mr0319_01) []) (obsZ as0) (valZ K0 208 611) PySem.Challenge.rw_mr0319_01.row.toRowW (dOf (st 18)) [] fun f vs=>PySem.call f vs):PySem.Challenge.rw_mr0319_01.Holds:=by
 refine said fun said=>?_
 have h1:defOf (qOf PySem.Challenge.pw_mr0319_01) (Str.ofString "law")=some (dOf (st 18),[]):=by rw [pw_eq,law_eq];exact s1
 have h2:PySem.Challenge.pw_mr0319_01.theDef (Str.ofString "law")=some ((dOf (st 18)).params,(dOf (st 18)).body,(dOf (st 18)).scope):=by rw [pw_eq,law_eq];exact s2
 have h4:(chainsOk (qOf PySem.Challenge.pw_mr0319_01)&&opensWell PySem.Challenge.pw_mr0319_01)=true:=by rw [pw_eq];exact s4
 have h6:PySem.Challenge.pw_mr0319_01.bare:=by rw [pw_eq];exact s6
 exact holds_openX (r:=PySem.Challenge.rw_mr0319_01.row) (q:=qOf PySem.Challenge.pw_mr0319_01) (loose:=loN) (Xt:=Xt0 PySem.Challenge.pw_mr0319_01) (XP:=XL (qOf PySem.Challenge.pw_mr0319_01) []) (Yf:=obsZ as0) (Ya:=valZ K0 208 611) (N:=3158) left (fun s e=>xl_of s (Bool.and_eq_true_iff.mp e).1) XL.keeps h1 h2 s3 (fun s e=>recFacts_of (Bool.and_eq_true_iff.mp e).2) rfl said (by rw [Bool.and_eq_true_iff];exact ⟨h4,s5⟩) h6 hw0 call
end
section
open PySem PySem.W PySem.W.X PySem.Calls PySem.Spec PyProof.Rows
variable {W:Wd} {L:List Cell} {G:List GenState} {n dp un i c ta:Nat} {A:Around} {F:List Env} {x:Str} {h h₀:Heap} {s:Shared} {R:Result->Shared->Prop} {o:Obj} {env:Env} {prog:Program}
theorem s_fn:Slot "filter" "__next__" "filter.__next__":=
 .of (owner:="filter") (n:="__next__") (by rw [typeLookup_type,builtinLookup_eq_fast];kernel_rfl) (by decide +kernel) (by decide +kernel) (by decide +kernel)
  (by first | exact .inl (by decide +kernel) | exact .inr (by decide +kernel)) (by rw [isSubtype_type];kernel_rfl)
theorem s_fi:Slot "filter" "__iter__" "filter.__iter__":=
 .of (owner:="filter") (n:="__iter__") (by rw [typeLookup_type,builtinLookup_eq_fast];kernel_rfl) (by decide +kernel) (by decide +kernel) (by decide +kernel)
  (by first | exact .inl (by decide +kernel) | exact .inr (by decide +kernel)) (by rw [isSubtype_type];kernel_rfl)
theorem e_fn:entryFor table "filter.__next__"=some Builtin.«filter.__next__»:=entryFor_of_tree (by kernel_rfl)
theorem a_fn (a:Value):argsOk "filter.__next__" ⟨[a],[]⟩:=by
 unfold argsOk;kernel_rfl
theorem a_fi (a:Value):argsOk "filter.__iter__" ⟨[a],[]⟩:=by
 unfold argsOk;kernel_rfl
section
variable {prog:Program} {w:World} {A:Around} {E:Value->Shared->Prop} {s:Shared}
noncomputable def fltO (it:Addr):Obj:=⟨.type "filter",none,.fields #[.builtin "len",.ref it],#[]⟩
structure FltAt (I it ax:Addr) (xs:List (Str×Nat)) (k:Nat) (h:Heap):Prop where
 o:h.get? I=some (fltO it)
 i:h.IsTupleIter it ax k
 t:h.IsTuple ax (sv xs)
theorem tl_next {it t:Addr} {items:Array Value} {x:Value} {Q:Option Value->Shared->Prop} (hit:s.heap.IsTupleIter it t i)
  (ht:s.heap.IsTuple t items) (hx:items[i]?=some x)
  (hQ:∀ h',h'.IsTupleIter it t (i+1)->Heap.SameBut it s.heap h'->Q (some x) { s with heap:=h' }) :
  wpAny (model prog w) A (callSpecial? (.ref it) "__next__") Q E s:=by
 obtain ⟨o,ho,hc,hd⟩:=id hit
 obtain ⟨ol,hol,_,nl,hdl⟩:=ht
 refine wpAny_callSpecial?_slot (name:=Str.ofString "__next__") hit.typeIs F.slot_tuple_iterator_next
  (wpAny_call_entry F.slot_tuple_iterator_next hit.typeIs F.entry_tuple_iterator_next ?_ (F.args_tuple_iterator_next_1 _))
 show wpAny _ _ (field (.ref it) 0>>=_) _ _ s
 refine wpAny_bind (wpAny_field ho hd (x:= .ref t) rfl ?_)
 show wpAny _ _ (if (Value.ref t==Value.none)=true then _ else _) _ _ s
 rw [if_neg (show ¬ ((Value.ref t==Value.none)=true) from Bool.false_ne_true)]
 show wpAny _ _ (field (.ref it) 1>>=_) _ _ s
 refine wpAny_bind (wpAny_field ho hd (x:= .int i 0) rfl ?_)
 show wpAny _ _ (seqItems? (.ref t)>>=_) _ _ s
 refine wpAny_bind (wpAny_seqItems hol hdl ?_)
 simp only [Int.toNat_natCast,hx]
 refine wpAny_bind (wpAny_setField ho hd (by simp) (wpAny_pure ⟨x,rfl,hQ _ ?_ (Heap.SameBut.update ..)⟩))
 exact ⟨_,Heap.get?_update_self _ ho (Obj.isFreed_of_fields (Obj.data_mapFields hd _)),(Obj.cls_mapFields ..).trans hc,by
  rw [Obj.data_mapFields hd];simp [rawInt]⟩
noncomputable def StopAt (h:Heap) (e:Value):Prop:=∃ a o,e= .ref a/\h.get? a=some o/\o.cls= .type "StopIteration"
theorem tl_end {it t:Addr} {items:Array Value} {Q:Option Value->Shared->Prop} (hh:A.handled=none)
  (hit:s.heap.IsTupleIter it t i) (ht:s.heap.IsTuple t items) (hx:items[i]?=none)
  (hQ:∀ h' e,StopAt h' e->Heap.ExtBut it s.heap h'->E e { s with heap:=h' }):wpAny (model prog w) A (callSpecial? (.ref it) "__next__") Q E s:=by
 obtain ⟨o,ho,hc,hd⟩:=id hit
 obtain ⟨ol,hol,_,nl,hdl⟩:=ht
 refine wpAny_callSpecial?_slot (name:=Str.ofString "__next__") hit.typeIs F.slot_tuple_iterator_next
  (wpAny_call_entry F.slot_tuple_iterator_next hit.typeIs F.entry_tuple_iterator_next ?_ (F.args_tuple_iterator_next_1 _))
 show wpAny _ _ (field (.ref it) 0>>=_) _ _ s
 refine wpAny_bind (wpAny_field ho hd (x:= .ref t) rfl ?_)
 show wpAny _ _ (if (Value.ref t==Value.none)=true then _ else _) _ _ s
 rw [if_neg (show ¬ ((Value.ref t==Value.none)=true) from Bool.false_ne_true)]
 show wpAny _ _ (field (.ref it) 1>>=_) _ _ s
 refine wpAny_bind (wpAny_field ho hd (x:= .int i 0) rfl ?_)
 show wpAny _ _ (seqItems? (.ref t)>>=_) _ _ s
 refine wpAny_bind (wpAny_seqItems hol hdl ?_)
 simp only [Int.toNat_natCast,hx]
 refine wpAny_bind (wpAny_rule (wpAny_bind (wpAny_setField ho hd (by simp) ?_)))
 show wpAny _ _ (newExc (.type "StopIteration") []>>=_) _ _ _
 refine wpAny_bind ?_
 simp only [newExc,newTuple]
 refine wpAny_bind (wpAny_newObj_type ?_ (by size_fits))
 refine wpAny_bind (m:=firstArgMember _ _) (wpAny_of_eq (a:=Value.none) (by first | rfl | (simp only [firstArgMember];rfl)) ?_)
 refine wpAny_newObj_type ?_ (by size_fits)
 simp only [raiseNew]
 refine wpAny_bind (wpAny_handled ?_)
 first | rw [show A.in1.handled=none from hh] | rw [hh]
 refine wpAny_bind (wpAny_pure (wpAny_throw ?_))
 exact hQ _ _ ⟨_,_,rfl,Heap.get?_push_size _ rfl,rfl⟩ (((Heap.SameBut.update ..).extBut.push _).push _)
noncomputable def Cl (p:Str×Nat):Bool:=p.1.length != 0
theorem e_fi:entryFor table "filter.__iter__"=some Builtin.«dict_keyiterator.__iter__»:=
 entryFor_alias (id':="dict_keyiterator.__iter__") (by kernel_rfl) (by first | rfl | decide +kernel | (unfold String.splitOn;simp +decide [String.splitOnAux])) (by decide +kernel) (by kernel_rfl)
theorem DT {t:Tok} {Q:Value->Shared->Prop} (hx:x.length<=1000) (h:∀ tk,s.toks<=tk->∀ t',Q (.int x.length t') { s with toks:=tk }):wpAny (model prog w) A (call (.builtin "len") [.str x t]) Q E s:=
 P.len_str (by omega) (h _ (by omega) _)
theorem flt_item {I it ax:Addr} {xs:List (Str×Nat)} (hIt:I≠it) (hax:ax≠it) (hsz:∀ p∈xs,p.1.length<=1000):∀ (skip:List (Str×Nat)) (k:Nat) (y:Str×Nat) (tl:List (Str×Nat)) (s:Shared),xs.drop k=skip++y::tl->(∀ p∈skip,Cl p=false)->Cl y=true->FltAt I it ax xs k s.heap ->
  (∀ h' tk,FltAt I it ax xs (k+skip.length+1) h'->Heap.SameBut it s.heap h'->s.toks<=tk->R (.ok (.ret (.str y.1 y.2))) { s with heap:=h',toks:=tk }) ->
  wpAny (model prog w) A.in1 (Builtin.«filter.__next__» ⟨[.ref I],[]⟩) (fun fin s'=>match fin with | .done f=>R (.ok f) s' | .again c'=>c'.quiet=true/\codeAny (model prog w) A c' R s') (fun e s'=>R (.error e) s') s:=by
 intro skip
 induction skip with
 | nil=>
  intro k y tl s hd hs hy hF hR
  have hk:xs[k]?=some y:=by
   have:=congrArg (·[0]?) hd
   simpa using this
  have hm:y∈xs:=List.mem_of_getElem? hk
  show wpAny _ _ (field (.ref I) 0>>=_) _ _ s
  refine wpAny_bind (wpAny_field hF.o rfl (x:= .builtin "len") rfl ?_)
  show wpAny _ _ (field (.ref I) 1>>=_) _ _ s
  refine wpAny_bind (wpAny_field hF.o rfl (x:= .ref it) rfl ?_)
  refine wpAny_bind (tl_next hF.i hF.t (x:= .str y.1 y.2) (by simp [sv,hk]) fun h' hi' hs'=>?_)
  dsimp only
  refine wpAny_bind (wpAny_holding ?_)
  show wpAny _ _ (call (.builtin "len") [.str y.1 y.2]>>=fun good=>holding [good] (truthy good)) _ _ _
  refine wpAny_bind (DT (hsz y hm) fun tk htk t'=>wpAny_holding (P.truthy_int ?_))
  have e:((y.1.length:Int) != 0)=true:=by simpa [Cl] using hy
  rw [e]
  exact wpAny_pure (hR h' tk ⟨(hs'.2 I hIt).trans hF.o,by simpa using hi',hF.t.extBut hs'.extBut hax⟩ hs' htk)
 | cons z skip ih=>
  intro k y tl s hd hs hy hF hR
  have hk:xs[k]?=some z:=by
   have:=congrArg (·[0]?) hd
   simpa using this
  have hm:z∈xs:=List.mem_of_getElem? hk
  show wpAny _ _ (field (.ref I) 0>>=_) _ _ s
  refine wpAny_bind (wpAny_field hF.o rfl (x:= .builtin "len") rfl ?_)
  show wpAny _ _ (field (.ref I) 1>>=_) _ _ s
  refine wpAny_bind (wpAny_field hF.o rfl (x:= .ref it) rfl ?_)
  refine wpAny_bind (tl_next hF.i hF.t (x:= .str z.1 z.2) (by simp [sv,hk]) fun h' hi' hs'=>?_)
  dsimp only
  refine wpAny_bind (wpAny_holding ?_)
  show wpAny _ _ (call (.builtin "len") [.str z.1 z.2]>>=fun good=>holding [good] (truthy good)) _ _ _
  refine wpAny_bind (DT (hsz z hm) fun tk htk t'=>wpAny_holding (P.truthy_int ?_))
  have e:((z.1.length:Int) != 0)=false:=by
   have:=hs z (List.mem_cons_self ..)
   simpa [Cl] using this
  rw [e]
  refine wpAny_pure ⟨by kernel_rfl,codeAny_builtin e_fn ?_⟩
  rw [Around.under_plainId (by decide +kernel)]
  refine ih (k+1) y tl _ (by rw [← List.drop_drop,hd];rfl) (fun p hp=>hs p (List.mem_cons_of_mem _ hp)) hy ⟨(hs'.2 I hIt).trans hF.o,by simpa using hi',hF.t.extBut hs'.extBut hax⟩ fun h'' tk'' hF'' hs'' htk''=>?_
  have e2:k+1+skip.length+1=k+(z::skip).length+1:=by simp;omega
  rw [e2] at hF''
  exact hR h'' tk'' hF'' (hs'.trans hs'') (Nat.le_trans htk htk'')
theorem flt_end {I it ax:Addr} {xs:List (Str×Nat)} (hh:A.handled=none) (hIt:I≠it) (hax:ax≠it) (hsz:∀ p∈xs,p.1.length<=1000):∀ (skip:List (Str×Nat)) (k:Nat) (s:Shared),xs.drop k=skip->(∀ p∈skip,Cl p=false)->FltAt I it ax xs k s.heap ->
  (∀ h' tk e,StopAt h' e->Heap.ExtBut it s.heap h'->s.toks<=tk->R (.error e) { s with heap:=h',toks:=tk }) ->
  wpAny (model prog w) A.in1 (Builtin.«filter.__next__» ⟨[.ref I],[]⟩) (fun fin s'=>match fin with | .done f=>R (.ok f) s' | .again c'=>c'.quiet=true/\codeAny (model prog w) A c' R s') (fun e s'=>R (.error e) s') s:=by
 intro skip
 induction skip with
 | nil=>
  intro k s hd hs hF hR
  have hk:xs[k]?=none:=by
   rw [List.getElem?_eq_none_iff];exact List.drop_eq_nil_iff.mp hd
  show wpAny _ _ (field (.ref I) 0>>=_) _ _ s
  refine wpAny_bind (wpAny_field hF.o rfl (x:= .builtin "len") rfl ?_)
  show wpAny _ _ (field (.ref I) 1>>=_) _ _ s
  refine wpAny_bind (wpAny_field hF.o rfl (x:= .ref it) rfl ?_)
  exact wpAny_bind (tl_end hh hF.i hF.t (by simp [sv,hk]) fun h' e he hx=>hR h' s.toks e he hx (Nat.le_refl _))
 | cons z skip ih=>
  intro k s hd hs hF hR
  have hk:xs[k]?=some z:=by
   have:=congrArg (·[0]?) hd
   simpa using this
  have hm:z∈xs:=List.mem_of_getElem? hk
  show wpAny _ _ (field (.ref I) 0>>=_) _ _ s
  refine wpAny_bind (wpAny_field hF.o rfl (x:= .builtin "len") rfl ?_)
  show wpAny _ _ (field (.ref I) 1>>=_) _ _ s
  refine wpAny_bind (wpAny_field hF.o rfl (x:= .ref it) rfl ?_)
  refine wpAny_bind (tl_next hF.i hF.t (x:= .str z.1 z.2) (by simp [sv,hk]) fun h' hi' hs'=>?_)
  dsimp only
  refine wpAny_bind (wpAny_holding ?_)
  show wpAny _ _ (call (.builtin "len") [.str z.1 z.2]>>=fun good=>holding [good] (truthy good)) _ _ _
  refine wpAny_bind (DT (hsz z hm) fun tk htk t'=>wpAny_holding (P.truthy_int ?_))
  have e:((z.1.length:Int) != 0)=false:=by
   have:=hs z (List.mem_cons_self ..)
   simpa [Cl] using this
  rw [e]
  refine wpAny_pure ⟨by kernel_rfl,codeAny_builtin e_fn ?_⟩
  rw [Around.under_plainId (by decide +kernel)]
  refine ih (k+1) _ (by rw [← List.drop_drop,hd];rfl) (fun p hp=>hs p (List.mem_cons_of_mem _ hp)) ⟨(hs'.2 I hIt).trans hF.o,by simpa using hi',hF.t.extBut hs'.extBut hax⟩ fun h'' tk'' e'' he'' hs'' htk''=>?_
  exact hR h'' tk'' e'' he'' (fun b o hb e=>hs'' b o hb (hs'.extBut b o hb e)) (Nat.le_trans htk htk'')
end
theorem first_ne (p:α->Bool):∀ l:List α,(∀ x∈l,p x=false)∨∃ a y b,l=a++y::b/\(∀ x∈a,p x=false)/\p y=true
 | []=> .inl (by simp)
 | x::l=>by
  cases h:p x with
  | true=>exact .inr ⟨[],x,l,rfl,by simp,h⟩
  | false=>
   rcases first_ne p l with q | ⟨a,y,b,rfl,q1,q2⟩
   ·exact .inl fun z hz=>by rcases List.mem_cons.mp hz with rfl | hz;exact h;exact q z hz
   ·exact .inr ⟨x::a,y,b,rfl,fun z hz=>by rcases List.mem_cons.mp hz with rfl | hz;exact h;exact q1 z hz,q2⟩
section
variable {prog:Program} {w:World} {A:Around}
theorem call_fn {I it:Addr} {Q:Value->Shared->Prop} {E:Value->Shared->Prop} (hT:s.TypeIs (.ref I) "filter")
  (h:wpAny (model prog w) A.in1 (Builtin.«filter.__next__» ⟨[.ref I],[]⟩) (fun fin s'=>match fin with | .done f=>wants Q E (.ok f) s' | .again c'=>c'.quiet=true/\codeAny (model prog w) A c' (wants Q E) s') (fun e s'=>wants Q E (.error e) s') s) :
  wpAny (model prog w) A (call (.builtin "filter.__next__") [.ref I]) Q E s:=
 wpAny_call (codeAny_call_builtin s_fn.plain e_fn (s_fn.check _ _ _ _ _ _ _ _ hT (a_fn _) h))
theorem walks_flt (hh:A.handled=none) {I it ax:Addr} {xs:List (Str×Nat)} (hIt:I≠it) (hax:ax≠it) (hsz:∀ p∈xs,p.1.length<=1000) :
  Walks prog w A I [I,it,ax] [it] (xs.filter Cl).length (fun i v=>∃ p,(xs.filter Cl)[i]?=some p/\v= .str p.1 p.2)
   (fun i h=>∃ k,((xs.take k).filter Cl).length=i/\FltAt I it ax xs k h) where
 sub:=fun b hb=>by simp at hb;simp [hb]
 frame:=fun i h h' st hk=>by
  obtain ⟨k,e,F⟩:=st
  exact ⟨k,e,hk I (by simp) _ F.o,F.i.at fun o e=>hk it (by simp) o e,F.t.at fun o e=>hk ax (by simp) o e⟩
 item:=fun i s Q E hi st hQ=>by
  obtain ⟨k,e,F⟩:=st
  have hT:s.TypeIs (.ref I) "filter":=⟨_,F.o,rfl⟩
  unfold pyNext
  refine wpAny_bind (wpAny_attempt (wpAny_callSpecial?_slot (name:=Str.ofString "__next__") hT s_fn
   (call_fn (it:=it) hT ?_)))
  have hx:xs.filter Cl=(xs.take k).filter Cl++(xs.drop k).filter Cl:=by rw [← List.filter_append,List.take_append_drop]
  rcases first_ne Cl (xs.drop k) with q | ⟨a,y,b,hd,q1,q2⟩
  ·exfalso
   have:(xs.drop k).filter Cl=[]:=List.filter_eq_nil_iff.mpr fun x hx=>by rw [q x hx];simp
   rw [hx,this,List.append_nil] at hi
   omega
  ·refine flt_item hIt hax hsz a k y b s hd q1 q2 F fun h' tk F' hs' htk=>?_
   have ha:a.filter Cl=[]:=List.filter_eq_nil_iff.mpr fun x hx=>by rw [q1 x hx];simp
   refine wpAny_pure ?_
   refine hQ _ h' tk ⟨y,?_,rfl⟩ ⟨k+a.length+1,?_,F'⟩ fun b o hb e=>hs'.extBut b o (fun h=>hb (by simp [h])) e
   ·rw [hx,hd,List.filter_append,ha,List.nil_append,List.filter_cons_of_pos q2,← e,List.getElem?_append_right (Nat.le_refl _),Nat.sub_self];rfl
   ·have:xs.take (k+a.length+1)=xs.take k++(a++[y]):=by
     rw [Nat.add_assoc,List.take_add,hd]
     congr 1
     rw [List.take_append,List.take_of_length_le (by omega)]
     simp
    rw [this,List.filter_append,List.filter_append,ha,List.length_append,e]
    simp [q2]
 done:=fun s Q E st hQ=>by
  obtain ⟨k,e,F⟩:=st
  have hT:s.TypeIs (.ref I) "filter":=⟨_,F.o,rfl⟩
  unfold pyNext
  refine wpAny_bind (wpAny_attempt (wpAny_callSpecial?_slot (name:=Str.ofString "__next__") hT s_fn
   (call_fn (it:=it) hT ?_)))
  have hx:xs.filter Cl=(xs.take k).filter Cl++(xs.drop k).filter Cl:=by rw [← List.filter_append,List.take_append_drop]
  have hnil:(xs.drop k).filter Cl=[]:=by
   rw [hx,List.length_append] at e
   exact List.length_eq_zero_iff.mp (by omega)
  refine flt_end hh hIt hax hsz (xs.drop k) k s rfl (fun p hp=>by simpa using List.filter_eq_nil_iff.mp hnil p hp) F fun h' tk e' he hx' htk=>?_
  obtain ⟨a',o',rfl,ho',hc'⟩:=he
  refine wpAny_bind (wpAny_isInstance (T:="StopIteration") (b:=true) ⟨_,ho',hc'⟩ isSubtype_stop ?_)
  exact wpAny_pure (hQ h' tk fun b o hb e=>hx' b o (fun h=>hb (by simp [h])) e)
 self:=fun i s Q E st hQ=>by
  obtain ⟨k,e,F⟩:=st
  have hT:s.TypeIs (.ref I) "filter":=⟨_,F.o,rfl⟩
  refine wpAny_pyIter_slot hT s_fi (wpAny_call_entry s_fi hT e_fi ?_ (a_fi _))
  show wpAny _ _ (ret (.ref I)) _ _ s
  exact wpAny_pure ⟨_,rfl,"filter",_,hT,s_fn.lookup,hQ⟩
end
noncomputable def pfS (W:Wd) (i:Nat):Stmt:=AE (Ak W.kt 58) i
noncomputable def geF (e:PySem.Expr):PySem.Expr:=hdE (Bp e).l
noncomputable def geE (e:PySem.Expr):PySem.Expr:=(Bp e).e
noncomputable def geS (e:PySem.Expr):Scope:=(Bp e).s
noncomputable def geP (e:PySem.Expr):Pos:=(Bp e).p
noncomputable def geI (e:PySem.Expr):PySem.Expr:=(hdG (Bp e).g).iter
noncomputable def nmP (e:PySem.Expr):Pos:=(Bp (hdG (Bp e).g).target).p
noncomputable def caP (e:PySem.Expr):Pos:=(Bp e).p
noncomputable def atP (e:PySem.Expr):Pos:=(Bp (Bp e).e).p
noncomputable def atO (e:PySem.Expr):PySem.Expr:=(Bp (Bp e).e).e
noncomputable def coP (e:PySem.Expr):Pos:=(Bp e).p
noncomputable def naP (e:PySem.Expr):Pos:=(Bp e).p
noncomputable def coK (e:PySem.Expr):Nat:=(Bp e).k
noncomputable def jE (W:Wd):PySem.Expr:=Bh (pfS W 0)
noncomputable def Cr (W:Wd):PySem.Expr:=geF (jE W)
noncomputable abbrev xN:Str:=S [120]
theorem jE_eq (W:Wd):jE W= .Call (.Attribute (.Constant (.str sbo) (coK (atO (jE W))) (coP (atO (jE W)))) (S [106,111,105,110]) (atP (jE W))) [Cr W] [] (caP (jE W)):=by kernel_rfl
theorem gE_eq (W:Wd):Cr W= .GeneratorExp (geE (Cr W)) [⟨.Name xN (nmP (Cr W)),geI (Cr W),[],0⟩] (geS (Cr W)) (geP (Cr W)):=by kernel_rfl
theorem el_eq (W:Wd):geE (Cr W)= .Call (.Attribute (.Name xN (naP (atO (geE (Cr W))))) (S [115,116,114,105,112]) (atP (geE (Cr W)))) [] [] (caP (geE (Cr W))):=by kernel_rfl
noncomputable def Cx (W:Wd) (n:Nat):Env:=A5 W.kt 58 n 9
theorem p_iter (ok:W.Ok) {xs:List (Str×Nat)} :
  Pc W (Ar dp un F) (eval (geI (Cr W)) (Cx W n)) G ((n+9,fr W [(saq,ta,.ref (n+8))])::c8 n (Af (sv xs))::L)
  (⟨fun _=>G,fun _=>True,fun p=> .ref (p+1+8),fun p=>c8 (p+1) (fltO (p+8))::c8 p (tit (n+8) 0)::(n+9,fr W [(saq,ta,.ref (n+8))])::c8 n (Af (sv xs))::L⟩:A3 Value Nat):=by
 refine Pc.of AL Ac _ (by rw [Ag]) fun R n' tk' c₀ d f gg u hA hR=>?_
 exact Aj ok 33 4797324685478272696320 hR n' trivial (.ret (.ref (n'+1+8))) rfl [] 0
theorem q_gcode:@genexprCode=PySem.W.ZFast.zw9492743126541576920:=PySem.W.ZFast.ze9492743126541576920
theorem q_bfor:@builtinsFor=PySem.W.ZFast.zw6600643334278800223:=PySem.W.ZFast.ze6600643334278800223
noncomputable def tb1 (W:Wd) (c:Nat):Obj:=⟨.none,none,.fields #[rawInt (geP (Cr W)).line,rawInt (geP (Cr W)).col,.ref (c+8)],#[]⟩
theorem p_gcode0 (ok:W.Ok) :
  Pc W (Ar dp un F) (genexprCode (Cx W n) (geP (Cr W)) ((Cx W n).qual++"<genexpr>") (geS (Cr W))) G ((53,o53 W.w₀.params)::L)
  (⟨fun _=>G,fun _=>True,fun p=> .ref (p+8),fun p=>(53,tb1 W p)::L⟩:A3 Value Nat):=by
 refine Pc.of AL Ac _ (by rw [q_gcode]) fun R n' tk' c₀ d f gg u hA hR=>?_
 exact Aj ok 13 67911744 hR (n'+2) trivial (.ret (.ref (n'+2+8))) rfl [0,1,2] 3
theorem p_gcode1 (ok:W.Ok) :
  Pc W (Ar dp un F) (genexprCode (Cx W n) (geP (Cr W)) ((Cx W n).qual++"<genexpr>") (geS (Cr W))) G ((53,tb1 W c)::L)
  (⟨fun _=>G,fun _=>True,fun p=> .ref (p+8),fun p=>(53,tb1 W p)::L⟩:A3 Value Nat):=by
 refine Pc.of AL Ac _ (by rw [q_gcode]) fun R n' tk' c₀ d f gg u hA hR=>?_
 exact Aj ok 2 64 hR c trivial (.ret (.ref (c+8))) rfl [] 0
noncomputable def Tb (W:Wd) (o:Obj):Prop:=o=o53 W.w₀.params∨∃ c,o=tb1 W c
theorem p_gcode (ok:W.Ok) (ho:Tb W o) :
  Pc W (Ar dp un F) (genexprCode (Cx W n) (geP (Cr W)) ((Cx W n).qual++"<genexpr>") (geS (Cr W))) G ((53,o)::L)
  (⟨fun _=>G,fun _=>True,fun p=> .ref (p+8),fun p=>(53,tb1 W p)::L⟩:A3 Value Nat):=by
 rcases ho with rfl | ⟨c,rfl⟩
 ·exact p_gcode0 ok
 ·exact p_gcode1 ok
theorem p_bfor (ok:W.Ok) :
  Pc W (Ar dp un F) (do let a ← builtinsFor (Cx W n).globals (Cx W n).builtins;pure (Value.ref a)) G L
  (⟨fun _=>G,fun _=>True,fun p=> .ref 0,fun p=>L⟩:A3 Value Unit):=by
 refine Pc.of AL Ac (PySem.W.R.bindR (PySem.W.ZFast.zw6600643334278800223 (Cx W n).globals (Cx W n).builtins) fun a=> .pure (Value.ref a)) (by rw [q_bfor,PySem.W.R.bindR_eq.symm];rfl) fun R n' tk' c₀ d f gg u hA hR=>?_
 exact Aj ok 2 0 hR () trivial (.ret (.ref 0)) rfl [] 0
theorem any_ref {M:Model} {m:Sem Addr} {Q:Addr->Shared->Prop} {E:Value->Shared->Prop} {s:Shared} (h:wpAny M A (do let a ← m;pure (Value.ref a)) (fun v s=>∀ a,v= .ref a->Q a s) E s):wpAny M A m Q E s:=by
 intro Γ p hΓ
 have y:=h Γ p hΓ
 replace y:Sem.wp M Γ (m>>=fun a=>Sem.pure (Value.ref a)) _ _ p _:=y
 rw [Sem.wp_bind'] at y
 exact Sem.wp_mono _ _ _ (fun a p' s' h'=>h' a rfl) (fun e p' s' h'=>h') _ _ y
theorem Own.moved {h':Heap} {wr:List Addr} (D:Own h₀ 53 h L) (hk:∀ b o,b∉wr->h.get? b=some o->h'.get? b=some o) (hw:∀ b∈wr,h₀.get? b=none) (hL:∀ p∈L,p.1∉wr) (hs:h₀.objs.size<=h'.objs.size):Own h₀ 53 h' L:=
 ⟨fun b o e q=>hk b o (fun hm=>by rw [hw b hm] at e;cases e) (D.keep b o e q),fun p hp=>hk _ _ (hL p hp) (D.own p hp),D.nd,D.new,hs⟩
theorem Own.noLimit (ok:W.Ok) (D:Own W.h₀ 53 h L):h.NoLimit:=by
 obtain ⟨mc,⟨o,es,ep,e,r⟩,q⟩:=ok.2
 exact ⟨mc,⟨o,es,ep,D.keep _ _ e (show cStatics≠53 by decide),r⟩,q⟩
theorem geN (W:Wd):(geS (Cr W)).names=[((".0":Str),.local),(xN,.local)]:=by kernel_rfl
theorem ge_co (W:Wd):(geS (Cr W)).isCoroutine=false:=by kernel_rfl
theorem ge_kind (W:Wd):(geS (Cr W)).kind= .function:=by kernel_rfl
theorem ge_clos (W:Wd) (n:Nat):closureFor (geS (Cr W)) (Cx W n)=pure []:=by kernel_rfl
theorem ge_fold (W:Wd) (n:Nat) (x:Value):genFold (geI (Cr W)) (Cx W n) x=pure x:=by kernel_rfl
theorem keeps_rfl (s:Shared):Keeps s s:=⟨s.heap,s.toks,rfl,fun _ _ e=>e⟩
theorem elt_quiet {w:World} {xs:List (Str×Nat)} {fp wr:List Addr} {href:Heap} (hk:env.scope.kind= .function) (hx:env.kindOf xN=some .local) (hs:∀ p∈xs,p.1.length<=1000) :
  QuietGen prog w env xN [] (geE (Cr W)) fp wr (fun i v=>∃ p,xs[i]?=some p/\v= .str p.1 p.2) (fun _=>true) (fun i v=>∃ p u,xs[i]?=some p/\v= .str (Txt.strip p.1) u) href where
 tests:=fun A' E' i v s₂ m₂ hA hP hn hm hf=>wpAny_pure ⟨rfl,keeps_rfl _⟩
 elt:=fun A' E' i v s₂ m₂ hA hP hz hn hm hf=>by
  obtain ⟨p,hp,rfl⟩:=hP
  rw [el_eq]
  refine Call_method0 rfl (by kernel_rfl) ?_
  rw [arm_eval_Name]
  refine wpAny_bind (wpAny_standAt ?_)
  rw [if_neg (by decide)]
  refine wpAny_loadName_local hk hx hn hm ?_
  refine ⟨"str","str.strip",F.plainAttrs_str,F.slot_str_strip,F.type_str_strip,typeIs_str _ _ _,(fun _ e=>nomatch e),?_⟩
  refine Calls.callWith_builtin rfl (PySem.evalArgs_none ?_)
  refine SC.strip (fun t' k=>⟨⟨p,t',hp,rfl⟩,s₂.heap,k,rfl,fun _ _ e=>e⟩) ?_
  have:=hs p (List.mem_of_getElem? hp)
  rw [sizeLine_eq];omega
noncomputable def joinF (xs:List (Str×Nat)):Str:=Txt.join sbo ((xs.filter Cl).map fun p=>Txt.strip p.1)
theorem pf_gen (ok:W.Ok) {xs:List (Str×Nat)} (ho:Tb W o) (hd:dp<=800) (hsz:∀ p∈xs,p.1.length<=1000) (hn:xs.length<=900)
  (hj:∀ ys:List Str,ys=(xs.filter Cl).map (fun p=>Txt.strip p.1)->JoinOk sbo ys=true) (K:Value->Shared->Prop) (E:Value->Shared->Prop) (st:Nat)
  (hK:∀ t (G':List GenState) c,((∀ y∈G,y.bare=true)->∀ y∈G',y.bare=true)->∀ h n' tk',h.objs.size=n'+8->Own W.h₀ 53 h ((53,tb1 W c)::(n+9,fr W [(saq,ta,.ref (n+8))])::(n+8,Af (sv xs))::L)->K (.str (joinF xs) t) ⟨h,⟨G'⟩,W.d,tk',W.os⟩)
  (h:Heap) (n' tk:Nat) (hs:h.objs.size=n'+8) (D:Own W.h₀ 53 h ((53,o)::(n+9,fr W [(saq,ta,.ref (n+8))])::(n+8,Af (sv xs))::L)) :
  wpAny W.M (Ar dp un F) (eval (Cr W) (Cx W n)) (fun v s=>wpAny W.M (Ar dp un F) (call (.builtin "str.join") [.str sbo st,v]) K E s) E ⟨h,⟨G⟩,W.d,tk,W.os⟩:=by
 rw [gE_eq]
 refine wpAny_GeneratorExp_walksQ (x:=xN) (cl:=[]) rfl (ge_co W) (ge_clos W n) ?_ ?_ ?_ (ge_kind W) (show dp<1000 by omega) ?_ (ge_fold W n)
 ·rw [geN];decide
 ·rw [geN];kernel_rfl
 ·rw [geN];kernel_rfl
 refine Pc.go (p_iter (L:=(53,o)::L) ok) (fun p _ h1 n1 tk1 hs1 D1=>?_) hs (A2 [[(53,o)],[(n+9,fr W [(saq,ta,.ref (n+8))])],[(n+8,Af (sv xs))]] [1,2,0] (tail:=L)  D)
 have hne:p+1+8≠p+8:=by omega
 have nd1:=D1.nd
 simp only [List.map_cons,List.nodup_cons,List.mem_cons,not_or] at nd1
 have hax:n+8≠p+8:=fun e=>nd1.2.1.2.1 e.symm
 have hF:FltAt (p+1+8) (p+8) (n+8) xs 0 h1:=⟨D1.at0,⟨_,D1.at1,rfl,rfl⟩,⟨_,D1.own _ (.tail _ (.tail _ (.tail _ (.head _)))),rfl,_,rfl⟩⟩
 refine (walks_flt rfl hne hax hsz).self 0 _ _ _ ⟨0,rfl,hF⟩ ⟨D1.noLimit ok,?_⟩
 refine Pc.go (p_gcode (L:=(p+1+8,fltO (p+8))::(p+8,tit (n+8) 0)::(n+9,fr W [(saq,ta,.ref (n+8))])::(n+8,Af (sv xs))::L) ok ho) (fun c _ h2 n2 tk2 hs2 D2=>?_) hs1 (A2 [[(p+1+8,fltO (p+8))],[(p+8,tit (n+8) 0)],[(n+9,fr W [(saq,ta,.ref (n+8))])],[(n+8,Af (sv xs))],[(53,o)]] [4,0,1,2,3] (tail:=L)  D1)
 refine any_ref (Pc.go (p_bfor (L:=(53,tb1 W c)::(p+1+8,fltO (p+8))::(p+8,tit (n+8) 0)::(n+9,fr W [(saq,ta,.ref (n+8))])::(n+8,Af (sv xs))::L) ok) (fun _ _ h3 n3 tk3 hs3 D3=>?_) hs2 D2)
 intro bi hb
 obtain rfl:0=bi:=Value.ref.inj hb
 have hF3:FltAt (p+1+8) (p+8) (n+8) xs 0 h3:=⟨D3.own _ (.tail _ (.head _)),⟨_,D3.own _ (.tail _ (.tail _ (.head _))),rfl,rfl⟩,⟨_,D3.own _ (.tail _ (.tail _ (.tail _ (.tail _ (.head _))))),rfl,_,rfl⟩⟩
 have hpz:passing (fun _=>true) (xs.filter Cl).length 0=List.range (xs.filter Cl).length:=by unfold passing;simp
 refine ⟨p+1+8,[p+1+8,p+8,n+8],[p+8],(xs.filter Cl).length,_,_,fun _=>true,fun i v=>∃ q u,(xs.filter Cl)[i]?=some q/\v= .str (Txt.strip q.1) u,rfl,fun A' hA=>walks_flt hA hne hax hsz,⟨0,rfl,hF3⟩,?_,D3.noLimit ok,?_,?_,?_⟩
 ·intro b hb
  show b<h3.objs.size
  simp only [List.mem_cons,List.not_mem_nil,or_false] at hb
  rcases hb with rfl | rfl | rfl
  ·exact Heap.lt_size hF3.o
  ·exact Heap.lt_size (D3.own _ (.tail _ (.tail _ (.head _))))
  ·exact Heap.lt_size (D3.own _ (.tail _ (.tail _ (.tail _ (.tail _ (.head _))))))
 ·simp only [List.mem_cons,List.not_mem_nil,or_false]
  show (2:Nat)≠p+8
  omega
 ·intro href hh
  exact elt_quiet (W:=W) (by simp [genEnv,ge_kind]) (by simp only [Env.kindOf,genEnv];rw [geN];kernel_rfl) fun q hq=>hsz q (List.mem_filter.mp hq).1
 intro a h₅ tk₅ gs hgb hlt hs5 keep5 WW hat
 have hlt:h3.objs.size<a:=hlt
 have hgen:∃ og,h₅.get? a=some og:=hat.1.elim fun og h=>⟨og,h.elim fun _ h=>h.elim fun _ h=>h.1⟩
 have hlen:(passing (fun _=>true) (xs.filter Cl).length 0).length=(xs.filter Cl).length:=by rw [hpz];simp
 refine SC.joinGen WW.in4_2 (fun i s' st=>st.1.typeIs) hat ?_ List.mem_cons_self ?_ (fun s' l hm hacc=>?_) ?_
 ·intro b hb
  show b<h₅.objs.size
  rw [hs5]
  rcases List.mem_cons.mp hb with rfl | hb
  ·exact Nat.lt_succ_self _
  ·rcases List.mem_cons.mp hb with rfl | hb
   ·exact Nat.lt_succ_of_lt hlt
   ·exact Nat.lt_succ_of_lt (Nat.lt_trans (List.mem_range.mp hb) hlt)
 ·rintro j v ⟨i,_,q,u,_,rfl⟩
  exact ⟨_,u,rfl⟩
 ·have hl:l.map (·.1)=(xs.filter Cl).map fun q=>Txt.strip q.1:=by
   rw [hlen] at hacc
   apply List.ext_getElem?
   intro j
   have hsz:l.length=(xs.filter Cl).length:=by simpa [strValues] using hacc.1
   by_cases hj:j<(xs.filter Cl).length
   ·have hj':j<l.length:=hsz▸hj
    obtain ⟨i,hi,q,u,hq,hv⟩:=hacc.2 j (.str l[j].1 l[j].2) (by simp [strValues,List.getElem?_eq_getElem hj'])
    rw [hpz,List.getElem?_range hj] at hi
    cases hi
    injection hv with h1 _
    simp [List.getElem?_eq_getElem hj',hq,h1]
   ·rw [List.getElem?_eq_none (by simpa [hsz] using Nat.le_of_not_lt hj),List.getElem?_eq_none (by simpa using Nat.le_of_not_lt hj)]
  refine ⟨hj _ hl,fun t' k=>?_⟩
  rw [show l.map (·.1)=(xs.filter Cl).map fun q=>Txt.strip q.1 from hl]
  obtain ⟨og,hog⟩:=hgen
  have nd3:=D3.nd
  simp only [List.map_cons,List.nodup_cons,List.mem_cons,not_or] at nd3
  have haw:a∉[h3.objs.size,p+8]:=by
   have:=Heap.lt_size (D3.own _ (.tail _ (.tail _ (.head _))))
   simp only [List.mem_cons,List.not_mem_nil,or_false,not_or]
   exact ⟨Nat.ne_of_gt hlt,Nat.ne_of_gt (Nat.lt_trans this hlt)⟩
  have hga:s'.heap.get? a=some og:=hm.heap a og haw hog
  have hsz':h3.objs.size<s'.heap.objs.size:=Nat.lt_trans hlt (Heap.lt_size hga)
  have D6:Own W.h₀ 53 h3 ((p+8,tit (n+8) 0)::(p+1+8,fltO (p+8))::(53,tb1 W c)::(n+9,fr W [(saq,ta,.ref (n+8))])::(n+8,Af (sv xs))::L):=A2 [[(53,tb1 W c)],[(p+1+8,fltO (p+8))],[(p+8,tit (n+8) 0)],[(n+9,fr W [(saq,ta,.ref (n+8))])],[(n+8,Af (sv xs))]] [2,1,0,3,4] (tail:=L)  D3
  have D4:Own W.h₀ 53 h3 ((53,tb1 W c)::(n+9,fr W [(saq,ta,.ref (n+8))])::(n+8,Af (sv xs))::L):=D6.sub (List.drop_sublist 2 ((p+8,tit (n+8) 0)::(p+1+8,fltO (p+8))::(53,tb1 W c)::(n+9,fr W [(saq,ta,.ref (n+8))])::(n+8,Af (sv xs))::L))
  have nd6:=D6.nd
  rw [List.map_cons,List.nodup_cons] at nd6
  have hw:∀ b∈[h3.objs.size,p+8],W.h₀.get? b=none:=by
   intro b hb
   simp only [List.mem_cons,List.not_mem_nil,or_false] at hb
   rcases hb with rfl | rfl
   ·exact AY D3.sz
   ·rcases D3.new (p+8,tit (n+8) 0) (.tail _ (.tail _ (.head _))) with e | e
    ·exfalso
     exact nd6.1 (by simp [show p+8=53 from e])
    ·exact e
  have hL:∀ q∈(53,tb1 W c)::(n+9,fr W [(saq,ta,.ref (n+8))])::(n+8,Af (sv xs))::L,q.1∉[h3.objs.size,p+8]:=by
   intro q hq hb
   simp only [List.mem_cons,List.not_mem_nil,or_false] at hb
   rcases hb with e | e
   ·exact absurd (Heap.lt_size (D4.own q hq)) (by rw [e];exact Nat.lt_irrefl _)
   ·exact nd6.1 (by rw [← e];exact List.mem_map_of_mem (f:=(·.1)) (.tail _ hq))
  have D5:=D4.moved (h':=s'.heap) (wr:=[h3.objs.size,p+8]) (fun b ob hb e=>hm.heap b ob hb (keep5 b ob e)) hw hL (Nat.le_of_lt (Nat.lt_of_le_of_lt D3.sz hsz'))
  have e8:s'.heap.objs.size=s'.heap.objs.size - 8+8:=by
   have:p+1+8<h3.objs.size:=Heap.lt_size (D3.own _ (.tail _ (.head _)))
   omega
  have z:=hK t' s'.gens.toList c (fun hb=>by
   have q:=hm.gens.bare (fun y hy=>by
    rcases Array.mem_push.mp hy with h | h
    ·exact hb y (List.mem_toArray.mp h)
    ·rw [h];exact hgb)
   exact fun y hy=>q y (Array.mem_toList_iff.mp hy)) s'.heap (s'.heap.objs.size - 8) k e8 D5
  refine cast ?_ z
  rw [← show s'.drawn=W.d from hm.drawn,← show s'.os=W.os from hm.os]
  rfl
 ·rw [hlen,sizeLine_eq]
  have:=List.length_filter_le Cl xs
  omega
end
section
open PySem PySem.W PySem.W.X PySem.Calls PySem.Spec
variable {W:Wd} {L:List Cell} {G:List GenState} {n dp un tk:Nat} {A:Around} {F:List Env} {R:Result->Shared->Prop}
noncomputable def BH (W:Wd) (A:Around) (c:Code) (G:List GenState) (L:List Cell) {α:Type} (Q:Post α):Prop:=
 ∀ R,Takes W R Q->∀ h n tk,1<=tk->h.objs.size=n+8->Own W.h₀ 53 h L->codeAny W.M A c R ⟨h,⟨G⟩,W.d,tk,W.os⟩
theorem Tri.to1 {c:Code} {α:Type} {Q:Post α} (x:Tri W A c G L Q):BH W A c G L Q:=fun R hR h n tk _ hs D=>x R hR h n tk hs D
theorem BH.at {A':Around} {c:Code} {α:Type} {Q:Post α} (e:A=A') (x:BH W A' c G L Q):BH W A c G L Q:=e▸x
theorem BH.of {c:Code} {α:Type} {Q:Post α}
  (x:∀ R n tk,1<=tk->Takes W R Q->AG (bs false W A R n tk G) (start c L)):BH W A c G L Q:=fun R hR _ n tk ht hs D=>Cw (x R n tk ht hR) hs D
theorem AZ {r:GR} (htk:1<=tk) (c':Code) {α:Type} {Gf:α->List GenState} {Pf:α->Prop} {rf:α->Result} {Lf:α->List Cell} (hb:(easy r&&okMark (hdC (BD r)))=true) (hc:BO (BD r)=some c')
  (hL:∀ h,Own W.h₀ 53 h (CX r)->Own W.h₀ 53 h L)
  (spec:BH W (aOf A r) c' G L ⟨Gf,Pf,rf,Lf⟩)
  (next:∀ p n' tk',1<=tk'->Pf p->AG (bs false W A R n' tk' (Gf p)) (back r (rf p) (Lf p))):AG (bs false W A R n tk G) r:=by
 obtain ⟨he,q⟩:=Bool.and_eq_true_iff.mp hb
 refine B0 he fun h hs D=>?_
 rw [Dq hc]
 refine wpO.call (nb_of q) ?_
 rw [show ((aroundOf (bs false W A R n tk G).V true (κOf r)).under (cOf r)).mark (hdC (BD r))=aOf A r from by rw [aOf,Be W A R];rfl]
 refine codeAny_with_toks (n:=1) (show 1<=tk+iOf r from Nat.le_trans htk (Nat.le_add_right _ _)) ?_
 refine spec _ ?_ h _ _ (Nat.le_trans htk (Nat.le_add_right _ _)) hs (hL h D)
 intro p hQ h' n' tk' hs' D' ht'
 have z:=next p n' tk' ht' hQ
 unfold back AG at z
 replace z:=z h' hs' D'
 rw [show (bs false W A R n' tk' (Gf p)).G++[]=Gf p from List.append_nil _] at z
 exact z
theorem Bz {A₁:Around} {r:GR} {c₀:Code} (htk:1<=tk) (hA:A.under c₀=A₁) (hb:Cp r=c₀) (c':Code) {α:Type} {Gf:α->List GenState} {Pf:α->Prop} {rf:α->Result} {Lf:α->List Cell} (hx:(easy r&&okMark (hdC (BD r)))=true) (hc:BO (BD r)=some c')
  (hL:∀ h,Own W.h₀ 53 h (CX r)->Own W.h₀ 53 h L)
  (spec:BH W (BN A₁ r) c' G L ⟨Gf,Pf,rf,Lf⟩)
  (next:∀ p n' tk',1<=tk'->Pf p->AG (bs false W A R n' tk' (Gf p)) (back r (rf p) (Lf p))):AG (bs false W A R n tk G) r:=
 AZ htk c' hx hc hL (aOf1_eq hA hb▸spec) next
theorem gagain1 {r:GR} (htk:1<=tk) (c':Code) {α:Type} {Q:Post α} (hb:(easy r&&(Cd (κOf r)&&Bf c'))=true) (hc:E2 (BD r)=some c') (hR:Takes W R Q)
  (hL:∀ h,Own W.h₀ 53 h (CX r)->Own W.h₀ 53 h L) (spec:BH W A c' G L Q):AG (bs false W A R n tk G) r:=by
 obtain ⟨he,hq⟩:=Bool.and_eq_true_iff.mp hb
 obtain ⟨hκ,q⟩:=Bool.and_eq_true_iff.mp hq
 rw [← BM] at q
 refine B0 he fun h hs D=>?_
 rw [En hc,C2 hκ]
 exact fun Γ p _ _ _=>⟨q,spec _ hR h _ _ (Nat.le_trans htk (Nat.le_add_right _ _)) hs (hL h D)⟩
noncomputable def Pc1 (W:Wd) (A:Around) {α β:Type} (m:Sem α) (G:List GenState) (L:List Cell) (Q:A3 α β):Prop:=
 ∀ K:α->Shared->Prop,(∀ p,Q.P p->∀ h n tk,h.objs.size=n+8->Own W.h₀ 53 h (Q.L p)->K (Q.v p) ⟨h,⟨Q.G p⟩,W.d,tk,W.os⟩) ->
  ∀ E h n tk,1<=tk->h.objs.size=n+8->Own W.h₀ 53 h L->wpAny W.M A m K E ⟨h,⟨G⟩,W.d,tk,W.os⟩
theorem Pc1.of {α β:Type} {m:Sem α} {Q:A3 α β} (emb:α->Flow) (inj:∀ a b,emb a=emb b->a=b) (mq:Sem α) (hm:m=mq)
  (x:∀ R n tk c₀ d f g u,1<=tk->(Around.mk none d f g u).under c₀=Ar dp un F->Takes W R (Q.to emb)->AG (bs false W ⟨none,d,f,g,u⟩ R n tk G) (Cu c₀ (PySem.W.R.bindR mq fun a=> .pure (.done (emb a))) L)):Pc1 W (Ar dp un F) m G L Q:=
 fun K hK E h n tk ht hs D=>DQ (BQ emb inj (fun c₀ d f g u hA=>hm▸x _ n tk c₀ d f g u ht hA fun p hp h' n' tk' hs' D'=> .inl ⟨_,rfl,hK p hp h' n' tk' hs' D'⟩) hs D)
end
section
open PySem PySem.W PySem.W.X PySem.Calls PySem.Spec PyProof.Rows PySem.Builtin PySem.Builtin.Str
variable {W:Wd} {L:List Cell} {G:List GenState} {n dp un c a u tp ta:Nat} {A:Around} {F Fr:List Env} {x y:Str} {b:Bool} {o:Obj}
theorem str_replace {z:Str} {t v:Nat} (hu:u≠0) (hv:v≠0) (huv:u≠v) (hyz:(y==z)=false) (hx:x.length<=1000) (hz:z.length<=14) :
  Tri W A (.call (.builtin "str.replace") ⟨[.str x t,.str y u,.str z v],[]⟩) G L (Gives G (fun t':Nat=> .str (Txt.replace x y z) t') fun _=>L):=
 Tri.cb F.slot_str_replace F.entry_str_replace (F.args_str_replace_3 _ _ _) (fun h _ D=>typeIs_str _ _ _) fun R hR h n tk hs D=>by
  have hb:x.length+(x.length+1)*z.length<=16777216:=by
   have h1:(x.length+1)*z.length<=(x.length+1)*14:=Nat.mul_le_mul_left _ hz
   omega
  have hl:tooLong (x.length+(Builtin.Str.occurrences x y 0 x.length (x.length+1)).length*z.length)=false:=by
   have h1:=StrLaws.occ_length_le x y 0 x.length (x.length+1)
   have h2:(Builtin.Str.occurrences x y 0 x.length (x.length+1)).length*z.length<=(x.length+1)*z.length:=Nat.mul_le_mul_right _ h1
   unfold tooLong sizeLine
   exact decide_eq_false (by omega)
  refine gives_str_replace x y z t u v (fun _=>⟨by simp [hu,hv],by simp [huv],hyz,hl⟩) AA W.w A R _ ?_
  have hq':∀ t' k,R (.ok (.ret (.str (Txt.replace x y z) t'))) ⟨h,⟨G⟩,W.d,k,W.os⟩:=fun t' k=>hR t' trivial h n k hs D
  unfold Txt.replace at hq'
  cases hc:((Builtin.Str.occurrences x y 0 x.length (x.length+1)).isEmpty||(y.length==0&&z.length==0))
  ·rw [hc] at hq'
   simp only [Bool.false_eq_true,if_false] at hq' ⊢
   exact ⟨fits_replaced y hb,hq' _ _⟩
  ·rw [hc] at hq'
   simp only [if_true] at hq' ⊢
   exact hq' t _
noncomputable def BZ (ta tp n:Nat) (x:Str) (t:Nat) (r:List (Str×Nat×Value)):List (Str×Nat×Value):=(saq,ta,.ref (n+8))::(sbr,tp,.str x t)::r
theorem Aq {z r:Str} {t v:Nat} (e:Txt.replace x y z=r) (hyz:(y==z)=false) (hx:x.length<=1000) (hz:z.length<=14) (hu:u≠0) (hv:v≠0) (huv:u≠v) :
  BH W A (.call (.builtin "str.replace") ⟨[.str x t,.str y u,.str z v],[]⟩) G L (Gives G (fun t':Nat=> .str r t') fun _=>L):=e▸(str_replace hu hv huv hyz hx hz).to1
theorem p_asgP (ok:W.Ok) {t:Nat} {q:Pos} :
  Pc W (Ar dp un F) (assign (.Name sbr q) (Cx W n) (.str x t)) G ((n+9,fr W [(saq,ta,.ref (n+8))])::L)
  (⟨fun _=>G,fun _=>True,fun _=>(),fun p=>(n+9,fr W (BZ ta p n x t []))::L⟩:A3 Unit Nat):=by
 refine Pc.of Bo Ap _ (by rw [Ax]) fun R n' tk' c₀ d f gg u hA hR=>?_
 exact Aj ok 7 1 hR tk' trivial .next rfl [] 0
theorem str_beq (x y:Str):(x.cps.toList==y.cps.toList)=(x==y):=PySem.SeqAt.str_beq x y
theorem Do {t:Nat} (hb:(x==y)=b) :
  Tri W A (.call (.builtin "str.__eq__") ⟨[.str x t,.str y u],[]⟩) G L (Ret (.bool b) G L):=
 Tri.cb F.slot_str_eq F.entry_str_eq (F.args_str_eq_2 _ _) (fun h _ D=>typeIs_str _ _ _) fun R hR h n tk hs D=>by
  refine gives_str_eq x y t u AA W.w A R _ ?_
  have z:=hR () trivial h n tk hs D
  rw [← hb,← str_beq] at z
  exact z
inductive Coll:Str->Str->Prop
 | fix {x:_}:x.length<=900->Txt.replace x scm sbo=x->Coll x x
 | step {x y z:_}:x.length<=900->Txt.replace x scm sbo=y->(y==x)=false->Coll y z->Coll x z
theorem wh1b (ok:W.Ok) {z:Str} (hc:Coll x z):∀ {L:List Cell} {t tc tu:Nat} {c:Str},
  BH W (Ar dp un F) (whC (pfS W 10) (Cx W n)) G ((n+9,fr W (BZ ta tp n x t [(sak,tc,.str c tu)]))::L) (Nx G fun p:Nat×Nat×Str×Nat=>(n+9,fr W (BZ ta tp n z p.1 [(sak,p.2.1,.str p.2.2.1 p.2.2.2)]))::L):=by
 induction hc with
 | @fix x hx hy=>
  intro L t tc tu c
  refine BH.of fun R n' tk' ht hR=>?_
  refine gmore ok 9 1 ⟨by kernel_rfl,?_⟩
  refine AZ ht (.call (.builtin "str.replace") ⟨[.str x t,.str scm tk',.str sbo (tk'+1)],[]⟩) (by kernel_rfl) (by kernel_rfl) (L:=(n+9,fr W (BZ ta tp n x t [(sak,tc,.str c tu)]))::L) (A4 [] 0 (by kernel_rfl)) (Aq hy (by kernel_rfl) (by omega) (by decide) (by omega) (by omega) (by omega)) fun t1 n1 tk1 ht1 _=>?_
  refine gmore ok 15 266241 ⟨by kernel_rfl,?_⟩
  refine AZ ht1 (.call (.builtin "str.__eq__") ⟨[.str x t1,.str x t],[]⟩) (by kernel_rfl) (by kernel_rfl) (L:=(n+9,fr W (BZ ta tp n x t [(sak,tc,.str x t1)]))::L) (A4 [] 0 (by kernel_rfl)) (Do (beq_self_eq_true _)).to1 fun _ n2 tk2 ht2 _=>?_
  exact Aj ok 1 0 hR (t,tc,x,t1) trivial .next rfl [] 0
 | @step x y z hx hy hne hc ih=>
  intro L t tc tu c
  refine BH.of fun R n' tk' ht hR=>?_
  refine gmore ok 9 1 ⟨by kernel_rfl,?_⟩
  refine AZ ht (.call (.builtin "str.replace") ⟨[.str x t,.str scm tk',.str sbo (tk'+1)],[]⟩) (by kernel_rfl) (by kernel_rfl) (L:=(n+9,fr W (BZ ta tp n x t [(sak,tc,.str c tu)]))::L) (A4 [] 0 (by kernel_rfl)) (Aq hy (by kernel_rfl) (by omega) (by decide) (by omega) (by omega) (by omega)) fun t1 n1 tk1 ht1 _=>?_
  refine gmore ok 15 266241 ⟨by kernel_rfl,?_⟩
  refine AZ ht1 (.call (.builtin "str.__eq__") ⟨[.str y t1,.str x t],[]⟩) (by kernel_rfl) (by kernel_rfl) (L:=(n+9,fr W (BZ ta tp n x t [(sak,tc,.str y t1)]))::L) (A4 [] 0 (by kernel_rfl)) (Do hne).to1 fun _ n2 tk2 ht2 _=>?_
  refine gmore ok 10 65 ⟨by kernel_rfl,?_⟩
  exact gagain1 ht2 (whC (pfS W 10) (Cx W n)) (by kernel_rfl) (by kernel_rfl) hR (L:=(n+9,fr W (BZ ta tp n y t1 [(sak,tc,.str y t1)]))::L) (A4 [] 0 (by kernel_rfl)) (ih (tc:=tc) (tu:=t1) (c:=y))
theorem wh1a (ok:W.Ok) {z:Str} (hc:Coll x z):∀ {L:List Cell} {t t0:Nat} {c:Str},
  BH W (Ar dp un F) (whC (pfS W 10) (Cx W n)) G ((n+9,fr W (BZ ta tp n x t []))::L) (Nx G fun p:Nat×Nat×Str×Nat=>(n+9,fr W (BZ ta tp n z p.1 [(sak,p.2.1,.str p.2.2.1 p.2.2.2)]))::L):=by
 induction hc with
 | @fix x hx hy=>
  intro L t t0 c
  refine BH.of fun R n' tk' ht hR=>?_
  refine gmore ok 9 1 ⟨by kernel_rfl,?_⟩
  refine AZ ht (.call (.builtin "str.replace") ⟨[.str x t,.str scm tk',.str sbo (tk'+1)],[]⟩) (by kernel_rfl) (by kernel_rfl) (L:=(n+9,fr W (BZ ta tp n x t []))::L) (A4 [] 0 (by kernel_rfl)) (Aq hy (by kernel_rfl) (by omega) (by decide) (by omega) (by omega) (by omega)) fun t1 n1 tk1 ht1 _=>?_
  refine gmore ok 15 266241 ⟨by kernel_rfl,?_⟩
  refine AZ ht1 (.call (.builtin "str.__eq__") ⟨[.str x t1,.str x t],[]⟩) (by kernel_rfl) (by kernel_rfl) (L:=(n+9,fr W (BZ ta tp n x t [(sak,tk1,.str x t1)]))::L) (A4 [] 0 (by kernel_rfl)) (Do (beq_self_eq_true _)).to1 fun _ n2 tk2 ht2 _=>?_
  exact Aj ok 1 0 hR (t,tk1,x,t1) trivial .next rfl [] 0
 | @step x y z hx hy hne hc ih=>
  intro L t t0 c
  refine BH.of fun R n' tk' ht hR=>?_
  refine gmore ok 9 1 ⟨by kernel_rfl,?_⟩
  refine AZ ht (.call (.builtin "str.replace") ⟨[.str x t,.str scm tk',.str sbo (tk'+1)],[]⟩) (by kernel_rfl) (by kernel_rfl) (L:=(n+9,fr W (BZ ta tp n x t []))::L) (A4 [] 0 (by kernel_rfl)) (Aq hy (by kernel_rfl) (by omega) (by decide) (by omega) (by omega) (by omega)) fun t1 n1 tk1 ht1 _=>?_
  refine gmore ok 15 266241 ⟨by kernel_rfl,?_⟩
  refine AZ ht1 (.call (.builtin "str.__eq__") ⟨[.str y t1,.str x t],[]⟩) (by kernel_rfl) (by kernel_rfl) (L:=(n+9,fr W (BZ ta tp n x t [(sak,tk1,.str y t1)]))::L) (A4 [] 0 (by kernel_rfl)) (Do hne).to1 fun _ n2 tk2 ht2 _=>?_
  refine gmore ok 10 65 ⟨by kernel_rfl,?_⟩
  exact gagain1 ht2 (whC (pfS W 10) (Cx W n)) (by kernel_rfl) (by kernel_rfl) hR (L:=(n+9,fr W (BZ ta tp n y t1 [(sak,tk1,.str y t1)]))::L) (A4 [] 0 (by kernel_rfl)) (wh1b ok hc (tc:=tk1) (tu:=t1) (c:=y))
theorem len_str {t k:Nat} (hk:x.length=k) (hx:k<=1000) :
  Tri W A (.builtin "len" ⟨[.str x t],[]⟩) G L (Gives G (fun t:Nat=> .int ((k:Nat):Int) t) fun _=>L):=
 Tri.bi plain_len entry_len fun R hR h n tk hs D=>wpAny_mono (wpAny_len_body (Q:=fun r s'=>R (.ok (.ret r)) s') (typeIs_str _ _ _) F.slot_str_len F.entry_str_len (F.args_str_len_1 _) (gives_str_len x t) (by omega) (by omega)
  (hk▸hR (tk+1) trivial h n _ hs D)) (fun fin s' h'=>by obtain ⟨r,rfl,hq⟩:=h';exact hq) fun _ _ e=>e
theorem str_last {t:Nat} {l:List Nat} (hx:x=⟨⟨l++[c]⟩⟩) :
  Tri W A (.call (.builtin "str.__getitem__") ⟨[.str x t,.int (-1) u],[]⟩) G L (Gives G (fun t':Nat=> .str ⟨#[c]⟩ t') fun _=>L):=
 Tri.cb F.slot_str_getitem F.entry_str_getitem (F.args_str_getitem_2 _ _) (fun h _ D=>typeIs_str _ _ _) fun R hR h n tk hs D=>by
  refine gives_str_getitem x (-1) t u c (by decide) ?_ AA W.w A R _ ⟨by rw [sizeLine_eq];simp [Str.length],hR _ trivial h n _ hs D⟩
  subst hx
  have e:(⟨⟨l++[c]⟩⟩:Str).length=l.length+1:=by simp [Str.length]
  rw [e]
  have q:seqIndex? (-1) (l.length+1)=some l.length:=by
   unfold seqIndex?
   simp only
   split<;>first | (simp;omega) | (rename_i h;simp at h;omega)
  rw [q]
  simp
theorem idx_front (n:Nat):strSliceIndices none (some (-1)) 1 (n+1)=List.range n:=by
 unfold strSliceIndices sliceRange
 simp only [show (1:Int)>0 by decide,if_true,show ((-1:Int)<0) by decide]
 have e1:max 0 (min (-1+((n+1:Nat):Int)) ((n+1:Nat):Int))=(n:Int):=by omega
 rw [e1]
 cases n<;>simp
theorem slice_front (l:List Nat) (c:Nat):Txt.slice ⟨⟨l++[c]⟩⟩ none (some (-1))=⟨⟨l⟩⟩:=by
 unfold Txt.slice
 have e:(⟨⟨l++[c]⟩⟩:Str).length=l.length+1:=by simp [Str.length]
 rw [e,idx_front]
 rw [if_neg (by simp)]
 congr 1
 have:(List.range l.length).filterMap (fun i=>(⟨l++[c]⟩:Array Nat)[i]?)=l:=by
  have h:∀ k,k<=l.length->(List.range k).filterMap (fun i=>(⟨l++[c]⟩:Array Nat)[i]?)=l.take k:=by
   intro k
   induction k with
   | zero=>intro _;simp
   | succ k ih=>
    intro hk
    rw [List.range_succ,List.filterMap_append,ih (by omega),List.take_add_one]
    congr 1
    simp [List.getElem?_append_left (show k<l.length by omega),List.getElem?_eq_getElem (show k<l.length by omega)]
  rw [h _ (Nat.le_refl _),List.take_length]
 rw [this]
noncomputable def slcO (u:Nat):Obj:=⟨.type "slice",none,.fields #[.none,.int (-1) u,.none],#[]⟩
theorem str_front {t:Nat} {l:List Nat} (hl:l.length<=900) :
  Tri W A (.call (.builtin "str.__getitem__") ⟨[.str ⟨⟨l++[c]⟩⟩ t,.ref a],[]⟩) G ((a,slcO u)::L) (Gives G (fun t':Nat=> .str ⟨⟨l⟩⟩ t') fun _=>L):=
 Tri.cb F.slot_str_getitem F.entry_str_getitem (F.args_str_getitem_2 _ _) (fun h _ D=>typeIs_str _ _ _) fun R hR h n tk hs D=>by
  refine meets_str_getitem_slice ⟨⟨l++[c]⟩⟩ t a none (some (-1,u)) none rfl AA W.w A R _ ⟨⟨_,D.at0,rfl,rfl⟩,?_⟩
  have D':Own W.h₀ 53 h L:=D.sub (List.sublist_cons_self ..)
  have z:∀ t' k,R (.ok (.ret (.str (Txt.slice ⟨⟨l++[c]⟩⟩ none (some (-1))) t'))) ⟨h,⟨G⟩,W.d,k,W.os⟩:=fun t' k=>by
   rw [slice_front];exact hR t' trivial h n k hs D'
  exact post_val_or_str (Q:=fun v s'=>R (.ok (.ret v)) s') ⟨Nat.le_trans (Txt.slice_le _ _ _) (by rw [sizeLine_eq];simp [Str.length];omega),fun t' k=>z t' k⟩
inductive Trm:List Nat->List Nat->Prop
 | fix {l c:_}:l.length<=900->c≠45->Trm (l++[c]) (l++[c])
 | step {l z:_}:l.length<=900->Trm l z->Trm (l++[45]) z
theorem one_ne (h:c≠45):((⟨#[c]⟩:Str)==sbo)=false:=by
 rw [beq_eq_false_iff_ne]
 intro e
 have:=congrArg (fun s:Str=>s.cps.toList) e
 have e2:[c]=[45]:=this
 exact h (List.cons.inj e2).1
theorem wh2 (ok:W.Ok) {tc tu:Nat} {x z:List Nat} (hx:Trm x z):∀ {L:List Cell} {t:Nat},
  BH W (Ar dp un F) (whC (pfS W 11) (Cx W n)) G ((n+9,fr W (BZ ta tp n ⟨⟨x⟩⟩ t [(sak,tc,.str y tu)]))::L) (Nx G fun p:Nat=>(n+9,fr W (BZ ta tp n ⟨⟨z⟩⟩ p [(sak,tc,.str y tu)]))::L):=by
 induction hx with
 | @fix l c hl hne=>
  intro L t
  refine BH.of fun R n' tk' ht hR=>?_
  refine gmore ok 3 1 ⟨by kernel_rfl,?_⟩
  refine AZ ht (.builtin "len" ⟨[.str ⟨⟨l++[c]⟩⟩ t],[]⟩) (by kernel_rfl) (by kernel_rfl) (L:=(n+9,fr W (BZ ta tp n ⟨⟨l++[c]⟩⟩ t [(sak,tc,.str y tu)]))::L) (A4 [] 0 (by kernel_rfl)) (len_str (k:=l.length+1) (by simp [Str.length]) (by omega)).to1 fun _ n1 tk1 ht1 _=>?_
  refine gmore ok 9 1 ⟨by kernel_rfl,?_⟩
  refine AZ ht1 (.call (.builtin "str.__getitem__") ⟨[.str ⟨⟨l++[c]⟩⟩ t,.int (-1) (tk1+1)],[]⟩) (by kernel_rfl) (by kernel_rfl) (L:=(n+9,fr W (BZ ta tp n ⟨⟨l++[c]⟩⟩ t [(sak,tc,.str y tu)]))::L) (A4 [] 0 (by kernel_rfl)) (str_last rfl).to1 fun t2 n2 tk2 ht2 _=>?_
  refine gmore ok 3 0 ⟨by kernel_rfl,?_⟩
  refine AZ ht2 (.call (.builtin "str.__eq__") ⟨[.str ⟨#[c]⟩ t2,.str sbo tk2],[]⟩) (by kernel_rfl) (by kernel_rfl) (L:=(n+9,fr W (BZ ta tp n ⟨⟨l++[c]⟩⟩ t [(sak,tc,.str y tu)]))::L) (A4 [] 0 (by kernel_rfl)) (Do (one_ne hne)).to1 fun _ n3 tk3 ht3 _=>?_
  exact Aj ok 0 0 hR t trivial .next rfl [] 0
 | @step l z hl hx ih=>
  intro L t
  refine BH.of fun R n' tk' ht hR=>?_
  refine gmore ok 3 1 ⟨by kernel_rfl,?_⟩
  refine AZ ht (.builtin "len" ⟨[.str ⟨⟨l++[45]⟩⟩ t],[]⟩) (by kernel_rfl) (by kernel_rfl) (L:=(n+9,fr W (BZ ta tp n ⟨⟨l++[45]⟩⟩ t [(sak,tc,.str y tu)]))::L) (A4 [] 0 (by kernel_rfl)) (len_str (k:=l.length+1) (by simp [Str.length]) (by omega)).to1 fun _ n1 tk1 ht1 _=>?_
  refine gmore ok 9 1 ⟨by kernel_rfl,?_⟩
  refine AZ ht1 (.call (.builtin "str.__getitem__") ⟨[.str ⟨⟨l++[45]⟩⟩ t,.int (-1) (tk1+1)],[]⟩) (by kernel_rfl) (by kernel_rfl) (L:=(n+9,fr W (BZ ta tp n ⟨⟨l++[45]⟩⟩ t [(sak,tc,.str y tu)]))::L) (A4 [] 0 (by kernel_rfl)) (str_last rfl).to1 fun t2 n2 tk2 ht2 _=>?_
  refine gmore ok 3 0 ⟨by kernel_rfl,?_⟩
  refine AZ ht2 (.call (.builtin "str.__eq__") ⟨[.str ⟨#[45]⟩ t2,.str sbo tk2],[]⟩) (by kernel_rfl) (by kernel_rfl) (L:=(n+9,fr W (BZ ta tp n ⟨⟨l++[45]⟩⟩ t [(sak,tc,.str y tu)]))::L) (A4 [] 0 (by kernel_rfl)) (Do (b:=true) (by kernel_rfl)).to1 fun _ n3 tk3 ht3 _=>?_
  refine gmore ok 11 1 ⟨by kernel_rfl,?_⟩
  refine AZ ht3 (.call (.builtin "str.__getitem__") ⟨[.str ⟨⟨l++[45]⟩⟩ t,.ref (n3+8)],[]⟩) (by kernel_rfl) (by kernel_rfl) (L:=c8 n3 (slcO (tk3+1))::(n+9,fr W (BZ ta tp n ⟨⟨l++[45]⟩⟩ t [(sak,tc,.str y tu)]))::L) (A4 [] 0 (by kernel_rfl)) (str_front hl).to1 fun t4 n4 tk4 ht4 _=>?_
  refine gmore ok 7 1 ⟨by kernel_rfl,?_⟩
  exact gagain1 ht4 (whC (pfS W 11) (Cx W n)) (by kernel_rfl) (by kernel_rfl) hR (L:=(n+9,fr W (BZ ta tp n ⟨⟨l⟩⟩ t4 [(sak,tc,.str y tu)]))::L) (A4 [] 0 (by kernel_rfl)) (ih (t:=t4))
theorem p_tail (ok:W.Ok) {t:Nat} {y1 y2 y3 y4 y5 y6 y7 y8 y9:Str} (h1:Txt.replace x sco (S [95])=y1) (h2:Txt.replace y1 scp sbo=y2) (h3:Txt.replace y2 (S [92]) sbo=y3) (h4:Txt.replace y3 (S [58]) sbo=y4) (h5:Txt.replace y4 (S [59]) sbo=y5) (h6:Txt.replace y5 (S [34]) sbo=y6) (h7:Txt.replace y6 scq sbo=y7) (h8:Txt.replace y7 (S [41]) sbo=y8) (h9:Txt.replace y8 saw (S [])=y9) (l0:x.length<=900) (l1:y1.length<=900) (l2:y2.length<=900) (l3:y3.length<=900) (l4:y4.length<=900) (l5:y5.length<=900) (l6:y6.length<=900) (l7:y7.length<=900) (l8:y8.length<=900) (l9:y9.length<=900) {z1 z2:List Nat} (hco:Coll y9 ⟨⟨z1⟩⟩) (htr:Trm z1 z2) :
  Pc1 W (Ar dp un F) (execs (Ak W.kt 58).tail (Cx W n)) G ((n+9,fr W (BZ ta tp n x t []))::L)
  (⟨fun _=>G,fun _=>True,fun t=>Flow.ret (.str ⟨⟨z2⟩⟩ t),fun p=>L⟩:A3 Flow Nat):=by
 refine Pc1.of id Ai _ (by rw [Ao]) fun R n' tk' c₀ d f gg u ht hA hR=>?_
 refine gmore ok 8 1 ⟨by kernel_rfl,?_⟩
 refine Bz ht hA (by kernel_rfl) (.call (.builtin "str.replace") ⟨[.str x t,.str sco tk',.str (S [95]) (tk'+1)],[]⟩) (by kernel_rfl) (by kernel_rfl) (L:=(n+9,fr W (BZ ta tp n x t []))::L) (A4 [] 0 (by kernel_rfl)) (Aq h1 (by kernel_rfl) (by omega) (by decide) (by omega) (by omega) (by omega)) fun t1 n1 tk1 ht1 _=>?_
 refine gmore ok 16 4097 ⟨by kernel_rfl,?_⟩
 refine Bz ht1 hA (by kernel_rfl) (.call (.builtin "str.replace") ⟨[.str y1 t1,.str scp (tk1+1),.str sbo (tk1+2)],[]⟩) (by kernel_rfl) (by kernel_rfl) (L:=(n+9,fr W (BZ ta tp n y1 t1 []))::L) (A4 [] 0 (by kernel_rfl)) (Aq h2 (by kernel_rfl) (by omega) (by decide) (by omega) (by omega) (by omega)) fun t2 n2 tk2 ht2 _=>?_
 refine gmore ok 16 4097 ⟨by kernel_rfl,?_⟩
 refine Bz ht2 hA (by kernel_rfl) (.call (.builtin "str.replace") ⟨[.str y2 t2,.str (S [92]) (tk2+1),.str sbo (tk2+2)],[]⟩) (by kernel_rfl) (by kernel_rfl) (L:=(n+9,fr W (BZ ta tp n y2 t2 []))::L) (A4 [] 0 (by kernel_rfl)) (Aq h3 (by kernel_rfl) (by omega) (by decide) (by omega) (by omega) (by omega)) fun t3 n3 tk3 ht3 _=>?_
 refine gmore ok 16 4097 ⟨by kernel_rfl,?_⟩
 refine Bz ht3 hA (by kernel_rfl) (.call (.builtin "str.replace") ⟨[.str y3 t3,.str (S [58]) (tk3+1),.str sbo (tk3+2)],[]⟩) (by kernel_rfl) (by kernel_rfl) (L:=(n+9,fr W (BZ ta tp n y3 t3 []))::L) (A4 [] 0 (by kernel_rfl)) (Aq h4 (by kernel_rfl) (by omega) (by decide) (by omega) (by omega) (by omega)) fun t4 n4 tk4 ht4 _=>?_
 refine gmore ok 16 4097 ⟨by kernel_rfl,?_⟩
 refine Bz ht4 hA (by kernel_rfl) (.call (.builtin "str.replace") ⟨[.str y4 t4,.str (S [59]) (tk4+1),.str sbo (tk4+2)],[]⟩) (by kernel_rfl) (by kernel_rfl) (L:=(n+9,fr W (BZ ta tp n y4 t4 []))::L) (A4 [] 0 (by kernel_rfl)) (Aq h5 (by kernel_rfl) (by omega) (by decide) (by omega) (by omega) (by omega)) fun t5 n5 tk5 ht5 _=>?_
 refine gmore ok 16 4097 ⟨by kernel_rfl,?_⟩
 refine Bz ht5 hA (by kernel_rfl) (.call (.builtin "str.replace") ⟨[.str y5 t5,.str (S [34]) (tk5+1),.str sbo (tk5+2)],[]⟩) (by kernel_rfl) (by kernel_rfl) (L:=(n+9,fr W (BZ ta tp n y5 t5 []))::L) (A4 [] 0 (by kernel_rfl)) (Aq h6 (by kernel_rfl) (by omega) (by decide) (by omega) (by omega) (by omega)) fun t6 n6 tk6 ht6 _=>?_
 refine gmore ok 16 4097 ⟨by kernel_rfl,?_⟩
 refine Bz ht6 hA (by kernel_rfl) (.call (.builtin "str.replace") ⟨[.str y6 t6,.str scq (tk6+1),.str sbo (tk6+2)],[]⟩) (by kernel_rfl) (by kernel_rfl) (L:=(n+9,fr W (BZ ta tp n y6 t6 []))::L) (A4 [] 0 (by kernel_rfl)) (Aq h7 (by kernel_rfl) (by omega) (by decide) (by omega) (by omega) (by omega)) fun t7 n7 tk7 ht7 _=>?_
 refine gmore ok 16 4097 ⟨by kernel_rfl,?_⟩
 refine Bz ht7 hA (by kernel_rfl) (.call (.builtin "str.replace") ⟨[.str y7 t7,.str (S [41]) (tk7+1),.str sbo (tk7+2)],[]⟩) (by kernel_rfl) (by kernel_rfl) (L:=(n+9,fr W (BZ ta tp n y7 t7 []))::L) (A4 [] 0 (by kernel_rfl)) (Aq h8 (by kernel_rfl) (by omega) (by decide) (by omega) (by omega) (by omega)) fun t8 n8 tk8 ht8 _=>?_
 refine gmore ok 16 4097 ⟨by kernel_rfl,?_⟩
 refine Bz ht8 hA (by kernel_rfl) (.call (.builtin "str.replace") ⟨[.str y8 t8,.str saw (tk8+1),.str (S []) (tk8+2)],[]⟩) (by kernel_rfl) (by kernel_rfl) (L:=(n+9,fr W (BZ ta tp n y8 t8 []))::L) (A4 [] 0 (by kernel_rfl)) (Aq h9 (by kernel_rfl) (by omega) (by decide) (by omega) (by omega) (by omega)) fun t9 n9 tk9 ht9 _=>?_
 refine gmore ok 9 1 ⟨by kernel_rfl,?_⟩
 refine Bz ht9 hA (by kernel_rfl) (whC (pfS W 10) (Cx W n)) (by kernel_rfl) (by kernel_rfl) (L:=(n+9,fr W (BZ ta tp n y9 t9 []))::L) (A4 [] 0 (by kernel_rfl)) (BH.at (by kernel_rfl:BN (Ar dp un F) _=Ar dp un F) (wh1a (t0:=0) (c:=y9) ok hco)) fun p n10 tk10 ht10 _=>?_
 refine gmore ok 1 0 ⟨by kernel_rfl,?_⟩
 refine Bz ht10 hA (by kernel_rfl) (whC (pfS W 11) (Cx W n)) (by kernel_rfl) (by kernel_rfl) (L:=(n+9,fr W (BZ ta tp n ⟨⟨z1⟩⟩ p.1 [(sak,p.2.1,.str p.2.2.1 p.2.2.2)]))::L) (A4 [] 0 (by kernel_rfl)) (BH.at (by kernel_rfl:BN (Ar dp un F) _=Ar dp un F) (wh2 ok htr)) fun t11 n11 tk11 ht11 _=>?_
 exact Aj ok 3 1 hR t11 trivial (.ret (.str ⟨⟨z2⟩⟩ t11)) rfl [0] 1
theorem CU:@storeName=PySem.W.ZFast.zw7998390705656384164:=PySem.W.ZFast.ze7998390705656384164
theorem p_storeP (ok:W.Ok) {t:Nat} :
  Pc W (Ar dp un F) (storeName (Cx W n) sbr (.str x t)) G ((n+9,fr W [(saq,ta,.ref (n+8))])::L)
  (⟨fun _=>G,fun _=>True,fun _=>(),fun p=>(n+9,fr W (BZ ta p n x t []))::L⟩:A3 Unit Nat):=by
 refine Pc.of Bo Ap _ (by rw [CU]) fun R n' tk' c₀ d f gg u hA hR=>?_
 exact Aj ok 4 1 hR tk' trivial .next rfl [] 0
noncomputable def Cc (ts:List Str):Str:=Txt.join sbo ((ts.filter fun x=>x.length != 0).map Txt.strip)
noncomputable def Dh (ts:List Str) (z:List Nat):Prop:=(∀ x∈ts,x.length<=1000)/\JoinOk sbo ((ts.filter fun x=>x.length != 0).map Txt.strip)=true /\
 ∃ y1 y2 y3 y4 y5 y6 y7 y8 y9 z1,(Txt.replace (Cc ts) sco (S [95])=y1/\Txt.replace y1 scp sbo=y2/\Txt.replace y2 (S [92]) sbo=y3/\Txt.replace y3 (S [58]) sbo=y4/\Txt.replace y4 (S [59]) sbo=y5/\Txt.replace y5 (S [34]) sbo=y6/\Txt.replace y6 scq sbo=y7/\Txt.replace y7 (S [41]) sbo=y8/\Txt.replace y8 saw (S [])=y9) /\
  ((Cc ts).length<=900/\y1.length<=900/\y2.length<=900/\y3.length<=900/\y4.length<=900/\y5.length<=900/\y6.length<=900/\y7.length<=900/\y8.length<=900/\y9.length<=900)/\Coll y9 ⟨⟨z1⟩⟩/\Trm z1 z
theorem joinT_eq (xs:List (Str×Nat)):joinF xs=Cc (xs.map (·.1)):=by
 unfold joinF Cc
 rw [List.filter_map,List.map_map]
 rfl
noncomputable def asP (s:Stmt):Pos:=(Br s).p
noncomputable def asN (s:Stmt):Pos:=(Bp (hdE (Br s).l)).p
theorem body58 (W:Wd):Ak W.kt 58= .Assign [.Name sbr (asN (pfS W 0))] (jE W) (asP (pfS W 0))::(Ak W.kt 58).tail:=by kernel_rfl
theorem jE_star (W:Wd) (env:Env):starEach [Cr W] env=[(false,eval (Cr W) env)]:=by rw [gE_eq];rfl
theorem pf_sw (W:Wd) (n:Nat):swapsWith (jE W) (some (.Name sbr (asN (pfS W 0)))) (asP (pfS W 0)).line (Cx W n)=pure false:=by kernel_rfl
theorem DD (ok:W.Ok) {xs:List (Str×Nat)} {z:List Nat} (ho:Tb W o) (hd:dp<=700) (hn:xs.length<=900) (hp:Dh (xs.map (·.1)) z) :
  Tri W (Ar dp un Fr) (entry W.kt 58 n 9) G ((n+9,fr W [(saq,ta,.ref (n+8))])::c8 n (Af (sv xs))::(53,o)::L)
  ⟨fun p:List GenState×Nat×Nat=>p.1,fun p=>(∀ y∈G,y.bare=true)->∀ y∈p.1,y.bare=true,fun p=> .ok (.ret (.str ⟨⟨z⟩⟩ p.2.1)),fun p=>(53,tb1 W p.2.2)::L⟩:=by
 obtain ⟨hsz,hj,y1,y2,y3,y4,y5,y6,y7,y8,y9,z1,⟨h1,h2',h3',h4,h5,h6,h7,h8,h9⟩,⟨l0,l1,l2,l3,l4,l5,l6,l7,l8,l9⟩,hco,htr⟩:=hp
 rw [← joinT_eq] at h1 l0
 have hfil:((xs.map (·.1)).filter fun x=>x.length != 0).map Txt.strip=(xs.filter Cl).map (fun p=>Txt.strip p.1):=by
  rw [List.filter_map,List.map_map];rfl
 rw [hfil] at hj
 intro R hR h n' tk hs D
 show codeAny (model AA W.w) (Ar dp un Fr) (.func (Ak W.kt 58) (Cx W n)) R _
 refine codeAny_func ?_
 rw [show (Ar dp un Fr).deeper (Cx W n)=Ar (dp+1) (un+3) (Cx W n::Fr) from by kernel_rfl,body58]
 refine wpAny_execs_cons (wpAny_Assign_Name ?_ (pf_sw W n))
 rw [jE_eq]
 refine Call_method1 rfl (jE_star W _) (by kernel_rfl) ?_
 refine wpAny_Constant_str ?_
 refine ⟨"str","str.join",F.plainAttrs_str,F.slot_str_join,F.type_str_join,typeIs_str _ _ _,(fun _ e=>nomatch e),?_⟩
 refine Calls.callWith_builtin rfl (Calls.evalArgs_plain (Calls.spliced_cons (wpAny_mono ?_ (fun _ _ h₁=>Calls.spliced_nil h₁) fun _ _ e=>e)))
 refine wpAny_with_toks (n:=1) (Nat.le_add_left 1 tk) ?_
 refine wpAny_mono (pf_gen (L:=L) (n:=n) (ta:=ta) (dp:=dp+1) (un:=un+3) (F:=Cx W n::Fr) ok ho (by omega) (fun p hp=>hsz p.1 (List.mem_map_of_mem hp)) hn (fun ys e=>e▸hj) (fun v s=>1<=s.toks->_) _ tk ?_ h n' (tk+1) hs (A2 [[(n+9,fr W [(saq,ta,.ref (n+8))])],[c8 n (Af (sv xs))],[(53,o)]] [2,0,1] (tail:=L)  D)) (fun v s₂ h₂ ht₂=>wpAny_with_toks ht₂ h₂) fun _ _ e=>e
 intro t G' c hb h2 n2 tk2 hs2 D2 ht2
 refine wpAny_with_toks (n:=1) ht2 (Pc.go (p_storeP (L:=c8 n (Af (sv xs))::(53,tb1 W c)::L) ok) (fun tp _ h3 n3 tk3 hs3 D3 ht3=>?_) hs2 (A2 [[(53,tb1 W c)],[(n+9,fr W [(saq,ta,.ref (n+8))])],[c8 n (Af (sv xs))]] [1,2,0] (tail:=L)  D2))
 refine p_tail (L:=c8 n (Af (sv xs))::(53,tb1 W c)::L) ok h1 h2' h3' h4 h5 h6 h7 h8 h9 l0 l1 l2 l3 l4 l5 l6 l7 l8 l9 hco htr _ (fun t' _ h4 n4 tk4 hs4 D4=>?_) _ h3 n3 tk3 ht3 hs3 D3
 exact hR (G',t',c) hb h4 n4 tk4 hs4 (D4.sub (List.sublist_cons_self ..))
theorem platform (ok:W.Ok) {xs:List (Str×Nat)} {z:List Nat} (hA:Good A 600) (ho:Tb W o) (hn:xs.length<=3) (hp:Dh (xs.map (·.1)) z) :
  Tri W A (.call (.ref 58) ⟨xs.map fun p=> .str p.1 p.2,[]⟩) G ((53,o)::L)
  ⟨fun p:List GenState×Nat×Nat=>p.1,fun p=>(∀ y∈G,y.bare=true)->∀ y∈p.1,y.bare=true,fun p=> .ok (.ret (.str ⟨⟨z⟩⟩ p.2.1)),fun p=>(53,tb1 W p.2.2)::L⟩:=by
 refine Tri.good hA fun dp un F hd hu=>?_
 revert hp hn
 match xs with
 | []=>
  intro hn hp
  refine Tri.of fun R n tk hR=>?_
  refine gmore ok 8 4096 ⟨by kernel_rfl,?_⟩
  refine gbody ok (entry W.kt 58 n 9) (by kernel_rfl) (by kernel_rfl) (dp+0) (by kernel_rfl) (by omega) hR (L:=(n+9,fr W [(saq,tk,.ref (n+8))])::c8 n (Af (sv []))::(53,o)::L) (A4 [] 0 (by kernel_rfl)) (DD ok ho (by omega) (by simp) hp)
 | [a0]=>
  intro hn hp
  refine Tri.of fun R n tk hR=>?_
  refine gmore ok 8 4096 ⟨by kernel_rfl,?_⟩
  refine gbody ok (entry W.kt 58 n 9) (by kernel_rfl) (by kernel_rfl) (dp+0) (by kernel_rfl) (by omega) hR (L:=(n+9,fr W [(saq,tk,.ref (n+8))])::c8 n (Af (sv [a0]))::(53,o)::L) (A4 [] 0 (by kernel_rfl)) (DD ok ho (by omega) (by simp) hp)
 | [a0,a1]=>
  intro hn hp
  refine Tri.of fun R n tk hR=>?_
  refine gmore ok 8 4096 ⟨by kernel_rfl,?_⟩
  refine gbody ok (entry W.kt 58 n 9) (by kernel_rfl) (by kernel_rfl) (dp+0) (by kernel_rfl) (by omega) hR (L:=(n+9,fr W [(saq,tk,.ref (n+8))])::c8 n (Af (sv [a0,a1]))::(53,o)::L) (A4 [] 0 (by kernel_rfl)) (DD ok ho (by omega) (by simp) hp)
 | [a0,a1,a2]=>
  intro hn hp
  refine Tri.of fun R n tk hR=>?_
  refine gmore ok 8 4096 ⟨by kernel_rfl,?_⟩
  refine gbody ok (entry W.kt 58 n 9) (by kernel_rfl) (by kernel_rfl) (dp+0) (by kernel_rfl) (by omega) hR (L:=(n+9,fr W [(saq,tk,.ref (n+8))])::c8 n (Af (sv [a0,a1,a2]))::(53,o)::L) (A4 [] 0 (by kernel_rfl)) (DD ok ho (by omega) (by simp) hp)
 | _::_::_::_::_=>
  intro hn
  exact absurd hn (by simp)
theorem B4 (x y:Str):(x++y).length=x.length+y.length:=PySem.strLen_append x y
theorem BF (l:List Nat):(S l).length=l.length:=rfl
theorem B8 {t:Nat} (hx:x.length+y.length<=1000) :
  Tri W A (.call (.builtin "str.__add__") ⟨[.str x t,.str y u],[]⟩) G L (Gives G (fun t':Nat=> .str (x++y) t') fun _=>L):=
 Tri.cb F.slot_str_add F.entry_str_add (F.args_str_add_2 _ _) (fun h _ D=>typeIs_str _ _ _) fun R hR h n tk hs D=>by
  refine gives_str_add x y t u AA W.w A R _ ?_
  have z:∀ t' k,R (.ok (.ret (.str (x++y) t'))) ⟨h,⟨G⟩,W.d,k,W.os⟩:=fun t' k=>hR t' trivial h n k hs D
  by_cases h1:x.length=0
  ·have e:x++y=y:=by
    obtain ⟨⟨a⟩⟩:=x
    have:a=[]:=List.length_eq_zero_iff.mp (by simpa [Str.length] using h1)
    subst this
    obtain ⟨⟨b⟩⟩:=y
    show (⟨(⟨[]⟩:Array Nat)++⟨b⟩⟩:Str)=_
    simp
   rw [e] at z
   simp only [h1,beq_self_eq_true,if_true]
   exact z u _
  ·by_cases h2:y.length=0
   ·have e:x++y=x:=by
     obtain ⟨⟨b⟩⟩:=y
     have:b=[]:=List.length_eq_zero_iff.mp (by simpa [Str.length] using h2)
     subst this
     obtain ⟨⟨a⟩⟩:=x
     show (⟨⟨a⟩++⟨[]⟩⟩:Str)=_
     simp
    rw [e] at z
    simp only [beq_iff_eq,h1,h2,if_false,if_true]
    exact z t _
   ·simp only [beq_iff_eq,h1,h2,if_false]
    exact ⟨by rw [sizeLine_eq,B4];omega,z _ _⟩
noncomputable def BJ (x y:Str):Nat->List Str
 | 0=>[x,y]
 | 1=>[(x++sco),saw,y]
 | 2=>[x,((scq++y)++S [41])]
 | 3=>[x,S [],((scp++y)++S [58])]
 | 4=>[x,S [9],(y++S [59])]
 | 5=>[(S [92]++x),(S [34]++y)]
 | 6=>[((x++sco)++y)]
 | _=>[x,(y++S [46]),saw]
noncomputable abbrev BI (G:List GenState) (x y:Str) (k:Nat) (L:List Cell):Post (Nat×Nat×List (Str×Nat)):=⟨fun _=>G,fun p=>p.2.2.map (·.1)=BJ x y k,fun p=> .ok (.ret (.ref (p.1+8))),fun p=>lS p.1 p.2.2 p.2.1::L⟩
theorem dressed0 (ok:W.Ok) {t v:Nat} (hA:Good A 600) (hx:x.length<=400) (hy:y.length<=400) :
  Tri W A (.call (.ref 197) ⟨[.str x t,.str y u,.int ((0:Nat):Int) v],[]⟩) G L (BI G x y 0 L):=by
 refine Tri.gof hA fun dp un F hd hu R n tk hR=>?_
 refine BC ok 15 68736258048 (entry W.kt 197 n 8) (dp+0) (by omega) ?_
 exact Aj ok 17 4161 hR (n+1,0,[(x,t),(y,u)]) rfl (.ret (.ref (n+1+8))) rfl [1] 1
theorem dressed1 (ok:W.Ok) {t v:Nat} (hA:Good A 600) (hx:x.length<=400) (hy:y.length<=400) :
  Tri W A (.call (.ref 197) ⟨[.str x t,.str y u,.int ((1:Nat):Int) v],[]⟩) G L (BI G x y 1 L):=by
 refine Tri.gof hA fun dp un F hd hu R n tk hR=>?_
 refine BC ok 15 68736258048 (entry W.kt 197 n 8) (dp+0) (by omega) ?_
 refine gcD ok 26 4161 (.call (.builtin "str.__add__") ⟨[.str x t,.str sco (tk+5)],[]⟩) (AF W n [(sao,tk,.str x t),(sbg,tk+1,.str y u),(sbk,tk+2,.int ((1:Nat):Int) v)]::L) [] 0 A6 (fun _ eA=>B8 (by simp only [B4,BF,List.length_cons,List.length_nil];omega)) fun t0 n0 tk0 _=>?_
 exact Aj ok 4 1 hR (n0,0,[(x++sco,t0),(saw,tk0),(y,u)]) rfl (.ret (.ref (n0+8))) rfl [1] 1
theorem dressed2 (ok:W.Ok) {t v:Nat} (hA:Good A 600) (hx:x.length<=400) (hy:y.length<=400) :
  Tri W A (.call (.ref 197) ⟨[.str x t,.str y u,.int ((2:Nat):Int) v],[]⟩) G L (BI G x y 2 L):=by
 refine Tri.gof hA fun dp un F hd hu R n tk hR=>?_
 refine BC ok 15 68736258048 (entry W.kt 197 n 8) (dp+0) (by omega) ?_
 refine gcD ok 37 17043521 (.call (.builtin "str.__add__") ⟨[.str scq (tk+6),.str y u],[]⟩) (AF W n [(sao,tk,.str x t),(sbg,tk+1,.str y u),(sbk,tk+2,.int ((2:Nat):Int) v)]::L) [] 0 A6 (fun _ eA=>B8 (by simp only [B4,BF,List.length_cons,List.length_nil];omega)) fun t0 n0 tk0 _=>?_
 refine gcD ok 3 0 (.call (.builtin "str.__add__") ⟨[.str (scq++y) t0,.str (S [41]) tk0],[]⟩) (AF W n [(sao,tk,.str x t),(sbg,tk+1,.str y u),(sbk,tk+2,.int ((2:Nat):Int) v)]::L) [] 0 A6 (fun _ eA=>B8 (by simp only [B4,BF,List.length_cons,List.length_nil];omega)) fun t1 n1 tk1 _=>?_
 exact Aj ok 1 0 hR (n1,0,[(x,t),((scq++y)++S [41],t1)]) rfl (.ret (.ref (n1+8))) rfl [1] 1
theorem dressed3 (ok:W.Ok) {t v:Nat} (hA:Good A 600) (hx:x.length<=400) (hy:y.length<=400) :
  Tri W A (.call (.ref 197) ⟨[.str x t,.str y u,.int ((3:Nat):Int) v],[]⟩) G L (BI G x y 3 L):=by
 refine Tri.gof hA fun dp un F hd hu R n tk hR=>?_
 refine BC ok 15 68736258048 (entry W.kt 197 n 8) (dp+0) (by omega) ?_
 refine gcD ok 47 1090785345 (.call (.builtin "str.__add__") ⟨[.str scp (tk+8),.str y u],[]⟩) (AF W n [(sao,tk,.str x t),(sbg,tk+1,.str y u),(sbk,tk+2,.int ((3:Nat):Int) v)]::L) [] 0 A6 (fun _ eA=>B8 (by simp only [B4,BF,List.length_cons,List.length_nil];omega)) fun t0 n0 tk0 _=>?_
 refine gcD ok 3 0 (.call (.builtin "str.__add__") ⟨[.str (scp++y) t0,.str (S [58]) tk0],[]⟩) (AF W n [(sao,tk,.str x t),(sbg,tk+1,.str y u),(sbk,tk+2,.int ((3:Nat):Int) v)]::L) [] 0 A6 (fun _ eA=>B8 (by simp only [B4,BF,List.length_cons,List.length_nil];omega)) fun t1 n1 tk1 _=>?_
 exact Aj ok 1 0 hR (n1,0,[(x,t),(S [],tk+7),((scp++y)++S [58],t1)]) rfl (.ret (.ref (n1+8))) rfl [1] 1
theorem dressed4 (ok:W.Ok) {t v:Nat} (hA:Good A 600) (hx:x.length<=400) (hy:y.length<=400) :
  Tri W A (.call (.ref 197) ⟨[.str x t,.str y u,.int ((4:Nat):Int) v],[]⟩) G L (BI G x y 4 L):=by
 refine Tri.gof hA fun dp un F hd hu R n tk hR=>?_
 refine BC ok 15 68736258048 (entry W.kt 197 n 8) (dp+0) (by omega) ?_
 refine gcD ok 56 69810262081 (.call (.builtin "str.__add__") ⟨[.str y u,.str (S [59]) (tk+9)],[]⟩) (AF W n [(sao,tk,.str x t),(sbg,tk+1,.str y u),(sbk,tk+2,.int ((4:Nat):Int) v)]::L) [] 0 A6 (fun _ eA=>B8 (by simp only [B4,BF,List.length_cons,List.length_nil];omega)) fun t0 n0 tk0 _=>?_
 exact Aj ok 1 0 hR (n0,0,[(x,t),(S [9],tk+8),(y++S [59],t0)]) rfl (.ret (.ref (n0+8))) rfl [1] 1
theorem dressed5 (ok:W.Ok) {t v:Nat} (hA:Good A 600) (hx:x.length<=400) (hy:y.length<=400) :
  Tri W A (.call (.ref 197) ⟨[.str x t,.str y u,.int ((5:Nat):Int) v],[]⟩) G L (BI G x y 5 L):=by
 refine Tri.gof hA fun dp un F hd hu R n tk hR=>?_
 refine BC ok 15 68736258048 (entry W.kt 197 n 8) (dp+0) (by omega) ?_
 refine gcD ok 62 69810262081 (.call (.builtin "str.__add__") ⟨[.str (S [92]) (tk+9),.str x t],[]⟩) (AF W n [(sao,tk,.str x t),(sbg,tk+1,.str y u),(sbk,tk+2,.int ((5:Nat):Int) v)]::L) [] 0 A6 (fun _ eA=>B8 (by simp only [B4,BF,List.length_cons,List.length_nil];omega)) fun t0 n0 tk0 _=>?_
 refine gcD ok 5 1 (.call (.builtin "str.__add__") ⟨[.str (S [34]) tk0,.str y u],[]⟩) (AF W n [(sao,tk,.str x t),(sbg,tk+1,.str y u),(sbk,tk+2,.int ((5:Nat):Int) v)]::L) [] 0 A6 (fun _ eA=>B8 (by simp only [B4,BF,List.length_cons,List.length_nil];omega)) fun t1 n1 tk1 _=>?_
 exact Aj ok 1 0 hR (n1,0,[(S [92]++x,t0),(S [34]++y,t1)]) rfl (.ret (.ref (n1+8))) rfl [1] 1
theorem dressed6 (ok:W.Ok) {t v:Nat} (hA:Good A 600) (hx:x.length<=400) (hy:y.length<=400) :
  Tri W A (.call (.ref 197) ⟨[.str x t,.str y u,.int ((6:Nat):Int) v],[]⟩) G L (BI G x y 6 L):=by
 refine Tri.gof hA fun dp un F hd hu R n tk hR=>?_
 refine BC ok 15 68736258048 (entry W.kt 197 n 8) (dp+0) (by omega) ?_
 refine gcD ok 71 4467856773185 (.call (.builtin "str.__add__") ⟨[.str x t,.str sco (tk+10)],[]⟩) (AF W n [(sao,tk,.str x t),(sbg,tk+1,.str y u),(sbk,tk+2,.int ((6:Nat):Int) v)]::L) [] 0 A6 (fun _ eA=>B8 (by simp only [B4,BF,List.length_cons,List.length_nil];omega)) fun t0 n0 tk0 _=>?_
 refine gcD ok 4 1 (.call (.builtin "str.__add__") ⟨[.str (x++sco) t0,.str y u],[]⟩) (AF W n [(sao,tk,.str x t),(sbg,tk+1,.str y u),(sbk,tk+2,.int ((6:Nat):Int) v)]::L) [] 0 A6 (fun _ eA=>B8 (by simp only [B4,BF,List.length_cons,List.length_nil];omega)) fun t1 n1 tk1 _=>?_
 exact Aj ok 1 0 hR (n1,0,[((x++sco)++y,t1)]) rfl (.ret (.ref (n1+8))) rfl [1] 1
theorem dressed7 (ok:W.Ok) {t v:Nat} (hA:Good A 600) (hx:x.length<=400) (hy:y.length<=400) :
  Tri W A (.call (.ref 197) ⟨[.str x t,.str y u,.int ((7:Nat):Int) v],[]⟩) G L (BI G x y 7 L):=by
 refine Tri.gof hA fun dp un F hd hu R n tk hR=>?_
 refine BC ok 15 68736258048 (entry W.kt 197 n 8) (dp+0) (by omega) ?_
 refine gcD ok 73 285942833483841 (.call (.builtin "str.__add__") ⟨[.str y u,.str (S [46]) (tk+10)],[]⟩) (AF W n [(sao,tk,.str x t),(sbg,tk+1,.str y u),(sbk,tk+2,.int ((7:Nat):Int) v)]::L) [] 0 A6 (fun _ eA=>B8 (by simp only [B4,BF,List.length_cons,List.length_nil];omega)) fun t0 n0 tk0 _=>?_
 exact Aj ok 2 0 hR (n0,0,[(x,t),(y++S [46],t0),(saw,tk0)]) rfl (.ret (.ref (n0+8))) rfl [1] 1
theorem dressed (ok:W.Ok) {t v k:Nat} (hk:k<8) (hA:Good A 600) (hx:x.length<=400) (hy:y.length<=400) :
  Tri W A (.call (.ref 197) ⟨[.str x t,.str y u,.int (k:Int) v],[]⟩) G L (BI G x y k L):=by
 exact lts8 (P:=fun k:Nat=>Tri W A (.call (.ref 197) ⟨[.str x t,.str y u,.int (k:Int) v],[]⟩) G L (BI G x y k L)) (dressed0 ok hA hx hy) (dressed1 ok hA hx hy) (dressed2 ok hA hx hy) (dressed3 ok hA hx hy) (dressed4 ok hA hx hy) (dressed5 ok hA hx hy) (dressed6 ok hA hx hy) (dressed7 ok hA hx hy) hk
end
section
open PySem PySem.W PySem.W.X PySem.Calls PySem.Spec PyProof.Rows PySem.Builtin
variable {W:Wd} {L:List Cell} {G:List GenState} {n dp un e i c it D a tk m acc l u e2 e1:Nat} {A:Around} {F Fr:List Env} {h:Heap} {b:Bool} {R:Result->Shared->Prop}
noncomputable def rit (i k:Nat):Obj:=⟨.type "range_iterator",none,.fields #[.int (i:Int) 0,.int (k:Int) 0,.int 1 0],#[]⟩
theorem rnext {k:Nat} :
  Tri W A (.call (.builtin "range_iterator.__next__") ⟨[.ref it],[]⟩) G ((it,rit i (k+1))::L) (Gives G (fun t:Nat=> .int (i:Int) t) fun _=>(it,rit (i+1) k)::L):=
 Tri.cb F.slot_range_iterator_next F.entry_range_iterator_next (F.args_range_iterator_next_1 _) (fun h _ D=>⟨_,D.at0,rfl⟩) fun R hR h n tk hs D=>by
  refine AutoRange.range_iterator___next___range_iterator_1 it i ((k+1:Nat):Int) 1 (by omega) _ _ A R _ ⟨D.at0,?_⟩
  have D1:=D.update (i:=0) (f:=Obj.mapFields fun x_1=>x_1.setIfInBounds 0 (rawInt ((i:Int)+1))) rfl rfl
  have D2:=D1.update (i:=0) (f:=Obj.mapFields fun x=>x.setIfInBounds 1 (rawInt (((k+1:Nat):Int) - 1))) rfl rfl
  refine hR tk trivial _ n (tk+1) (by rw [(Heap.SameBut.update ..).1,(Heap.SameBut.update ..).1];exact hs) (cast ?_ D2)
  have e:(((k+1:Nat):Int) - 1)=(k:Int):=by omega
  show Own _ _ _ ((it,(⟨.type "range_iterator",none,.fields #[.int ((i:Int)+1) 0,.int (((k+1:Nat):Int) - 1) 0,.int 1 0],#[]⟩:Obj))::L)=_
  rw [e];rfl
theorem rend :
  Tri W (Ar dp un Fr) (.call (.builtin "range_iterator.__next__") ⟨[.ref it],[]⟩) G ((it,rit i 0)::L)
   ⟨fun _:Nat×Nat=>G,fun _=>True,fun p=> .error (.ref (p.1+8)),fun p=>c8 p.1 (stopO (p.2+8))::c8 p.2 (Af #[])::(it,rit i 0)::L⟩:=by
 refine Tri.cb F.slot_range_iterator_next F.entry_range_iterator_next (F.args_range_iterator_next_1 _) (fun h _ D=>⟨_,D.at0,rfl⟩) fun R hR h n tk hs D=>?_
 show wpAny _ _ (field (.ref it) 0>>=_) _ _ _
 refine wpAny_bind (wpAny_field D.at0 rfl (x:= .int (i:Int) 0) rfl ?_)
 show wpAny _ _ (field (.ref it) 1>>=_) _ _ _
 refine wpAny_bind (wpAny_field D.at0 rfl (x:= .int ((0:Nat):Int) 0) rfl ?_)
 show wpAny _ _ (field (.ref it) 2>>=_) _ _ _
 refine wpAny_bind (wpAny_field D.at0 rfl (x:= .int 1 0) rfl ?_)
 show wpAny _ _ (if (((0:Nat):Int))<=0 then _ else _) _ _ _
 rw [if_pos (by decide)]
 refine wpAny_bind (wpAny_rule ?_)
 refine wpAny_bind ?_
 show wpAny _ _ (newExc (.type "StopIteration") []>>=_) _ _ _
 refine wpAny_bind ?_
 simp only [newExc,newTuple]
 refine wpAny_bind (wpAny_newObj_type ?_ (by size_fits))
 refine wpAny_bind (m:=firstArgMember _ _) (wpAny_of_eq (a:=Value.none) (by first | rfl | (simp only [firstArgMember];rfl)) ?_)
 refine wpAny_newObj_type ?_ (by size_fits)
 simp only [raiseNew]
 refine wpAny_bind (wpAny_handled ?_)
 refine wpAny_throw ?_
 have D2:=D.alloc (o:={ cls:= .type "tuple",data:= .seq #[] }) rfl
 have D3:=D2.alloc (o:={ cls:= .type "StopIteration",data:= .fields #[.ref (n+8),.none,.none,.none,.bool false,.none] }) rfl
 rw [Heap.size_push,hs] at D3
 refine cast ?_ (hR (n+1,n) trivial _ (n+2) tk (by rw [Heap.size_push,Heap.size_push,hs]) D3)
 rw [hs,Heap.size_push,hs]
 rfl
theorem Pc.at {A':Around} {α β:Type} {m:Sem α} {Q:A3 α β} (e:A=A') (x:Pc W A' m G L Q):Pc W A m G L Q:=e▸x
theorem gcallp {r:GR} (f:Value) (vs:List Value) {β:Type} {Q:A3 Value β} (hb:(easy r&&(hdC (BD r)).isNone)=true) (hc:BO (BD r)=some (.call f ⟨vs,[]⟩))
  (hL:∀ h,Own W.h₀ 53 h (CX r)->Own W.h₀ 53 h L)
  (spec:Pc W ((AT A (κOf r)).under (cOf r)) (PySem.call f vs) G L Q)
  (next:∀ p n' tk',Q.P p->AG (bs b W A R n' tk' (Q.G p)) (back r (.ok (.ret (Q.v p))) (Q.L p))):AG (bs b W A R n tk G) r:=by
 obtain ⟨he,q⟩:=Bool.and_eq_true_iff.mp hb
 have hd:hdC (BD r)=none:=Option.isNone_iff_eq_none.mp q
 refine B0 he fun h hs D=>?_
 rw [Dq hc,hd]
 intro Γ p hcΓ hΓ hcb
 have hin:Γ.In ((AT A (κOf r)).under (cOf r)):=by
  rw [Be W A R]
  exact hcΓ▸hΓ.in
 have z:=spec (fun v s=>∃ p,Q.P p/\v=Q.v p/\∃ h' n' tk',s=⟨h',⟨Q.G p⟩,W.d,tk',W.os⟩/\h'.objs.size=n'+8/\Own W.h₀ 53 h' (Q.L p)) (fun p hp h' n' tk' hs' D'=>⟨p,hp,rfl,h',n',tk',rfl,hs',D'⟩) (fun _ _=>False) h _ (tk+iOf r) hs (hL h D) Γ p hin
 unfold PySem.call at z
 rw [Sem.wp_runValue] at z
 obtain ⟨r₁,s₁,hret,hr₁⟩:=z
 show wpCode W.M (Γ.enter (.call f ⟨vs,[]⟩) none p) _ p _
 refine ⟨r₁,s₁,hret,?_⟩
 cases r₁ with
 | error e=>exact hr₁.elim
 | ok f=>
 cases f with
 | ret v=>
  obtain ⟨q,hq,rfl,h',n',tk',rfl,hs',D'⟩:=hr₁
  have y:=next q n' tk' hq
  unfold back AG at y
  replace y:=y h' hs' D'
  rw [show (bs b W A R n' tk' (Q.G q)).G++[]=Q.G q from List.append_nil _] at y
  exact y Γ p hcΓ hΓ hcb
 | _=>exact hr₁.elim
noncomputable def Wd.Low (W:Wd):Prop:=W.h₀.objs.size<=208
theorem low_size (ok:W.Ok) (hz:W.Low) (keep:∀ b o,W.h₀.get? b=some o->b≠53->h.get? b=some o):W.h₀.objs.size<=h.objs.size:=by
 obtain ⟨o,e⟩:∃ o,W.kt.get 207=some o:=⟨o207 W.w₀.params,by kernel_rfl⟩
 have z:=KT.Holds.get ok.1 e
 rw [Nat.one_mul,Nat.add_zero] at z
 have:207<h.objs.size:=Heap.lt_size (keep 207 o z (by decide))
 unfold Wd.Low at hz
 omega
theorem Own.moved2 (ok:W.Ok) (hz:W.Low) {h':Heap} {wr:List Addr} (D:Own W.h₀ 53 h L) (hk:∀ b o,b∉wr->h.get? b=some o->h'.get? b=some o) (hw:∀ b∈wr,W.h₀.get? b=none) (hL:∀ p∈L,p.1∉wr):Own W.h₀ 53 h' L:=
 have k:∀ b o,W.h₀.get? b=some o->b≠53->h'.get? b=some o:=fun b o e q=>hk b o (fun hm=>by rw [hw b hm] at e;cases e) (D.keep b o e q)
 ⟨k,fun p hp=>hk _ _ (hL p hp) (D.own p hp),D.nd,D.new,low_size ok hz k⟩
theorem sum_p (ok:W.Ok) (hz:W.Low) {xs:List (Int×Nat)} :
  Pc W (Ar dp un Fr) (PySem.call (.builtin "sum") [.ref l]) G ((l,A1 (iv xs) e)::L) (⟨fun _=>G,fun _=>True,fun p=> .int p.1 p.2,fun _=>(l,A1 (iv xs) e)::L⟩:A3 Value (Int×Nat)):=by
 intro K hK E h n tk hs D
 have hlt:l<h.objs.size:=Heap.lt_size D.at0
 refine call_sum_walkAnyS (wpAny_pyIter_list ⟨_,D.at0,rfl,_,rfl⟩ ?_)
 refine ⟨h.objs.size,[h.objs.size,l],[h.objs.size],_,(iv xs).size,_,_,fun i=>((xs[i]?).map (·.1)).getD 0,rfl,(Walks.list rfl _ l (Nat.ne_of_lt hlt) (iv xs)).toS,⟨⟨_,Heap.get?_push_size _ rfl,rfl,rfl⟩,⟨_,Heap.get?_push_of_some _ D.at0,rfl,_,rfl⟩⟩,?_,?_,fun s' t' hm=>?_⟩
 ·intro b hb
  show b<(h.push _).objs.size
  rw [Heap.size_push]
  simp only [List.mem_cons,List.not_mem_nil,or_false] at hb
  rcases hb with rfl | rfl
  ·exact Nat.lt_succ_self _
  ·exact Nat.lt_succ_of_lt hlt
 ·intro i v hv
  simp only [iv,List.getElem?_toArray,List.getElem?_map,Option.map_eq_some_iff] at hv
  obtain ⟨p,hp,rfl⟩:=hv
  exact ⟨p.2,by show _=Value.int (((xs[i]?).map (·.1)).getD 0) p.2;rw [hp];rfl⟩
 ·have D2:Own W.h₀ 53 s'.heap ((l,A1 (iv xs) e)::L):=D.moved2 ok hz (wr:=[h.objs.size]) (fun b o hb e=>hm.heap b o hb (Heap.get?_push_of_some _ e))
   (fun b hb=>by rw [List.mem_singleton.mp hb];exact AY D.sz)
   (fun p hp hb=>Nat.lt_irrefl _ (by
    have:=Heap.lt_size (D.own p hp)
    rw [List.mem_singleton.mp hb] at this
    exact this))
  have e8:s'.heap.objs.size=s'.heap.objs.size - 8+8:=by
   have:207<s'.heap.objs.size:=by
    obtain ⟨o,e⟩:∃ o,W.kt.get 207=some o:=⟨o207 W.w₀.params,by kernel_rfl⟩
    have z:=KT.Holds.get ok.1 e
    rw [Nat.one_mul,Nat.add_zero] at z
    exact Heap.lt_size (D2.keep 207 o z (by decide))
   omega
  have z:=hK (preSum (fun i=>((xs[i]?).map (·.1)).getD 0) (iv xs).size,t') trivial s'.heap _ s'.toks e8 D2
  have eg:s'.gens=⟨G⟩:=hm.gens
  refine cast ?_ z
  rw [← show s'.drawn=W.d from hm.drawn,← show s'.os=W.os from hm.os,← eg]
noncomputable def slcI (i u v:Nat):Obj:=⟨.type "slice",none,.fields #[.int (i:Int) u,.none,.int 6 v],#[]⟩
theorem pick_iv (xs:List (Int×Nat)) (lo hi st:Option Int):∃ ys:List (Int×Nat),slicePick (iv xs) lo hi st=iv ys/\ys.length<=xs.length:=by
 have h:∀ v∈(slicePick (iv xs) lo hi st).toList,∃ p:Int×Nat,v= .int p.1 p.2:=by
  intro v hv
  unfold slicePick at hv
  rw [List.toList_toArray,List.mem_filterMap] at hv
  obtain ⟨i,_,hi⟩:=hv
  simp only [iv,List.getElem?_toArray,List.getElem?_map,Option.map_eq_some_iff] at hi
  obtain ⟨p,_,rfl⟩:=hi
  exact ⟨p,rfl⟩
 have g:∀ l:List Value,(∀ v∈l,∃ p:Int×Nat,v= .int p.1 p.2)->∃ ys:List (Int×Nat),l=ys.map fun p=>Value.int p.1 p.2:=by
  intro l
  induction l with
  | nil=>exact fun _=>⟨[],rfl⟩
  | cons v l ih=>
   intro h
   obtain ⟨p,rfl⟩:=h v (List.mem_cons_self ..)
   obtain ⟨ys,rfl⟩:=ih fun w hw=>h w (List.mem_cons_of_mem _ hw)
   exact ⟨p::ys,rfl⟩
 obtain ⟨ys,e⟩:=g _ h
 have e2:slicePick (iv xs) lo hi st=iv ys:=by
  rw [← Array.toArray_toList (xs:=slicePick (iv xs) lo hi st),e]
 refine ⟨ys,e2,?_⟩
 have z:=slicePick_size_le (iv xs) lo hi st
 rw [e2] at z
 simpa [iv] using z
theorem DY {v:Nat} {xs:List (Int×Nat)} (hx:xs.length<=1000) :
  Tri W A (.call (.builtin "list.__getitem__") ⟨[.ref l,.ref a],[]⟩) G ((a,slcI i u v)::(l,A1 (iv xs) e)::L)
   ⟨fun _=>G,fun p:Nat×List (Int×Nat)=>p.2.length<=xs.length,fun p=> .ok (.ret (.ref (p.1+8))),fun p=>lI p.1 p.2 0::(l,A1 (iv xs) e)::L⟩:=
 Tri.cb slot_list_getitem entry_list_getitem (args_list_getitem _ _) (fun h _ D=>⟨_,D.at1,rfl⟩) fun R hR h n tk hs D=>by
  have hTs:(⟨h,⟨G⟩,W.d,tk,W.os⟩:Shared).TypeIs (.ref a) "slice":=⟨_,D.at0,rfl⟩
  obtain ⟨ys,ey,hy⟩:=pick_iv xs (some (i:Int)) none (some 6)
  show wpAny _ _ (Builtin.List.listSubscript? (.ref a)>>=_) _ _ _
  refine wpAny_bind ?_
  unfold Builtin.List.listSubscript?
  refine wpAny_bind (wpAny_specialOf hTs slice_no_index ?_)
  simp only [Option.isNone_none,if_true]
  refine wpAny_pure ?_
  show wpAny _ _ (typeOf (.ref a)>>=_) _ _ _
  refine wpAny_bind (wpAny_typeOf hTs ?_)
  rw [if_neg (by decide),listSliceParts_eq]
  refine wpAny_bind (wpAny_bind (wpAny_field D.at0 rfl (x:= .int 6 v) rfl (wpAny_bind (wpAny_listPart (.int 6 v) ?_))))
  rw [if_neg (by decide)]
  refine wpAny_bind (wpAny_field D.at0 rfl (x:= .int (i:Int) u) rfl (wpAny_bind (wpAny_listPart (.int i u) ?_)))
  refine wpAny_bind (wpAny_field D.at0 rfl (x:= .none) rfl (wpAny_bind (wpAny_listPart .none (wpAny_pure ?_))))
  refine wpAny_bind (m:=Builtin.List.listItems (.ref l)) ?_
  unfold Builtin.List.listItems
  refine wpAny_bind (wpAny_seqItems D.at1 rfl (wpAny_pure ?_))
  refine wpAny_bind (wpAny_of_eq (sliceIndices_raw (some (i:Int)) none (some 6) (iv xs).size (by decide)) ?_)
  have D2:=(D.sub (List.sublist_cons_self ..)).alloc (o:={ cls:= .type "list",data:= .seq (slicePick (iv xs) (some (i:Int)) none (some 6)) }) rfl
  rw [ey,hs] at D2
  have z:R (.ok (.ret (.ref (n+8)))) ⟨h.push { cls:= .type "list",data:= .seq (iv ys) },⟨G⟩,W.d,tk,W.os⟩:=hR (n,ys) hy _ (n+1) tk (by rw [Heap.size_push,hs]) D2
  refine wpAny_bind (wpAny_newObj_type (wpAny_pure ?_) (Nat.le_trans (slicePick_size_le (iv xs) _ _ _) (by rw [sizeLine_eq];simp [iv];omega)))
  rw [← ey,← hs] at z
  exact z
noncomputable def retA (s:Stmt):PySem.Expr:=(Br s).e
noncomputable def celO (v:Value):Obj:=⟨.type "cell",none,.cell (some v),#[]⟩
noncomputable abbrev cC (a b:Nat):Cell:=(a,celO (.ref (b+8)))
noncomputable def lcC (W:Wd) (it acc n D:Nat):Code:= .compLoop (retA (AE (Ak W.kt 183) 1)) 0 (.ref (it+8)) (.ref (acc+8)) (Cm (A5 W.kt 183 n 8) (retA (AE (Ak W.kt 183) 1)) (D+8) [(sag,n+9),(sal,n+10)])
theorem iv_push (l:List (Int×Nat)) (x:Int) (t:Nat):(iv l).push (.int x t)=iv (l++[(x,t)]):=by simp [iv]
noncomputable abbrev lcQ (W:Wd) (G:List GenState) (L:List Cell) (l e n acc D c e2 m:Nat) (xs bb:List (Int×Nat)):Post ((Nat×Value)×List (Int×Nat)×Nat):=
 Nx G (fun p=>c8 D (lo W [(sac,p.1.1,p.1.2)])::lI acc p.2.1 p.2.2::cC (n+9) l::cC (n+10) c::lI c bb e2::lI l xs e::L) fun p=>p.2.1.length=m
theorem lc_b (ok:W.Ok) (hz:W.Low) {xs bb:List (Int×Nat)} (hd:dp<=700) (hu:un<=700) (hx:xs.length<=100) (hbb:bb.length=6) :
  ∀ (k i tp e1:Nat) (v:Value) (cs:List (Int×Nat)),i+k=6->cs.length+k<=100->Tri W (Ar dp un F) (lcC W it acc n D) G (c8 D (lo W [(sac,tp,v)])::lI acc cs e1::c8 it (rit i k)::cC (n+9) l::cC (n+10) c::lI c bb e2::lI l xs e::L) (lcQ W G L l e n acc D c e2 (cs.length+k) xs bb):=by
 intro k
 induction k with
 | zero=>
  intro i tp e1 v cs hik hc
  refine Tri.of fun R n' tk hR=>?_
  refine AU ok 2 3 (.call (.builtin "range_iterator.__next__") ⟨[.ref (it+8)],[]⟩) [2] (c8 it (rit i 0)) (BP (Ar dp un F)) (fun _ _ eA=>Tri.at eA rend) fun p n₀ tk₀ _=>?_
  exact Aj ok 1 1 hR ((tp,v),cs,e1) rfl .next rfl [0,1,2] 3
 | succ k ih=>
  intro i tp e1 v cs hik hc
  obtain ⟨b,hi⟩:∃ b,bb[i]?=some b:=⟨bb[i]'(by omega),List.getElem?_eq_getElem (by omega)⟩
  refine Tri.of fun R n' tk hR=>?_
  refine AU ok 2 3 (.call (.builtin "range_iterator.__next__") ⟨[.ref (it+8)],[]⟩) [2] (c8 it (rit i (k+1))) A6 (fun _ _ eA=>rnext) fun t0 n₀ tk₀ _=>?_
  refine AU ok 15 418860519490 (.call (.builtin "list.__getitem__") ⟨[.ref (c+8),.int ((i:Nat):Int) t0],[]⟩) [5] (lI c bb e2) A6 (fun _ _ eA=>Aa (x:= .int b.1 b.2) (by omega) (by omega) (by simp [iv,hi])) fun _ n₁ tk₁ _=>?_
  refine Cg ok 13 558480773120 (.call (.builtin "list.__getitem__") ⟨[.ref (l+8),.ref (n₁+8)],[]⟩) [0,7] (c8 n₁ (slcI i t0 tk₁)) (lI l xs e) A6 (fun _ _ eA=>DY (by omega)) fun p n₂ tk₂ hp=>?_
  refine gmore ok 2 0 ⟨by kernel_rfl,?_⟩
  refine gcallp (.builtin "sum") [.ref (p.1+8)] (by kernel_rfl) (by kernel_rfl) (own1 [0] (lI p.1 p.2 0) (by kernel_rfl)) (Pc.at (by kernel_rfl:_=Ar dp un F) (sum_p ok hz)) fun s n₃ tk₃ _=>?_
  refine AU ok 6 0 (.call (.builtin "list.append") ⟨[.ref (acc+8),.int (b.1+s.1) tk₃],[]⟩) [5] (lI acc cs e1) A6 (fun _ _ eA=>A8 (by simp [iv];omega)) fun e' n₄ tk₄ _=>?_
  exact gmagn ok 0 0 (lcC W it acc n D) hR (L:=c8 D (lo W [(sac,tp,.int ((i:Nat):Int) t0)])::(acc+8,A1 (iv (cs++[(b.1+s.1,tk₃)])) e')::c8 it (rit (i+1) k)::cC (n+9) l::cC (n+10) c::lI c bb e2::lI l xs e::L)
   (fun h D=>(iv_push cs (b.1+s.1) tk₃)▸A4 [1,5,0,4,6,7,3,2] 1 (by kernel_rfl) h D) (by have z:=ih (i+1) tp e' (.int (i:Int) t0) (cs++[(b.1+s.1,tk₃)]) (by omega) (by simp;omega);simp only [List.length_append,List.length_cons,List.length_nil,Nat.zero_add,Nat.add_assoc,Nat.add_comm 1 k] at z ⊢;exact z)
theorem lc_a (ok:W.Ok) (hz:W.Low) {xs bb:List (Int×Nat)} (hd:dp<=700) (hu:un<=700) (hx:xs.length<=100) (hbb:bb.length=6) :
  Tri W (Ar dp un F) (lcC W it acc n D) G (c8 D (lo W [])::lI acc [] e1::c8 it (rit 0 6)::cC (n+9) l::cC (n+10) c::lI c bb e2::lI l xs e::L) (lcQ W G L l e n acc D c e2 6 xs bb):=by
 obtain ⟨b,hi⟩:∃ b,bb[0]?=some b:=⟨bb[0]'(by omega),List.getElem?_eq_getElem (by omega)⟩
 obtain ⟨cs,hcs⟩:∃ cs:List (Int×Nat),cs=[]:=⟨_,rfl⟩
 rw [← hcs]
 have hc:cs.length=0:=by rw [hcs];rfl
 refine Tri.of fun R n' tk hR=>?_
 refine AU ok 2 3 (.call (.builtin "range_iterator.__next__") ⟨[.ref (it+8)],[]⟩) [2] (c8 it (rit 0 (5+1))) A6 (fun _ _ eA=>rnext) fun t0 n₀ tk₀ _=>?_
 refine AU ok 15 418860519490 (.call (.builtin "list.__getitem__") ⟨[.ref (c+8),.int ((0:Nat):Int) t0],[]⟩) [5] (lI c bb e2) A6 (fun _ _ eA=>Aa (x:= .int b.1 b.2) (by omega) (by omega) (by simp [iv,hi])) fun _ n₁ tk₁ _=>?_
 refine Cg ok 13 558480773120 (.call (.builtin "list.__getitem__") ⟨[.ref (l+8),.ref (n₁+8)],[]⟩) [0,7] (c8 n₁ (slcI 0 t0 tk₁)) (lI l xs e) A6 (fun _ _ eA=>DY (by omega)) fun p n₂ tk₂ hp=>?_
 refine gmore ok 2 0 ⟨by kernel_rfl,?_⟩
 refine gcallp (.builtin "sum") [.ref (p.1+8)] (by kernel_rfl) (by kernel_rfl) (own1 [0] (lI p.1 p.2 0) (by kernel_rfl)) (Pc.at (by kernel_rfl:_=Ar dp un F) (sum_p ok hz)) fun s n₃ tk₃ _=>?_
 refine AU ok 6 0 (.call (.builtin "list.append") ⟨[.ref (acc+8),.int (b.1+s.1) tk₃],[]⟩) [5] (lI acc cs e1) A6 (fun _ _ eA=>A8 (by simp [iv];omega)) fun e' n₄ tk₄ _=>?_
 exact gmagn ok 0 0 (lcC W it acc n D) hR (L:=c8 D (lo W [(sac,tk₀,.int ((0:Nat):Int) t0)])::(acc+8,A1 (iv (cs++[(b.1+s.1,tk₃)])) e')::c8 it (rit (0+1) 5)::cC (n+9) l::cC (n+10) c::lI c bb e2::lI l xs e::L)
  (fun h D=>(iv_push cs (b.1+s.1) tk₃)▸A4 [1,5,0,4,6,7,3,2] 1 (by kernel_rfl) h D) (by have z:=lc_b (G:=G) (L:=L) (F:=F) (l:=l) (e:=e) (n:=n) (it:=it) (acc:=acc) (D:=D) (c:=c) (e2:=e2) (xs:=xs) (bb:=bb) ok hz hd hu hx hbb 5 1 tk₀ e' (.int (0:Int) t0) (cs++[(b.1+s.1,tk₃)]) (by omega) (by simp;omega);rw [show (cs++[(b.1+s.1,tk₃)]).length+5=6 by simp;omega] at z;exact z)
noncomputable def lcS (W:Wd) (it acc n D:Nat):Code:= .compStart (retA (AE (Ak W.kt 183) 1)) 0 (.ref (it+8)) (.ref (acc+8)) (Cm (A5 W.kt 183 n 8) (retA (AE (Ak W.kt 183) 1)) (D+8) [(sag,n+9),(sal,n+10)])
theorem lc_start (ok:W.Ok) {k:Nat} {α:Type} {Q:Post α} (spec:Tri W A (lcC W it acc n D) G (c8 it (rit i k)::L) Q):Tri W A (lcS W it acc n D) G (c8 it (rit i k)::L) Q:=by
 obtain ⟨w₀,b2,b3,h₀,dd,os⟩:=W
 cases b2
 ·refine Tri.of fun R n' tk hR=>?_
  exact Cq ok 11 266305 (lcC _ it acc n D) _ [] 0 hR spec
 ·refine Tri.of fun R n' tk hR=>?_
  exact Cq ok 1 0 (lcC _ it acc n D) _ [] 0 hR spec
theorem law_cells (ok:W.Ok) (hz:W.Low) {xs:List (Int×Nat)} (hA:Good A 600) (hx:xs.length<=100) :
  Tri W A (.call (.ref 183) ⟨[.ref (l+8)],[]⟩) G (lI l xs e::L)
  ⟨fun _=>G,fun p:Nat×List (Int×Nat)×Nat=>p.2.1.length=6,fun p=> .ok (.ret (.ref (p.1+8))),fun p=>lI p.1 p.2.1 p.2.2::lI l xs e::L⟩:=by
 refine Tri.gof hA fun dp un F hd hu R n tk hR=>?_
 refine BC ok 7 270336 (entry W.kt 183 n 8) (dp+0) (by omega) ?_
 refine gcD ok 54 19649841893418734521942082 (lcS W (n+5) (n+6) n (n+7)) (c8 (n+5) (rit 0 6)::c8 (n+7) (lo W [])::lI (n+6) [] 0::cC (n+9) l::cC (n+10) (n+3)::lI (n+3) [(14094,tk),(3160,tk+1),(243,tk+2),(24312,tk+3),(1459,tk+4),(1836,tk+5)] 0::lI l xs e::L) [3,7,2,0,1,6,5,4,8] 2 (BP (Ar (dp+1) (un+3) (A5 W.kt 183 n 8::F))) (fun _ eA=>lc_start ok (Tri.at eA (Tri.own (lc_a (n:=n) (it:=n+5) (acc:=n+6) (D:=n+7) (c:=n+3) (e1:=0) (e2:=0) (l:=l) (e:=e) (xs:=xs) (L:=L) (bb:=[(14094,tk),(3160,tk+1),(243,tk+2),(24312,tk+3),(1459,tk+4),(1836,tk+5)]) ok hz (by omega) (by omega) hx rfl) (fun h D=>A4 [1,2,0] 0 (by kernel_rfl) h D)))) fun p n₁ tk₁ hp=>?_
 exact Aj ok 5 65 hR (n+6,p.2.1,p.2.2) hp (.ret (.ref (n+6+8))) rfl [0,2,3,4,1,5] 4
theorem int_pow {o t:Nat} (ho:o<6) :
  Tri W A (.call (.builtin "int.__pow__") ⟨[.int 3 t,.int (o:Int) u],[]⟩) G L (Gives G (fun t':Nat=> .int ((3 ^ o:Nat):Int) t') fun _=>L):=
 Tri.cb F.slot_int_pow F.entry_int_pow (F.args_int_pow_2 _ _) (fun h _ D=>typeIs_int _ _ _) fun R hR h n tk hs D=>by
  match o,ho with
  | 0,_=>exact AutoIntG9.int___pow___int_int_0 3 t 0 u (by decide) (by decide) AA W.w A R _ (hR _ trivial h n _ hs D)
  | 1,_=>exact AutoIntG2.int___pow___int_int_4 3 t 1 u (by decide) (by decide) (by decide) (by decide) (by decide) AA W.w A R _ (hR _ trivial h n _ hs D)
  | 2,_=>exact AutoIntG2.int___pow___int_int_4 3 t 2 u (by decide) (by decide) (by decide) (by decide) (by decide) AA W.w A R _ (hR _ trivial h n _ hs D)
  | 3,_=>exact AutoIntG2.int___pow___int_int_4 3 t 3 u (by decide) (by decide) (by decide) (by decide) (by decide) AA W.w A R _ (hR _ trivial h n _ hs D)
  | 4,_=>exact AutoIntG2.int___pow___int_int_4 3 t 4 u (by decide) (by decide) (by decide) (by decide) (by decide) AA W.w A R _ (hR _ trivial h n _ hs D)
  | 5,_=>exact AutoIntG2.int___pow___int_int_4 3 t 5 u (by decide) (by decide) (by decide) (by decide) (by decide) AA W.w A R _ (hR _ trivial h n _ hs D)
theorem not_pylong (a:Int) (m:Nat) (hm:m<=100000):¬ Builtin.divisionGoesByPylong a (m:Int)=true:=by
 intro h
 unfold divisionGoesByPylong at h
 simp only [Bool.and_eq_true,decide_eq_true_eq] at h
 have h1:=h.1
 split at h1
 ·omega
 ·have:(m:Int).natAbs.log2<=16:=by
   rw [Int.natAbs_natCast]
   by_cases hz:m=0
   ·subst hz;decide
   ·have:=(Nat.log2_lt hz (k:=17)).mpr (by omega)
    omega
  omega
theorem CM {a:Int} {t:Nat} (h0:0<m) (hm:m<=100000) :
  Tri W A (.call (.builtin "int.__floordiv__") ⟨[.int a t,.int (m:Int) u],[]⟩) G L (Gives G (fun t':Nat=> .int (a.fdiv m) t') fun _=>L):=
 Tri.cb F.slot_int_floordiv F.entry_int_floordiv (F.args_int_floordiv_2 _ _) (fun h _ D=>typeIs_int _ _ _) fun R hR h n tk hs D=>
  AutoIntG4.int___floordiv___int_int_1 a t m u (by simp;omega) (not_pylong a m hm) AA W.w A R _ (hR _ trivial h n _ hs D)
theorem int_mod {a:Int} {t:Nat} (h0:0<m) :
  Tri W A (.call (.builtin "int.__mod__") ⟨[.int a t,.int (m:Int) u],[]⟩) G L ⟨fun _=>G,fun p:Nat×Nat=>p.1<m,fun p=> .ok (.ret (.int (p.1:Int) p.2)),fun _=>L⟩:=
 Tri.cb F.slot_int_mod F.entry_int_mod (F.args_int_mod_2 _ _) (fun h _ D=>typeIs_int _ _ _) fun R hR h n tk hs D=>by
  refine AutoIntG6.int___mod___int_int_1 a t m u (by simp;omega) AA W.w A R _ ?_
  have h1:0<=a.fmod m:=Int.fmod_nonneg_of_pos a (by omega)
  have h2:a.fmod m<m:=Int.fmod_lt_of_pos a (by omega)
  have z:=hR ((a.fmod m).toNat,tk) (show (a.fmod m).toNat<m by omega) h n (tk+1) hs D
  have e:(((a.fmod m).toNat:Nat):Int)=a.fmod m:=Int.toNat_of_nonneg h1
  rw [show (R (.ok (.ret (.int (((a.fmod m).toNat:Nat):Int) tk))) ⟨h,⟨G⟩,W.d,tk+1,W.os⟩)=R (.ok (.ret (.int (a.fmod m) tk))) ⟨h,⟨G⟩,W.d,tk+1,W.os⟩ by rw [e]] at z
  exact z
theorem list_mul {k t:Nat} {x:Int} (hk:k<=10) :
  Tri W A (.call (.builtin "list.__mul__") ⟨[.ref l,.int (k:Int) u],[]⟩) G ((l,A1 (iv [(x,t)]) e)::L) (Gives G (fun p:Nat=> .ref (p+8)) fun p=>lI p (List.replicate k (x,t)) 0::(l,A1 (iv [(x,t)]) e)::L):=by
 obtain ⟨y,hy⟩:∃ y:Int,y=(k:Int):=⟨_,rfl⟩
 rw [← hy]
 have hn:y.toNat=k:=by rw [hy];exact Int.toNat_natCast k
 refine Tri.cb F.slot_list_mul F.entry_list_mul (F.args_list_mul_2 _ _) (fun h _ D=>⟨_,D.at0,rfl⟩) fun R hR h n tk hs D=>?_
 have h0:¬(!Builtin.List.listFitsIndex y)=true:=by
  rw [fitsIndex_of (by omega) (by omega)];decide
 have hz:(iv [(x,t)]).size=1:=rfl
 have h1:¬(iv [(x,t)]).size*y.toNat>(2 ^ 63 - 1) / 8:=by
  rw [hz,hn];omega
 have h2:¬Builtin.List.listTooLong ((iv [(x,t)]).size*y.toNat)=true:=by
  rw [hz,hn]
  unfold Builtin.List.listTooLong
  simp [sizeLine_eq];omega
 refine @AutoListH.list___mul___list_int_3 l (iv [(x,t)]) e y u h0 h1 h2 _ _ A R _ ⟨D.at0,?_⟩
 have eq:List.foldl (fun x1 x2:Array Value=>x1++x2) #[] (List.replicate (if (iv [(x,t)]).isEmpty=true then 0 else y.toNat) (iv [(x,t)]))=iv (List.replicate k (x,t)):=by
  have h1:(iv [(x,t)]).isEmpty=false:=rfl
  rw [h1,hn]
  simp only [Bool.false_eq_true,if_false]
  have g:∀ (k:Nat) (a:Array Value),List.foldl (fun x1 x2:Array Value=>x1++x2) a (List.replicate k (iv [(x,t)]))=a++iv (List.replicate k (x,t)):=by
   intro k
   induction k with
   | zero=>intro a;simp [iv]
   | succ k ih=>intro a;rw [List.replicate_succ,List.foldl_cons,ih,List.replicate_succ];apply Array.ext';simp [iv]
  rw [g,Array.empty_append]
 rw [eq]
 have D2:=D.alloc (o:={ cls:= .type "list",data:= .seq (iv (List.replicate k (x,t))) }) rfl
 rw [hs] at D2
 have z:R (.ok (.ret (.ref (n+8)))) ⟨h.push { cls:= .type "list",data:= .seq (iv (List.replicate k (x,t))) },⟨G⟩,W.d,tk,W.os⟩:=hR n trivial _ (n+1) tk (by rw [Heap.size_push,hs]) D2
 rw [← hs] at z
 exact z
end
section
open PySem PySem.W PySem.W.X PySem.Calls PySem.Spec PyProof.Rows
variable {W:Wd} {L:List Cell} {G:List GenState} {n dp un e i c it d D r a tl tm m acc td l tv u ep j tj ec tp q eq ek ta eo ed e2 en eg e1 tb th el ew tk' D':Nat} {A:Around} {F Fr:List Env} {nw:Bool} {least np nf:Int} {h h₀:Heap} {nm:Str} {T:Nat->Nat} {xs:Array Value} {s:Shared} {ext:List (Str×Nat×Value)} {R:Result->Shared->Prop} {cl nv lb:Nat->Str×Nat} {o:Obj} {ds os gs ws ws2:List (Nat×Nat)} {rs:List (Str×Nat)} {P:List Nat} {env:Env} {nd:Nd} {vp vr:Value} {prog:Program} {pre post:List Nd} {ops:List (List Nat)}
noncomputable def lnO (W:Wd):Stmt:=AE (Ak W.kt 190) 1
noncomputable def lnI (W:Wd):Stmt:=AE (DC (lnO W)) 1
noncomputable def DM (W:Wd) (it n:Nat):Code:=B9 (lnI W) (.ref (it+8)) (A5 W.kt 190 n 8)
noncomputable def Cz (W:Wd) (it n:Nat):Code:=B9 (lnO W) (.ref (it+8)) (A5 W.kt 190 n 8)
noncomputable def lnN (ta tb tj th c s j tv a:Nat) (r:List (Str×Nat×Value)):List (Str×Nat×Value):=(sal,ta,.ref (c+8))::(sch,tb,.ref (s+8))::(saa,tj,.int (j:Int) tv)::(sax,th,.ref (a+8))::r
noncomputable abbrev nvl (l:List (Nat×Nat)):List (Int×Nat):=l.map fun p=>((p.1:Int),p.2)
noncomputable abbrev lN (a:Nat) (l:List (Nat×Nat)) (e:Nat):Cell:=(a+8,A1 (iv (nvl l)) e)
theorem nvl_ext (a:List (Nat×Nat)) (k x t:Nat):iv (nvl a)++iv (List.replicate k ((x:Int),t))=iv (nvl (a++List.replicate k (x,t))):=by simp [iv]
noncomputable def Need (j:Nat) (l:List (Nat×Nat)):Prop:=(∀ q∈l,q.1<j)/\l.length<=2*j
noncomputable abbrev lniQ (W:Wd) (G:List GenState) (L:List Cell) (ta tb tj th c s j tv a n ec:Nat) (cs:List (Int×Nat)):Post ((Nat×Value)×List (Nat×Nat)×Nat):=
 Nx G (fun p=>AF W n (lnN ta tb tj th c s j tv a [(sam,p.1.1,p.1.2)])::lN a p.2.1 p.2.2::lI c cs ec::L) fun p=>Need j p.2.1
theorem need_add {k:Nat} {ah:List (Nat×Nat)} {t0:Nat} (hah:Need j ah/\ah.length<=2*i) (hr:r<3) (hij:i+(k+1)=j):(∀ q∈ah++List.replicate r (i,t0),q.1<j)/\(ah++List.replicate r (i,t0)).length<=2*(i+1):=by
 refine ⟨fun q hq=>?_,by simp;omega⟩
 rcases List.mem_append.mp hq with h | h
 ·exact hah.1.1 q h
 ·rw [(List.mem_replicate.mp h).2];show i<j;omega
theorem ln_b (ok:W.Ok) {s:Nat} {cs:List (Int×Nat)} {b:Int×Nat} (hd:dp<=700) (hu:un<=700) (hi:cs[j]?=some b) (hj:j<6) :
  ∀ (k i tp ea:Nat) (v:Value) (ah:List (Nat×Nat)),i+k=j->Need j ah/\ah.length<=2*i->Tri W (Ar dp un F) (DM W it n) G (AF W n (lnN ta tb tj th c s j tv a [(sam,tp,v)])::c8 it (rit i k)::lN a ah ea::lI c cs ec::L) (lniQ W G L ta tb tj th c s j tv a n ec cs):=by
 intro k
 induction k with
 | zero=>
  intro i tp ea v ah hik hah
  refine Tri.of fun R n' tk hR=>?_
  refine AU ok 2 2 (.call (.builtin "range_iterator.__next__") ⟨[.ref (it+8)],[]⟩) [1] (c8 it (rit i 0)) (BP (Ar dp un F)) (fun _ _ eA=>Tri.at eA rend) fun p n₀ tk₀ _=>?_
  exact Aj ok 2 1 hR ((tp,v),ah,ea) hah.1 .next rfl [0,1,2] 3
 | succ k ih=>
  intro i tp ea v ah hik hah'
  have hah:=hah'.1
  refine Tri.of fun R n' tk hR=>?_
  refine AU ok 2 2 (.call (.builtin "range_iterator.__next__") ⟨[.ref (it+8)],[]⟩) [1] (c8 it (rit i (k+1))) A6 (fun _ _ eA=>rnext) fun t0 n₀ tk₀ _=>?_
  refine AU ok 28 23986586799971433717826 (.call (.builtin "list.__getitem__") ⟨[.ref (c+8),.int (j:Int) tv],[]⟩) [4] (lI c cs ec) A6 (fun _ _ eA=>Aa (x:= .int b.1 b.2) (by omega) (by omega) (by simp [iv,hi])) fun _ n₁ tk₁ _=>?_
  refine gc0 ok 4 4 (.call (.builtin "int.__pow__") ⟨[.int 3 tk₁,.int (i:Int) t0],[]⟩) A6 (fun _ _ eA=>int_pow (by omega)) fun t2 n₂ tk₂ _=>?_
  refine gc0 ok 1 0 (.call (.builtin "int.__floordiv__") ⟨[.int b.1 b.2,.int ((3 ^ i:Nat):Int) t2],[]⟩) A6 (fun _ _ eA=>CM (Nat.pow_pos (by decide)) (Nat.le_trans (Nat.pow_le_pow_right (by decide) (show i<=6 by omega)) (by decide))) fun t3 n₃ tk₃ _=>?_
  refine gc0 ok 2 0 (.call (.builtin "int.__mod__") ⟨[.int (b.1.fdiv ((3 ^ i:Nat):Int)) t3,.int ((3:Nat):Int) tk₃],[]⟩) A6 (fun _ _ eA=>int_mod (by decide)) fun r n₄ tk₄ hr=>?_
  refine AU ok 9 8322 (.call (.builtin "list.__mul__") ⟨[.ref (n₀+8),.int (r.1:Int) r.2],[]⟩) [1] (lI n₀ [((i:Int),t0)] 0) A6 (fun _ _ eA=>list_mul (by have:r.1<3:=hr;omega)) fun m n₅ tk₅ _=>?_
  refine Cg ok 1 0 (.call (.builtin "list.extend") ⟨[.ref (a+8),.ref (m+8)],[]⟩) [5,0] (lN a ah ea) (lI m (List.replicate r.1 ((i:Int),t0)) 0) A6 (fun _ _ eA=>C9 (by have:r.1<3:=hr;have:=hah.2;simp [iv];omega)) fun e' n₆ tk₆ _=>?_
  exact gmagn ok 1 0 (DM W it n) hR (L:=AF W n (lnN ta tb tj th c s j tv a [(sam,tp,.int (i:Int) t0)])::c8 it (rit (i+1) k)::(a+8,A1 (iv (nvl (ah++List.replicate r.1 (i,t0)))) e')::lI c cs ec::L)
   (fun h D=>(nvl_ext ah r.1 i t0)▸A4 [1,2,5,4,0,3] 2 (by kernel_rfl) h D) (by have q:=need_add (t0:=t0) hah' (show r.1<3 from hr) hik;exact ih (i+1) tp e' (.int (i:Int) t0) (ah++List.replicate r.1 (i,t0)) (by omega) ⟨⟨q.1,by omega⟩,q.2⟩)
theorem ln_a1 (ok:W.Ok) {s k ea:Nat} {cs:List (Int×Nat)} {b:Int×Nat} {ah:List (Nat×Nat)} (hd:dp<=700) (hu:un<=700) (hi:cs[j]?=some b) (hj:j<6) (hik:i+(k+1)=j) (hah':Need j ah/\ah.length<=2*i) :
  Tri W (Ar dp un F) (DM W it n) G (AF W n (lnN ta tb tj th c s j tv a [])::c8 it (rit i (k+1))::lN a ah ea::lI c cs ec::L) (lniQ W G L ta tb tj th c s j tv a n ec cs):=by
 have hah:=hah'.1
 refine Tri.of fun R n' tk hR=>?_
 refine AU ok 2 2 (.call (.builtin "range_iterator.__next__") ⟨[.ref (it+8)],[]⟩) [1] (c8 it (rit i (k+1))) A6 (fun _ _ eA=>rnext) fun t0 n₀ tk₀ _=>?_
 refine AU ok 28 23986586799971433717826 (.call (.builtin "list.__getitem__") ⟨[.ref (c+8),.int (j:Int) tv],[]⟩) [4] (lI c cs ec) A6 (fun _ _ eA=>Aa (x:= .int b.1 b.2) (by omega) (by omega) (by simp [iv,hi])) fun _ n₁ tk₁ _=>?_
 refine gc0 ok 4 4 (.call (.builtin "int.__pow__") ⟨[.int 3 tk₁,.int (i:Int) t0],[]⟩) A6 (fun _ _ eA=>int_pow (by omega)) fun t2 n₂ tk₂ _=>?_
 refine gc0 ok 1 0 (.call (.builtin "int.__floordiv__") ⟨[.int b.1 b.2,.int ((3 ^ i:Nat):Int) t2],[]⟩) A6 (fun _ _ eA=>CM (Nat.pow_pos (by decide)) (Nat.le_trans (Nat.pow_le_pow_right (by decide) (show i<=6 by omega)) (by decide))) fun t3 n₃ tk₃ _=>?_
 refine gc0 ok 2 0 (.call (.builtin "int.__mod__") ⟨[.int (b.1.fdiv ((3 ^ i:Nat):Int)) t3,.int ((3:Nat):Int) tk₃],[]⟩) A6 (fun _ _ eA=>int_mod (by decide)) fun r n₄ tk₄ hr=>?_
 refine AU ok 9 8322 (.call (.builtin "list.__mul__") ⟨[.ref (n₀+8),.int (r.1:Int) r.2],[]⟩) [1] (lI n₀ [((i:Int),t0)] 0) A6 (fun _ _ eA=>list_mul (by have:r.1<3:=hr;omega)) fun m n₅ tk₅ _=>?_
 refine Cg ok 1 0 (.call (.builtin "list.extend") ⟨[.ref (a+8),.ref (m+8)],[]⟩) [5,0] (lN a ah ea) (lI m (List.replicate r.1 ((i:Int),t0)) 0) A6 (fun _ _ eA=>C9 (by have:r.1<3:=hr;have:=hah.2;simp [iv];omega)) fun e' n₆ tk₆ _=>?_
 exact gmagn ok 1 0 (DM W it n) hR (L:=AF W n (lnN ta tb tj th c s j tv a [(sam,tk₀,.int (i:Int) t0)])::c8 it (rit (i+1) k)::(a+8,A1 (iv (nvl (ah++List.replicate r.1 (i,t0)))) e')::lI c cs ec::L)
  (fun h D=>(nvl_ext ah r.1 i t0)▸A4 [1,2,5,4,0,3] 2 (by kernel_rfl) h D) (by have q:=need_add (t0:=t0) hah' (show r.1<3 from hr) hik;exact ln_b ok hd hu hi hj k (i+1) tk₀ e' (.int (i:Int) t0) (ah++List.replicate r.1 (i,t0)) (by omega) ⟨⟨q.1,by omega⟩,q.2⟩)
theorem ln_a (ok:W.Ok) {s ea:Nat} {cs:List (Int×Nat)} {b:Int×Nat} (hd:dp<=700) (hu:un<=700) (hi:cs[j]?=some b) (hj:j<6) :
  Tri W (Ar dp un F) (DM W it n) G (AF W n (lnN ta tb tj th c s j tv a [])::c8 it (rit 0 j)::lN a [] ea::lI c cs ec::L)
  (Nx G (fun p=>AF W n (lnN ta tb tj th c s j tv a p.1)::lN a p.2.1 p.2.2::lI c cs ec::L) fun p=>((j=0->p.1=[])/\(j≠0->∃ t v,p.1=[(sam,t,v)]))/\Need j p.2.1:Post (List (Str×Nat×Value)×List (Nat×Nat)×Nat)):=by
 cases j with
 | zero=>
  refine Tri.of fun R n' tk hR=>?_
  refine AU ok 2 2 (.call (.builtin "range_iterator.__next__") ⟨[.ref (it+8)],[]⟩) [1] (c8 it (rit 0 0)) (BP (Ar dp un F)) (fun _ _ eA=>Tri.at eA rend) fun p n₀ tk₀ _=>?_
  exact Aj ok 2 1 hR ([],[],ea) ⟨⟨fun _=>rfl,fun h=>absurd rfl h⟩,by simp [Need]⟩ .next rfl [0,1,2] 3
 | succ k=>
  intro R hR
  exact ln_a1 (i:=0) (ah:=[]) ok hd hu hi hj (by omega) ⟨by simp [Need],by simp⟩ R fun p hp=>hR ([(sam,p.1.1,p.1.2)],p.2) ⟨⟨fun h=>absurd h (Nat.succ_ne_zero _),fun _=>⟨_,_,rfl⟩⟩,hp⟩
structure NL where
 l:Nat
 e:Nat
 ns:List (Nat×Nat)
variable {qq:Nat->NL}
noncomputable def NL.cell (q:NL):Cell:=(lN q.l q.ns q.e)
noncomputable def nlv (qs:List NL):Array Value:=(qs.map fun q=>Value.ref (q.l+8)).toArray
noncomputable def rng (tk j t0 d:Nat):Obj:=⟨.type "range",none,.fields #[.int 0 (tk+d),.int (j:Int) t0,.int 1 (tk+d+1)],#[]⟩
noncomputable def lnF (ta tb c s:Nat) (r:List (Str×Nat×Value)):List (Str×Nat×Value):=(sal,ta,.ref (c+8))::(sch,tb,.ref (s+8))::r
noncomputable def setq (q:Nat->NL) (j:Nat) (x:NL):Nat->NL:=fun i=>match Nat.beq i j with | true=>x | false=>q i
theorem BR {q:Nat->NL} {k:Nat} {x:NL} {P:Nat->List (Nat×Nat)->Prop} (hq:∀ i,i<k->P i (q i).ns) (hx:P k x.ns) (i:Nat) (hi:i<k+1):P i (setq q k x i).ns:=by
 unfold setq
 cases e:Nat.beq i k with
 | true=>exact Nat.eq_of_beq_eq_true e▸hx
 | false=>exact hq i (Nat.lt_of_le_of_ne (Nat.le_of_lt_succ hi) (Nat.ne_of_beq_eq_false e))
noncomputable def qv (q:Nat->NL) (j:Nat):List NL:=(List.range j).map q
noncomputable def qc (q:Nat->NL):Nat->List Cell
 | 0=>[]
 | j+1=>(q j).cell::qc q j
noncomputable def Needs (q:Nat->NL):Prop:=∀ i,i<6->Need i (q i).ns
noncomputable abbrev lnoQ (W:Wd) (G:List GenState) (L:List Cell) (c s n ec:Nat) (cs:List (Int×Nat)) (r:Obj->Prop):Post (Obj×(Nat->NL)×Nat):=
 Nx G (fun p=>(n+8,p.1)::lL s (nlv (qv p.2.1 6)) p.2.2::lI c cs ec::(qc p.2.1 6++L)) fun p=>r p.1/\Needs p.2.1
noncomputable def FrO (W:Wd) (ta tb c s:Nat) (o:Obj):Prop:=∃ (tj tv th a to:Nat) (v:Value),o=fr W (lnF ta tb c s [(saa,tj,.int ((5:Nat):Int) tv),(sax,th,.ref (a+8)),(sam,to,v)])
theorem lo_6 (ok:W.Ok) {s to:Nat} {v:Value} {cs:List (Int×Nat)} (hd:dp<=700) (hu:un<=700) (hcs:cs.length=6):∀ {es:Nat} {q:Nat->NL} (hq:∀ i,i<6->Need i (q i).ns),
  Tri W (Ar dp un F) (Cz W it n) G (AF W n (lnF ta tb c s [(saa,tj,.int ((5:Nat):Int) tv),(sax,th,.ref (a+8)),(sam,to,v)])::c8 it (rit 6 0)::lL s (nlv (qv q 6)) es::lI c cs ec::(qc q 6++L)) (lnoQ W G L c s n ec cs (FrO W ta tb c s)):=by
 intro es q hq
 refine Tri.of fun R n' tk hR=>?_
 refine AU ok 2 2 (.call (.builtin "range_iterator.__next__") ⟨[.ref (it+8)],[]⟩) [1] (c8 it (rit 6 0)) (BP (Ar dp un F)) (fun _ _ eA=>Tri.at eA rend) fun p n₀ tk₀ _=>?_
 exact Aj ok 2 1 hR (fr W (lnF ta tb c s [(saa,tj,.int ((5:Nat):Int) tv),(sax,th,.ref (a+8)),(sam,to,v)]),q,es) ⟨⟨_,_,_,_,_,_,rfl⟩,hq⟩ .next rfl [0,1,2] 3
theorem lo_5 (ok:W.Ok) {s to:Nat} {v:Value} {cs:List (Int×Nat)} (hd:dp<=700) (hu:un<=700) (hcs:cs.length=6):∀ {es:Nat} {q:Nat->NL} (hq:∀ i,i<5->Need i (q i).ns),
  Tri W (Ar dp un F) (Cz W it n) G (AF W n (lnF ta tb c s [(saa,tj,.int ((4:Nat):Int) tv),(sax,th,.ref (a+8)),(sam,to,v)])::c8 it (rit 5 1)::lL s (nlv (qv q 5)) es::lI c cs ec::(qc q 5++L)) (lnoQ W G L c s n ec cs (FrO W ta tb c s)):=by
 intro es q hq
 refine Tri.of fun R n' tk hR=>?_
 refine gmore ok 2 2 ⟨by kernel_rfl,?_⟩
 obtain ⟨b,hi⟩:∃ b,cs[5]?=some b:=⟨cs[5]'(by omega),List.getElem?_eq_getElem (by omega)⟩
 refine gcall (.call (.builtin "range_iterator.__next__") ⟨[.ref (it+8)],[]⟩) (by kernel_rfl) (by kernel_rfl) (own1 [1] (c8 it (rit 5 (0+1))) (by kernel_rfl)) rnext fun t0 n₀ tk₀ _=>?_
 refine gcD ok 55 5151088153308360742726126809154 (DM W (n₀+2) n) (AF W n (lnN ta tb tj th c s 5 t0 n₀ [(sam,to,v)])::c8 (n₀+2) (rit 0 5)::lN n₀ [] 0::lI c cs ec::c8 (n₀+1) (rng tk₀ 5 t0 2)::c8 it (rit 6 0)::lL s (nlv (qv q 5)) es::(qc q 5++L)) [4,0,2,6,1,3,5] 0 (BP (Ar dp un F)) (fun _ eA=>Tri.at eA (ln_b (b:=b) (L:=c8 (n₀+1) (rng tk₀ 5 t0 2)::c8 it (rit 6 0)::lL s (nlv (qv q 5)) es::(qc q 5++L)) ok (by omega) (by omega) hi (by decide) 5 0 to 0 v [] (by decide) ⟨by simp [Need],by simp⟩)) fun p n₁ tk₁ hp=>?_
 obtain ⟨⟨to',v'⟩,ah,e0⟩:=p
 have hah:Need 5 ah:=hp
 refine AU ok 12 1176002945 (.call (.builtin "list.append") ⟨[.ref (s+8),.ref (n₀+8)],[]⟩) [5] (lL s (nlv (qv q 5)) es) A6 (fun _ _ eA=>A8 (by simp [nlv,qv])) fun e' n₂ tk₂ _=>?_
 exact gmagn ok 1 0 (Cz W it n) hR (L:=AF W n (lnF ta tb c s [(saa,tj,.int ((5:Nat):Int) t0),(sax,th,.ref (n₀+8)),(sam,to',v')])::c8 it (rit 6 0)::lL s (nlv (qv (setq q 5 ⟨n₀,(ah,e0).2,(ah,e0).1⟩) 6)) e'::lI c cs ec::(qc (setq q 5 ⟨n₀,(ah,e0).2,(ah,e0).1⟩) 6++L))
  (A4 [4,1,5,0,3,2] 1 (by kernel_rfl)) (lo_6 (tj:=tj) (tv:=t0) (th:=th) (a:=n₀) (to:=to') (v:=v') ok hd hu hcs (es:=e') (q:=setq q 5 ⟨n₀,(ah,e0).2,(ah,e0).1⟩) (BR (P:=Need) hq hah))
theorem lo_4 (ok:W.Ok) {s to:Nat} {v:Value} {cs:List (Int×Nat)} (hd:dp<=700) (hu:un<=700) (hcs:cs.length=6):∀ {es:Nat} {q:Nat->NL} (hq:∀ i,i<4->Need i (q i).ns),
  Tri W (Ar dp un F) (Cz W it n) G (AF W n (lnF ta tb c s [(saa,tj,.int ((3:Nat):Int) tv),(sax,th,.ref (a+8)),(sam,to,v)])::c8 it (rit 4 2)::lL s (nlv (qv q 4)) es::lI c cs ec::(qc q 4++L)) (lnoQ W G L c s n ec cs (FrO W ta tb c s)):=by
 intro es q hq
 refine Tri.of fun R n' tk hR=>?_
 refine gmore ok 2 2 ⟨by kernel_rfl,?_⟩
 obtain ⟨b,hi⟩:∃ b,cs[4]?=some b:=⟨cs[4]'(by omega),List.getElem?_eq_getElem (by omega)⟩
 refine gcall (.call (.builtin "range_iterator.__next__") ⟨[.ref (it+8)],[]⟩) (by kernel_rfl) (by kernel_rfl) (own1 [1] (c8 it (rit 4 (1+1))) (by kernel_rfl)) rnext fun t0 n₀ tk₀ _=>?_
 refine gcD ok 55 5151088153308360742726126809154 (DM W (n₀+2) n) (AF W n (lnN ta tb tj th c s 4 t0 n₀ [(sam,to,v)])::c8 (n₀+2) (rit 0 4)::lN n₀ [] 0::lI c cs ec::c8 (n₀+1) (rng tk₀ 4 t0 2)::c8 it (rit 5 1)::lL s (nlv (qv q 4)) es::(qc q 4++L)) [4,0,2,6,1,3,5] 0 (BP (Ar dp un F)) (fun _ eA=>Tri.at eA (ln_b (b:=b) (L:=c8 (n₀+1) (rng tk₀ 4 t0 2)::c8 it (rit 5 1)::lL s (nlv (qv q 4)) es::(qc q 4++L)) ok (by omega) (by omega) hi (by decide) 4 0 to 0 v [] (by decide) ⟨by simp [Need],by simp⟩)) fun p n₁ tk₁ hp=>?_
 obtain ⟨⟨to',v'⟩,ah,e0⟩:=p
 have hah:Need 4 ah:=hp
 refine AU ok 12 1176002945 (.call (.builtin "list.append") ⟨[.ref (s+8),.ref (n₀+8)],[]⟩) [5] (lL s (nlv (qv q 4)) es) A6 (fun _ _ eA=>A8 (by simp [nlv,qv])) fun e' n₂ tk₂ _=>?_
 exact gmagn ok 1 0 (Cz W it n) hR (L:=AF W n (lnF ta tb c s [(saa,tj,.int ((4:Nat):Int) t0),(sax,th,.ref (n₀+8)),(sam,to',v')])::c8 it (rit 5 1)::lL s (nlv (qv (setq q 4 ⟨n₀,(ah,e0).2,(ah,e0).1⟩) 5)) e'::lI c cs ec::(qc (setq q 4 ⟨n₀,(ah,e0).2,(ah,e0).1⟩) 5++L))
  (A4 [4,1,5,0,3,2] 1 (by kernel_rfl)) (lo_5 (tj:=tj) (tv:=t0) (th:=th) (a:=n₀) (to:=to') (v:=v') ok hd hu hcs (es:=e') (q:=setq q 4 ⟨n₀,(ah,e0).2,(ah,e0).1⟩) (BR (P:=Need) hq hah))
theorem lo_3 (ok:W.Ok) {s to:Nat} {v:Value} {cs:List (Int×Nat)} (hd:dp<=700) (hu:un<=700) (hcs:cs.length=6):∀ {es:Nat} {q:Nat->NL} (hq:∀ i,i<3->Need i (q i).ns),
  Tri W (Ar dp un F) (Cz W it n) G (AF W n (lnF ta tb c s [(saa,tj,.int ((2:Nat):Int) tv),(sax,th,.ref (a+8)),(sam,to,v)])::c8 it (rit 3 3)::lL s (nlv (qv q 3)) es::lI c cs ec::(qc q 3++L)) (lnoQ W G L c s n ec cs (FrO W ta tb c s)):=by
 intro es q hq
 refine Tri.of fun R n' tk hR=>?_
 refine gmore ok 2 2 ⟨by kernel_rfl,?_⟩
 obtain ⟨b,hi⟩:∃ b,cs[3]?=some b:=⟨cs[3]'(by omega),List.getElem?_eq_getElem (by omega)⟩
 refine gcall (.call (.builtin "range_iterator.__next__") ⟨[.ref (it+8)],[]⟩) (by kernel_rfl) (by kernel_rfl) (own1 [1] (c8 it (rit 3 (2+1))) (by kernel_rfl)) rnext fun t0 n₀ tk₀ _=>?_
 refine gcD ok 55 5151088153308360742726126809154 (DM W (n₀+2) n) (AF W n (lnN ta tb tj th c s 3 t0 n₀ [(sam,to,v)])::c8 (n₀+2) (rit 0 3)::lN n₀ [] 0::lI c cs ec::c8 (n₀+1) (rng tk₀ 3 t0 2)::c8 it (rit 4 2)::lL s (nlv (qv q 3)) es::(qc q 3++L)) [4,0,2,6,1,3,5] 0 (BP (Ar dp un F)) (fun _ eA=>Tri.at eA (ln_b (b:=b) (L:=c8 (n₀+1) (rng tk₀ 3 t0 2)::c8 it (rit 4 2)::lL s (nlv (qv q 3)) es::(qc q 3++L)) ok (by omega) (by omega) hi (by decide) 3 0 to 0 v [] (by decide) ⟨by simp [Need],by simp⟩)) fun p n₁ tk₁ hp=>?_
 obtain ⟨⟨to',v'⟩,ah,e0⟩:=p
 have hah:Need 3 ah:=hp
 refine AU ok 12 1176002945 (.call (.builtin "list.append") ⟨[.ref (s+8),.ref (n₀+8)],[]⟩) [5] (lL s (nlv (qv q 3)) es) A6 (fun _ _ eA=>A8 (by simp [nlv,qv])) fun e' n₂ tk₂ _=>?_
 exact gmagn ok 1 0 (Cz W it n) hR (L:=AF W n (lnF ta tb c s [(saa,tj,.int ((3:Nat):Int) t0),(sax,th,.ref (n₀+8)),(sam,to',v')])::c8 it (rit 4 2)::lL s (nlv (qv (setq q 3 ⟨n₀,(ah,e0).2,(ah,e0).1⟩) 4)) e'::lI c cs ec::(qc (setq q 3 ⟨n₀,(ah,e0).2,(ah,e0).1⟩) 4++L))
  (A4 [4,1,5,0,3,2] 1 (by kernel_rfl)) (lo_4 (tj:=tj) (tv:=t0) (th:=th) (a:=n₀) (to:=to') (v:=v') ok hd hu hcs (es:=e') (q:=setq q 3 ⟨n₀,(ah,e0).2,(ah,e0).1⟩) (BR (P:=Need) hq hah))
theorem lo_2 (ok:W.Ok) {s to:Nat} {v:Value} {cs:List (Int×Nat)} (hd:dp<=700) (hu:un<=700) (hcs:cs.length=6):∀ {es:Nat} {q:Nat->NL} (hq:∀ i,i<2->Need i (q i).ns),
  Tri W (Ar dp un F) (Cz W it n) G (AF W n (lnF ta tb c s [(saa,tj,.int ((1:Nat):Int) tv),(sax,th,.ref (a+8)),(sam,to,v)])::c8 it (rit 2 4)::lL s (nlv (qv q 2)) es::lI c cs ec::(qc q 2++L)) (lnoQ W G L c s n ec cs (FrO W ta tb c s)):=by
 intro es q hq
 refine Tri.of fun R n' tk hR=>?_
 refine gmore ok 2 2 ⟨by kernel_rfl,?_⟩
 obtain ⟨b,hi⟩:∃ b,cs[2]?=some b:=⟨cs[2]'(by omega),List.getElem?_eq_getElem (by omega)⟩
 refine gcall (.call (.builtin "range_iterator.__next__") ⟨[.ref (it+8)],[]⟩) (by kernel_rfl) (by kernel_rfl) (own1 [1] (c8 it (rit 2 (3+1))) (by kernel_rfl)) rnext fun t0 n₀ tk₀ _=>?_
 refine gcD ok 55 5151088153308360742726126809154 (DM W (n₀+2) n) (AF W n (lnN ta tb tj th c s 2 t0 n₀ [(sam,to,v)])::c8 (n₀+2) (rit 0 2)::lN n₀ [] 0::lI c cs ec::c8 (n₀+1) (rng tk₀ 2 t0 2)::c8 it (rit 3 3)::lL s (nlv (qv q 2)) es::(qc q 2++L)) [4,0,2,6,1,3,5] 0 (BP (Ar dp un F)) (fun _ eA=>Tri.at eA (ln_b (b:=b) (L:=c8 (n₀+1) (rng tk₀ 2 t0 2)::c8 it (rit 3 3)::lL s (nlv (qv q 2)) es::(qc q 2++L)) ok (by omega) (by omega) hi (by decide) 2 0 to 0 v [] (by decide) ⟨by simp [Need],by simp⟩)) fun p n₁ tk₁ hp=>?_
 obtain ⟨⟨to',v'⟩,ah,e0⟩:=p
 have hah:Need 2 ah:=hp
 refine AU ok 12 1176002945 (.call (.builtin "list.append") ⟨[.ref (s+8),.ref (n₀+8)],[]⟩) [5] (lL s (nlv (qv q 2)) es) A6 (fun _ _ eA=>A8 (by simp [nlv,qv])) fun e' n₂ tk₂ _=>?_
 exact gmagn ok 1 0 (Cz W it n) hR (L:=AF W n (lnF ta tb c s [(saa,tj,.int ((2:Nat):Int) t0),(sax,th,.ref (n₀+8)),(sam,to',v')])::c8 it (rit 3 3)::lL s (nlv (qv (setq q 2 ⟨n₀,(ah,e0).2,(ah,e0).1⟩) 3)) e'::lI c cs ec::(qc (setq q 2 ⟨n₀,(ah,e0).2,(ah,e0).1⟩) 3++L))
  (A4 [4,1,5,0,3,2] 1 (by kernel_rfl)) (lo_3 (tj:=tj) (tv:=t0) (th:=th) (a:=n₀) (to:=to') (v:=v') ok hd hu hcs (es:=e') (q:=setq q 2 ⟨n₀,(ah,e0).2,(ah,e0).1⟩) (BR (P:=Need) hq hah))
theorem lo_1 (ok:W.Ok) {s to:Nat} {v:Value} {cs:List (Int×Nat)} (hd:dp<=700) (hu:un<=700) (hcs:cs.length=6):∀ {es:Nat} {q:Nat->NL} (hq:∀ i,i<1->Need i (q i).ns),
  Tri W (Ar dp un F) (Cz W it n) G (AF W n (lnF ta tb c s [(saa,tj,.int ((0:Nat):Int) tv),(sax,th,.ref (a+8))])::c8 it (rit 1 5)::lL s (nlv (qv q 1)) es::lI c cs ec::(qc q 1++L)) (lnoQ W G L c s n ec cs (FrO W ta tb c s)):=by
 intro es q hq
 refine Tri.of fun R n' tk hR=>?_
 refine gmore ok 2 2 ⟨by kernel_rfl,?_⟩
 obtain ⟨b,hi⟩:∃ b,cs[1]?=some b:=⟨cs[1]'(by omega),List.getElem?_eq_getElem (by omega)⟩
 refine gcall (.call (.builtin "range_iterator.__next__") ⟨[.ref (it+8)],[]⟩) (by kernel_rfl) (by kernel_rfl) (own1 [1] (c8 it (rit 1 (4+1))) (by kernel_rfl)) rnext fun t0 n₀ tk₀ _=>?_
 refine gcD ok 55 5151088153308360742726126809154 (DM W (n₀+2) n) (AF W n (lnN ta tb tj th c s 1 t0 n₀ [])::c8 (n₀+2) (rit 0 1)::lN n₀ [] 0::lI c cs ec::c8 (n₀+1) (rng tk₀ 1 t0 2)::c8 it (rit 2 4)::lL s (nlv (qv q 1)) es::(qc q 1++L)) [4,0,2,6,1,3,5] 0 (BP (Ar dp un F)) (fun _ eA=>Tri.at eA (ln_a (ea:=0) (b:=b) (L:=c8 (n₀+1) (rng tk₀ 1 t0 2)::c8 it (rit 2 4)::lL s (nlv (qv q 1)) es::(qc q 1++L)) ok (by omega) (by omega) hi (by decide))) fun p n₁ tk₁ hp=>?_
 obtain ⟨r,ah,e0⟩:=p
 obtain ⟨hr,hah⟩:((1=0->r=[])/\(1≠0->∃ t v,r=[(sam,t,v)]))/\Need 1 ah:=hp
 obtain ⟨to',v',rfl⟩:=hr.2 (by decide)
 ·refine AU ok 12 1176002945 (.call (.builtin "list.append") ⟨[.ref (s+8),.ref (n₀+8)],[]⟩) [5] (lL s (nlv (qv q 1)) es) A6 (fun _ _ eA=>A8 (by simp [nlv,qv])) fun e' n₂ tk₂ _=>?_
  exact gmagn ok 1 0 (Cz W it n) hR (L:=AF W n (lnF ta tb c s [(saa,tj,.int ((1:Nat):Int) t0),(sax,th,.ref (n₀+8)),(sam,to',v')])::c8 it (rit 2 4)::lL s (nlv (qv (setq q 1 ⟨n₀,(ah,e0).2,(ah,e0).1⟩) 2)) e'::lI c cs ec::(qc (setq q 1 ⟨n₀,(ah,e0).2,(ah,e0).1⟩) 2++L))
   (A4 [4,1,5,0,3,2] 1 (by kernel_rfl)) (lo_2 (tj:=tj) (tv:=t0) (th:=th) (a:=n₀) (to:=to') (v:=v') ok hd hu hcs (es:=e') (q:=setq q 1 ⟨n₀,(ah,e0).2,(ah,e0).1⟩) (BR (P:=Need) hq hah))
theorem lo_0 (ok:W.Ok) {s tj tv th a to:Nat} {v:Value} {cs:List (Int×Nat)} (hd:dp<=700) (hu:un<=700) (hcs:cs.length=6):∀ {es:Nat} {q:Nat->NL} (hq:∀ i,i<0->Need i (q i).ns),
  Tri W (Ar dp un F) (Cz W it n) G (AF W n (lnF ta tb c s [])::c8 it (rit 0 6)::lL s (nlv (qv q 0)) es::lI c cs ec::(qc q 0++L)) (lnoQ W G L c s n ec cs (FrO W ta tb c s)):=by
 intro es q hq
 refine Tri.of fun R n' tk hR=>?_
 refine gmore ok 2 2 ⟨by kernel_rfl,?_⟩
 obtain ⟨b,hi⟩:∃ b,cs[0]?=some b:=⟨cs[0]'(by omega),List.getElem?_eq_getElem (by omega)⟩
 refine gcall (.call (.builtin "range_iterator.__next__") ⟨[.ref (it+8)],[]⟩) (by kernel_rfl) (by kernel_rfl) (own1 [1] (c8 it (rit 0 (5+1))) (by kernel_rfl)) rnext fun t0 n₀ tk₀ _=>?_
 refine gcD ok 55 5151088153308360742726126809154 (DM W (n₀+2) n) (AF W n (lnN ta tb tk₀ (tk₀+1) c s 0 t0 n₀ [])::c8 (n₀+2) (rit 0 0)::lN n₀ [] 0::lI c cs ec::c8 (n₀+1) (rng tk₀ 0 t0 2)::c8 it (rit 1 5)::lL s (nlv (qv q 0)) es::(qc q 0++L)) [4,0,2,6,1,3,5] 0 (BP (Ar dp un F)) (fun _ eA=>Tri.at eA (ln_a (ea:=0) (b:=b) (L:=c8 (n₀+1) (rng tk₀ 0 t0 2)::c8 it (rit 1 5)::lL s (nlv (qv q 0)) es::(qc q 0++L)) ok (by omega) (by omega) hi (by decide))) fun p n₁ tk₁ hp=>?_
 obtain ⟨r,ah,e0⟩:=p
 obtain ⟨hr,hah⟩:((0=0->r=[])/\(0≠0->∃ t v,r=[(sam,t,v)]))/\Need 0 ah:=hp
 obtain rfl:=hr.1 rfl
 ·refine AU ok 12 1176002945 (.call (.builtin "list.append") ⟨[.ref (s+8),.ref (n₀+8)],[]⟩) [5] (lL s (nlv (qv q 0)) es) A6 (fun _ _ eA=>A8 (by simp [nlv,qv])) fun e' n₂ tk₂ _=>?_
  exact gmagn ok 1 0 (Cz W it n) hR (L:=AF W n (lnF ta tb c s [(saa,tk₀,.int ((0:Nat):Int) t0),(sax,(tk₀+1),.ref (n₀+8))])::c8 it (rit 1 5)::lL s (nlv (qv (setq q 0 ⟨n₀,(ah,e0).2,(ah,e0).1⟩) 1)) e'::lI c cs ec::(qc (setq q 0 ⟨n₀,(ah,e0).2,(ah,e0).1⟩) 1++L))
   (A4 [4,1,5,0,3,2] 1 (by kernel_rfl)) (lo_1 (tj:=tk₀) (tv:=t0) (th:=(tk₀+1)) (a:=n₀) (to:=0) (v:= .none) ok hd hu hcs (es:=e') (q:=setq q 0 ⟨n₀,(ah,e0).2,(ah,e0).1⟩) (BR (P:=Need) hq hah))
theorem law_needs (ok:W.Ok) {cs:List (Int×Nat)} (hA:Good A 600) (hcs:cs.length=6) :
  Tri W A (.call (.ref 190) ⟨[.ref (c+8)],[]⟩) G (lI c cs ec::L)
  ⟨fun _=>G,fun p:Nat×Nat×(Nat->NL)=>Needs p.2.2,fun p=> .ok (.ret (.ref (p.1+8))),fun p=>lL p.1 (nlv (qv p.2.2 6)) p.2.1::(qc p.2.2 6++(lI c cs ec::L))⟩:=by
 refine Tri.gof hA fun dp un F hd hu R n tk hR=>?_
 refine BC ok 7 4096 (entry W.kt 190 n 8) (dp+0) (by omega) ?_
 refine gcD ok 48 19649841893418734521942082 (Cz W (n+3) n) (AF W n (lnF tk (tk+1) c (n+1) [])::c8 (n+3) (rit 0 6)::lL (n+1) (nlv (qv (fun _=>⟨0,0,[]⟩) 0)) 0::lI c cs ec::(qc (fun _=>⟨0,0,[]⟩) 0++L)) [1,3,0,2,4] 1 (BP (Ar (dp+1) (un+3) (A5 W.kt 190 n 8::F))) (fun _ eA=>Tri.at eA (lo_0 (tj:=0) (tv:=0) (th:=0) (a:=0) (to:=0) (v:= .none) ok (by omega) (by omega) hcs (fun i hi=>absurd hi (Nat.not_lt_zero _)))) fun p n₁ tk₁ hp=>?_
 obtain ⟨o,q,e⟩:=p
 obtain ⟨⟨tj,tv,th,a,to,v,rfl⟩,hq⟩:FrO W tk (tk+1) c (n+1) o/\Needs q:=hp
 exact Aj ok 3 1 hR (n+1,e,q) hq (.ret (.ref (n+1+8))) rfl [0,1,3,4,5,6,7,8,2] 1
theorem cmp_eq (a b:Value):compareOp .Eq a b=richCompare .Eq a b:=rfl
theorem cmp_ne (a b:Value):compareOp .NotEq a b=richCompare .NotEq a b:=rfl
theorem CV {b:Nat} (hu:un<=9000) :
  Pc W (Ar dp un Fr) (compareOp .Eq (.ref a) (.ref b)) G ((a,A1 xs e)::(b,A1 #[] e2)::L) (⟨fun _=>G,fun _=>True,fun _=> .bool xs.isEmpty,fun _=>(a,A1 xs e)::(b,A1 #[] e2)::L⟩:A3 Value Unit):=by
 intro K hK E h n tk hs D
 rw [cmp_eq]
 cases hx:xs.isEmpty with
 | false=>
  have hne:(xs.size != (#[]:Array Value).size)=true:=by
   rw [Array.isEmpty_eq_false_iff] at hx
   simpa using hx
  refine richCompare_meets_room ⟨_,D.at0,rfl⟩ ⟨_,D.at1,rfl⟩ F.slot_list_eq F.entry_list_eq (F.args_list_eq_2 _ _) (SeqAt.list_eq_lengthsAt a b xs #[] e e2 none none #[] #[] hne) ⟨D.at0,D.at1,?_⟩ (show un<9900 by omega)
  have z:=hK () trivial h n tk hs D
  rw [hx] at z
  exact ⟨Value.noConfusion,z⟩
 | true=>
  have he:xs=#[]:=Array.isEmpty_iff.mp hx
  subst he
  refine richCompare_meets_room ⟨_,D.at0,rfl⟩ ⟨_,D.at1,rfl⟩ F.slot_list_eq F.entry_list_eq (F.args_list_eq_2 _ _) (SeqAt.list_eqAt a b #[] #[] e e2 none none #[] #[] rfl (fun _=>true)) ⟨D.at0,D.at1,fun j h1=>absurd h1 (Nat.not_lt_zero _),?_⟩ (show un<9900 by omega)
  exact ⟨Value.noConfusion,hK () trivial h n tk hs D⟩
theorem CD {b:Nat} (hu:un<=9000) :
  Pc W (Ar dp un Fr) (compareOp .NotEq (.ref a) (.ref b)) G ((a,A1 xs e)::(b,A1 #[] e2)::L) (⟨fun _=>G,fun _=>True,fun _=> .bool (!xs.isEmpty),fun _=>(a,A1 xs e)::(b,A1 #[] e2)::L⟩:A3 Value Unit):=by
 intro K hK E h n tk hs D
 rw [cmp_ne]
 cases hx:xs.isEmpty with
 | false=>
  have hne:(xs.size != (#[]:Array Value).size)=true:=by
   rw [Array.isEmpty_eq_false_iff] at hx
   simpa using hx
  refine richCompare_meets_room ⟨_,D.at0,rfl⟩ ⟨_,D.at1,rfl⟩ F.slot_list_ne F.entry_list_ne (F.args_list_ne_2 _ _) (SeqAt.list_ne_lengthsAt a b xs #[] e e2 none none #[] #[] hne) ⟨D.at0,D.at1,?_⟩ (show un<9900 by omega)
  have z:=hK () trivial h n tk hs D
  rw [hx] at z
  exact ⟨Value.noConfusion,z⟩
 | true=>
  have he:xs=#[]:=Array.isEmpty_iff.mp hx
  subst he
  refine richCompare_meets_room ⟨_,D.at0,rfl⟩ ⟨_,D.at1,rfl⟩ F.slot_list_ne F.entry_list_ne (F.args_list_ne_2 _ _) (SeqAt.list_neAt a b #[] #[] e e2 none none #[] #[] rfl (fun _=>true)) ⟨D.at0,D.at1,fun j h1=>absurd h1 (Nat.not_lt_zero _),?_⟩ (show un<9900 by omega)
  exact ⟨Value.noConfusion,hK () trivial h n tk hs D⟩
theorem c_tup_ne {b:Nat} {xs ys:List (Str×Nat)} (hu:un<=9000) (hxy:xs.map (·.1)=ys.map (·.1)) :
  Pc W (Ar dp un Fr) (compareOp .NotEq (.ref a) (.ref b)) G ((a,Af (sv xs))::(b,Af (sv ys))::L) (⟨fun _=>G,fun _=>True,fun _=> .bool false,fun _=>(a,Af (sv xs))::(b,Af (sv ys))::L⟩:A3 Value Unit):=by
 intro K hK E h n tk hs D
 rw [cmp_ne]
 have hlen:xs.length=ys.length:=by simpa using congrArg List.length hxy
 refine richCompare_meets_room ⟨_,D.at0,rfl⟩ ⟨_,D.at1,rfl⟩ F.slot_tuple_ne F.entry_tuple_ne (F.args_tuple_ne_2 _ _) (SeqAt.tuple_neAt a b (sv xs) (sv ys) 0 0 none none #[] #[] (fun _=>true)) ⟨D.at0,D.at1,fun j h1 h2=>?_,?_⟩ (show un<9900 by omega)
 ·have hj1:j<xs.length:=by simpa [sv] using h1
  have hj2:j<ys.length:=by simpa [sv] using h2
  have e:xs[j].1=ys[j].1:=by
   have:=congrArg (·[j]?) hxy
   simpa [List.getElem?_eq_getElem hj1,List.getElem?_eq_getElem hj2] using this
  have e1:(sv xs)[j]= .str xs[j].1 xs[j].2:=by simp [sv]
  have e2:(sv ys)[j]= .str ys[j].1 ys[j].2:=by simp [sv]
  rw [e1,e2]
  have z:=SeqAt.EqAt.str_str (A:=(Ar dp un Fr).in1) (s:=⟨h,⟨G⟩,W.d,tk,W.os⟩) xs[j].1 xs[j].2 ys[j].1 ys[j].2
  rw [e] at z ⊢
  simpa using z
 ·have hz:(!((List.range (min (sv xs).size (sv ys).size)).all (fun _=>true)&&(sv xs).size==(sv ys).size))=false:=by
   rw [Am,Am,hlen]
   simp
  rw [hz]
  exact ⟨Value.noConfusion,hK () trivial h n tk hs D⟩
theorem AX {w:World} {elt target iter:PySem.Expr} {ifs:List PySem.Expr} {scope:Scope} {pos:Pos} {it acc:Value}
  (h:wpAny (model prog w) A (pyNext it) (fun r s₁=>match r with
   | none=>R (.ok .next) s₁
   | some v=>wpAny (model prog w) A (assign target env v) (fun _ s₂=>
     wpAny (model prog w) A (forIn ifs true fun c r=>if r=true then do let ok ← isTrue c env (eval c env);pure (ForInStep.yield ok) else pure (ForInStep.yield r)) (fun ok s₃=>
      if ok=true then wpAny (model prog w) A (eval elt env) (fun x s₄=>
       wpAny (model prog w) A (call (.builtin "list.append") [acc,x]) (fun _ s₅=>codeAny (model prog w) A (.compLoop (.ListComp elt [⟨target,iter,ifs,0⟩] scope pos) 0 it acc env) R s₅) (notedBy (model prog w) A env fun e s'=>R (.error e) s') s₄) (notedBy (model prog w) A env fun e s'=>R (.error e) s') s₃
      else codeAny (model prog w) A (.compLoop (.ListComp elt [⟨target,iter,ifs,0⟩] scope pos) 0 it acc env) R s₃) (notedBy (model prog w) A env fun e s'=>R (.error e) s') s₂) (notedBy (model prog w) A env fun e s'=>R (.error e) s') s₁) (notedBy (model prog w) A env fun e s'=>R (.error e) s') s)
  (ht:∀ v,letOwnedTupleGo target it v=pure ():=by intro _;rfl) :
  codeAny (model prog w) A (.compLoop (.ListComp elt [⟨target,iter,ifs,0⟩] scope pos) 0 it acc env) R s:=by
 refine codeAny_of_tree ?_
 show wpAny _ A ((compTurn (.ListComp elt [⟨target,iter,ifs,0⟩] scope pos) 0 it acc env).onRaise (fun x=>do noteFrame x env;theTreesLotGoes x)) _ _ s
 refine wpAny_noted ?_
 rw [compTurn_list]
 refine wpAny_bind (wpAny_standAt (wpAny_bind (wpAny_mono h (fun r s₁ h₁=>?_) fun _ _ h'=>h')))
 cases r with
 | none=>exact wpAny_pure h₁
 | some v=>
  refine wpAny_bind (wpAny_of_eq (ht v) ?_)
  refine wpAny_bind (wpAny_mono h₁ (fun _ s₂ h₂=>wpAny_bind (wpAny_mono h₂ (fun ok s₃ h₃=>?_) fun _ _ h'=>h')) fun _ _ h'=>h')
  cases ok with
  | false=>exact wpAny_pure ⟨rfl,h₃⟩
  | true=>exact wpAny_bind (wpAny_bind (wpAny_mono h₃ (fun x s₄ h₄=>wpAny_bind (wpAny_mono h₄ (fun _ s₅ h₅=>wpAny_pure (wpAny_pure ⟨rfl,h₅⟩)) fun _ _ h'=>h')) fun _ _ h'=>h'))
noncomputable def wW (W:Wd):Stmt:=AE (Ak W.kt 202) 6
noncomputable def wS (W:Wd) (i:Nat):Stmt:=AE (bdW (wW W)) i
noncomputable def Av (W:Wd) (n:Nat):Env:=A5 W.kt 202 n 8
noncomputable def cwN (T:Nat->Nat) (z c:Nat) (least:Int) (tl:Nat) (nw:Bool) (n:Nat) (nm:Str) (tm:Nat) (ext:List (Str×Nat×Value)):List (Str×Nat×Value):=
 (S [115,111,114,116,101,114],T 0,.ref (z+8))::(sal,T 1,.ref (c+8))::(sbi,T 2,.int least tl)::(S [110,101,119,101,115,116],T 3,.bool nw)::(S [108,97,98,101,108,115],T 4,.ref (n+6+8))::(S [119,97,105,116,105,110,103],T 5,.ref (n+10+8))::(sao,T 6,.str nm tm)::ext
noncomputable def dC (W:Wd):PySem.Expr:=Bh (wS W 0)
noncomputable def lcE (e:PySem.Expr):PySem.Expr:=(Bp e).e
noncomputable def lcT (e:PySem.Expr):PySem.Expr:=(hdG (Bp e).g).target
noncomputable def lcI (e:PySem.Expr):PySem.Expr:=(hdG (Bp e).g).iter
noncomputable def lcF (e:PySem.Expr):List PySem.Expr:=(hdG (Bp e).g).ifs
noncomputable def E8 (e:PySem.Expr):Scope:=(Bp e).s
noncomputable def lcP (e:PySem.Expr):Pos:=(Bp e).p
noncomputable def B6:List PySem.Expr->Nat->PySem.Expr
 | [],_=>default
 | e::_,0=>e
 | _::l,n+1=>B6 l n
noncomputable def E5 (e:PySem.Expr):List PySem.Expr:=(Bp e).l
noncomputable def boP (e:PySem.Expr):Pos:=(Bp e).p
noncomputable def cmL (e:PySem.Expr):PySem.Expr:=(Bp e).e
noncomputable def Ci (e:PySem.Expr):PySem.Expr:=hdE (Bp e).l
noncomputable def cmP (e:PySem.Expr):Pos:=(Bp e).p
noncomputable def dF (W:Wd):PySem.Expr:=B6 (lcF (dC W)) 0
noncomputable def d1 (W:Wd):PySem.Expr:=B6 (E5 (dF W)) 0
noncomputable def d2 (W:Wd):PySem.Expr:=B6 (E5 (dF W)) 1
noncomputable def iC (W:Wd):PySem.Expr:=cmL (d2 W)
theorem dC_eq (W:Wd):dC W= .ListComp (lcE (dC W)) [⟨lcT (dC W),lcI (dC W),[dF W],0⟩] (E8 (dC W)) (lcP (dC W)):=by kernel_rfl
theorem dF_eq (W:Wd):dF W= .BoolOp .And [d1 W,d2 W] (boP (dF W)):=by kernel_rfl
theorem d2_eq (W:Wd):d2 W= .Compare (iC W) [.Eq] [Ci (d2 W)] (cmP (d2 W)):=by kernel_rfl
noncomputable def dE (W:Wd) (n D:Nat):Env:=Cm (Av W n) (dC W) (D+8) [(S [111,118,101,114],n+13),(sch,n+10),(S [103,105,118,101,110],n+12)]
noncomputable def dCo (W:Wd) (it acc n D:Nat):Code:= .compLoop (dC W) 0 (.ref (it+8)) (.ref (acc+8)) (dE W n D)
noncomputable def dSt (W:Wd) (it acc n D:Nat):Code:= .compStart (dC W) 0 (.ref (it+8)) (.ref (acc+8)) (dE W n D)
theorem Cv (ok:W.Ok) {k:Nat} :
  Pc W (Ar dp un F) (pyNext (.ref (it+8))) G (c8 it (rit i (k+1))::L)
  (⟨fun _=>G,fun _=>True,fun t=>some (.int (i:Int) t),fun _=>c8 it (rit (i+1) k)::L⟩:A3 (Option Value) Nat):=by
 refine Pc.of Ea Ba _ (by rw [BS]) fun R n' tk' c₀ d f gg u hA hR=>?_
 refine CQ ok 1 1 hA (.call (.builtin "range_iterator.__next__") ⟨[.ref (it+8)],[]⟩) (c8 it (rit i (k+1))::L) [] 0 A6 (fun _ eA=>rnext) fun t n₁ tk₁ _=>?_
 exact Aj ok 0 0 hR t trivial (.ret (.int (i:Int) t)) rfl [] 0
theorem r_end (ok:W.Ok) :
  Pc W (Ar dp un F) (pyNext (.ref (it+8))) G (c8 it (rit i 0)::L)
  (⟨fun _=>G,fun _=>True,fun _=>none,fun _=>L⟩:A3 (Option Value) Unit):=by
 refine Pc.of Ea Ba _ (by rw [BS]) fun R n' tk' c₀ d f gg u hA hR=>?_
 refine CQ ok 1 1 hA (.call (.builtin "range_iterator.__next__") ⟨[.ref (it+8)],[]⟩) (c8 it (rit i 0)::L) [] 0 (BP (Ar dp un F)) (fun _ eA=>Tri.at eA rend) fun p n₁ tk₁ _=>?_
 exact Aj ok 1 1 hR () trivial .next rfl [0,1,2] 3
theorem DI {f:Value} {vs:List Value} {β:Type} {v:β->Value} {L':β->List Cell} (x:Tri W A (.call f ⟨vs,[]⟩) G L (Gives G v L')) :
  Pc W A (PySem.call f vs) G L (⟨fun _=>G,fun _=>True,v,L'⟩:A3 Value β):=fun K hK E h n tk hs D=>
 wpAny_call (x _ (fun p _ h' n' tk' hs' D'=>hK p trivial h' n' tk' hs' D') h n tk hs D)
theorem d_asg0 (ok:W.Ok) {t:Nat} :
  Pc W (Ar dp un F) (assign (lcT (dC W)) (dE W n D) (.int (i:Int) t)) G (c8 D (lo W [])::L)
  (⟨fun _=>G,fun _=>True,fun _=>(),fun p=>c8 D (lo W [(saa,p,.int (i:Int) t)])::L⟩:A3 Unit Nat):=by
 refine Pc.of Bo Ap _ (by rw [Ax]) fun R n' tk' c₀ d f gg u hA hR=>?_
 exact Aj ok 7 1 hR tk' trivial .next rfl [] 0
theorem d_asg1 (ok:W.Ok) {t:Nat} {v:Value} :
  Pc W (Ar dp un F) (assign (lcT (dC W)) (dE W n D) (.int (i:Int) t)) G (c8 D (lo W [(saa,tj,v)])::L)
  (⟨fun _=>G,fun _=>True,fun _=>(),fun p=>c8 D (lo W [(saa,p,.int (i:Int) t)])::L⟩:A3 Unit Nat):=by
 refine Pc.of Bo Ap _ (by rw [Ax]) fun R n' tk' c₀ d f gg u hA hR=>?_
 exact Aj ok 7 1 hR tj trivial .next rfl [] 0
noncomputable def Az (l:List (Nat×Nat)) (j:Nat):Bool:=l.any fun p=>p.1==j
theorem isIn_int (l:List (Nat×Nat)) (j:Nat):((nvl l).any fun p=>p.1==(j:Int))=Az l j:=by
 unfold Az nvl
 rw [List.any_map]
 congr 1
 funext p
 show (((p.1:Nat):Int)==(j:Int))=(p.1==j)
 rw [Bool.eq_iff_iff,beq_iff_eq,beq_iff_eq]
 constructor<;>intro h<;>omega
theorem in_list {t:Nat} {xs:List (Nat×Nat)} :
  Tri W A (.call (.builtin "list.__contains__") ⟨[.ref l,.int (j:Int) t],[]⟩) G ((l,A1 (iv (nvl xs)) e)::L) (Ret (.bool (Az xs j)) G ((l,A1 (iv (nvl xs)) e)::L)):=isIn_int xs j▸list_contains
theorem d_test1 (ok:W.Ok) {t:Nat} :
  Pc W (Ar dp un F) (PySem.isTrue (d1 W) (dE W n D) (eval (d1 W) (dE W n D))) G (c8 D (lo W [(saa,tj,.int (i:Int) t)])::cC (n+12) (n+8)::lN (n+8) gs eg::L)
  (⟨fun _=>G,fun _=>True,fun _=>!Az gs i,fun p=>c8 D (lo W [(saa,tj,.int (i:Int) t)])::cC (n+12) (n+8)::lN (n+8) gs eg::L⟩:A3 Bool Unit):=by
 refine Pc.of embB Bv _ (by rw [BA,Ag]) fun R n' tk' c₀ d f gg u hA hR=>?_
 refine BB ok 7 798849 hA (.call (.builtin "list.__contains__") ⟨[.ref (n+8+8),.int (i:Int) t],[]⟩) [2] (lN (n+8) gs eg) A6 (fun _ _ eA=>in_list) fun _ n₁ tk₁ _=>?_
 cases hh:Az gs i
 ·exact Aj ok 0 0 hR () trivial (.ret (.bool true)) (by rw [hh];rfl) [1,2,0] 0
 ·exact Aj ok 0 0 hR () trivial (.ret (.bool false)) (by rw [hh];rfl) [1,2,0] 0
theorem d_elt (ok:W.Ok) {v:Value} :
  Pc W (Ar dp un F) (eval (lcE (dC W)) (dE W n D)) G (c8 D (lo W [(saa,tj,v)])::L)
  (⟨fun _=>G,fun _=>True,fun _=>v,fun p=>c8 D (lo W [(saa,tj,v)])::L⟩:A3 Value Unit):=by
 refine Pc.of AL Ac _ (by rw [Ag]) fun R n' tk' c₀ d f gg u hA hR=>?_
 exact Aj ok 2 1 hR () trivial (.ret v) rfl [] 0
theorem nlv_get (hi:i<6):(nlv (qv qq 6))[i]?=some (.ref ((qq i).l+8)):=by
 simp [nlv,qv,hi]
noncomputable def iE (W:Wd) (n D Di:Nat):Env:=Cm (dE W n D) (iC W) (Di+8) [(S [111,118,101,114],n+13)]
noncomputable def iCo (W:Wd) (it acc n D Di:Nat):Code:= .compLoop (iC W) 0 (.ref (it+8)) (.ref (acc+8)) (iE W n D Di)
noncomputable def iSt (W:Wd) (it acc n D Di:Nat):Code:= .compStart (iC W) 0 (.ref (it+8)) (.ref (acc+8)) (iE W n D Di)
noncomputable def fl (os l:List (Nat×Nat)):List (Nat×Nat):=l.filter fun p=>!Az os p.1
theorem C5 (l:List (Nat×Nat)) (x t:Nat):(iv (nvl l)).push (.int (x:Int) t)=iv (nvl (l++[(x,t)])):=by simp [iv]
theorem BG {l:List (Nat×Nat)} {a b:List (Nat×Nat)} {p:Nat×Nat} (h:l=a++p::b):(iv (nvl l))[a.length]?=some (.int (p.1:Int) p.2):=by
 subst h;simp [iv]
theorem BE {l:List (Nat×Nat)} {a:List (Nat×Nat)} (h:l=a++[]):(iv (nvl l))[a.length]?=none:=by
 subst h;simp [iv]
noncomputable abbrev icQ (W:Wd) (G:List GenState) (L:List Cell) (n acc Di l eo en:Nat) (os ns ys:List (Nat×Nat)):Post ((List (Str×Nat×Value))×Nat):=
 Nx G (fun p=>c8 Di (lo W p.1)::lN acc ys p.2::cC (n+13) (n+9)::lN (n+9) os eo::lN l ns en::L) fun p=>p.1=[]∨∃ t v,p.1=[(sam,t,v)]
theorem ic_b (ok:W.Ok) {Di:Nat} {ns:List (Nat×Nat)} (hd:dp<=700) (hu:un<=700) :
  ∀ (rest done xs:List (Nat×Nat)) (tp e1:Nat) (v:Value),ns=done++rest->xs.length+rest.length<=500->Tri W (Ar dp un F) (iCo W it acc n D Di) G (c8 Di (lo W [(sam,tp,v)])::lN acc xs e1::c8 it (lit (l+8) done.length)::cC (n+13) (n+9)::lN (n+9) os eo::lN l ns en::L) (icQ W G L n acc Di l eo en os ns (xs++fl os rest)):=by
 intro rest
 induction rest with
 | nil=>
  intro done xs tp e1 v hns hl
  refine Tri.of fun R n' tk hR=>?_
  refine Cg ok 2 3 (.call (.builtin "list_iterator.__next__") ⟨[.ref (it+8)],[]⟩) [2,5] (c8 it (lit (l+8) done.length)) (lN l ns en) (BP (Ar dp un F)) (fun _ _ eA=>Tri.at eA (B1 (BE hns))) fun p n₀ tk₀ _=>?_
  exact gmend ok 1 1 hR ([(sam,tp,v)],e1) (.inr ⟨_,_,rfl⟩) .next rfl (fun h D=>by
   have e:xs++fl os []=xs:=by simp [fl]
   show Own W.h₀ 53 h (c8 Di (lo W [(sam,tp,v)])::(acc+8,A1 (iv (nvl (xs++fl os []))) e1)::cC (n+13) (n+9)::lN (n+9) os eo::lN l ns en::L)
   rw [e]
   exact A4 [0,1,2,4,5,6,7,3] 3 (by kernel_rfl) h D)
 | cons p rest ih=>
  intro done xs tp e1 v hns hl
  refine Tri.of fun R n' tk hR=>?_
  refine Cg ok 2 3 (.call (.builtin "list_iterator.__next__") ⟨[.ref (it+8)],[]⟩) [2,5] (c8 it (lit (l+8) done.length)) (lN l ns en) A6 (fun _ _ eA=>AM (BG hns)) fun _ n₀ tk₀ _=>?_
  refine AU ok 14 6544437379 (.call (.builtin "list.__contains__") ⟨[.ref (n+9+8),.int (p.1:Int) p.2],[]⟩) [5] (lN (n+9) os eo) A6 (fun _ _ eA=>in_list) fun _ n₁ tk₁ _=>?_
  cases hh:Az os p.1
  ·refine AU ok 2 4 (.call (.builtin "list.append") ⟨[.ref (acc+8),.int (p.1:Int) p.2],[]⟩) [4] (lN acc xs e1) A6 (fun _ _ eA=>A8 (by simp [iv];simp at hl;omega)) fun e' n₂ tk₂ _=>?_
   refine gmore ok 0 0 ⟨by kernel_rfl,?_⟩
   have hf:fl os (p::rest)=p::fl os rest:=by simp [fl,hh]
   refine gagain (iCo W it acc n D Di) (by kernel_rfl) (by kernel_rfl) hR (L:=c8 Di (lo W [(sam,tp,.int (p.1:Int) p.2)])::(acc+8,A1 (iv (nvl (xs++[p]))) e')::c8 it (lit (l+8) (done.length+1))::cC (n+13) (n+9)::lN (n+9) os eo::lN l ns en::L)
    (fun h D=>(C5 xs p.1 p.2)▸A4 [4,0,2,5,1,3] 0 (by kernel_rfl) h D) ?_
   have z:=ih (done++[p]) (xs++[p]) tp e' (.int (p.1:Int) p.2) (by rw [hns,List.append_assoc];rfl) (by simp at hl ⊢;omega)
   rw [List.length_append,hf] at *
   rw [List.append_assoc] at z
   exact z
  ·refine gmore ok 0 0 ⟨by kernel_rfl,?_⟩
   have hf:fl os (p::rest)=fl os rest:=by simp [fl,hh]
   refine gagain (iCo W it acc n D Di) (by kernel_rfl) (by kernel_rfl) hR (L:=c8 Di (lo W [(sam,tp,.int (p.1:Int) p.2)])::lN acc xs e1::c8 it (lit (l+8) (done.length+1))::cC (n+13) (n+9)::lN (n+9) os eo::lN l ns en::L)
    (A4 [3,4,1,5,0,2] 0 (by kernel_rfl)) ?_
   have z:=ih (done++[p]) xs tp e1 (.int (p.1:Int) p.2) (by rw [hns,List.append_assoc];rfl) (by simp at hl ⊢;omega)
   rw [List.length_append,hf] at *
   exact z
theorem ic_a (ok:W.Ok) {Di:Nat} {ns:List (Nat×Nat)} (hd:dp<=700) (hu:un<=700) :
  ∀ (rest done xs:List (Nat×Nat)) (e1:Nat),ns=done++rest->xs.length+rest.length<=500->Tri W (Ar dp un F) (iCo W it acc n D Di) G (c8 Di (lo W [])::lN acc xs e1::c8 it (lit (l+8) done.length)::cC (n+13) (n+9)::lN (n+9) os eo::lN l ns en::L) (icQ W G L n acc Di l eo en os ns (xs++fl os rest)):=by
 intro rest
 cases rest with
 | nil=>
  intro done xs e1 hns hl
  refine Tri.of fun R n' tk hR=>?_
  refine Cg ok 2 3 (.call (.builtin "list_iterator.__next__") ⟨[.ref (it+8)],[]⟩) [2,5] (c8 it (lit (l+8) done.length)) (lN l ns en) (BP (Ar dp un F)) (fun _ _ eA=>Tri.at eA (B1 (BE hns))) fun p n₀ tk₀ _=>?_
  exact gmend ok 1 1 hR ([],e1) (.inl rfl) .next rfl (fun h D=>by
   have e:xs++fl os []=xs:=by simp [fl]
   show Own W.h₀ 53 h (c8 Di (lo W [])::(acc+8,A1 (iv (nvl (xs++fl os []))) e1)::cC (n+13) (n+9)::lN (n+9) os eo::lN l ns en::L)
   rw [e]
   exact A4 [0,1,2,4,5,6,7,3] 3 (by kernel_rfl) h D)
 | cons p rest=>
  intro done xs e1 hns hl
  refine Tri.of fun R n' tk hR=>?_
  refine Cg ok 2 3 (.call (.builtin "list_iterator.__next__") ⟨[.ref (it+8)],[]⟩) [2,5] (c8 it (lit (l+8) done.length)) (lN l ns en) A6 (fun _ _ eA=>AM (BG hns)) fun _ n₀ tk₀ _=>?_
  refine AU ok 14 6544437379 (.call (.builtin "list.__contains__") ⟨[.ref (n+9+8),.int (p.1:Int) p.2],[]⟩) [5] (lN (n+9) os eo) A6 (fun _ _ eA=>in_list) fun _ n₁ tk₁ _=>?_
  cases hh:Az os p.1
  ·refine AU ok 2 4 (.call (.builtin "list.append") ⟨[.ref (acc+8),.int (p.1:Int) p.2],[]⟩) [4] (lN acc xs e1) A6 (fun _ _ eA=>A8 (by simp [iv];simp at hl;omega)) fun e' n₂ tk₂ _=>?_
   refine gmore ok 0 0 ⟨by kernel_rfl,?_⟩
   have hf:fl os (p::rest)=p::fl os rest:=by simp [fl,hh]
   refine gagain (iCo W it acc n D Di) (by kernel_rfl) (by kernel_rfl) hR (L:=c8 Di (lo W [(sam,tk₀,.int (p.1:Int) p.2)])::(acc+8,A1 (iv (nvl (xs++[p]))) e')::c8 it (lit (l+8) (done.length+1))::cC (n+13) (n+9)::lN (n+9) os eo::lN l ns en::L)
    (fun h D=>(C5 xs p.1 p.2)▸A4 [4,0,2,5,1,3] 0 (by kernel_rfl) h D) ?_
   have z:=ic_b (G:=G) (L:=L) (F:=F) (n:=n) (D:=D) (Di:=Di) (it:=it) (acc:=acc) (l:=l) (eo:=eo) (en:=en) (os:=os) (ns:=ns) ok hd hu rest (done++[p]) (xs++[p]) tk₀ e' (.int (p.1:Int) p.2) (by rw [hns,List.append_assoc];rfl) (by simp at hl ⊢;omega)
   rw [List.length_append,hf] at *
   rw [List.append_assoc] at z
   exact z
  ·refine gmore ok 0 0 ⟨by kernel_rfl,?_⟩
   have hf:fl os (p::rest)=fl os rest:=by simp [fl,hh]
   refine gagain (iCo W it acc n D Di) (by kernel_rfl) (by kernel_rfl) hR (L:=c8 Di (lo W [(sam,tk₀,.int (p.1:Int) p.2)])::lN acc xs e1::c8 it (lit (l+8) (done.length+1))::cC (n+13) (n+9)::lN (n+9) os eo::lN l ns en::L)
    (A4 [3,4,1,5,0,2] 0 (by kernel_rfl)) ?_
   have z:=ic_b (G:=G) (L:=L) (F:=F) (n:=n) (D:=D) (Di:=Di) (it:=it) (acc:=acc) (l:=l) (eo:=eo) (en:=en) (os:=os) (ns:=ns) ok hd hu rest (done++[p]) xs tk₀ e1 (.int (p.1:Int) p.2) (by rw [hns,List.append_assoc];rfl) (by simp at hl ⊢;omega)
   rw [List.length_append,hf] at *
   exact z
theorem ic_start (ok:W.Ok) {Di:Nat} {α:Type} {Q:Post α} (spec:Tri W A (iCo W it acc n D Di) G (c8 it (lit (l+8) i)::L) Q):Tri W A (iSt W it acc n D Di) G (c8 it (lit (l+8) i)::L) Q:=by
 obtain ⟨w₀,b2,b3,h₀,dd,os⟩:=W
 cases b2
 ·refine Tri.of fun R n' tk hR=>?_
  exact Cq ok 11 266305 (iCo _ it acc n D Di) _ [] 0 hR spec
 ·refine Tri.of fun R n' tk hR=>?_
  exact Cq ok 1 0 (iCo _ it acc n D Di) _ [] 0 hR spec
theorem d_inner (ok:W.Ok) {t:Nat} (hd:dp<=700) (hu:un<=700) (hi:i<6) (hq:Needs qq) :
  Pc W (Ar dp un F) (eval (iC W) (dE W n D)) G (c8 D (lo W [(saa,tj,.int (i:Int) t)])::cC (n+10) q::cC (n+13) (n+9)::lL q (nlv (qv qq 6)) eq::lN (n+9) os eo::(qq i).cell::L)
  (⟨fun _=>G,fun _=>True,fun p=> .ref (p.1+8),fun p=>lN p.1 (fl os (qq i).ns) p.2::c8 D (lo W [(saa,tj,.int (i:Int) t)])::cC (n+10) q::cC (n+13) (n+9)::lL q (nlv (qv qq 6)) eq::lN (n+9) os eo::(qq i).cell::L⟩:A3 Value (Nat×Nat)):=by
 refine Pc.of AL Ac _ (by rw [Ag]) fun R n' tk' c₀ d f gg u hA hR=>?_
 refine BB ok 8 68173890 hA (.call (.builtin "list.__getitem__") ⟨[.ref (q+8),.int (i:Int) t],[]⟩) [3] (lL q (nlv (qv qq 6)) eq) A6 (fun _ _ eA=>Aa (x:= .ref ((qq i).l+8)) (by omega) (by omega) (by rw [Int.toNat_natCast];exact nlv_get hi)) fun _ n₁ tk₁ _=>?_
 refine gmore ok 12 287110 ⟨by kernel_rfl,?_⟩
 have hn:=(hq i hi).2
 refine pcall hA (by kernel_rfl) (iSt W n₁ (n₁+1) n D (n₁+2)) (by kernel_rfl) (by kernel_rfl) (L:=c8 n₁ (lit ((qq i).l+8) 0)::c8 (n₁+2) (lo W [])::lN (n₁+1) [] 0::cC (n+13) (n+9)::lN (n+9) os eo::((qq i).l+8,A1 (iv (nvl (qq i).ns)) (qq i).e)::c8 D (lo W [(saa,tj,.int (i:Int) t)])::cC (n+10) q::lL q (nlv (qv qq 6)) eq::L)
  (A4 [2,0,1,6,7,8,4,5,3] 0 (by kernel_rfl)) (ic_start ok (Tri.at (by kernel_rfl:BN (Ar dp un F) _=Ar dp un F) (Tri.own (ic_a (e1:=0) (xs:=[]) (done:=[]) (rest:=(qq i).ns) (n:=n) (D:=D) (Di:=n₁+2) (it:=n₁) (acc:=n₁+1) (l:=(qq i).l) (eo:=eo) (en:=(qq i).e) (os:=os) (ns:=(qq i).ns) (L:=c8 D (lo W [(saa,tj,.int (i:Int) t)])::cC (n+10) q::lL q (nlv (qv qq 6)) eq::L) ok hd hu rfl (by simp;omega)) (fun h D=>A4 [1,2,0] 0 (by kernel_rfl) h D)))) fun p n₂ tk₂ hp=>?_
 obtain ⟨pn,pe⟩:=p
 rcases (hp:pn=[]∨∃ t v,pn=[(sam,t,v)]) with rfl | ⟨to,vo,rfl⟩
 ·exact Aj ok 1 1 hR (n₁+1,pe) trivial (.ret (.ref (n₁+1+8))) rfl [0,1,5,6,2,7,3,4] 1
 ·exact Aj ok 5 65 hR (n₁+1,pe) trivial (.ret (.ref (n₁+1+8))) rfl [0,1,5,6,2,7,3,4] 1
theorem d_nil (ok:W.Ok) :
  Pc W (Ar dp un F) (eval (Ci (d2 W)) (dE W n D)) G L
  (⟨fun _=>G,fun _=>True,fun p=> .ref (p+8),fun p=>lL p #[] 0::L⟩:A3 Value Nat):=by
 refine Pc.of AL Ac _ (by rw [Ag]) fun R n' tk' c₀ d f gg u hA hR=>?_
 exact Aj ok 2 0 hR n' trivial (.ret (.ref (n'+8))) rfl [] 0
theorem d2_in (W:Wd):behindInMarks .Eq (Ci (d2 W))=false:=by kernel_rfl
theorem Ec (l:List (Nat×Nat)):(iv (nvl l)).isEmpty=l.isEmpty:=by cases l<;>rfl
theorem d_test2 (ok:W.Ok) {t:Nat} (hd:dp<=700) (hu:un<=700) (hi:i<6) (hq:Needs qq) :
  Pc W (Ar dp un F) (PySem.isTrue (d2 W) (dE W n D) (eval (d2 W) (dE W n D))) G (c8 D (lo W [(saa,tj,.int (i:Int) t)])::cC (n+10) q::cC (n+13) (n+9)::lL q (nlv (qv qq 6)) eq::lN (n+9) os eo::(qq i).cell::L)
  (⟨fun _=>G,fun _=>True,fun _=>(fl os (qq i).ns).isEmpty,fun p=>c8 D (lo W [(saa,tj,.int (i:Int) t)])::cC (n+10) q::cC (n+13) (n+9)::lL q (nlv (qv qq 6)) eq::lN (n+9) os eo::(qq i).cell::L⟩:A3 Bool Unit):=by
 intro K hK E h n0 tk0 hs D0
 rw [d2_eq]
 refine wpAny_isTrue_Compare1 ?_ (d2_in W)
 refine Pc.go (d_inner (t:=t) (tj:=tj) (q:=q) (eq:=eq) (eo:=eo) (os:=os) (L:=L) ok hd hu hi hq) (fun p _ h1 n1 tk1 hs1 D1=>?_) hs D0
 refine Pc.go (d_nil ok) (fun m _ h2 n2 tk2 hs2 D2=>?_) hs1 D1
 refine Pc.go (CV (xs:=iv (nvl (fl os (qq i).ns))) (e:=p.2) (e2:=0) (L:=c8 D (lo W [(saa,tj,.int (i:Int) t)])::cC (n+10) q::cC (n+13) (n+9)::lL q (nlv (qv qq 6)) eq::lN (n+9) os eo::(qq i).cell::L) (show un<=9000 by omega)) (fun _ _ h3 n3 tk3 hs3 D3=>?_) hs2 (A2 [[lL m #[] 0],[lN p.1 (fl os (qq i).ns) p.2]] [1,0] (tail:=c8 D (lo W [(saa,tj,.int (i:Int) t)])::cC (n+10) q::cC (n+13) (n+9)::lL q (nlv (qv qq 6)) eq::lN (n+9) os eo::(qq i).cell::L)  D2)
 refine wpAny_truthy_bool ?_
 have z:=hK () trivial h3 n3 tk3 hs3 (D3.sub (List.Sublist.trans (List.sublist_cons_self ..) (List.sublist_cons_self ..)))
 rw [Ec]
 exact z
noncomputable def Cn (gs os:List (Nat×Nat)) (qq:Nat->NL) (i:Nat):Bool:=!Az gs i&&(fl os (qq i).ns).isEmpty
theorem d_tests (ok:W.Ok) {t:Nat} (hd:dp<=700) (hu:un<=700) (hi:i<6) (hq:Needs qq) :
  Pc W (Ar dp un F) (forIn [dF W] true fun c r=>if r=true then do let ok ← PySem.isTrue c (dE W n D) (eval c (dE W n D));pure (ForInStep.yield ok) else pure (ForInStep.yield r)) G (c8 D (lo W [(saa,tj,.int (i:Int) t)])::cC (n+10) q::cC (n+13) (n+9)::lL q (nlv (qv qq 6)) eq::lN (n+9) os eo::(qq i).cell::cC (n+12) (n+8)::lN (n+8) gs eg::L)
  (⟨fun _=>G,fun _=>True,fun _=>Cn gs os qq i,fun p=>c8 D (lo W [(saa,tj,.int (i:Int) t)])::cC (n+10) q::cC (n+13) (n+9)::lL q (nlv (qv qq 6)) eq::lN (n+9) os eo::(qq i).cell::cC (n+12) (n+8)::lN (n+8) gs eg::L⟩:A3 Bool Unit):=by
 intro K hK E h n0 tk0 hs D0
 simp only [List.forIn_cons,List.forIn_nil,if_true]
 refine wpAny_bind (wpAny_bind ?_)
 rw [dF_eq]
 refine wpAny_isTrue_BoolOp (wpAny_allTrue_And_cons ?_)
 refine Pc.go (d_test1 (t:=t) (tj:=tj) (gs:=gs) (eg:=eg) (L:=cC (n+10) q::cC (n+13) (n+9)::lL q (nlv (qv qq 6)) eq::lN (n+9) os eo::(qq i).cell::L) ok) (fun _ _ h1 n1 tk1 hs1 D1=>?_) hs (A2 [[c8 D (lo W [(saa,tj,.int (i:Int) t)])],[cC (n+10) q],[cC (n+13) (n+9)],[lL q (nlv (qv qq 6)) eq],[lN (n+9) os eo],[(qq i).cell],[cC (n+12) (n+8)],[lN (n+8) gs eg]] [0,6,7,1,2,3,4,5] (tail:=L)  D0)
 have D2:=A2 [[c8 D (lo W [(saa,tj,.int (i:Int) t)])],[cC (n+12) (n+8)],[lN (n+8) gs eg],[cC (n+10) q],[cC (n+13) (n+9)],[lL q (nlv (qv qq 6)) eq],[lN (n+9) os eo],[(qq i).cell]] [0,3,4,5,6,7,1,2] (tail:=L)  D1
 cases hg:Az gs i with
 | true=>
  have z:=hK () trivial h1 n1 tk1 hs1 D2
  unfold Cn at z
  rw [hg] at z
  exact wpAny_pure (wpAny_pure z)
 | false=>
  refine wpAny_allTrue_And_cons ?_
  refine Pc.go (d_test2 (t:=t) (tj:=tj) (q:=q) (eq:=eq) (eo:=eo) (os:=os) (L:=cC (n+12) (n+8)::lN (n+8) gs eg::L) ok hd hu hi hq) (fun _ _ h2 n2 tk2 hs2 D3=>?_) hs1 D2
  have z:=hK () trivial h2 n2 tk2 hs2 D3
  unfold Cn at z
  rw [hg] at z
  try dsimp only
  cases hf:(fl os (qq i).ns).isEmpty with
  | true=>rw [hf] at z;exact wpAny_allTrue_And_nil (wpAny_pure (wpAny_pure z))
  | false=>rw [hf] at z;exact wpAny_pure (wpAny_pure z)
theorem CL:∀ {i:Nat},i<6->∃ A B,qc qq 6=A++([(qq i).cell]++B)
 | 0,_=>⟨[(qq 5).cell,(qq 4).cell,(qq 3).cell,(qq 2).cell,(qq 1).cell],[],rfl⟩
 | 1,_=>⟨[(qq 5).cell,(qq 4).cell,(qq 3).cell,(qq 2).cell],[(qq 0).cell],rfl⟩
 | 2,_=>⟨[(qq 5).cell,(qq 4).cell,(qq 3).cell],[(qq 1).cell,(qq 0).cell],rfl⟩
 | 3,_=>⟨[(qq 5).cell,(qq 4).cell],[(qq 2).cell,(qq 1).cell,(qq 0).cell],rfl⟩
 | 4,_=>⟨[(qq 5).cell],[(qq 3).cell,(qq 2).cell,(qq 1).cell,(qq 0).cell],rfl⟩
 | 5,_=>⟨[],[(qq 4).cell,(qq 3).cell,(qq 2).cell,(qq 1).cell,(qq 0).cell],rfl⟩
theorem Ct (W:Wd) (it acc n D:Nat):dCo W it acc n D= .compLoop (.ListComp (lcE (dC W)) [⟨lcT (dC W),lcI (dC W),[dF W],0⟩] (E8 (dC W)) (lcP (dC W))) 0 (.ref (it+8)) (.ref (acc+8)) (dE W n D):=by
 unfold dCo
 rw [← dC_eq]
noncomputable def Cs (n q eq eo eg:Nat) (qq:Nat->NL) (os gs:List (Nat×Nat)):List Cell:=
 [cC (n+10) q,cC (n+13) (n+9),lL q (nlv (qv qq 6)) eq,lN (n+9) os eo,cC (n+12) (n+8),lN (n+8) gs eg]
noncomputable def AH (gs os:List (Nat×Nat)) (qq:Nat->NL) (i k:Nat):List Nat:=(List.range' i k).filter (Cn gs os qq)
noncomputable abbrev dcQ (W:Wd) (G:List GenState) (L:List Cell) (n acc D q eq eo eg i k:Nat) (qq:Nat->NL) (os gs ds:List (Nat×Nat)):Post (List (Str×Nat×Value)×List (Nat×Nat)×Nat):=
 Nx G (fun p=>c8 D (lo W p.1)::lN acc p.2.1 p.2.2::(Cs n q eq eo eg qq os gs++(qc qq 6++L))) fun p=>(p.1=[]∨∃ t v,p.1=[(saa,t,v)])/\p.2.1.map (·.1)=ds.map (·.1)++AH gs os qq i k
theorem dc_b (ok:W.Ok) (hd:dp<=700) (hu:un<=700) (hq:Needs qq) :
  ∀ (k i tp e1:Nat) (v:Value) (ds:List (Nat×Nat)),i+k=6->ds.length+k<=100->Tri W (Ar dp un F) (dCo W it acc n D) G (c8 D (lo W [(saa,tp,v)])::lN acc ds e1::c8 it (rit i k)::(Cs n q eq eo eg qq os gs++(qc qq 6++L))) (dcQ W G L n acc D q eq eo eg i k qq os gs ds):=by
 intro k
 induction k with
 | zero=>
  intro i tp e1 v ds hik hdl R hR h n0 tk0 hs D0
  rw [Ct]
  refine AX ?_
  refine Pc.go (r_end ok) (fun _ _ h1 n1 tk1 hs1 D1=>?_) hs (A2 [[c8 D (lo W [(saa,tp,v)])],[lN acc ds e1],[c8 it (rit i 0)]] [2,0,1] (tail:=Cs n q eq eo eg qq os gs++(qc qq 6++L))  D0)
  exact hR ([(saa,tp,v)],ds,e1) ⟨.inr ⟨_,_,rfl⟩,by simp [AH]⟩ h1 n1 tk1 hs1 D1
 | succ k ih=>
  intro i tp e1 v ds hik hdl R hR h n0 tk0 hs D0
  obtain ⟨A,B,hAB⟩:=CL (qq:=qq) (i:=i) (by omega)
  rw [hAB,List.append_assoc,List.append_assoc] at D0
  rw [Ct]
  refine AX ?_
  refine Pc.go (Cv ok) (fun t _ h1 n1 tk1 hs1 D1=>?_) hs (A2 [[c8 D (lo W [(saa,tp,v)])],[lN acc ds e1],[c8 it (rit i (k+1))],Cs n q eq eo eg qq os gs,A,[(qq i).cell],B] [2,0,1,3,4,5,6] (tail:=L)  D0)
  try dsimp only
  refine Pc.go (d_asg1 ok) (fun tj _ h2 n2 tk2 hs2 D2=>?_) hs1 (A2 [[c8 it (rit (i+1) k)],[c8 D (lo W [(saa,tp,v)])],[lN acc ds e1],Cs n q eq eo eg qq os gs,A,[(qq i).cell],B] [1,0,2,3,4,5,6] (tail:=L)  D1)
  refine Pc.go (d_tests (t:=t) (tj:=tj) (q:=q) (eq:=eq) (eo:=eo) (eg:=eg) (os:=os) (gs:=gs) (L:=c8 it (rit (i+1) k)::lN acc ds e1::(A++(B++L))) ok hd hu (by omega) hq) (fun _ _ h3 n3 tk3 hs3 D3=>?_) hs2 (A2 [[c8 D (lo W [(saa,tj,.int (i:Int) t)])],[c8 it (rit (i+1) k)],[lN acc ds e1],[cC (n+10) q],[cC (n+13) (n+9)],[lL q (nlv (qv qq 6)) eq],[lN (n+9) os eo],[cC (n+12) (n+8)],[lN (n+8) gs eg],A,[(qq i).cell],B] [0,3,4,5,6,10,7,8,1,2,9,11] (tail:=L)  D2)
  have D4:=A2 [[c8 D (lo W [(saa,tj,.int (i:Int) t)])],[cC (n+10) q],[cC (n+13) (n+9)],[lL q (nlv (qv qq 6)) eq],[lN (n+9) os eo],[(qq i).cell],[cC (n+12) (n+8)],[lN (n+8) gs eg],[c8 it (rit (i+1) k)],[lN acc ds e1],A,B] [0,9,8,1,2,3,4,6,7,10,5,11] (tail:=L)  D3
  have D4:Own W.h₀ 53 h3 (c8 D (lo W [(saa,tj,.int (i:Int) t)])::lN acc ds e1::c8 it (rit (i+1) k)::(Cs n q eq eo eg qq os gs++((A++([(qq i).cell]++B))++L))):=by
   rw [List.append_assoc,List.append_assoc];exact D4
  rw [← hAB] at D4
  try dsimp only
  have hr:AH gs os qq i (k+1)=if Cn gs os qq i then i::AH gs os qq (i+1) k else AH gs os qq (i+1) k:=by
   unfold AH
   rw [List.range'_succ,List.filter_cons]
  cases hf:Cn gs os qq i with
  | true=>
   rw [hf,if_pos rfl] at hr
   rw [if_pos rfl]
   refine Pc.go (d_elt ok) (fun _ _ h5 n5 tk5 hs5 D5=>?_) hs3 D4
   refine Pc.go (DI (A8 (l:=acc+8) (xs:=iv (nvl ds)) (e:=e1) (L:=c8 D (lo W [(saa,tj,.int (i:Int) t)])::c8 it (rit (i+1) k)::(Cs n q eq eo eg qq os gs++(qc qq 6++L))) (by simp [iv];omega))) (fun e' _ h6 n6 tk6 hs6 D6=>?_) hs5 (A2 [[c8 D (lo W [(saa,tj,.int (i:Int) t)])],[lN acc ds e1]] [1,0] (tail:=c8 it (rit (i+1) k)::(Cs n q eq eo eg qq os gs++(qc qq 6++L)))  D5)
   have z:=ih (i+1) tj e' (.int (i:Int) t) (ds++[(i,t)]) (by omega) (by simp;omega) R (fun p hp=>hR p ⟨hp.1,by rw [hp.2,hr];simp⟩) h6 n6 tk6 hs6 (A2 [[(acc+8,A1 (iv (nvl (ds++[(i,t)]))) e')],[c8 D (lo W [(saa,tj,.int (i:Int) t)])]] [1,0] (tail:=c8 it (rit (i+1) k)::(Cs n q eq eo eg qq os gs++(qc qq 6++L)))  ((C5 ds i t)▸D6))
   rw [Ct] at z
   exact z
  | false=>
   rw [hf,if_neg Bool.false_ne_true] at hr
   rw [if_neg Bool.false_ne_true]
   have z:=ih (i+1) tj e1 (.int (i:Int) t) ds (by omega) (by omega) R (fun p hp=>hR p ⟨hp.1,by rw [hp.2,hr]⟩) h3 n3 tk3 hs3 D4
   rw [Ct] at z
   exact z
theorem dc_a (ok:W.Ok) {k:Nat} (hd:dp<=700) (hu:un<=700) (hq:Needs qq) (hik:i+(k+1)=6) (hdl:ds.length+(k+1)<=100) :
  Tri W (Ar dp un F) (dCo W it acc n D) G (c8 D (lo W [])::lN acc ds e1::c8 it (rit i (k+1))::(Cs n q eq eo eg qq os gs++(qc qq 6++L))) (dcQ W G L n acc D q eq eo eg i (k+1) qq os gs ds):=by
 intro R hR h n0 tk0 hs D0
 obtain ⟨A,B,hAB⟩:=CL (qq:=qq) (i:=i) (by omega)
 rw [hAB,List.append_assoc,List.append_assoc] at D0
 rw [Ct]
 refine AX ?_
 refine Pc.go (Cv ok) (fun t _ h1 n1 tk1 hs1 D1=>?_) hs (A2 [[c8 D (lo W [])],[lN acc ds e1],[c8 it (rit i (k+1))],Cs n q eq eo eg qq os gs,A,[(qq i).cell],B] [2,0,1,3,4,5,6] (tail:=L)  D0)
 try dsimp only
 refine Pc.go (d_asg0 ok) (fun tj _ h2 n2 tk2 hs2 D2=>?_) hs1 (A2 [[c8 it (rit (i+1) k)],[c8 D (lo W [])],[lN acc ds e1],Cs n q eq eo eg qq os gs,A,[(qq i).cell],B] [1,0,2,3,4,5,6] (tail:=L)  D1)
 refine Pc.go (d_tests (t:=t) (tj:=tj) (q:=q) (eq:=eq) (eo:=eo) (eg:=eg) (os:=os) (gs:=gs) (L:=c8 it (rit (i+1) k)::lN acc ds e1::(A++(B++L))) ok hd hu (by omega) hq) (fun _ _ h3 n3 tk3 hs3 D3=>?_) hs2 (A2 [[c8 D (lo W [(saa,tj,.int (i:Int) t)])],[c8 it (rit (i+1) k)],[lN acc ds e1],[cC (n+10) q],[cC (n+13) (n+9)],[lL q (nlv (qv qq 6)) eq],[lN (n+9) os eo],[cC (n+12) (n+8)],[lN (n+8) gs eg],A,[(qq i).cell],B] [0,3,4,5,6,10,7,8,1,2,9,11] (tail:=L)  D2)
 have D4:=A2 [[c8 D (lo W [(saa,tj,.int (i:Int) t)])],[cC (n+10) q],[cC (n+13) (n+9)],[lL q (nlv (qv qq 6)) eq],[lN (n+9) os eo],[(qq i).cell],[cC (n+12) (n+8)],[lN (n+8) gs eg],[c8 it (rit (i+1) k)],[lN acc ds e1],A,B] [0,9,8,1,2,3,4,6,7,10,5,11] (tail:=L)  D3
 have D4:Own W.h₀ 53 h3 (c8 D (lo W [(saa,tj,.int (i:Int) t)])::lN acc ds e1::c8 it (rit (i+1) k)::(Cs n q eq eo eg qq os gs++((A++([(qq i).cell]++B))++L))):=by
  rw [List.append_assoc,List.append_assoc];exact D4
 rw [← hAB] at D4
 try dsimp only
 have hr:AH gs os qq i (k+1)=if Cn gs os qq i then i::AH gs os qq (i+1) k else AH gs os qq (i+1) k:=by
  unfold AH
  rw [List.range'_succ,List.filter_cons]
 cases hf:Cn gs os qq i with
 | true=>
  rw [hf,if_pos rfl] at hr
  rw [if_pos rfl]
  refine Pc.go (d_elt ok) (fun _ _ h5 n5 tk5 hs5 D5=>?_) hs3 D4
  refine Pc.go (DI (A8 (l:=acc+8) (xs:=iv (nvl ds)) (e:=e1) (L:=c8 D (lo W [(saa,tj,.int (i:Int) t)])::c8 it (rit (i+1) k)::(Cs n q eq eo eg qq os gs++(qc qq 6++L))) (by simp [iv];omega))) (fun e' _ h6 n6 tk6 hs6 D6=>?_) hs5 (A2 [[c8 D (lo W [(saa,tj,.int (i:Int) t)])],[lN acc ds e1]] [1,0] (tail:=c8 it (rit (i+1) k)::(Cs n q eq eo eg qq os gs++(qc qq 6++L)))  D5)
  have z:=dc_b (F:=F) (G:=G) (L:=L) (n:=n) (D:=D) (it:=it) (acc:=acc) (q:=q) (eq:=eq) (eo:=eo) (eg:=eg) (qq:=qq) (os:=os) (gs:=gs) ok hd hu hq k (i+1) tj e' (.int (i:Int) t) (ds++[(i,t)]) (by omega) (by simp;omega) R (fun p hp=>hR p ⟨hp.1,by rw [hp.2,hr];simp⟩) h6 n6 tk6 hs6 (A2 [[(acc+8,A1 (iv (nvl (ds++[(i,t)]))) e')],[c8 D (lo W [(saa,tj,.int (i:Int) t)])]] [1,0] (tail:=c8 it (rit (i+1) k)::(Cs n q eq eo eg qq os gs++(qc qq 6++L)))  ((C5 ds i t)▸D6))
  rw [Ct] at z
  exact z
 | false=>
  rw [hf,if_neg Bool.false_ne_true] at hr
  rw [if_neg Bool.false_ne_true]
  have z:=dc_b (F:=F) (G:=G) (L:=L) (n:=n) (D:=D) (it:=it) (acc:=acc) (q:=q) (eq:=eq) (eo:=eo) (eg:=eg) (qq:=qq) (os:=os) (gs:=gs) ok hd hu hq k (i+1) tj e1 (.int (i:Int) t) ds (by omega) (by omega) R (fun p hp=>hR p ⟨hp.1,by rw [hp.2,hr]⟩) h3 n3 tk3 hs3 D4
  rw [Ct] at z
  exact z
theorem Ed (ok:W.Ok) {k:Nat} {α:Type} {Q:Post α} (spec:Tri W A (dCo W it acc n D) G (c8 it (rit i k)::L) Q):Tri W A (dSt W it acc n D) G (c8 it (rit i k)::L) Q:=by
 obtain ⟨w₀,b2,b3,h₀,dd,os⟩:=W
 cases b2
 ·refine Tri.of fun R n' tk hR=>?_
  exact Cq ok 11 266305 (dCo _ it acc n D) _ [] 0 hR spec
 ·refine Tri.of fun R n' tk hR=>?_
  exact Cq ok 1 0 (dCo _ it acc n D) _ [] 0 hR spec
theorem p_due (ok:W.Ok) {z:Nat} (hd:dp<=700) (hu:un<=700) (hq:Needs qq) :
  Pc W (Ar dp un F) (eval (dC W) (Av W n)) G (AF W n (cwN T z c least tl nw n nm tm ext)::(Cs n q eq eo eg qq os gs++(qc qq 6++L)))
  (⟨fun _=>G,fun p=>p.2.1.map (·.1)=AH gs os qq 0 6,fun p=> .ref (p.1+8),fun p=>lN p.1 p.2.1 p.2.2::AF W n (cwN T z c least tl nw n nm tm ext)::(Cs n q eq eo eg qq os gs++(qc qq 6++L))⟩:A3 Value (Nat×List (Nat×Nat)×Nat)):=by
 refine Pc.of AL Ac _ (by rw [Ag]) fun R n' tk' c₀ d f gg u hA hR=>?_
 refine pcL ok 38 4797324681010433232896 hA (dSt W (n'+1) (n'+2) n (n'+3)) (c8 (n'+1) (rit 0 6)::c8 (n'+3) (lo W [])::lN (n'+2) [] 0::(Cs n q eq eo eg qq os gs++(qc qq 6++(AF W n (cwN T z c least tl nw n nm tm ext)::L)))) (BP (Ar dp un F)) (fun h D=>A2 [[c8 (n'+1) (rit 0 6)],[c8 (n'+3) (lo W [])],[lN (n'+2) [] 0],[AF W n (cwN T z c least tl nw n nm tm ext)],Cs n q eq eo eg qq os gs,qc qq 6] [0,1,2,4,5,3] (tail:=L)  (A4 [3,2,0,1] 1 (by kernel_rfl) h D)) (fun _ eA=>Ed ok (Tri.at eA (Tri.own (dc_a (i:=0) (k:=5) (e1:=0) (ds:=[]) (n:=n) (D:=n'+3) (it:=n'+1) (acc:=n'+2) (q:=q) (eq:=eq) (eo:=eo) (eg:=eg) (qq:=qq) (os:=os) (gs:=gs) (L:=AF W n (cwN T z c least tl nw n nm tm ext)::L) ok hd hu hq rfl (by decide)) (fun h D=>A4 [1,2,0] 0 (by kernel_rfl) h D)))) fun p n₂ tk₂ hp=>?_
 obtain ⟨pn,pd,pe⟩:=p
 obtain ⟨hpn,hpd⟩:(pn=[]∨∃ t v,pn=[(saa,t,v)])/\pd.map (·.1)=[]++AH gs os qq 0 6:=hp
 rcases hpn with rfl | ⟨to,vo,rfl⟩
 ·exact Aj ok 1 1 hR (n'+2,pd,pe) hpd (.ret (.ref (n'+2+8))) rfl [0,1,14,2,3,4,5,6,7,8,9,10,11,12,13] 1
 ·exact Aj ok 5 65 hR (n'+2,pd,pe) hpd (.ret (.ref (n'+2+8))) rfl [0,1,14,2,3,4,5,6,7,8,9,10,11,12,13] 1
noncomputable def t2 (W:Wd):PySem.Expr:=ifT (wS W 1)
noncomputable def o2e (W:Wd):PySem.Expr:=Ci (t2 W)
noncomputable def o2a (W:Wd):PySem.Expr:=B6 (E5 (o2e W)) 0
noncomputable def o2b (W:Wd):PySem.Expr:=B6 (E5 (o2e W)) 1
theorem s2_eq (W:Wd):wS W 1= .If (t2 W) (ifB (wS W 1)) [] (ifP (wS W 1)):=by kernel_rfl
theorem t2_eq (W:Wd):t2 W= .Compare (cmL (t2 W)) [.IsNot] [o2e W] (cmP (t2 W)):=by kernel_rfl
theorem o2e_eq (W:Wd):o2e W= .BoolOp .Or [o2a W,o2b W] (boP (o2e W)):=by kernel_rfl
theorem o2a_eq (W:Wd):o2a W= .Compare (cmL (o2a W)) [.NotEq] [Ci (o2a W)] (cmP (o2a W)):=by kernel_rfl
theorem o2b_eq (W:Wd):o2b W= .Compare (cmL (o2b W)) [.NotEq] [Ci (o2b W)] (cmP (o2b W)):=by kernel_rfl
theorem t2_in (W:Wd):behindInMarks .IsNot (o2e W)=false:=by kernel_rfl
theorem o2a_in (W:Wd):behindInMarks .NotEq (Ci (o2a W))=false:=by kernel_rfl
theorem o2b_in (W:Wd):behindInMarks .NotEq (Ci (o2b W))=false:=by kernel_rfl
theorem isnot_bool (a b:Bool):compareOp .IsNot (.bool a) (.bool b)=pure (.bool (a != b)):=by cases a<;>cases b<;>rfl
noncomputable abbrev Aw (W:Wd) (T:Nat->Nat) (z c:Nat) (least:Int) (tl:Nat) (nw:Bool) (n:Nat) (nm:Str) (tm td d:Nat) (ext:List (Str×Nat×Value)):Obj:=
 fr W (cwN T z c least tl nw n nm tm ((sck,td,.ref (d+8))::ext))
theorem p_wait (ok:W.Ok) {z:Nat} :
  Pc W (Ar dp un F) (eval (cmL (o2a W)) (Av W n)) G (c8 n (Aw W T z c least tl nw n nm tm td d ext)::L)
  (⟨fun _=>G,fun _=>True,fun _=> .ref (n+10+8),fun _=>c8 n (Aw W T z c least tl nw n nm tm td d ext)::L⟩:A3 Value Unit):=by
 refine Pc.of AL Ac _ (by rw [Ag]) fun R n' tk' c₀ dd f gg u hA hR=>?_
 exact Aj ok 2 1 hR () trivial (.ret (.ref (n+10+8))) rfl [] 0
theorem p_dueN (ok:W.Ok) {z:Nat} :
  Pc W (Ar dp un F) (eval (cmL (o2b W)) (Av W n)) G (c8 n (Aw W T z c least tl nw n nm tm td d ext)::L)
  (⟨fun _=>G,fun _=>True,fun _=> .ref (d+8),fun _=>c8 n (Aw W T z c least tl nw n nm tm td d ext)::L⟩:A3 Value Unit):=by
 refine Pc.of AL Ac _ (by rw [Ag]) fun R n' tk' c₀ dd f gg u hA hR=>?_
 exact Aj ok 2 1 hR () trivial (.ret (.ref (d+8))) rfl [] 0
theorem e_nil (ok:W.Ok) (e:PySem.Expr) (he:PySem.W.ZFast.zw14044960220447912780 e (Av W n)=PySem.W.ZFast.zw14044960220447912780 (Ci (o2a W)) (Av W n)) :
  Pc W (Ar dp un F) (eval e (Av W n)) G L
  (⟨fun _=>G,fun _=>True,fun p=> .ref (p+8),fun p=>lL p #[] 0::L⟩:A3 Value Nat):=by
 refine Pc.of AL Ac (PySem.W.ZFast.zw14044960220447912780 (Ci (o2a W)) (Av W n)) (by rw [Ag,he]) fun R n' tk' c₀ d f gg u hA hR=>?_
 exact Aj ok 2 0 hR n' trivial (.ret (.ref (n'+8))) rfl [] 0
noncomputable def Sr.act (z:Sr) (rv:Value) (np nf:Int):List Cell:=[c8 z.s (An (z.d+8)),c8 z.d (Au z.q z.u z.m rv np nf)]
theorem p_act (ok:W.Ok) {z:Sr} (hd:dp<=700) (hu:un<=700) (hr:rs.length<=900) :
  Pc W (Ar dp un F) (eval (cmL (t2 W)) (Av W n)) G (c8 n (Aw W T z.s c least tl nw n nm tm td d ext)::(z.act (.ref (r+8)) np nf++(lS r rs e::L)))
  (⟨fun _=>G,fun _=>True,fun _=> .bool (decide (nf<np)||!(sv rs).isEmpty),fun _=>c8 n (Aw W T z.s c least tl nw n nm tm td d ext)::(z.act (.ref (r+8)) np nf++(lS r rs e::L))⟩:A3 Value Unit):=by
 refine Pc.of AL Ac _ (by rw [Ag]) fun R n' tk' c₀ dd f gg u hA hR=>?_
 refine pc3 ok 21 3752505744119837757454418049 hA (.call (.ref 143) ⟨[.ref (z.s+8)],[]⟩) [1,2,3] (c8 z.s (An (z.d+8))) (c8 z.d (Au z.q z.u z.m (.ref (r+8)) np nf)) (lS r rs e) (gd dp un) (fun _ _ eA=>is_active ok (Ab dp un eA (by omega) (by omega)) (by rw [Am];omega)) fun _ n₁ tk₁ _=>?_
 exact Aj ok 1 0 hR () trivial (.ret (.bool (decide (nf<np)||!(sv rs).isEmpty))) rfl [3,0,1,2] 0
theorem nil_b (ok:W.Ok) :
  Pc W (Ar dp un F) (eval (Ci (o2b W)) (Av W n)) G L
  (⟨fun _=>G,fun _=>True,fun p=> .ref (p+8),fun p=>lL p #[] 0::L⟩:A3 Value Nat):=by
 refine Pc.of AL Ac _ (by rw [Ag]) fun R n' tk' c₀ d f gg u hA hR=>?_
 exact Aj ok 2 0 hR n' trivial (.ret (.ref (n'+8))) rfl [] 0
theorem sv_emp (l:List (Str×Nat)):(sv l).isEmpty=l.isEmpty:=by cases l<;>rfl
theorem x_S2 (ok:W.Ok) {z:Sr} (hd:dp<=700) (hu:un<=700) (hr:rs.length<=900)
  (hb:(decide (nf<np)||!rs.isEmpty)=(!ws.isEmpty||!ds.isEmpty)) :
  Pc W (Ar dp un F) (exec (wS W 1) (Av W n)) G (c8 n (Aw W T z.s c least tl nw n nm tm td d ext)::(z.act (.ref (r+8)) np nf++(lS r rs e::lN (n+10) ws ew::lN d ds ed::L)))
  (⟨fun _=>G,fun _=>True,fun _=> .next,fun _=>c8 n (Aw W T z.s c least tl nw n nm tm td d ext)::(z.act (.ref (r+8)) np nf++(lS r rs e::lN (n+10) ws ew::lN d ds ed::L))⟩:A3 Flow Unit):=by
 intro K hK E h n0 tk0 hs D0
 rw [s2_eq]
 refine wpAny_If ?_
 rw [t2_eq]
 refine wpAny_isTrue_Compare1 ?_ (t2_in W)
 refine Pc.go (p_act ok hd hu hr) (fun _ _ h1 n1 tk1 hs1 D1=>?_) hs D0
 have fin:∀ b:Bool,b=(!ws.isEmpty||!ds.isEmpty)->∀ h' n' tk',h'.objs.size=n'+8->Own W.h₀ 53 h' (c8 n (Aw W T z.s c least tl nw n nm tm td d ext)::(z.act (.ref (r+8)) np nf++(lS r rs e::lN (n+10) ws ew::lN d ds ed::L))) ->
   wpAny W.M (Ar dp un F) (compareOp .IsNot (.bool (decide (nf<np)||!(sv rs).isEmpty)) (.bool b)) (fun c s₃=>wpAny W.M (Ar dp un F) (truthy c) (fun b s₂=>if b=true then wpAny W.M (Ar dp un F) (execs (ifB (wS W 1)) (Av W n)) K E s₂ else wpAny W.M (Ar dp un F) (execs [] (Av W n)) K E s₂) E s₃) E ⟨h',⟨G⟩,W.d,tk',W.os⟩:=by
  intro b hbb h' n' tk' hs' D'
  rw [isnot_bool,sv_emp,hb,hbb,bne_self_eq_false]
  refine wpAny_pure (wpAny_truthy_bool ?_)
  rw [if_neg Bool.false_ne_true]
  exact wpAny_execs_nil (hK () trivial h' n' tk' hs' D')
 rw [o2e_eq]
 refine wpAny_Or2 ?_
 rw [o2a_eq]
 refine wpAny_Compare1 ?_ (o2a_in W)
 refine Pc.go (p_wait ok) (fun _ _ h2 n2 tk2 hs2 D2=>?_) hs1 D1
 refine Pc.go (e_nil ok (Ci (o2a W)) rfl) (fun m _ h3 n3 tk3 hs3 D3=>?_) hs2 D2
 refine Pc.go (CD (xs:=iv (nvl ws)) (e:=ew) (e2:=0) (L:=c8 n (Aw W T z.s c least tl nw n nm tm td d ext)::(z.act (.ref (r+8)) np nf++(lS r rs e::lN d ds ed::L))) (show un<=9000 by omega)) (fun _ _ h4 n4 tk4 hs4 D4=>?_) hs3 (A2 [[lL m #[] 0],[c8 n (Aw W T z.s c least tl nw n nm tm td d ext)],z.act (.ref (r+8)) np nf,[lS r rs e],[lN (n+10) ws ew],[lN d ds ed]] [4,0,1,2,3,5] (tail:=L)  D3)
 have D5:=(A2 [[lN (n+10) ws ew],[lL m #[] 0],[c8 n (Aw W T z.s c least tl nw n nm tm td d ext)],z.act (.ref (r+8)) np nf,[lS r rs e],[lN d ds ed]] [1,2,3,4,0,5] (tail:=L)  D4)
 have D6:Own W.h₀ 53 h4 (c8 n (Aw W T z.s c least tl nw n nm tm td d ext)::(z.act (.ref (r+8)) np nf++(lS r rs e::lN (n+10) ws ew::lN d ds ed::L))):=Own.sub D5 (List.sublist_cons_self ..)
 refine wpAny_truthy_bool ?_
 rw [Ec]
 cases hw:ws.isEmpty with
 | false=>exact fin true (by rw [hw];rfl) h4 n4 tk4 hs4 D6
 | true=>
  show wpAny _ _ (eval (o2b W) (Av W n)) _ _ _
  rw [o2b_eq]
  refine wpAny_Compare1 ?_ (o2b_in W)
  refine Pc.go (p_dueN ok) (fun _ _ h5 n5 tk5 hs5 D7=>?_) hs4 D6
  refine Pc.go (nil_b ok) (fun m' _ h6 n6 tk6 hs6 D8=>?_) hs5 D7
  refine Pc.go (CD (xs:=iv (nvl ds)) (e:=ed) (e2:=0) (L:=c8 n (Aw W T z.s c least tl nw n nm tm td d ext)::(z.act (.ref (r+8)) np nf++(lS r rs e::lN (n+10) ws ew::L))) (show un<=9000 by omega)) (fun _ _ h7 n7 tk7 hs7 D9=>?_) hs6 (A2 [[lL m' #[] 0],[c8 n (Aw W T z.s c least tl nw n nm tm td d ext)],z.act (.ref (r+8)) np nf,[lS r rs e],[lN (n+10) ws ew],[lN d ds ed]] [5,0,1,2,3,4] (tail:=L)  D8)
  rw [Ec]
  have D10:=(A2 [[lN d ds ed],[lL m' #[] 0],[c8 n (Aw W T z.s c least tl nw n nm tm td d ext)],z.act (.ref (r+8)) np nf,[lS r rs e],[lN (n+10) ws ew]] [1,2,3,4,5,0] (tail:=L)  D9)
  exact fin (!ds.isEmpty) (by rw [hw];rfl) h7 n7 tk7 hs7 (Own.sub D10 (List.sublist_cons_self ..))
noncomputable def t3 (W:Wd):PySem.Expr:=ifT (wS W 2)
theorem s3_eq (W:Wd):wS W 2= .If (t3 W) (ifB (wS W 2)) [] (ifP (wS W 2)):=by kernel_rfl
theorem t3_eq (W:Wd):t3 W= .Compare (cmL (t3 W)) [.NotEq] [Ci (t3 W)] (cmP (t3 W)):=by kernel_rfl
theorem t3_in (W:Wd):behindInMarks .NotEq (Ci (t3 W))=false:=by kernel_rfl
theorem p_ready (ok:W.Ok) {z:Sr} {ns:List Nd} (hd:dp<=590) (hu:un<=590) (hnd:(ns.map Nd.x).Nodup) (hin:∀ y∈rs,y.1∈ns.map Nd.x) (hr:rs.length<=6) :
  Pc W (Ar dp un F) (eval (cmL (t3 W)) (Av W n)) G (c8 n (Aw W T z.s c least tl nw n nm tm td d ext)::z.all W r rs e np nf ns ep L)
  (⟨fun _=>G,fun p=>p.2.2.1.s=z.s/\p.2.2.2.map Nd.v=ns.map (C7 (rs.map (·.1))),fun p=> .ref (p.1+8),fun p=>c8 p.1 (Af (sv rs))::c8 n (Aw W T z.s c least tl nw n nm tm td d ext)::p.2.2.1.all W r [] p.2.1 (np+rs.length) nf p.2.2.2 ep L⟩:A3 Value (Nat×Nat×Sr×List Nd)):=by
 refine Pc.of AL Ac _ (by rw [Ag]) fun R n' tk' c₀ dd f gg u hA hR=>?_
 refine pcL ok 21 3752505744119837757454418049 hA (.call (.ref 136) ⟨[.ref (z.s+8)],[]⟩) (z.all W r rs e np nf ns ep (c8 n (Aw W T z.s c least tl nw n nm tm td d ext)::L)) (gd dp un) (fun h D=>A2 [[c8 n (Aw W T z.s c least tl nw n nm tm td d ext)],z.cells W (.ref (r+8)) np nf ns ep,[lS r rs e],A0 ns] [1,2,3,0] (tail:=L)  (A4 [] 0 (by kernel_rfl) h D)) (fun _ eA=>get_ready ok (Ab dp un eA (by omega) (by omega)) hnd hin hr) fun p n₁ tk₁ hp=>?_
 exact gmend ok 1 0 hR p hp (.ret (.ref (p.1+8))) rfl (fun h D=>by
  have D2:Own W.h₀ 53 h (c8 p.1 (Af (sv rs))::p.2.2.1.all W r [] p.2.1 (np+rs.length) nf p.2.2.2 ep (c8 n (Aw W T z.s c least tl nw n nm tm td d ext)::L)):=A4 [] 0 (by kernel_rfl) h D
  exact A2 [[c8 p.1 (Af (sv rs))],p.2.2.1.cells W (.ref (r+8)) (np+rs.length) nf p.2.2.2 ep,[lS r [] p.2.1],A0 p.2.2.2,[c8 n (Aw W T z.s c least tl nw n nm tm td d ext)]] [0,4,1,2,3] (tail:=L)  D2)
noncomputable def caA (e:PySem.Expr):PySem.Expr:=hdE (Bp e).l
noncomputable def tC (W:Wd):PySem.Expr:=caA (Ci (t3 W))
noncomputable def tE (W:Wd) (n D:Nat):Env:=Cm (Av W n) (tC W) (D+8) [(scc,n+9)]
noncomputable def tCo (W:Wd) (it acc n D:Nat):Code:= .compLoop (tC W) 0 (.ref (it+8)) (.ref (acc+8)) (tE W n D)
noncomputable def tSt (W:Wd) (it acc n D:Nat):Code:= .compStart (tC W) 0 (.ref (it+8)) (.ref (acc+8)) (tE W n D)
noncomputable def cvl (cl:Nat->Str×Nat):List (Str×Nat):=(List.range 6).map cl
theorem Bi (hi:i<6):(sv (cvl cl))[i]?=some (.str (cl i).1 (cl i).2):=by simp [sv,cvl,hi]
noncomputable abbrev tcQ (W:Wd) (G:List GenState) (L:List Cell) (n acc D k d ek ed:Nat) (cl:Nat->Str×Nat) (ds:List (Nat×Nat)) (ys:List (Str×Nat)):Post (List (Str×Nat×Value)×Nat):=
 Nx G (fun p=>c8 D (lo W p.1)::lS acc ys p.2::cC (n+9) k::lS k (cvl cl) ek::lN d ds ed::L) fun p=>p.1=[]∨∃ t v,p.1=[(saa,t,v)]
theorem tc_b (ok:W.Ok) {k:Nat} (hd:dp<=700) (hu:un<=700) :
  ∀ (rst done:List (Nat×Nat)) (xs:List (Str×Nat)) (tp e1:Nat) (v:Value),ds=done++rst->xs.length+rst.length<=500->(∀ q∈rst,q.1<6)->Tri W (Ar dp un F) (tCo W it acc n D') G (c8 D' (lo W [(saa,tp,v)])::lS acc xs e1::c8 it (lit (d+8) done.length)::cC (n+9) k::lS k (cvl cl) ek::lN d ds ed::L) (tcQ W G L n acc D' k d ek ed cl ds (xs++rst.map fun p=>cl p.1)):=by
 intro rst
 induction rst with
 | nil=>
  intro done xs tp e1 v hds hl hj
  refine Tri.of fun R n' tk hR=>?_
  refine Cg ok 2 3 (.call (.builtin "list_iterator.__next__") ⟨[.ref (it+8)],[]⟩) [2,5] (c8 it (lit (d+8) done.length)) (lN d ds ed) (BP (Ar dp un F)) (fun _ _ eA=>Tri.at eA (B1 (BE hds))) fun p n₀ tk₀ _=>?_
  exact gmend ok 1 1 hR ([(saa,tp,v)],e1) (.inr ⟨_,_,rfl⟩) .next rfl (fun h D=>by
   have e:xs++([]:List (Nat×Nat)).map (fun p=>cl p.1)=xs:=by simp
   show Own W.h₀ 53 h (c8 D' (lo W [(saa,tp,v)])::(acc+8,A1 (sv (xs++([]:List (Nat×Nat)).map (fun p=>cl p.1))) e1)::cC (n+9) k::lS k (cvl cl) ek::lN d ds ed::L)
   rw [e]
   exact A4 [0,1,2,4,5,6,7,3] 3 (by kernel_rfl) h D)
 | cons p rst ih=>
  intro done xs tp e1 v hds hl hj
  refine Tri.of fun R n' tk hR=>?_
  refine Cg ok 2 3 (.call (.builtin "list_iterator.__next__") ⟨[.ref (it+8)],[]⟩) [2,5] (c8 it (lit (d+8) done.length)) (lN d ds ed) A6 (fun _ _ eA=>AM (BG hds)) fun _ n₀ tk₀ _=>?_
  refine AU ok 15 418860781699 (.call (.builtin "list.__getitem__") ⟨[.ref (k+8),.int (p.1:Int) p.2],[]⟩) [5] (lS k (cvl cl) ek) A6 (fun _ _ eA=>Aa (x:= .str (cl p.1).1 (cl p.1).2) (by omega) (by have:=hj p (List.mem_cons_self ..);omega) (by rw [Int.toNat_natCast];exact Bi (hj p (List.mem_cons_self ..)))) fun _ n₁ tk₁ _=>?_
  refine AU ok 0 0 (.call (.builtin "list.append") ⟨[.ref (acc+8),.str (cl p.1).1 (cl p.1).2],[]⟩) [4] (lS acc xs e1) A6 (fun _ _ eA=>A8 (by simp [sv];simp at hl;omega)) fun e' n₂ tk₂ _=>?_
  refine gmagn ok 0 0 (tCo W it acc n D') hR (L:=c8 D' (lo W [(saa,tp,.int (p.1:Int) p.2)])::(acc+8,A1 (sv (xs++[cl p.1])) e')::c8 it (lit (d+8) (done.length+1))::cC (n+9) k::lS k (cvl cl) ek::lN d ds ed::L)
   (fun h D=>(AB xs (cl p.1).1 (cl p.1).2)▸A4 [4,0,2,5,1,3] 0 (by kernel_rfl) h D) ?_
  have z:=ih (done++[p]) (xs++[cl p.1]) tp e' (.int (p.1:Int) p.2) (by rw [hds,List.append_assoc];rfl) (by simp at hl ⊢;omega) (fun q hq=>hj q (List.mem_cons_of_mem _ hq))
  rw [List.length_append,List.append_assoc] at z
  exact z
theorem tc_a (ok:W.Ok) {k:Nat} (hd:dp<=700) (hu:un<=700) :
  ∀ (rst done:List (Nat×Nat)) (xs:List (Str×Nat)) (e1:Nat),ds=done++rst->xs.length+rst.length<=500->(∀ q∈rst,q.1<6)->Tri W (Ar dp un F) (tCo W it acc n D') G (c8 D' (lo W [])::lS acc xs e1::c8 it (lit (d+8) done.length)::cC (n+9) k::lS k (cvl cl) ek::lN d ds ed::L) (tcQ W G L n acc D' k d ek ed cl ds (xs++rst.map fun p=>cl p.1)):=by
 intro rst
 cases rst with
 | nil=>
  intro done xs e1 hds hl hj
  refine Tri.of fun R n' tk hR=>?_
  refine Cg ok 2 3 (.call (.builtin "list_iterator.__next__") ⟨[.ref (it+8)],[]⟩) [2,5] (c8 it (lit (d+8) done.length)) (lN d ds ed) (BP (Ar dp un F)) (fun _ _ eA=>Tri.at eA (B1 (BE hds))) fun p n₀ tk₀ _=>?_
  exact gmend ok 1 1 hR ([],e1) (.inl rfl) .next rfl (fun h D=>by
   have e:xs++([]:List (Nat×Nat)).map (fun p=>cl p.1)=xs:=by simp
   show Own W.h₀ 53 h (c8 D' (lo W [])::(acc+8,A1 (sv (xs++([]:List (Nat×Nat)).map (fun p=>cl p.1))) e1)::cC (n+9) k::lS k (cvl cl) ek::lN d ds ed::L)
   rw [e]
   exact A4 [0,1,2,4,5,6,7,3] 3 (by kernel_rfl) h D)
 | cons p rst=>
  intro done xs e1 hds hl hj
  refine Tri.of fun R n' tk hR=>?_
  refine Cg ok 2 3 (.call (.builtin "list_iterator.__next__") ⟨[.ref (it+8)],[]⟩) [2,5] (c8 it (lit (d+8) done.length)) (lN d ds ed) A6 (fun _ _ eA=>AM (BG hds)) fun _ n₀ tk₀ _=>?_
  refine AU ok 15 418860781699 (.call (.builtin "list.__getitem__") ⟨[.ref (k+8),.int (p.1:Int) p.2],[]⟩) [5] (lS k (cvl cl) ek) A6 (fun _ _ eA=>Aa (x:= .str (cl p.1).1 (cl p.1).2) (by omega) (by have:=hj p (List.mem_cons_self ..);omega) (by rw [Int.toNat_natCast];exact Bi (hj p (List.mem_cons_self ..)))) fun _ n₁ tk₁ _=>?_
  refine AU ok 0 0 (.call (.builtin "list.append") ⟨[.ref (acc+8),.str (cl p.1).1 (cl p.1).2],[]⟩) [4] (lS acc xs e1) A6 (fun _ _ eA=>A8 (by simp [sv];simp at hl;omega)) fun e' n₂ tk₂ _=>?_
  refine gmagn ok 0 0 (tCo W it acc n D') hR (L:=c8 D' (lo W [(saa,tk₀,.int (p.1:Int) p.2)])::(acc+8,A1 (sv (xs++[cl p.1])) e')::c8 it (lit (d+8) (done.length+1))::cC (n+9) k::lS k (cvl cl) ek::lN d ds ed::L)
   (fun h D=>(AB xs (cl p.1).1 (cl p.1).2)▸A4 [4,0,2,5,1,3] 0 (by kernel_rfl) h D) ?_
  have z:=tc_b (G:=G) (L:=L) (F:=F) (n:=n) (D':=D') (it:=it) (acc:=acc) (k:=k) (d:=d) (ek:=ek) (ed:=ed) (cl:=cl) (ds:=ds) ok hd hu rst (done++[p]) (xs++[cl p.1]) tk₀ e' (.int (p.1:Int) p.2) (by rw [hds,List.append_assoc];rfl) (by simp at hl ⊢;omega) (fun q hq=>hj q (List.mem_cons_of_mem _ hq))
  rw [List.length_append,List.append_assoc] at z
  exact z
theorem tc_start (ok:W.Ok) {α:Type} {Q:Post α} (spec:Tri W A (tCo W it acc n D) G (c8 it (lit (l+8) i)::L) Q):Tri W A (tSt W it acc n D) G (c8 it (lit (l+8) i)::L) Q:=by
 obtain ⟨w₀,b2,b3,h₀,dd,os⟩:=W
 cases b2
 ·refine Tri.of fun R n' tk hR=>?_
  exact Cq ok 11 266305 (tCo _ it acc n D) _ [] 0 hR spec
 ·refine Tri.of fun R n' tk hR=>?_
  exact Cq ok 1 0 (tCo _ it acc n D) _ [] 0 hR spec
theorem tup_sv (ok:W.Ok) {xs:List (Str×Nat)} (hx:xs.length<=6) (hA:Good A 800) :
  Tri W A (.call (.type "tuple") ⟨[.ref (r+8)],[]⟩) G (lS r xs e::L)
  (Gives G (fun q:Nat=> .ref (q+8)) fun q=>c8 q (Af (sv xs))::lS r xs e::L):=
 tup_of (xs:=xs.map fun p=> .str p.1 p.2) ok (by simpa using hx) hA
theorem p_tup (ok:W.Ok) {z k:Nat} (hd:dp<=590) (hu:un<=590) (hl:ds.length<=6) (hj:∀ q∈ds,q.1<6) :
  Pc W (Ar dp un F) (eval (Ci (t3 W)) (Av W n)) G (c8 n (Aw W T z c least tl nw n nm tm td d ext)::cC (n+9) k::lS k (cvl cl) ek::lN d ds ed::L)
  (⟨fun _=>G,fun _=>True,fun p=> .ref (p+8),fun p=>c8 p (Af (sv (ds.map fun p=>cl p.1)))::c8 n (Aw W T z c least tl nw n nm tm td d ext)::cC (n+9) k::lS k (cvl cl) ek::lN d ds ed::L⟩:A3 Value Nat):=by
 refine Pc.of AL Ac _ (by rw [Ag]) fun R n' tk' c₀ dd f gg u hA hR=>?_
 refine CQ ok 17 73082605568 hA (tSt W n' (n'+1) n (n'+2)) (c8 n' (lit (d+8) 0)::c8 (n'+2) (lo W [])::lS (n'+1) [] 0::cC (n+9) k::lS k (cvl cl) ek::lN d ds ed::c8 n (Aw W T z c least tl nw n nm tm td d ext)::L) [2,0,1,4,5,6,3] 0 (BP (Ar dp un F)) (fun _ eA=>tc_start ok (Tri.at eA (Tri.own (tc_a (e1:=0) (xs:=[]) (done:=[]) (rst:=ds) (n:=n) (D':=n'+2) (it:=n') (acc:=n'+1) (k:=k) (d:=d) (ek:=ek) (ed:=ed) (cl:=cl) (ds:=ds) (L:=c8 n (Aw W T z c least tl nw n nm tm td d ext)::L) ok (by omega) (by omega) rfl (by simp;omega) hj) (fun h D=>A4 [1,2,0] 0 (by kernel_rfl) h D)))) fun p n₂ tk₂ hp=>?_
 obtain ⟨pn,pe⟩:=p
 rcases (hp:pn=[]∨∃ t v,pn=[(saa,t,v)]) with rfl | ⟨to,vo,rfl⟩
 ·refine BB ok 2 1 hA (.call (.type "tuple") ⟨[.ref (n'+1+8)],[]⟩) [1] (n'+1+8,A1 (sv ([]++ds.map fun p=>cl p.1)) pe) (gd dp un) (fun _ _ eA=>tup_sv ok (by simpa using hl) (Ab dp un eA (by omega) (by omega))) fun q n₃ tk₃ _=>?_
  exact Aj ok 1 0 hR q trivial (.ret (.ref (q+8))) rfl [1,2,0,6,3,4,5] 2
 ·refine BB ok 6 65 hA (.call (.type "tuple") ⟨[.ref (n'+1+8)],[]⟩) [1] (n'+1+8,A1 (sv ([]++ds.map fun p=>cl p.1)) pe) (gd dp un) (fun _ _ eA=>tup_sv ok (by simpa using hl) (Ab dp un eA (by omega) (by omega))) fun q n₃ tk₃ _=>?_
  exact Aj ok 1 0 hR q trivial (.ret (.ref (q+8))) rfl [1,2,0,6,3,4,5] 2
theorem x_S3 (ok:W.Ok) {k:Nat} {z:Sr} {ns:List Nd} (hd:dp<=590) (hu:un<=590) (hnd:(ns.map Nd.x).Nodup) (hin:∀ y∈rs,y.1∈ns.map Nd.x) (hl:ds.length<=6) (hj:∀ q∈ds,q.1<6)
  (hrs:rs.map (·.1)=ds.map fun p=>(cl p.1).1) :
  Pc W (Ar dp un F) (exec (wS W 2) (Av W n)) G (c8 n (Aw W T z.s c least tl nw n nm tm td d ext)::z.all W r rs e np nf ns ep (cC (n+9) k::lS k (cvl cl) ek::lN d ds ed::L))
  (⟨fun _=>G,fun p=>p.2.1.s=z.s/\p.2.2.map Nd.v=ns.map (C7 (rs.map (·.1))),fun _=> .next,fun p=>c8 n (Aw W T z.s c least tl nw n nm tm td d ext)::p.2.1.all W r [] p.1 (np+rs.length) nf p.2.2 ep (cC (n+9) k::lS k (cvl cl) ek::lN d ds ed::L)⟩:A3 Flow (Nat×Sr×List Nd)):=by
 intro K hK E h n0 tk0 hs D0
 have hr:rs.length<=6:=by
  have:=congrArg List.length hrs
  simp at this
  omega
 rw [s3_eq]
 refine wpAny_If ?_
 rw [t3_eq]
 refine wpAny_isTrue_Compare1 ?_ (t3_in W)
 refine Pc.go (p_ready ok hd hu hnd hin hr) (fun p hp h1 n1 tk1 hs1 D1=>?_) hs D0
 refine Pc.go (p_tup (z:=z.s) (T:=T) (c:=c) (tl:=tl) (tm:=tm) (td:=td) (d:=d) (k:=k) (ek:=ek) (ed:=ed) (least:=least) (nw:=nw) (nm:=nm) (ext:=ext) (cl:=cl) (ds:=ds) (L:=c8 p.1 (Af (sv rs))::p.2.2.1.all W r [] p.2.1 (np+rs.length) nf p.2.2.2 ep L) ok hd hu hl hj) (fun q _ h2 n2 tk2 hs2 D2=>?_) hs1 (A2 [[c8 p.1 (Af (sv rs))],[c8 n (Aw W T z.s c least tl nw n nm tm td d ext)],p.2.2.1.cells W (.ref (r+8)) (np+rs.length) nf p.2.2.2 ep,[lS r [] p.2.1],A0 p.2.2.2,[cC (n+9) k],[lS k (cvl cl) ek],[lN d ds ed]] [1,5,6,7,0,2,3,4] (tail:=L)  D1)
 refine Pc.go (c_tup_ne (a:=p.1+8) (b:=q+8) (xs:=rs) (ys:=ds.map fun p=>cl p.1) (L:=c8 n (Aw W T z.s c least tl nw n nm tm td d ext)::cC (n+9) k::lS k (cvl cl) ek::lN d ds ed::p.2.2.1.all W r [] p.2.1 (np+rs.length) nf p.2.2.2 ep L) (show un<=9000 by omega) (by rw [hrs,List.map_map];rfl)) (fun _ _ h3 n3 tk3 hs3 D3=>?_) hs2 (A2 [[c8 q (Af (sv (ds.map fun p=>cl p.1)))],[c8 n (Aw W T z.s c least tl nw n nm tm td d ext)],[cC (n+9) k],[lS k (cvl cl) ek],[lN d ds ed],[c8 p.1 (Af (sv rs))]] [5,0,1,2,3,4] (tail:=p.2.2.1.all W r [] p.2.1 (np+rs.length) nf p.2.2.2 ep L)  D2)
 refine wpAny_truthy_bool ?_
 rw [if_neg Bool.false_ne_true]
 refine wpAny_execs_nil (hK p.2 hp h3 n3 tk3 hs3 ?_)
 have D4:=A2 [[c8 p.1 (Af (sv rs))],[c8 q (Af (sv (ds.map fun p=>cl p.1)))],[c8 n (Aw W T z.s c least tl nw n nm tm td d ext)],[cC (n+9) k],[lS k (cvl cl) ek],[lN d ds ed],p.2.2.1.cells W (.ref (r+8)) (np+rs.length) nf p.2.2.2 ep,[lS r [] p.2.1],A0 p.2.2.2] [0,1,2,6,7,8,3,4,5] (tail:=L)  D3
 exact Own.sub D4 (List.Sublist.trans (List.sublist_cons_self ..) (List.sublist_cons_self ..))
noncomputable def Bc (m t tk:Nat):Obj:=⟨.type "range",none,.fields #[.int 0 tk,.int (m:Int) t,.int 1 (tk+1)],#[]⟩
theorem r_new0 (ok:W.Ok) {t:Nat} (hA:Good A 800) :
  Tri W A (.call (.type "range") ⟨[.int ((0:Nat):Int) t],[]⟩) G L (Gives G (fun p:Nat×Nat=> .ref (p.1+8)) fun p=>c8 p.1 (Bc 0 t p.2)::L):=by
 refine Tri.gof hA fun dp un F hd hu R n tk hR=>?_
 exact Aj ok 15 266305 hR (n,tk) trivial (.ret (.ref (n+8))) rfl [] 0
theorem r_iter0 (ok:W.Ok) {t:Nat} (hA:Good A 800) :
  Tri W A (.call (.builtin "range.__iter__") ⟨[.ref (r+8)],[]⟩) G (c8 r (Bc 0 t tk')::L) (Gives G (fun p:Nat=> .ref (p+8)) fun p=>c8 p (rit 0 0)::c8 r (Bc 0 t tk')::L):=by
 refine Tri.gof hA fun dp un F hd hu R n tk hR=>?_
 exact Aj ok 6 266305 hR n trivial (.ret (.ref (n+8))) rfl [] 0
theorem r_new1 (ok:W.Ok) {t:Nat} (hA:Good A 800) :
  Tri W A (.call (.type "range") ⟨[.int ((1:Nat):Int) t],[]⟩) G L (Gives G (fun p:Nat×Nat=> .ref (p.1+8)) fun p=>c8 p.1 (Bc 1 t p.2)::L):=by
 refine Tri.gof hA fun dp un F hd hu R n tk hR=>?_
 exact Aj ok 15 266305 hR (n,tk) trivial (.ret (.ref (n+8))) rfl [] 0
theorem r_iter1 (ok:W.Ok) {t:Nat} (hA:Good A 800) :
  Tri W A (.call (.builtin "range.__iter__") ⟨[.ref (r+8)],[]⟩) G (c8 r (Bc 1 t tk')::L) (Gives G (fun p:Nat=> .ref (p+8)) fun p=>c8 p (rit 0 1)::c8 r (Bc 1 t tk')::L):=by
 refine Tri.gof hA fun dp un F hd hu R n tk hR=>?_
 exact Aj ok 6 266305 hR n trivial (.ret (.ref (n+8))) rfl [] 0
theorem r_new2 (ok:W.Ok) {t:Nat} (hA:Good A 800) :
  Tri W A (.call (.type "range") ⟨[.int ((2:Nat):Int) t],[]⟩) G L (Gives G (fun p:Nat×Nat=> .ref (p.1+8)) fun p=>c8 p.1 (Bc 2 t p.2)::L):=by
 refine Tri.gof hA fun dp un F hd hu R n tk hR=>?_
 exact Aj ok 15 266305 hR (n,tk) trivial (.ret (.ref (n+8))) rfl [] 0
theorem r_iter2 (ok:W.Ok) {t:Nat} (hA:Good A 800) :
  Tri W A (.call (.builtin "range.__iter__") ⟨[.ref (r+8)],[]⟩) G (c8 r (Bc 2 t tk')::L) (Gives G (fun p:Nat=> .ref (p+8)) fun p=>c8 p (rit 0 2)::c8 r (Bc 2 t tk')::L):=by
 refine Tri.gof hA fun dp un F hd hu R n tk hR=>?_
 exact Aj ok 6 266305 hR n trivial (.ret (.ref (n+8))) rfl [] 0
theorem r_new3 (ok:W.Ok) {t:Nat} (hA:Good A 800) :
  Tri W A (.call (.type "range") ⟨[.int ((3:Nat):Int) t],[]⟩) G L (Gives G (fun p:Nat×Nat=> .ref (p.1+8)) fun p=>c8 p.1 (Bc 3 t p.2)::L):=by
 refine Tri.gof hA fun dp un F hd hu R n tk hR=>?_
 exact Aj ok 15 266305 hR (n,tk) trivial (.ret (.ref (n+8))) rfl [] 0
theorem r_iter3 (ok:W.Ok) {t:Nat} (hA:Good A 800) :
  Tri W A (.call (.builtin "range.__iter__") ⟨[.ref (r+8)],[]⟩) G (c8 r (Bc 3 t tk')::L) (Gives G (fun p:Nat=> .ref (p+8)) fun p=>c8 p (rit 0 3)::c8 r (Bc 3 t tk')::L):=by
 refine Tri.gof hA fun dp un F hd hu R n tk hR=>?_
 exact Aj ok 6 266305 hR n trivial (.ret (.ref (n+8))) rfl [] 0
theorem r_new4 (ok:W.Ok) {t:Nat} (hA:Good A 800) :
  Tri W A (.call (.type "range") ⟨[.int ((4:Nat):Int) t],[]⟩) G L (Gives G (fun p:Nat×Nat=> .ref (p.1+8)) fun p=>c8 p.1 (Bc 4 t p.2)::L):=by
 refine Tri.gof hA fun dp un F hd hu R n tk hR=>?_
 exact Aj ok 15 266305 hR (n,tk) trivial (.ret (.ref (n+8))) rfl [] 0
theorem r_iter4 (ok:W.Ok) {t:Nat} (hA:Good A 800) :
  Tri W A (.call (.builtin "range.__iter__") ⟨[.ref (r+8)],[]⟩) G (c8 r (Bc 4 t tk')::L) (Gives G (fun p:Nat=> .ref (p+8)) fun p=>c8 p (rit 0 4)::c8 r (Bc 4 t tk')::L):=by
 refine Tri.gof hA fun dp un F hd hu R n tk hR=>?_
 exact Aj ok 6 266305 hR n trivial (.ret (.ref (n+8))) rfl [] 0
theorem r_new5 (ok:W.Ok) {t:Nat} (hA:Good A 800) :
  Tri W A (.call (.type "range") ⟨[.int ((5:Nat):Int) t],[]⟩) G L (Gives G (fun p:Nat×Nat=> .ref (p.1+8)) fun p=>c8 p.1 (Bc 5 t p.2)::L):=by
 refine Tri.gof hA fun dp un F hd hu R n tk hR=>?_
 exact Aj ok 15 266305 hR (n,tk) trivial (.ret (.ref (n+8))) rfl [] 0
theorem r_iter5 (ok:W.Ok) {t:Nat} (hA:Good A 800) :
  Tri W A (.call (.builtin "range.__iter__") ⟨[.ref (r+8)],[]⟩) G (c8 r (Bc 5 t tk')::L) (Gives G (fun p:Nat=> .ref (p+8)) fun p=>c8 p (rit 0 5)::c8 r (Bc 5 t tk')::L):=by
 refine Tri.gof hA fun dp un F hd hu R n tk hR=>?_
 exact Aj ok 6 266305 hR n trivial (.ret (.ref (n+8))) rfl [] 0
theorem r_new6 (ok:W.Ok) {t:Nat} (hA:Good A 800) :
  Tri W A (.call (.type "range") ⟨[.int ((6:Nat):Int) t],[]⟩) G L (Gives G (fun p:Nat×Nat=> .ref (p.1+8)) fun p=>c8 p.1 (Bc 6 t p.2)::L):=by
 refine Tri.gof hA fun dp un F hd hu R n tk hR=>?_
 exact Aj ok 15 266305 hR (n,tk) trivial (.ret (.ref (n+8))) rfl [] 0
theorem r_iter6 (ok:W.Ok) {t:Nat} (hA:Good A 800) :
  Tri W A (.call (.builtin "range.__iter__") ⟨[.ref (r+8)],[]⟩) G (c8 r (Bc 6 t tk')::L) (Gives G (fun p:Nat=> .ref (p+8)) fun p=>c8 p (rit 0 6)::c8 r (Bc 6 t tk')::L):=by
 refine Tri.gof hA fun dp un F hd hu R n tk hR=>?_
 exact Aj ok 6 266305 hR n trivial (.ret (.ref (n+8))) rfl [] 0
theorem r_new (ok:W.Ok) {t:Nat} (hA:Good A 800):∀ {m:Nat},m<=6 ->
  Tri W A (.call (.type "range") ⟨[.int (m:Int) t],[]⟩) G L (Gives G (fun p:Nat×Nat=> .ref (p.1+8)) fun p=>c8 p.1 (Bc m t p.2)::L)
 | 0,_=>r_new0 ok hA
 | 1,_=>r_new1 ok hA
 | 2,_=>r_new2 ok hA
 | 3,_=>r_new3 ok hA
 | 4,_=>r_new4 ok hA
 | 5,_=>r_new5 ok hA
 | 6,_=>r_new6 ok hA
theorem r_iter (ok:W.Ok) {t:Nat} (hA:Good A 800):∀ {m:Nat},m<=6 ->
  Tri W A (.call (.builtin "range.__iter__") ⟨[.ref (r+8)],[]⟩) G (c8 r (Bc m t tk')::L) (Gives G (fun p:Nat=> .ref (p+8)) fun p=>c8 p (rit 0 m)::c8 r (Bc m t tk')::L)
 | 0,_=>r_iter0 ok hA
 | 1,_=>r_iter1 ok hA
 | 2,_=>r_iter2 ok hA
 | 3,_=>r_iter3 ok hA
 | 4,_=>r_iter4 ok hA
 | 5,_=>r_iter5 ok hA
 | 6,_=>r_iter6 ok hA
theorem DA {b t:Nat} (h:b<=a) :
  Tri W A (.call (.builtin "int.__sub__") ⟨[.int (a:Int) t,.int (b:Int) u],[]⟩) G L (Gives G (fun t':Nat=> .int ((a - b:Nat):Int) t') fun _=>L):=
 Tri.cb F.slot_int_sub F.entry_int_sub (F.args_int_sub_2 _ _) (fun h _ D=>typeIs_int _ _ _) fun R hR h' n tk hs D=>by
  have z:R (.ok (.ret (.int ((a - b:Nat):Int) tk))) ⟨h',⟨G⟩,W.d,tk+1,W.os⟩:=hR tk trivial h' n (tk+1) hs D
  rw [Int.ofNat_sub h] at z
  exact AutoIntG9.int___sub___int_int_0 (a:Int) t (b:Int) u AA W.w A R _ z
theorem int_modv {a:Int} {t:Nat} (h0:0<m) :
  Tri W A (.call (.builtin "int.__mod__") ⟨[.int a t,.int (m:Int) u],[]⟩) G L (Gives G (fun t':Nat=> .int (((a.fmod (m:Int)).toNat:Nat):Int) t') fun _=>L):=
 Tri.cb F.slot_int_mod F.entry_int_mod (F.args_int_mod_2 _ _) (fun h _ D=>typeIs_int _ _ _) fun R hR h n tk hs D=>by
  refine AutoIntG6.int___mod___int_int_1 a t m u (by simp;omega) AA W.w A R _ ?_
  have z:R (.ok (.ret (.int (((a.fmod (m:Int)).toNat:Nat):Int) tk))) ⟨h,⟨G⟩,W.d,tk+1,W.os⟩:=hR tk trivial h n (tk+1) hs D
  rw [Int.toNat_of_nonneg (Int.fmod_nonneg_of_pos a (by omega))] at z
  exact z
theorem fmod_lt {a:Int} (h0:0<m):(a.fmod (m:Int)).toNat<m:=by
 have h1:=Int.fmod_nonneg_of_pos a (show (0:Int)<m by omega)
 have h2:=Int.fmod_lt_of_pos a (show (0:Int)<m by omega)
 omega
noncomputable def lab:Nat->Str
 | 0=>(S [48,120])
 | 1=>(S [48,100,101,118])
 | 2=>(S [48,97])
 | 3=>(S [48,97,108,112,104,97])
 | 4=>(S [48,98])
 | 5=>(S [48,98,101,116,97])
 | 6=>(S [48,99])
 | 7=>(S [48,82,67])
 | 8=>(S [48,43,114,99])
 | 9=>(S [48,46,57])
 | 10=>(S [48,46,49,48])
 | 11=>(S [48,43,48,49,49])
 | 12=>(S [48,112])
 | _=>(S [48,112,108])
noncomputable def lbl (lb:Nat->Str×Nat):List (Str×Nat):=(List.range 14).map lb
theorem lbl_get (hi:i<14):(sv (lbl lb))[i]?=some (.str (lb i).1 (lb i).2):=by simp [sv,lbl,hi]
structure Dy (NO:List Nat->Str->Prop):Prop where
 len:∀ P x,NO P x->P.length<=6->x.length<=400
 step:∀ P x r k,NO P x->P.length<=5->r<14->k<8->∃ z,Dh (BJ x (lab r) k) z/\NO (P++[r]) ⟨⟨z⟩⟩
 lablen:∀ r,(lab r).length<=400
noncomputable def plF (W:Wd):Stmt:=wS W 3
noncomputable def plC (W:Wd) (it n:Nat):Code:=B9 (plF W) (.ref (it+8)) (Av W n)
theorem Eh {xs:List (Nat×Nat)} (hm:xs.length=m) (hx:m<=1000) :
  Tri W A (.builtin "len" ⟨[.ref l],[]⟩) G ((l,A1 (iv (nvl xs)) e)::L) (Gives G (fun t:Nat=> .int (m:Int) t) fun _=>(l,A1 (iv (nvl xs)) e)::L):=by
 have z:=C3 (W:=W) (A:=A) (G:=G) (L:=L) (l:=l) (xs:=iv (nvl xs)) (e:=e) (by simp [iv];omega)
 have e:(iv (nvl xs)).size=m:=by simp [iv,hm]
 rw [e] at z
 exact z
noncomputable def plX (n d c ed el ec:Nat) (lb:Nat->Str×Nat) (ds:List (Nat×Nat)) (cs:List (Int×Nat)):List Cell:=
 [lN d ds ed,lS (n+6) (lbl lb) el,lI c cs ec,cC (n+11) (n+7)]
noncomputable def rkO (least:Int) (m:Nat) (nw:Bool) (i:Nat):Nat:=(least.fmod ((15 - m:Nat):Int)).toNat+(if nw then m - 1 - i else i)
noncomputable def plB (W:Wd) (i:Nat):Stmt:=AE (DC (plF W)) i
theorem q_rankT (ok:W.Ok) {z t0:Nat} (hm:ds.length=m) (hm6:m<=6) (him:i<m) :
  Pc W (Ar dp un F) (eval (Bh (plB W 0)) (Av W n)) G (c8 n (Aw W T z c least tl true n nm tm td d ((sac,tp,.int (i:Int) t0)::ext))::lN d ds ed::L)
  (⟨fun _=>G,fun _=>True,fun t=> .int ((rkO least m true i:Nat):Int) t,fun _=>c8 n (Aw W T z c least tl true n nm tm td d ((sac,tp,.int (i:Int) t0)::ext))::lN d ds ed::L⟩:A3 Value Nat):=by
 refine Pc.of AL Ac _ (by rw [Ag]) fun R n' tk' c₀ dd f gg u hA hR=>?_
 refine BB ok 9 262145 hA (.call (.builtin "len") ⟨[.ref (d+8)],[]⟩) [1] (lN d ds ed) A6 (fun _ _ eA=>Bk ok (Eh hm (by omega))) fun t1 n₁ tk₁ _=>?_
 refine pc0 ok 2 0 hA (.call (.builtin "int.__sub__") ⟨[.int ((15:Nat):Int) tk',.int (m:Int) t1],[]⟩) A6 (fun _ _ eA=>DA (by omega)) fun t2 n₂ tk₂ _=>?_
 refine pc0 ok 1 0 hA (.call (.builtin "int.__mod__") ⟨[.int least tl,.int ((15 - m:Nat):Int) t2],[]⟩) A6 (fun _ _ eA=>int_modv (by omega)) fun t3 n₃ tk₃ _=>?_
 refine BB ok 9 524290 hA (.call (.builtin "len") ⟨[.ref (d+8)],[]⟩) [0] (lN d ds ed) A6 (fun _ _ eA=>Bk ok (Eh hm (by omega))) fun t4 n₄ tk₄ _=>?_
 refine pc0 ok 3 0 hA (.call (.builtin "int.__sub__") ⟨[.int (m:Int) t4,.int ((1:Nat):Int) tk₄],[]⟩) A6 (fun _ _ eA=>DA (by omega)) fun t5 n₅ tk₅ _=>?_
 refine pc0 ok 3 2 hA (.call (.builtin "int.__sub__") ⟨[.int ((m - 1:Nat):Int) t5,.int (i:Int) t0],[]⟩) A6 (fun _ _ eA=>DA (by omega)) fun t6 n₆ tk₆ _=>?_
 exact Aj ok 5 0 hR tk₆ trivial (.ret (.int ((rkO least m true i:Nat):Int) tk₆)) rfl [1,0] 0
theorem q_rankF (ok:W.Ok) {z t0:Nat} (hm:ds.length=m) (hm6:m<=6) (him:i<m) :
  Pc W (Ar dp un F) (eval (Bh (plB W 0)) (Av W n)) G (c8 n (Aw W T z c least tl false n nm tm td d ((sac,tp,.int (i:Int) t0)::ext))::lN d ds ed::L)
  (⟨fun _=>G,fun _=>True,fun t=> .int ((rkO least m false i:Nat):Int) t,fun _=>c8 n (Aw W T z c least tl false n nm tm td d ((sac,tp,.int (i:Int) t0)::ext))::lN d ds ed::L⟩:A3 Value Nat):=by
 refine Pc.of AL Ac _ (by rw [Ag]) fun R n' tk' c₀ dd f gg u hA hR=>?_
 refine BB ok 9 262145 hA (.call (.builtin "len") ⟨[.ref (d+8)],[]⟩) [1] (lN d ds ed) A6 (fun _ _ eA=>Bk ok (Eh hm (by omega))) fun t1 n₁ tk₁ _=>?_
 refine pc0 ok 2 0 hA (.call (.builtin "int.__sub__") ⟨[.int ((15:Nat):Int) tk',.int (m:Int) t1],[]⟩) A6 (fun _ _ eA=>DA (by omega)) fun t2 n₂ tk₂ _=>?_
 refine pc0 ok 1 0 hA (.call (.builtin "int.__mod__") ⟨[.int least tl,.int ((15 - m:Nat):Int) t2],[]⟩) A6 (fun _ _ eA=>int_modv (by omega)) fun t3 n₃ tk₃ _=>?_
 exact Aj ok 10 130 hR tk₃ trivial (.ret (.int ((rkO least m false i:Nat):Int) tk₃)) rfl [1,0] 0
theorem q_rank (ok:W.Ok) {z t0:Nat} (hm:ds.length=m) (hm6:m<=6) (him:i<m) :
  Pc W (Ar dp un F) (eval (Bh (plB W 0)) (Av W n)) G (c8 n (Aw W T z c least tl nw n nm tm td d ((sac,tp,.int (i:Int) t0)::ext))::lN d ds ed::L)
  (⟨fun _=>G,fun _=>True,fun t=> .int ((rkO least m nw i:Nat):Int) t,fun _=>c8 n (Aw W T z c least tl nw n nm tm td d ((sac,tp,.int (i:Int) t0)::ext))::lN d ds ed::L⟩:A3 Value Nat):=by
 cases nw with
 | true=>exact q_rankT ok hm hm6 him
 | false=>exact q_rankF ok hm hm6 him
noncomputable def setn (nv:Nat->Str×Nat) (j:Nat) (x:Str×Nat):Nat->Str×Nat:=fun i=>if i=j then x else nv i
theorem setn_cvl {x:Str×Nat} (hj:j<6):(sv (cvl nv)).setIfInBounds j (.str x.1 x.2)=sv (cvl (setn nv j x)):=by
 apply Array.ext'
 exact lts6 (P:=fun j=>((sv (cvl nv)).setIfInBounds j (.str x.1 x.2)).toList=(sv (cvl (setn nv j x))).toList) rfl rfl rfl rfl rfl rfl hj
noncomputable abbrev qnQ (W:Wd) (G:List GenState) (L:List Cell) (fo:Cell) (n d c ed el ec j:Nat) (lb nv:Nat->Str×Nat) (ds:List (Nat×Nat)) (cs:List (Int×Nat)) (R:Str->Prop):A3 Flow (List GenState×(Str×Nat)×Nat×Nat):=
 ⟨fun p=>p.1,fun p=>R p.2.1.1/\((∀ y∈G,y.bare=true)->∀ y∈p.1,y.bare=true),fun _=>Flow.next,fun p=>fo::lS (n+7) (cvl (setn nv j p.2.1)) p.2.2.1::(53,tb1 W p.2.2.2)::(plX n d c ed el ec lb ds cs++L)⟩
theorem dress_len (x y:Str) (k:Nat):(BJ x y k).length<=3:=by
 unfold BJ
 split<;>simp
theorem setitem_n {t:Nat} {x:Str×Nat} (hj:j<6) :
  Tri W A (.call (.builtin "list.__setitem__") ⟨[.ref l,.int (j:Int) t,.str x.1 x.2],[]⟩) G ((l,A1 (sv (cvl nv)) e)::L) (Gives G (fun _:Nat=> .none) fun e'=>(l,A1 (sv (cvl (setn nv j x))) e')::L):=by
 have z:=list_setitem (W:=W) (A:=A) (G:=G) (L:=L) (l:=l) (xs:=sv (cvl nv)) (e:=e) (t:=t) (k:=(j:Int)) (v:= .str x.1 x.2) (by omega) (by omega) (by rw [Int.toNat_natCast,Am];simp [cvl];omega)
 rw [Int.toNat_natCast,setn_cvl hj] at z
 exact z
theorem q_names (ok:W.Ok) {z i rk tr t0 t1:Nat} {cs:List (Int×Nat)} {b:Int×Nat} {NO:List Nat->Str->Prop} (hd:dp<=590) (hu:un<=590) (N:Dy NO) (hlb:∀ i,(lb i).1=lab i) (hrk:rk<14) (hdi:(iv (nvl ds))[i]?=some (.int (j:Int) tj)) (hcj:cs[j]?=some b) (hij:i<100) (hj6:j<6) (ho:Tb W o) (hP:NO P nm) (hPl:P.length<=5) :
  Pc W (Ar dp un F) (execs (DC (plF W)).tail (Av W n)) G (c8 n (Aw W T z c least tl nw n nm tm td d ((sac,tp,.int (i:Int) t0)::(saf,tr,.int (rk:Int) t1)::ext))::lS (n+7) (cvl nv) en::(53,o)::(plX n d c ed el ec lb ds cs++L))
  (qnQ W G L (c8 n (Aw W T z c least tl nw n nm tm td d ((sac,tp,.int (i:Int) t0)::(saf,tr,.int (rk:Int) t1)::ext))) n d c ed el ec j lb nv ds cs (NO (P++[rk]))):=by
 refine Pc.of id Ai _ (by rw [Ao]) fun R n' tk' c₀ dd f gg u hA hR=>?_
 refine BB ok 15 22339215691776 hA (.call (.builtin "list.__getitem__") ⟨[.ref (n+6+8),.int (rk:Int) t1],[]⟩) [4] (lS (n+6) (lbl lb) el) A6 (fun _ _ eA=>Aa (x:= .str (lb rk).1 (lb rk).2) (by omega) (by omega) (by rw [Int.toNat_natCast];exact lbl_get hrk)) fun _ n₁ tk₁ _=>?_
 refine BB ok 10 5453914242 hA (.call (.builtin "list.__getitem__") ⟨[.ref (d+8),.int (i:Int) t0],[]⟩) [4] (lN d ds ed) A6 (fun _ _ eA=>Aa (x:= .int (j:Int) tj) (by omega) (by omega) (by rw [Int.toNat_natCast];exact hdi)) fun _ n₂ tk₂ _=>?_
 refine BB ok 4 24966 hA (.call (.builtin "list.__getitem__") ⟨[.ref (c+8),.int (j:Int) tj],[]⟩) [5] (lI c cs ec) A6 (fun _ _ eA=>Aa (x:= .int b.1 b.2) (by omega) (by omega) (by simp [iv,hcj])) fun _ n₃ tk₃ _=>?_
 refine pc0 ok 2 0 hA (.call (.builtin "int.__floordiv__") ⟨[.int b.1 b.2,.int ((243:Nat):Int) tk₃],[]⟩) A6 (fun _ _ eA=>CM (by decide) (by decide)) fun t4 n₄ tk₄ _=>?_
 refine pc0 ok 2 0 hA (.call (.builtin "int.__mod__") ⟨[.int (b.1.fdiv ((243:Nat):Int)) t4,.int ((8:Nat):Int) tk₄],[]⟩) A6 (fun _ _ eA=>int_mod (by decide)) fun k n₅ tk₅ hk=>?_
 refine gmore ok 2 0 ⟨by kernel_rfl,?_⟩
 have hlab:(lb rk).1.length<=400:=by rw [hlb];exact N.lablen rk
 refine pcall hA (by kernel_rfl) (.call (.ref 197) ⟨[.str nm tm,.str (lb rk).1 (lb rk).2,.int (k.1:Int) k.2],[]⟩) (by kernel_rfl) (by kernel_rfl) (fun _ D=>D) (dressed ok hk (Ab dp un (by kernel_rfl) (by omega) (by omega)) (N.len P nm hP (by omega)) hlab) fun s n₆ tk₆ hs=>?_
 obtain ⟨sa,se,ts⟩:=s
 have hts:ts.map (·.1)=BJ nm (lab rk) k.1:=by rw [← hlb rk];exact hs
 obtain ⟨zz,hz,hNO⟩:=N.step P nm rk k.1 hP hPl hrk hk
 rw [← hts] at hz
 have hln:ts.length<=3:=by
  have:=congrArg List.length hts
  rw [List.length_map] at this
  rw [this]
  exact dress_len _ _ _
 refine BB ok 3 1 hA (.builtin "proto.collect" ⟨[.ref (sa+8)],[]⟩) [0] (lS sa ts se) (gd dp un) (fun _ _ eA=>collect ok (by rw [Am];omega) (Ab dp un eA (by omega) (by omega))) fun v n₇ tk₇ _=>?_
 obtain ⟨va,ve⟩:=v
 refine BB ok 3 1 hA (.call (.ref 58) ⟨(ts:List (Str×Nat)).map fun p=> .str p.1 p.2,[]⟩) [7] (53,o) (gd dp un) (fun _ _ eA=>platform (xs:=ts) ok (Ab dp un eA (by omega) (by omega)) ho hln hz) fun q n₈ tk₈ hq=>?_
 refine BB ok 11 5453935049 hA (.call (.builtin "list.__getitem__") ⟨[.ref (d+8),.int (i:Int) t0],[]⟩) [4] (lN d ds ed) A6 (fun _ _ eA=>Aa (x:= .int (j:Int) tj) (by omega) (by omega) (by rw [Int.toNat_natCast];exact hdi)) fun _ n₉ tk₉ _=>?_
 refine BB ok 3 520 hA (.call (.builtin "list.__setitem__") ⟨[.ref (n+7+8),.int (j:Int) tj,.str ⟨⟨zz⟩⟩ q.2.1],[]⟩) [7] (lS (n+7) (cvl nv) en) A6 (fun _ _ eA=>setitem_n (x:=(⟨⟨zz⟩⟩,q.2.1)) hj6) fun e' n₁₀ tk₁₀ _=>?_
 exact Aj ok 0 0 hR (q.1,(⟨⟨zz⟩⟩,q.2.1),e',q.2.2) ⟨hNO,hq⟩ .next rfl [3,4,7,0,2,1,6,5,8] 2
noncomputable def asT (s:Stmt):PySem.Expr:=hdE (Br s).l
theorem plC_eq (W:Wd) (it n:Nat):plC W it n= .forLoop (tgF (plF W)) (.ref (it+8)) (DC (plF W)) [] (Av W n):=by kernel_rfl
theorem plB_eq (W:Wd):DC (plF W)= .Assign [.Name saf (asN (plB W 0))] (Bh (plB W 0)) (asP (plB W 0))::(DC (plF W)).tail:=by kernel_rfl
theorem pl_lot (W:Wd) (it v:Value):letOwnedTupleGo (Br (plF W)).e it v=pure ():=by kernel_rfl
theorem pl_sw (W:Wd) (n:Nat):swapsWith (Bh (plB W 0)) (some (.Name saf (asN (plB W 0)))) (asP (plB W 0)).line (Av W n)=pure false:=by kernel_rfl
theorem a_place0 (ok:W.Ok) {z t tp tr:Nat} {ext:List (Str×Nat×Value)} {vp vr:Value} :
  Pc W (Ar dp un F) (assign (tgF (plF W)) (Av W n) (.int (i:Int) t)) G (c8 n (Aw W T z c least tl nw n nm tm td d ([]))::L)
  (⟨fun _=>G,fun _=>True,fun _=>(),fun tp=>c8 n (Aw W T z c least tl nw n nm tm td d ([(sac,tp,.int (i:Int) t)]))::L⟩:A3 Unit Nat):=by
 refine Pc.of Bo Ap _ (by rw [Ax]) fun R n' tk' c₀ dd f gg u hA hR=>?_
 exact Aj ok 7 1 hR (tk') trivial .next rfl [] 0
theorem a_place1 (ok:W.Ok) {z t tp tr:Nat} {vr:Value} :
  Pc W (Ar dp un F) (assign (tgF (plF W)) (Av W n) (.int (i:Int) t)) G (c8 n (Aw W T z c least tl nw n nm tm td d ((sac,tp,vp)::ext))::L)
  (⟨fun _=>G,fun _=>True,fun _=>(),fun tp=>c8 n (Aw W T z c least tl nw n nm tm td d ((sac,tp,.int (i:Int) t)::ext))::L⟩:A3 Unit Nat):=by
 refine Pc.of Bo Ap _ (by rw [Ax]) fun R n' tk' c₀ dd f gg u hA hR=>?_
 exact Aj ok 7 1 hR (tp) trivial .next rfl [] 0
theorem s_rank0 (ok:W.Ok) {z t tr:Nat} {ext:List (Str×Nat×Value)} {vr:Value} :
  Pc W (Ar dp un F) (storeName (Av W n) saf (.int (r:Int) t)) G (c8 n (Aw W T z c least tl nw n nm tm td d ((sac,tp,vp)::[]))::L)
  (⟨fun _=>G,fun _=>True,fun _=>(),fun tr=>c8 n (Aw W T z c least tl nw n nm tm td d ((sac,tp,vp)::[(saf,tr,.int (r:Int) t)]))::L⟩:A3 Unit Nat):=by
 refine Pc.of Bo Ap _ (by rw [CU]) fun R n' tk' c₀ dd f gg u hA hR=>?_
 exact Aj ok 4 1 hR (tk') trivial .next rfl [] 0
theorem s_rank1 (ok:W.Ok) {z t tr:Nat} :
  Pc W (Ar dp un F) (storeName (Av W n) saf (.int (r:Int) t)) G (c8 n (Aw W T z c least tl nw n nm tm td d ((sac,tp,vp)::(saf,tr,vr)::ext))::L)
  (⟨fun _=>G,fun _=>True,fun _=>(),fun tr=>c8 n (Aw W T z c least tl nw n nm tm td d ((sac,tp,vp)::(saf,tr,.int (r:Int) t)::ext))::L⟩:A3 Unit Nat):=by
 refine Pc.of Bo Ap _ (by rw [CU]) fun R n' tk' c₀ dd f gg u hA hR=>?_
 exact Aj ok 4 1 hR (tr) trivial .next rfl [] 0
theorem pl_blk (ok:W.Ok):Tri W A (.block [] (Av W n)) G L (Nx G fun _:Unit=>L):=by
 refine Tri.of fun R n' tk hR=>?_
 exact Aj ok 0 0 hR () trivial .next rfl [] 0
structure PR where
 G:List GenState
 nv:Nat->Str×Nat
 en:Nat
 o:Obj
 tp:Nat
 vp:Value
 tr:Nat
 vr:Value
structure CZ (NO:List Nat->Str->Prop) (P:List Nat) (least:Int) (m:Nat) (nw:Bool) (ds:List (Nat×Nat)) (nv:Nat->Str×Nat) (i:Nat) (nv':Nat->Str×Nat):Prop where
 got:∀ i' q,i<=i'->ds[i']?=some q->NO (P++[rkO least m nw i']) (nv' q.1).1
 old:∀ j,(∀ i' q,i<=i'->ds[i']?=some q->q.1≠j)->nv' j=nv j
noncomputable abbrev plQ (W:Wd) (G:List GenState) (L:List Cell) (T:Nat->Nat) (z c:Nat) (least:Int) (tl:Nat) (nw:Bool) (n:Nat) (nm:Str) (tm td d:Nat) (ext:List (Str×Nat×Value)) (ed el ec:Nat) (lb:Nat->Str×Nat) (ds:List (Nat×Nat)) (cs:List (Int×Nat)) (R:(Nat->Str×Nat)->Prop):Post PR:=
 ⟨fun p=>p.G,fun p=>R p.nv/\Tb W p.o/\((∀ y∈G,y.bare=true)->∀ y∈p.G,y.bare=true),fun _=> .ok .next,fun p=>c8 n (Aw W T z c least tl nw n nm tm td d ((sac,p.tp,p.vp)::(saf,p.tr,p.vr)::ext))::lS (n+7) (cvl p.nv) p.en::(53,p.o)::(plX n d c ed el ec lb ds cs++L)⟩
theorem rkO_lt (hm:m<=6) (hi:i<m):rkO least m nw i<14:=by
 unfold rkO
 have h:=fmod_lt (a:=least) (m:=15 - m) (by omega)
 cases nw with
 | true=>simp only [if_true];omega
 | false=>simp only [Bool.false_eq_true,if_false];omega
theorem CZ.step {NO:List Nat->Str->Prop} {P:List Nat} {least:Int} {m:Nat} {nw:Bool} {ds:List (Nat×Nat)} {nv nv':Nat->Str×Nat} {i:Nat} {q:Nat×Nat} {x:Str×Nat} (hnd:(ds.map (·.1)).Nodup) (hq:ds[i]?=some q) (hx:NO (P++[rkO least m nw i]) x.1) (h:CZ NO P least m nw ds (setn nv q.1 x) (i+1) nv'):CZ NO P least m nw ds nv i nv':=by
 have far:∀ i' q',i+1<=i'->ds[i']?=some q'->q'.1≠q.1:=by
  intro i' q' hi hq' e
  have h1:(ds.map (·.1))[i]?=some q.1:=by simp [hq]
  have h2:(ds.map (·.1))[i']?=some q.1:=by simp [hq',e]
  obtain ⟨l1,_⟩:=List.getElem?_eq_some_iff.mp h1
  obtain ⟨l2,_⟩:=List.getElem?_eq_some_iff.mp h2
  have:=(List.getElem?_inj l1 hnd).mp (h1.trans h2.symm)
  omega
 refine ⟨fun i' q' hi hq'=>?_,fun j hj=>?_⟩
 ·rcases Nat.eq_or_lt_of_le hi with rfl | hlt
  ·obtain rfl:q=q':=Option.some.inj (hq.symm.trans hq')
   have e:=h.old q.1 (fun i' q' hi hq'=>far i' q' hi hq')
   have e2:setn nv q.1 x q.1=x:=by simp [setn]
   rw [e,e2];exact hx
  ·exact h.got i' q' hlt hq'
 ·rw [h.old j fun i' q' hi hq'=>hj i' q' (by omega) hq']
  have:q.1≠j:=hj i q (Nat.le_refl _) hq
  simp [setn,Ne.symm this]
theorem pl_b (ok:W.Ok) {z:Nat} {cs:List (Int×Nat)} {NO:List Nat->Str->Prop} (hd:dp<=590) (hu:un<=590) (N:Dy NO) (hlb:∀ i,(lb i).1=lab i) (hm:ds.length=m) (hm6:m<=6) (hcs:cs.length=6) (hj:∀ q∈ds,q.1<6) (hnd:(ds.map (·.1)).Nodup) (hP:NO P nm) (hPl:0<m->P.length<=5) :
  ∀ (k i:Nat) (G:List GenState) (nv:Nat->Str×Nat) (en tp tr:Nat) (o:Obj) (vp vr:Value),i+k=m->Tb W o->Tri W (Ar dp un F) (plC W it n) G (c8 n (Aw W T z c least tl nw n nm tm td d ((sac,tp,vp)::(saf,tr,vr)::ext))::c8 it (rit i k)::lS (n+7) (cvl nv) en::(53,o)::(plX n d c ed el ec lb ds cs++L)) (plQ W G L T z c least tl nw n nm tm td d ext ed el ec lb ds cs (CZ NO P least m nw ds nv i)):=by
 intro k
 induction k with
 | zero=>
  intro i G nv en tp tr o vp vr hik ho R hR h n0 tk0 hs D0
  refine BX ?_
  refine Pc.go (r_end ok) (fun _ _ h1 n1 tk1 hs1 D1=>?_) hs (A2 [[c8 n (Aw W T z c least tl nw n nm tm td d ((sac,tp,vp)::(saf,tr,vr)::ext))],[c8 it (rit i 0)]] [1,0] (tail:=lS (n+7) (cvl nv) en::(53,o)::(plX n d c ed el ec lb ds cs++L))  D0)
  try dsimp only
  refine pl_blk ok R (fun _ _ h2 n2 tk2 hs2 D2=>hR ⟨G,nv,en,o,tp,vp,tr,vr⟩ ⟨⟨fun i' q hi hq=>?_,fun j _=>rfl⟩,ho,fun h=>h⟩ h2 n2 tk2 hs2 D2) h1 n1 tk1 hs1 D1
  have:=(List.getElem?_eq_some_iff.mp hq).1
  omega
 | succ k ih=>
  intro i G nv en tp tr o vp vr hik ho R hR h n0 tk0 hs D0
  obtain ⟨q,hq⟩:∃ q,ds[i]?=some q:=⟨ds[i]'(by omega),List.getElem?_eq_getElem (by omega)⟩
  have hj6:q.1<6:=hj q (List.mem_of_getElem? hq)
  obtain ⟨b,hb⟩:∃ b,cs[q.1]?=some b:=⟨cs[q.1]'(by omega),List.getElem?_eq_getElem (by omega)⟩
  refine BX ?_
  refine Pc.go (Cv ok) (fun t _ h1 n1 tk1 hs1 D1=>?_) hs (A2 [[c8 n (Aw W T z c least tl nw n nm tm td d ((sac,tp,vp)::(saf,tr,vr)::ext))],[c8 it (rit i (k+1))]] [1,0] (tail:=lS (n+7) (cvl nv) en::(53,o)::(plX n d c ed el ec lb ds cs++L))  D0)
  refine DF (pl_lot W) ?_
  refine Pc.go (a_place1 (tr:=0) (vr:= .none) ok) (fun tp _ h2 n2 tk2 hs2 D2=>?_) hs1 (A2 [[c8 it (rit (i+1) k)],[c8 n (Aw W T z c least tl nw n nm tm td d ((sac,tp,vp)::(saf,tr,vr)::ext))]] [1,0] (tail:=lS (n+7) (cvl nv) en::(53,o)::(plX n d c ed el ec lb ds cs++L))  D1)
  refine fA_go (plB_eq W) ?_
  refine wpAny_execs_cons (wpAny_Assign_Name ?_ (pl_sw W n))
  refine Pc.go (q_rank (ed:=ed) (L:=c8 it (rit (i+1) k)::lS (n+7) (cvl nv) en::(53,o)::lS (n+6) (lbl lb) el::lI c cs ec::cC (n+11) (n+7)::L) ok hm hm6 (by omega)) (fun t3 _ h3 n3 tk3 hs3 D3=>?_) hs2 (A2 [[c8 n (Aw W T z c least tl nw n nm tm td d ((sac,tp,.int (i:Int) t)::(saf,tr,vr)::ext))],[c8 it (rit (i+1) k)],[lS (n+7) (cvl nv) en],[(53,o)],[lN d ds ed],[lS (n+6) (lbl lb) el],[lI c cs ec],[cC (n+11) (n+7)]] [0,4,1,2,3,5,6,7] (tail:=L)  D2)
  refine Pc.go (s_rank1 ok) (fun tr _ h4 n4 tk4 hs4 D4=>?_) hs3 D3
  try dsimp only
  refine Pc.go (q_names (b:=b) (i:=i) (j:=q.1) (rk:=rkO least m nw i) (tj:=q.2) (lb:=lb) (nv:=nv) (en:=en) (el:=el) (ec:=ec) (ed:=ed) (ds:=ds) (cs:=cs) (o:=o) (P:=P) (L:=c8 it (rit (i+1) k)::L) ok hd hu N hlb (rkO_lt hm6 (by omega)) (by simp [iv,hq]) hb (by omega) hj6 ho hP (hPl (by omega))) (fun p hp h5 n5 tk5 hs5 D5=>?_) hs4 (A2 [[c8 n (Aw W T z c least tl nw n nm tm td d ((sac,tp,.int (i:Int) t)::(saf,tr,.int ((rkO least m nw i:Nat):Int) t3)::ext))],[lN d ds ed],[c8 it (rit (i+1) k)],[lS (n+7) (cvl nv) en],[(53,o)],[lS (n+6) (lbl lb) el],[lI c cs ec],[cC (n+11) (n+7)]] [0,3,4,1,5,6,7,2] (tail:=L)  D4)
  try dsimp only
  exact ih (i+1) p.1 (setn nv q.1 p.2.1) p.2.2.1 tp tr (tb1 W p.2.2.2) (.int (i:Int) t) (.int ((rkO least m nw i:Nat):Int) t3) (by omega) (.inr ⟨_,rfl⟩) R (fun q' hq'=>hR q' ⟨CZ.step hnd hq hp.1 hq'.1,hq'.2.1,fun hb=>hq'.2.2 (hp.2 hb)⟩) h5 n5 tk5 hs5 (A2 [[c8 n (Aw W T z c least tl nw n nm tm td d ((sac,tp,.int (i:Int) t)::(saf,tr,.int ((rkO least m nw i:Nat):Int) t3)::ext))],[lS (n+7) (cvl (setn nv q.1 p.2.1)) p.2.2.1],[(53,tb1 W p.2.2.2)],plX n d c ed el ec lb ds cs,[c8 it (rit (i+1) k)]] [0,4,1,2,3] (tail:=L)  D5)
theorem pl_a (ok:W.Ok) {z k i:Nat} {cs:List (Int×Nat)} {NO:List Nat->Str->Prop} (hd:dp<=590) (hu:un<=590) (N:Dy NO) (hlb:∀ i,(lb i).1=lab i) (hm:ds.length=m) (hm6:m<=6) (hcs:cs.length=6) (hj:∀ q∈ds,q.1<6) (hnd:(ds.map (·.1)).Nodup) (hP:NO P nm) (hPl:0<m->P.length<=5) (hik:i+(k+1)=m) (ho:Tb W o) :
  Tri W (Ar dp un F) (plC W it n) G (c8 n (Aw W T z c least tl nw n nm tm td d [])::c8 it (rit i (k+1))::lS (n+7) (cvl nv) en::(53,o)::(plX n d c ed el ec lb ds cs++L)) (plQ W G L T z c least tl nw n nm tm td d [] ed el ec lb ds cs (CZ NO P least m nw ds nv i)):=by
 intro R hR h n0 tk0 hs D0
 obtain ⟨q,hq⟩:∃ q,ds[i]?=some q:=⟨ds[i]'(by omega),List.getElem?_eq_getElem (by omega)⟩
 have hj6:q.1<6:=hj q (List.mem_of_getElem? hq)
 obtain ⟨b,hb⟩:∃ b,cs[q.1]?=some b:=⟨cs[q.1]'(by omega),List.getElem?_eq_getElem (by omega)⟩
 refine BX ?_
 refine Pc.go (Cv ok) (fun t _ h1 n1 tk1 hs1 D1=>?_) hs (A2 [[c8 n (Aw W T z c least tl nw n nm tm td d ([]))],[c8 it (rit i (k+1))]] [1,0] (tail:=lS (n+7) (cvl nv) en::(53,o)::(plX n d c ed el ec lb ds cs++L))  D0)
 refine DF (pl_lot W) ?_
 refine Pc.go (a_place0 (tp:=0) (vp:= .none) (ext:=[]) (tr:=0) (vr:= .none) ok) (fun tp _ h2 n2 tk2 hs2 D2=>?_) hs1 (A2 [[c8 it (rit (i+1) k)],[c8 n (Aw W T z c least tl nw n nm tm td d ([]))]] [1,0] (tail:=lS (n+7) (cvl nv) en::(53,o)::(plX n d c ed el ec lb ds cs++L))  D1)
 refine fA_go (plB_eq W) ?_
 refine wpAny_execs_cons (wpAny_Assign_Name ?_ (pl_sw W n))
 refine Pc.go (q_rank (ed:=ed) (L:=c8 it (rit (i+1) k)::lS (n+7) (cvl nv) en::(53,o)::lS (n+6) (lbl lb) el::lI c cs ec::cC (n+11) (n+7)::L) ok hm hm6 (by omega)) (fun t3 _ h3 n3 tk3 hs3 D3=>?_) hs2 (A2 [[c8 n (Aw W T z c least tl nw n nm tm td d ((sac,tp,.int (i:Int) t)::[]))],[c8 it (rit (i+1) k)],[lS (n+7) (cvl nv) en],[(53,o)],[lN d ds ed],[lS (n+6) (lbl lb) el],[lI c cs ec],[cC (n+11) (n+7)]] [0,4,1,2,3,5,6,7] (tail:=L)  D2)
 refine Pc.go (s_rank0 (tr:=0) (vr:= .none) (ext:=[]) ok) (fun tr _ h4 n4 tk4 hs4 D4=>?_) hs3 D3
 try dsimp only
 refine Pc.go (q_names (b:=b) (i:=i) (j:=q.1) (rk:=rkO least m nw i) (tj:=q.2) (lb:=lb) (nv:=nv) (en:=en) (el:=el) (ec:=ec) (ed:=ed) (ds:=ds) (cs:=cs) (o:=o) (P:=P) (L:=c8 it (rit (i+1) k)::L) ok hd hu N hlb (rkO_lt hm6 (by omega)) (by simp [iv,hq]) hb (by omega) hj6 ho hP (hPl (by omega))) (fun p hp h5 n5 tk5 hs5 D5=>?_) hs4 (A2 [[c8 n (Aw W T z c least tl nw n nm tm td d ((sac,tp,.int (i:Int) t)::(saf,tr,.int ((rkO least m nw i:Nat):Int) t3)::[]))],[lN d ds ed],[c8 it (rit (i+1) k)],[lS (n+7) (cvl nv) en],[(53,o)],[lS (n+6) (lbl lb) el],[lI c cs ec],[cC (n+11) (n+7)]] [0,3,4,1,5,6,7,2] (tail:=L)  D4)
 try dsimp only
 exact pl_b (ext:=[]) (F:=F) (dp:=dp) (un:=un) (W:=W) (L:=L) (T:=T) (z:=z) (c:=c) (tl:=tl) (tm:=tm) (td:=td) (it:=it) (el:=el) (ec:=ec) (ed:=ed) (lb:=lb) (cs:=cs) (d:=d) (n:=n) (ds:=ds) (P:=P) (NO:=NO) (least:=least) (nw:=nw) (nm:=nm) (m:=m) ok hd hu N hlb hm hm6 hcs hj hnd hP hPl k (i+1) p.1 (setn nv q.1 p.2.1) p.2.2.1 tp tr (tb1 W p.2.2.2) (.int (i:Int) t) (.int ((rkO least m nw i:Nat):Int) t3) (by omega) (.inr ⟨_,rfl⟩) R (fun q' hq'=>hR q' ⟨CZ.step hnd hq hp.1 hq'.1,hq'.2.1,fun hb=>hq'.2.2 (hp.2 hb)⟩) h5 n5 tk5 hs5 (A2 [[c8 n (Aw W T z c least tl nw n nm tm td d ((sac,tp,.int (i:Int) t)::(saf,tr,.int ((rkO least m nw i:Nat):Int) t3)::[]))],[lS (n+7) (cvl (setn nv q.1 p.2.1)) p.2.2.1],[(53,tb1 W p.2.2.2)],plX n d c ed el ec lb ds cs,[c8 it (rit (i+1) k)]] [0,4,1,2,3] (tail:=L)  D5)
theorem Bg (s:Stmt) (env:Env):execs [s] env=exec s env:=by
 rw [execs_cons]
 have e:(fun f:Flow=>(match f with | .next=>execs [] env | f=>pure f:Sem Flow))=pure:=by
  funext f;cases f<;>rfl
 exact (congrArg (exec s env>>=·) e).trans (bind_pure _)
theorem ext_n {b:Nat} (h:gs.length+ds.length<=100) :
  Tri W A (.call (.builtin "list.extend") ⟨[.ref l,.ref b],[]⟩) G ((l,A1 (iv (nvl gs)) e)::(b,A1 (iv (nvl ds)) e2)::L) (Gives G (fun _:Nat=> .none) fun e'=>(l,A1 (iv (nvl (gs++ds))) e')::(b,A1 (iv (nvl ds)) e2)::L):=by
 have z:=C9 (W:=W) (A:=A) (G:=G) (L:=L) (l:=l) (b:=b) (xs:=iv (nvl gs)) (ys:=iv (nvl ds)) (e:=e) (e2:=e2) (by simp [iv];omega)
 have q:iv (nvl gs)++iv (nvl ds)=iv (nvl (gs++ds)):=by simp [iv,nvl]
 rw [q] at z
 exact z
theorem x_S5 (ok:W.Ok) {z:Nat} (hl:gs.length+ds.length<=100) :
  Pc W (Ar dp un F) (exec (wS W 4) (Av W n)) G (c8 n (Aw W T z c least tl nw n nm tm td d ext)::cC (n+12) (n+8) ::lN (n+8) gs eg::lN d ds ed::L)
  (⟨fun _=>G,fun _=>True,fun _=> .next,fun e'=>c8 n (Aw W T z c least tl nw n nm tm td d ext)::cC (n+12) (n+8) ::(n+8+8,A1 (iv (nvl (gs++ds))) e')::lN d ds ed::L⟩:A3 Flow Nat):=by
 refine Pc.of id Ai (PySem.W.ZFast.zw12563942051412417395 [wS W 4] (Av W n)) (by rw [← Bg,Ao]) fun R n' tk' c₀ dd f gg u hA hR=>?_
 refine pc2 ok 12 1124872386 hA (.call (.builtin "list.extend") ⟨[.ref (n+8+8),.ref (d+8)],[]⟩) [2,3] (lN (n+8) gs eg) (lN d ds ed) A6 (fun _ _ eA=>ext_n hl) fun e' n₁ tk₁ _=>?_
 exact Aj ok 1 0 hR e' trivial .next rfl [2,3,0,1] 0
theorem x_S6 (ok:W.Ok) {z:Nat} (hl:gs.length+ds.length<=100) :
  Pc W (Ar dp un F) (exec (wS W 5) (Av W n)) G (c8 n (Aw W T z c least tl nw n nm tm td d ext)::lN (n+10) gs eg::lN d ds ed::L)
  (⟨fun _=>G,fun _=>True,fun _=> .next,fun e'=>c8 n (Aw W T z c least tl nw n nm tm td d ext)::(n+10+8,A1 (iv (nvl (gs++ds))) e')::lN d ds ed::L⟩:A3 Flow Nat):=by
 refine Pc.of id Ai (PySem.W.ZFast.zw12563942051412417395 [wS W 5] (Av W n)) (by rw [← Bg,Ao]) fun R n' tk' c₀ dd f gg u hA hR=>?_
 refine pc2 ok 12 1107828865 hA (.call (.builtin "list.extend") ⟨[.ref (n+10+8),.ref (d+8)],[]⟩) [1,2] (lN (n+10) gs eg) (lN d ds ed) A6 (fun _ _ eA=>ext_n hl) fun e' n₁ tk₁ _=>?_
 exact Aj ok 1 0 hR e' trivial .next rfl [2,0,1] 0
theorem pop_last_n {x:Nat×Nat} (h:ws.length<=100) :
  Tri W A (.call (.builtin "list.pop") ⟨[.ref l],[]⟩) G ((l,A1 (iv (nvl (ws++[x]))) e)::L) (Gives G (fun _:Nat=> .int (x.1:Int) x.2) fun e'=>(l,A1 (iv (nvl ws)) e')::L):=by
 have z:=list_pop_last (W:=W) (A:=A) (G:=G) (L:=L) (l:=l) (xs:=(nvl ws).map fun p:Int×Nat=>Value.int p.1 p.2) (x:= .int (x.1:Int) x.2) (e:=e) (by simp [nvl];omega)
 have q:((nvl ws).map (fun p:Int×Nat=>Value.int p.1 p.2)++[Value.int (x.1:Int) x.2]).toArray=iv (nvl (ws++[x])):=by simp [iv,nvl]
 rw [q] at z
 exact z
theorem pop_first_n {x:Nat×Nat} (h:ws.length<=100) :
  Tri W A (.call (.builtin "list.pop") ⟨[.ref l,.int 0 u],[]⟩) G ((l,A1 (iv (nvl (x::ws))) e)::L) (Gives G (fun _:Nat=> .int (x.1:Int) x.2) fun e'=>(l,A1 (iv (nvl ws)) e')::L):=
 DS (W:=W) (A:=A) (G:=G) (L:=L) (l:=l) (xs:=(nvl ws).map fun p:Int×Nat=>Value.int p.1 p.2) (x:= .int (x.1:Int) x.2) (e:=e) (u:=u) (by simp [nvl];omega)
theorem p_popT (ok:W.Ok) {z:Nat} {x:Nat×Nat} (hl:ws.length<=100) :
  Pc W (Ar dp un F) (eval (Bh (wS W 7)) (Av W n)) G (c8 n (Aw W T z c least tl true n nm tm td d ext)::(n+10+8,A1 (iv (nvl (ws++[x]))) ew)::L)
  (⟨fun _=>G,fun _=>True,fun _=> .int (x.1:Int) x.2,fun e'=>c8 n (Aw W T z c least tl true n nm tm td d ext)::lN (n+10) ws e'::L⟩:A3 Value Nat):=by
 refine Pc.of AL Ac _ (by rw [Ag]) fun R n' tk' c₀ dd f gg u hA hR=>?_
 refine BB ok 12 2181570625 hA (.call (.builtin "list.pop") ⟨[.ref (n+10+8)],[]⟩) [1] (n+10+8,A1 (iv (nvl (ws++[x]))) ew) A6 (fun _ _ eA=>pop_last_n hl) fun e' n₁ tk₁ _=>?_
 exact Aj ok 1 0 hR e' trivial (.ret (.int (x.1:Int) x.2)) rfl [1,0] 0
theorem p_popF (ok:W.Ok) {z:Nat} {x:Nat×Nat} (hl:ws.length<=100) :
  Pc W (Ar dp un F) (eval (Bh (wS W 7)) (Av W n)) G (c8 n (Aw W T z c least tl false n nm tm td d ext)::lN (n+10) (x::ws) ew::L)
  (⟨fun _=>G,fun _=>True,fun _=> .int (x.1:Int) x.2,fun e'=>c8 n (Aw W T z c least tl false n nm tm td d ext)::lN (n+10) ws e'::L⟩:A3 Value Nat):=by
 refine Pc.of AL Ac _ (by rw [Ag]) fun R n' tk' c₀ dd f gg u hA hR=>?_
 refine BB ok 13 2181570625 hA (.call (.builtin "list.pop") ⟨[.ref (n+10+8),.int 0 tk'],[]⟩) [1] (lN (n+10) (x::ws) ew) A6 (fun _ _ eA=>pop_first_n hl) fun e' n₁ tk₁ _=>?_
 exact Aj ok 1 0 hR e' trivial (.ret (.int (x.1:Int) x.2)) rfl [1,0] 0
theorem s_job0 (ok:W.Ok) {z t tr tj:Nat} {vj:Value} :
  Pc W (Ar dp un F) (storeName (Av W n) saa (.int (j:Int) t)) G (c8 n (Aw W T z c least tl nw n nm tm td d ((sac,tp,vp)::(saf,tr,vr)::[]))::L)
  (⟨fun _=>G,fun _=>True,fun _=>(),fun tj=>c8 n (Aw W T z c least tl nw n nm tm td d ((sac,tp,vp)::(saf,tr,vr)::[(saa,tj,.int (j:Int) t)]))::L⟩:A3 Unit Nat):=by
 refine Pc.of Bo Ap _ (by rw [CU]) fun R n' tk' c₀ dd f gg u hA hR=>?_
 exact Aj ok 4 1 hR (tk') trivial .next rfl [] 0
theorem s_job1 (ok:W.Ok) {z t tr tj:Nat} {vj:Value} :
  Pc W (Ar dp un F) (storeName (Av W n) saa (.int (j:Int) t)) G (c8 n (Aw W T z c least tl nw n nm tm td d ((sac,tp,vp)::(saf,tr,vr)::[(saa,tj,vj)]))::L)
  (⟨fun _=>G,fun _=>True,fun _=>(),fun tj=>c8 n (Aw W T z c least tl nw n nm tm td d ((sac,tp,vp)::(saf,tr,vr)::[(saa,tj,.int (j:Int) t)]))::L⟩:A3 Unit Nat):=by
 refine Pc.of Bo Ap _ (by rw [CU]) fun R n' tk' c₀ dd f gg u hA hR=>?_
 exact Aj ok 4 1 hR (tj) trivial .next rfl [] 0
theorem x_S9 (ok:W.Ok) {k t tr:Nat} {z:Sr} (hd:dp<=590) (hu:un<=590) (hj:j<6) (hx:(cl j).1=nd.x) (hp:nd.p= -1) (hnd:((pre++nd::post).map Nd.x).Nodup) (hin:∀ y∈nd.ss,y.1∈(pre++post).map Nd.x) (hrl:rs.length+nd.ss.length<=900) :
  Pc W (Ar dp un F) (exec (wS W 8) (Av W n)) G (c8 n (Aw W T z.s c least tl nw n nm tm td d [(sac,tp,vp),(saf,tr,vr),(saa,tj,.int (j:Int) t)])::cC (n+9) k::lS k (cvl cl) ek::z.all W r rs e np nf (pre++nd::post) ep L)
  (⟨fun _=>G,fun p=>p.2.1.s=z.s/\p.2.2.map Nd.v=(pre++nd::post).map (fun b=>if b.x=nd.x then (b.x,-2,b.ss.map (·.1)) else BL (nd.ss.map (·.1)) b),fun _=> .next,fun p=>c8 n (Aw W T z.s c least tl nw n nm tm td d [(sac,tp,vp),(saf,tr,vr),(saa,tj,.int (j:Int) t)])::cC (n+9) k::lS k (cvl cl) ek::p.2.1.all W r (rs++rdy (C1 (pre++post)) nd.ss) p.1 np (nf+1) p.2.2 ep L⟩:A3 Flow (Nat×Sr×List Nd)):=by
 refine Pc.of id Ai (PySem.W.ZFast.zw12563942051412417395 [wS W 8] (Av W n)) (by rw [← Bg,Ao]) fun R n' tk' c₀ dd f gg u hA hR=>?_
 refine BB ok 28 4050970340643938220834713018763837697 hA (.call (.builtin "list.__getitem__") ⟨[.ref (k+8),.int (j:Int) t],[]⟩) [2] (lS k (cvl cl) ek) A6 (fun _ _ eA=>Aa (x:= .str nd.x (cl j).2) (by omega) (by omega) (by rw [Int.toNat_natCast,← hx];exact Bi hj)) fun _ n₁ tk₁ _=>?_
 refine pcL ok 2 0 hA (.call (.ref 157) ⟨[.ref (z.s+8),.str nd.x (cl j).2],[]⟩) (z.all W r rs e np nf (pre++nd::post) ep (lS k (cvl cl) ek::c8 n (Aw W T z.s c least tl nw n nm tm td d [(sac,tp,vp),(saf,tr,vr),(saa,tj,.int (j:Int) t)])::cC (n+9) k::L)) (gd dp un) (fun h D=>A2 [[lS k (cvl cl) ek],[c8 n (Aw W T z.s c least tl nw n nm tm td d [(sac,tp,vp),(saf,tr,vr),(saa,tj,.int (j:Int) t)])],[cC (n+9) k],z.cells W (.ref (r+8)) np nf (pre++nd::post) ep,[lS r rs e],A0 (pre++nd::post)] [3,4,5,0,1,2] (tail:=L)  (A4 [] 0 (by kernel_rfl) h D)) (fun _ eA=>done_ ok hp (Ab dp un eA (by omega) (by omega)) hnd hin hrl) fun p n₂ tk₂ hp=>?_
 exact gmend ok 2 0 hR p hp .next rfl (fun h D=>by
  have D2:Own W.h₀ 53 h (p.2.1.all W r (rs++rdy (C1 (pre++post)) nd.ss) p.1 np (nf+1) p.2.2 ep (lS k (cvl cl) ek::c8 n (Aw W T z.s c least tl nw n nm tm td d [(sac,tp,vp),(saf,tr,vr),(saa,tj,.int (j:Int) t)])::cC (n+9) k::L)):=A4 [] 0 (by kernel_rfl) h D
  exact A2 [p.2.1.cells W (.ref (r+8)) np (nf+1) p.2.2 ep,[(r+8,A1 (sv (rs++rdy (C1 (pre++post)) nd.ss)) p.1)],A0 p.2.2,[lS k (cvl cl) ek],[c8 n (Aw W T z.s c least tl nw n nm tm td d [(sac,tp,vp),(saf,tr,vr),(saa,tj,.int (j:Int) t)])],[cC (n+9) k]] [4,5,3,0,1,2] (tail:=L)  D2)
noncomputable def tl9 (W:Wd):List Stmt:=(bdW (wW W)).drop 9
noncomputable abbrev exJ (tp:Nat) (vp:Value) (tr:Nat) (vr:Value) (tj j t:Nat):List (Str×Nat×Value):=[(sac,tp,vp),(saf,tr,vr),(saa,tj,.int (j:Int) t)]
theorem x_S10 (ok:W.Ok) {z t tr:Nat} {cs:List (Int×Nat)} {b:Int×Nat} (hd:dp<=590) (hu:un<=590) (hj:j<6) (hb:cs[j]?=some b) (hl:os.length<=100) :
  Pc W (Ar dp un F) (execs (tl9 W) (Av W n)) G (c8 n (Aw W T z c least tl nw n nm tm td d (exJ tp vp tr vr tj j t))::cC (n+13) (n+9)::lN (n+9) os eo::cC (n+11) (n+7)::lS (n+7) (cvl nv) en::lI c cs ec::L)
  (⟨fun _=>G,fun _=>True,fun _=> .next,fun p=>c8 n (Aw W T z c (b.1.fdiv ((1944:Nat):Int)) p.2 nw n (nv j).1 (nv j).2 td d (exJ tp vp tr vr tj j t))::cC (n+13) (n+9)::(n+9+8,A1 (iv (nvl (os++[(j,t)]))) p.1)::cC (n+11) (n+7)::lS (n+7) (cvl nv) en::lI c cs ec::L⟩:A3 Flow (Nat×Nat)):=by
 refine Pc.of id Ai _ (by rw [Ao]) fun R n' tk' c₀ dd f gg u hA hR=>?_
 refine BB ok 12 1124872386 hA (.call (.builtin "list.append") ⟨[.ref (n+9+8),.int (j:Int) t],[]⟩) [2] (lN (n+9) os eo) A6 (fun _ _ eA=>A8 (by simp [iv];omega)) fun e' n₁ tk₁ _=>?_
 refine BB ok 10 85217412 hA (.call (.builtin "list.__getitem__") ⟨[.ref (n+7+8),.int (j:Int) t],[]⟩) [4] (lS (n+7) (cvl nv) en) A6 (fun _ _ eA=>Aa (x:= .str (nv j).1 (nv j).2) (by omega) (by omega) (by rw [Int.toNat_natCast];exact Bi hj)) fun _ n₂ tk₂ _=>?_
 refine BB ok 16 418860773507 hA (.call (.builtin "list.__getitem__") ⟨[.ref (c+8),.int (j:Int) t],[]⟩) [5] (lI c cs ec) A6 (fun _ _ eA=>Aa (x:= .int b.1 b.2) (by omega) (by omega) (by simp [iv,hb])) fun _ n₃ tk₃ _=>?_
 refine pc0 ok 2 0 hA (.call (.builtin "int.__floordiv__") ⟨[.int b.1 b.2,.int ((1944:Nat):Int) tk₃],[]⟩) A6 (fun _ _ eA=>CM (by decide) (by decide)) fun t4 n₄ tk₄ _=>?_
 exact gmend ok 7 196 hR (e',t4) trivial .next rfl (fun h D=>(C5 os j t)▸A4 [3,4,2,5,1,0] 0 (by kernel_rfl) h D)
noncomputable def retE (s:Stmt):PySem.Expr:=(Br s).e
noncomputable def retP (s:Stmt):Pos:=(Br s).p
noncomputable def t7 (W:Wd):PySem.Expr:=ifT (wS W 6)
noncomputable def r7 (W:Wd):Stmt:=AE (ifB (wS W 6)) 0
noncomputable def nC (W:Wd):PySem.Expr:=retE (r7 W)
noncomputable def nE (W:Wd) (n D:Nat):Env:=Cm (Av W n) (nC W) (D+8) [(S [110,97,109,101,115],n+11)]
theorem s7_eq (W:Wd):wS W 6= .If (t7 W) [.Return (some (nC W)) (retP (r7 W))] [] (ifP (wS W 6)):=by kernel_rfl
theorem t7_eq (W:Wd):t7 W= .Compare (cmL (t7 W)) [.Eq] [Ci (t7 W)] (cmP (t7 W)):=by kernel_rfl
theorem t7_in (W:Wd):behindInMarks .Eq (Ci (t7 W))=false:=by kernel_rfl
noncomputable def nCo (W:Wd) (it acc n D:Nat):Code:= .compLoop (nC W) 0 (.ref (it+8)) (.ref (acc+8)) (nE W n D)
noncomputable def nSt (W:Wd) (it acc n D:Nat):Code:= .compStart (nC W) 0 (.ref (it+8)) (.ref (acc+8)) (nE W n D)
noncomputable abbrev ncQ (W:Wd) (G:List GenState) (L:List Cell) (n acc D en eo:Nat) (nv:Nat->Str×Nat) (os:List (Nat×Nat)) (ys:List (Str×Nat)):Post (List (Str×Nat×Value)×Nat):=
 Nx G (fun p=>c8 D (lo W p.1)::lS acc ys p.2::cC (n+11) (n+7)::lS (n+7) (cvl nv) en::lN (n+9) os eo::L) fun p=>p.1=[]∨∃ t v,p.1=[(saa,t,v)]
theorem nc_b (ok:W.Ok) (hd:dp<=700) (hu:un<=700) :
  ∀ (rst done:List (Nat×Nat)) (xs:List (Str×Nat)) (tp e1:Nat) (v:Value),os=done++rst->xs.length+rst.length<=500->(∀ q∈rst,q.1<6)->Tri W (Ar dp un F) (nCo W it acc n D') G (c8 D' (lo W [(saa,tp,v)])::lS acc xs e1::c8 it (lit (n+9+8) done.length)::cC (n+11) (n+7)::lS (n+7) (cvl nv) en::lN (n+9) os eo::L) (ncQ W G L n acc D' en eo nv os (xs++rst.map fun p=>nv p.1)):=by
 intro rst
 induction rst with
 | nil=>
  intro done xs tp e1 v hos hl hj
  refine Tri.of fun R n' tk hR=>?_
  refine Cg ok 2 3 (.call (.builtin "list_iterator.__next__") ⟨[.ref (it+8)],[]⟩) [2,5] (c8 it (lit (n+9+8) done.length)) (lN (n+9) os eo) (BP (Ar dp un F)) (fun _ _ eA=>Tri.at eA (B1 (BE hos))) fun p n₀ tk₀ _=>?_
  exact gmend ok 1 1 hR ([(saa,tp,v)],e1) (.inr ⟨_,_,rfl⟩) .next rfl (fun h D=>by
   have e:xs++([]:List (Nat×Nat)).map (fun p=>nv p.1)=xs:=by simp
   show Own W.h₀ 53 h (c8 D' (lo W [(saa,tp,v)])::(acc+8,A1 (sv (xs++([]:List (Nat×Nat)).map (fun p=>nv p.1))) e1)::cC (n+11) (n+7)::lS (n+7) (cvl nv) en::lN (n+9) os eo::L)
   rw [e]
   exact A4 [0,1,2,4,5,6,7,3] 3 (by kernel_rfl) h D)
 | cons p rst ih=>
  intro done xs tp e1 v hos hl hj
  refine Tri.of fun R n' tk hR=>?_
  refine Cg ok 2 3 (.call (.builtin "list_iterator.__next__") ⟨[.ref (it+8)],[]⟩) [2,5] (c8 it (lit (n+9+8) done.length)) (lN (n+9) os eo) A6 (fun _ _ eA=>AM (BG hos)) fun _ n₀ tk₀ _=>?_
  refine AU ok 15 418860781699 (.call (.builtin "list.__getitem__") ⟨[.ref (n+7+8),.int (p.1:Int) p.2],[]⟩) [5] (lS (n+7) (cvl nv) en) A6 (fun _ _ eA=>Aa (x:= .str (nv p.1).1 (nv p.1).2) (by omega) (by have:=hj p (List.mem_cons_self ..);omega) (by rw [Int.toNat_natCast];exact Bi (hj p (List.mem_cons_self ..)))) fun _ n₁ tk₁ _=>?_
  refine AU ok 0 0 (.call (.builtin "list.append") ⟨[.ref (acc+8),.str (nv p.1).1 (nv p.1).2],[]⟩) [4] (lS acc xs e1) A6 (fun _ _ eA=>A8 (by simp [sv];simp at hl;omega)) fun e' n₂ tk₂ _=>?_
  refine gmagn ok 0 0 (nCo W it acc n D') hR (L:=c8 D' (lo W [(saa,tp,.int (p.1:Int) p.2)])::(acc+8,A1 (sv (xs++[nv p.1])) e')::c8 it (lit (n+9+8) (done.length+1))::cC (n+11) (n+7)::lS (n+7) (cvl nv) en::lN (n+9) os eo::L)
   (fun h D=>(AB xs (nv p.1).1 (nv p.1).2)▸A4 [4,0,2,5,1,3] 0 (by kernel_rfl) h D) ?_
  have z:=ih (done++[p]) (xs++[nv p.1]) tp e' (.int (p.1:Int) p.2) (by rw [hos,List.append_assoc];rfl) (by simp at hl ⊢;omega) (fun q hq=>hj q (List.mem_cons_of_mem _ hq))
  rw [List.length_append,List.append_assoc] at z
  exact z
theorem nc_a (ok:W.Ok) (hd:dp<=700) (hu:un<=700) :
  ∀ (rst done:List (Nat×Nat)) (xs:List (Str×Nat)) (e1:Nat),os=done++rst->xs.length+rst.length<=500->(∀ q∈rst,q.1<6)->Tri W (Ar dp un F) (nCo W it acc n D') G (c8 D' (lo W [])::lS acc xs e1::c8 it (lit (n+9+8) done.length)::cC (n+11) (n+7)::lS (n+7) (cvl nv) en::lN (n+9) os eo::L) (ncQ W G L n acc D' en eo nv os (xs++rst.map fun p=>nv p.1)):=by
 intro rst
 cases rst with
 | nil=>
  intro done xs e1 hos hl hj
  refine Tri.of fun R n' tk hR=>?_
  refine Cg ok 2 3 (.call (.builtin "list_iterator.__next__") ⟨[.ref (it+8)],[]⟩) [2,5] (c8 it (lit (n+9+8) done.length)) (lN (n+9) os eo) (BP (Ar dp un F)) (fun _ _ eA=>Tri.at eA (B1 (BE hos))) fun p n₀ tk₀ _=>?_
  exact gmend ok 1 1 hR ([],e1) (.inl rfl) .next rfl (fun h D=>by
   have e:xs++([]:List (Nat×Nat)).map (fun p=>nv p.1)=xs:=by simp
   show Own W.h₀ 53 h (c8 D' (lo W [])::(acc+8,A1 (sv (xs++([]:List (Nat×Nat)).map (fun p=>nv p.1))) e1)::cC (n+11) (n+7)::lS (n+7) (cvl nv) en::lN (n+9) os eo::L)
   rw [e]
   exact A4 [0,1,2,4,5,6,7,3] 3 (by kernel_rfl) h D)
 | cons p rst=>
  intro done xs e1 hos hl hj
  refine Tri.of fun R n' tk hR=>?_
  refine Cg ok 2 3 (.call (.builtin "list_iterator.__next__") ⟨[.ref (it+8)],[]⟩) [2,5] (c8 it (lit (n+9+8) done.length)) (lN (n+9) os eo) A6 (fun _ _ eA=>AM (BG hos)) fun _ n₀ tk₀ _=>?_
  refine AU ok 15 418860781699 (.call (.builtin "list.__getitem__") ⟨[.ref (n+7+8),.int (p.1:Int) p.2],[]⟩) [5] (lS (n+7) (cvl nv) en) A6 (fun _ _ eA=>Aa (x:= .str (nv p.1).1 (nv p.1).2) (by omega) (by have:=hj p (List.mem_cons_self ..);omega) (by rw [Int.toNat_natCast];exact Bi (hj p (List.mem_cons_self ..)))) fun _ n₁ tk₁ _=>?_
  refine AU ok 0 0 (.call (.builtin "list.append") ⟨[.ref (acc+8),.str (nv p.1).1 (nv p.1).2],[]⟩) [4] (lS acc xs e1) A6 (fun _ _ eA=>A8 (by simp [sv];simp at hl;omega)) fun e' n₂ tk₂ _=>?_
  refine gmagn ok 0 0 (nCo W it acc n D') hR (L:=c8 D' (lo W [(saa,tk₀,.int (p.1:Int) p.2)])::(acc+8,A1 (sv (xs++[nv p.1])) e')::c8 it (lit (n+9+8) (done.length+1))::cC (n+11) (n+7)::lS (n+7) (cvl nv) en::lN (n+9) os eo::L)
   (fun h D=>(AB xs (nv p.1).1 (nv p.1).2)▸A4 [4,0,2,5,1,3] 0 (by kernel_rfl) h D) ?_
  have z:=nc_b (G:=G) (L:=L) (F:=F) (n:=n) (D':=D') (it:=it) (acc:=acc) (en:=en) (eo:=eo) (nv:=nv) (os:=os) ok hd hu rst (done++[p]) (xs++[nv p.1]) tk₀ e' (.int (p.1:Int) p.2) (by rw [hos,List.append_assoc];rfl) (by simp at hl ⊢;omega) (fun q hq=>hj q (List.mem_cons_of_mem _ hq))
  rw [List.length_append,List.append_assoc] at z
  exact z
theorem nc_start (ok:W.Ok) {α:Type} {Q:Post α} (spec:Tri W A (nCo W it acc n D) G (c8 it (lit (l+8) i)::L) Q):Tri W A (nSt W it acc n D) G (c8 it (lit (l+8) i)::L) Q:=by
 obtain ⟨w₀,b2,b3,h₀,dd,os⟩:=W
 cases b2
 ·refine Tri.of fun R n' tk hR=>?_
  exact Cq ok 11 266305 (nCo _ it acc n D) _ [] 0 hR spec
 ·refine Tri.of fun R n' tk hR=>?_
  exact Cq ok 1 0 (nCo _ it acc n D) _ [] 0 hR spec
theorem p_w7 (ok:W.Ok) {z:Nat} :
  Pc W (Ar dp un F) (eval (cmL (t7 W)) (Av W n)) G (c8 n (Aw W T z c least tl nw n nm tm td d ext)::L)
  (⟨fun _=>G,fun _=>True,fun _=> .ref (n+10+8),fun _=>c8 n (Aw W T z c least tl nw n nm tm td d ext)::L⟩:A3 Value Unit):=by
 refine Pc.of AL Ac _ (by rw [Ag]) fun R n' tk' c₀ dd f gg u hA hR=>?_
 exact Aj ok 2 1 hR () trivial (.ret (.ref (n+10+8))) rfl [] 0
theorem p_e7 (ok:W.Ok) :
  Pc W (Ar dp un F) (eval (Ci (t7 W)) (Av W n)) G L
  (⟨fun _=>G,fun _=>True,fun p=> .ref (p+8),fun p=>lL p #[] 0::L⟩:A3 Value Nat):=by
 refine Pc.of AL Ac _ (by rw [Ag]) fun R n' tk' c₀ d f gg u hA hR=>?_
 exact Aj ok 2 0 hR n' trivial (.ret (.ref (n'+8))) rfl [] 0
theorem p_c7 (ok:W.Ok) {z:Nat} (hd:dp<=590) (hu:un<=590) (hl:os.length<=6) (hj:∀ q∈os,q.1<6) :
  Pc W (Ar dp un F) (eval (nC W) (Av W n)) G (c8 n (Aw W T z c least tl nw n nm tm td d ext)::cC (n+11) (n+7)::lS (n+7) (cvl nv) en::cC (n+13) (n+9)::lN (n+9) os eo::L)
  (⟨fun _=>G,fun _=>True,fun p=> .ref (p.1+8),fun p=>lS p.1 (os.map fun p=>nv p.1) p.2::L⟩:A3 Value (Nat×Nat)):=by
 refine Pc.of AL Ac _ (by rw [Ag]) fun R n' tk' c₀ dd f gg u hA hR=>?_
 refine CQ ok 14 18108740 hA (nSt W n' (n'+1) n (n'+2)) (c8 n' (lit (n+9+8) 0)::c8 (n'+2) (lo W [])::lS (n'+1) [] 0::cC (n+11) (n+7)::lS (n+7) (cvl nv) en::lN (n+9) os eo::L) [3,6,2,0,1,4,5,7] 2 (BP (Ar dp un F)) (fun _ eA=>nc_start ok (Tri.at eA (Tri.own (nc_a (e1:=0) (xs:=[]) (done:=[]) (rst:=os) (n:=n) (D':=n'+2) (it:=n') (acc:=n'+1) (en:=en) (eo:=eo) (nv:=nv) (os:=os) (L:=L) ok (by omega) (by omega) rfl (by simp;omega) hj) (fun h D=>A4 [1,2,0] 0 (by kernel_rfl) h D)))) fun p n₂ tk₂ hp=>?_
 obtain ⟨pn,pe⟩:=p
 rcases (hp:pn=[]∨∃ t v,pn=[(saa,t,v)]) with rfl | ⟨to,vo,rfl⟩
 ·exact Aj ok 1 1 hR (n'+1,pe) trivial (.ret (.ref (n'+1+8))) rfl [0,2,3,4,1] 4
 ·exact Aj ok 5 65 hR (n'+1,pe) trivial (.ret (.ref (n'+1+8))) rfl [0,2,3,4,1] 4
theorem x_S7a (ok:W.Ok) {z:Nat} (hu:un<=590) (hw:ws≠[]) :
  Pc W (Ar dp un F) (exec (wS W 6) (Av W n)) G (c8 n (Aw W T z c least tl nw n nm tm td d ext)::lN (n+10) ws ew::L)
  (⟨fun _=>G,fun _=>True,fun _=> .next,fun _=>c8 n (Aw W T z c least tl nw n nm tm td d ext)::lN (n+10) ws ew::L⟩:A3 Flow Unit):=by
 intro K hK E h n0 tk0 hs D0
 rw [s7_eq]
 refine wpAny_If ?_
 rw [t7_eq]
 refine wpAny_isTrue_Compare1 ?_ (t7_in W)
 refine Pc.go (p_w7 ok) (fun _ _ h1 n1 tk1 hs1 D1=>?_) hs D0
 refine Pc.go (p_e7 ok) (fun m _ h3 n3 tk3 hs3 D3=>?_) hs1 D1
 refine Pc.go (CV (xs:=iv (nvl ws)) (e:=ew) (e2:=0) (L:=c8 n (Aw W T z c least tl nw n nm tm td d ext)::L) (show un<=9000 by omega)) (fun _ _ h4 n4 tk4 hs4 D4=>?_) hs3 (A2 [[lL m #[] 0],[c8 n (Aw W T z c least tl nw n nm tm td d ext)],[lN (n+10) ws ew]] [2,0,1] (tail:=L)  D3)
 have D5:=A2 [[lN (n+10) ws ew],[lL m #[] 0],[c8 n (Aw W T z c least tl nw n nm tm td d ext)]] [1,2,0] (tail:=L)  D4
 refine wpAny_truthy_bool ?_
 rw [Ec,List.isEmpty_eq_false_iff.mpr hw,if_neg Bool.false_ne_true]
 exact wpAny_execs_nil (hK () trivial h4 n4 tk4 hs4 (Own.sub D5 (List.sublist_cons_self ..)))
theorem x_S7b (ok:W.Ok) {z:Nat} (hd:dp<=590) (hu:un<=590) (hl:os.length<=6) (hj:∀ q∈os,q.1<6) (hw:ws=[]) :
  Pc W (Ar dp un F) (exec (wS W 6) (Av W n)) G (c8 n (Aw W T z c least tl nw n nm tm td d ext)::lN (n+10) ws ew::cC (n+11) (n+7)::lS (n+7) (cvl nv) en::cC (n+13) (n+9)::lN (n+9) os eo::L)
  (⟨fun _=>G,fun _=>True,fun p=> .ret (.ref (p.1+8)),fun p=>lS p.1 (os.map fun p=>nv p.1) p.2::L⟩:A3 Flow (Nat×Nat)):=by
 intro K hK E h n0 tk0 hs D0
 rw [s7_eq]
 refine wpAny_If ?_
 rw [t7_eq]
 refine wpAny_isTrue_Compare1 ?_ (t7_in W)
 refine Pc.go (p_w7 ok) (fun _ _ h1 n1 tk1 hs1 D1=>?_) hs D0
 refine Pc.go (p_e7 ok) (fun m _ h3 n3 tk3 hs3 D3=>?_) hs1 D1
 refine Pc.go (CV (xs:=iv (nvl ws)) (e:=ew) (e2:=0) (L:=c8 n (Aw W T z c least tl nw n nm tm td d ext)::cC (n+11) (n+7)::lS (n+7) (cvl nv) en::cC (n+13) (n+9)::lN (n+9) os eo::L) (show un<=9000 by omega)) (fun _ _ h4 n4 tk4 hs4 D4=>?_) hs3 (A2 [[lL m #[] 0],[c8 n (Aw W T z c least tl nw n nm tm td d ext)],[lN (n+10) ws ew]] [2,0,1] (tail:=_::_::_::_::L)  D3)
 refine wpAny_truthy_bool ?_
 rw [Ec,List.isEmpty_iff.mpr hw,if_pos rfl]
 refine wpAny_execs_cons (wpAny_Return_some ?_)
 exact Pc.go (p_c7 ok hd hu hl hj) (fun p hp h5 n5 tk5 hs5 D5=>hK p trivial h5 n5 tk5 hs5 D5) hs4 (Own.sub D4 (List.Sublist.trans (List.sublist_cons_self ..) (List.sublist_cons_self ..)))
theorem x_Due0 (ok:W.Ok) {z td d0:Nat} {ext:List (Str×Nat×Value)} (hd:dp<=700) (hu:un<=700) (hq:Needs qq) :
  Pc W (Ar dp un F) (exec (wS W 0) (Av W n)) G (AF W n (cwN T z c least tl nw n nm tm ([]))::(Cs n q eq eo eg qq os gs++(qc qq 6++L)))
  (⟨fun _=>G,fun p=>p.2.1.map (·.1)=AH gs os qq 0 6,fun _=> .next,fun p=>c8 n (Aw W T z c least tl nw n nm tm p.2.2.2 p.1 ([]))::lN p.1 p.2.1 p.2.2.1::(Cs n q eq eo eg qq os gs++(qc qq 6++L))⟩:A3 Flow (Nat×List (Nat×Nat)×Nat×Nat)):=by
 refine Pc.of id Ai (PySem.W.ZFast.zw12563942051412417395 [wS W 0] (Av W n)) (by rw [← Bg,Ao]) fun R n' tk' c₀ d f gg u hA hR=>?_
 refine pcL ok 40 4797324681010433232896 hA (dSt W (n'+1) (n'+2) n (n'+3)) (c8 (n'+1) (rit 0 6)::c8 (n'+3) (lo W [])::lN (n'+2) [] 0::(Cs n q eq eo eg qq os gs++(qc qq 6++(AF W n (cwN T z c least tl nw n nm tm ([]))::L)))) (BP (Ar dp un F)) (fun h D=>A2 [[c8 (n'+1) (rit 0 6)],[c8 (n'+3) (lo W [])],[lN (n'+2) [] 0],[AF W n (cwN T z c least tl nw n nm tm ([]))],Cs n q eq eo eg qq os gs,qc qq 6] [0,1,2,4,5,3] (tail:=L)  (A4 [3,2,0,1] 1 (by kernel_rfl) h D)) (fun _ eA=>Ed ok (Tri.at eA (Tri.own (dc_a (i:=0) (k:=5) (e1:=0) (ds:=[]) (n:=n) (D:=n'+3) (it:=n'+1) (acc:=n'+2) (q:=q) (eq:=eq) (eo:=eo) (eg:=eg) (qq:=qq) (os:=os) (gs:=gs) (L:=AF W n (cwN T z c least tl nw n nm tm ([]))::L) ok hd hu hq rfl (by decide)) (fun h D=>A4 [1,2,0] 0 (by kernel_rfl) h D)))) fun p n₂ tk₂ hp=>?_
 obtain ⟨pn,pd,pe⟩:=p
 obtain ⟨hpn,hpd⟩:(pn=[]∨∃ t v,pn=[(saa,t,v)])/\pd.map (·.1)=[]++AH gs os qq 0 6:=hp
 rcases hpn with rfl | ⟨to,vo,rfl⟩
 ·exact Aj ok 9 5007 hR (n'+2,pd,pe,tk₂) hpd .next rfl [0,14,1,2,3,4,5,6,7,8,9,10,11,12,13] 1
 ·exact Aj ok 13 267151 hR (n'+2,pd,pe,tk₂) hpd .next rfl [0,14,1,2,3,4,5,6,7,8,9,10,11,12,13] 1
theorem x_Due1 (ok:W.Ok) {z d0:Nat} (hd:dp<=700) (hu:un<=700) (hq:Needs qq) :
  Pc W (Ar dp un F) (exec (wS W 0) (Av W n)) G (AF W n (cwN T z c least tl nw n nm tm ((sck,td,.ref (d0+8))::ext))::(Cs n q eq eo eg qq os gs++(qc qq 6++L)))
  (⟨fun _=>G,fun p=>p.2.1.map (·.1)=AH gs os qq 0 6,fun _=> .next,fun p=>c8 n (Aw W T z c least tl nw n nm tm p.2.2.2 p.1 (ext))::lN p.1 p.2.1 p.2.2.1::(Cs n q eq eo eg qq os gs++(qc qq 6++L))⟩:A3 Flow (Nat×List (Nat×Nat)×Nat×Nat)):=by
 refine Pc.of id Ai (PySem.W.ZFast.zw12563942051412417395 [wS W 0] (Av W n)) (by rw [← Bg,Ao]) fun R n' tk' c₀ d f gg u hA hR=>?_
 refine pcL ok 40 4797324681010433232896 hA (dSt W (n'+1) (n'+2) n (n'+3)) (c8 (n'+1) (rit 0 6)::c8 (n'+3) (lo W [])::lN (n'+2) [] 0::(Cs n q eq eo eg qq os gs++(qc qq 6++(AF W n (cwN T z c least tl nw n nm tm ((sck,td,.ref (d0+8))::ext))::L)))) (BP (Ar dp un F)) (fun h D=>A2 [[c8 (n'+1) (rit 0 6)],[c8 (n'+3) (lo W [])],[lN (n'+2) [] 0],[AF W n (cwN T z c least tl nw n nm tm ((sck,td,.ref (d0+8))::ext))],Cs n q eq eo eg qq os gs,qc qq 6] [0,1,2,4,5,3] (tail:=L)  (A4 [3,2,0,1] 1 (by kernel_rfl) h D)) (fun _ eA=>Ed ok (Tri.at eA (Tri.own (dc_a (i:=0) (k:=5) (e1:=0) (ds:=[]) (n:=n) (D:=n'+3) (it:=n'+1) (acc:=n'+2) (q:=q) (eq:=eq) (eo:=eo) (eg:=eg) (qq:=qq) (os:=os) (gs:=gs) (L:=AF W n (cwN T z c least tl nw n nm tm ((sck,td,.ref (d0+8))::ext))::L) ok hd hu hq rfl (by decide)) (fun h D=>A4 [1,2,0] 0 (by kernel_rfl) h D)))) fun p n₂ tk₂ hp=>?_
 obtain ⟨pn,pd,pe⟩:=p
 obtain ⟨hpn,hpd⟩:(pn=[]∨∃ t v,pn=[(saa,t,v)])/\pd.map (·.1)=[]++AH gs os qq 0 6:=hp
 rcases hpn with rfl | ⟨to,vo,rfl⟩
 ·exact Aj ok 9 5007 hR (n'+2,pd,pe,td) hpd .next rfl [0,14,1,2,3,4,5,6,7,8,9,10,11,12,13] 1
 ·exact Aj ok 13 267151 hR (n'+2,pd,pe,td) hpd .next rfl [0,14,1,2,3,4,5,6,7,8,9,10,11,12,13] 1
noncomputable abbrev plP (W:Wd) (G:List GenState) (L:List Cell) (T:Nat->Nat) (z c:Nat) (least:Int) (tl:Nat) (nw:Bool) (n:Nat) (nm:Str) (tm td d:Nat) (ext:List (Str×Nat×Value)) (ed el ec:Nat) (lb:Nat->Str×Nat) (ds:List (Nat×Nat)) (cs:List (Int×Nat)) (R:(Nat->Str×Nat)->Prop):A3 Flow PR:=
 ⟨fun p=>p.G,fun p=>R p.nv/\Tb W p.o/\((∀ y∈G,y.bare=true)->∀ y∈p.G,y.bare=true),fun _=> .next,fun p=>c8 n (Aw W T z c least tl nw n nm tm td d ((sac,p.tp,p.vp)::(saf,p.tr,p.vr)::ext))::lS (n+7) (cvl p.nv) p.en::(53,p.o)::(plX n d c ed el ec lb ds cs++L)⟩
theorem x_Forb (ok:W.Ok) {z tr:Nat} {cs:List (Int×Nat)} {NO:List Nat->Str->Prop} (hd:dp<=590) (hu:un<=590) (N:Dy NO) (hlb:∀ i,(lb i).1=lab i) (hm:ds.length=m) (hm6:m<=6) (hcs:cs.length=6) (hj:∀ q∈ds,q.1<6) (hnd:(ds.map (·.1)).Nodup) (hP:NO P nm) (hPl:0<m->P.length<=5) (ho:Tb W o) :
  Pc W (Ar dp un F) (exec (wS W 3) (Av W n)) G (c8 n (Aw W T z c least tl nw n nm tm td d ((sac,tp,vp)::(saf,tr,vr)::ext))::lS (n+7) (cvl nv) en::(53,o)::(plX n d c ed el ec lb ds cs++L))
  (plP W G L T z c least tl nw n nm tm td d (ext) ed el ec lb ds cs (CZ NO P least (m) nw ds nv 0)):=by
 refine Pc.of id Ai (PySem.W.ZFast.zw12563942051412417395 [wS W 3] (Av W n)) (by rw [← Bg,Ao]) fun R n' tk' c₀ dd f gg u hA hR=>?_
 refine BB ok 10 16777216 hA (.call (.builtin "len") ⟨[.ref (d+8)],[]⟩) [3] (lN d ds ed) A6 (fun _ _ eA=>Bk ok (Eh hm (by omega))) fun t1 n₁ tk₁ _=>?_
 refine pc0 ok 2 0 hA (.call (.type "range") ⟨[.int ((m:Nat):Int) t1],[]⟩) (gd dp un) (fun _ _ eA=>r_new ok (Ab dp un eA (by omega) (by omega)) hm6) fun p n₂ tk₂ _=>?_
 refine BB ok 5 65 hA (.call (.builtin "range.__iter__") ⟨[.ref (p.1+8)],[]⟩) [0] (c8 p.1 (Bc (m) t1 p.2)) (gd dp un) (fun _ _ eA=>r_iter ok (Ab dp un eA (by omega) (by omega)) hm6) fun it n₃ tk₃ _=>?_
 refine CQ ok 1 1 hA (plC W it n) (c8 n (Aw W T z c least tl nw n nm tm td d ((sac,tp,vp)::(saf,tr,vr)::ext))::c8 it (rit 0 (m))::lS (n+7) (cvl nv) en::(53,o)::(plX n d c ed el ec lb ds cs++(c8 p.1 (Bc (m) t1 p.2)::L))) [3,0,4,5,2,6,7,8,1] 0 (BP (Ar dp un F)) (fun _ eA=>Tri.at eA (pl_b ok hd hu N hlb hm hm6 hcs hj hnd hP hPl m 0 G nv en tp tr o vp vr (by omega) ho)) fun q n₄ tk₄ hq=>?_
 exact Aj ok 0 0 hR q hq .next rfl [7,0,1,2,3,4,5,6] 1
theorem x_Fora (ok:W.Ok) {z k tp tr:Nat} {vp vr:Value} {ext:List (Str×Nat×Value)} {cs:List (Int×Nat)} {NO:List Nat->Str->Prop} (hd:dp<=590) (hu:un<=590) (N:Dy NO) (hlb:∀ i,(lb i).1=lab i) (hm:ds.length=k+1) (hm6:k+1<=6) (hcs:cs.length=6) (hj:∀ q∈ds,q.1<6) (hnd:(ds.map (·.1)).Nodup) (hP:NO P nm) (hPl:0<k+1->P.length<=5) (ho:Tb W o) :
  Pc W (Ar dp un F) (exec (wS W 3) (Av W n)) G (c8 n (Aw W T z c least tl nw n nm tm td d ([]))::lS (n+7) (cvl nv) en::(53,o)::(plX n d c ed el ec lb ds cs++L))
  (plP W G L T z c least tl nw n nm tm td d ([]) ed el ec lb ds cs (CZ NO P least (k+1) nw ds nv 0)):=by
 refine Pc.of id Ai (PySem.W.ZFast.zw12563942051412417395 [wS W 3] (Av W n)) (by rw [← Bg,Ao]) fun R n' tk' c₀ dd f gg u hA hR=>?_
 refine BB ok 10 16777216 hA (.call (.builtin "len") ⟨[.ref (d+8)],[]⟩) [3] (lN d ds ed) A6 (fun _ _ eA=>Bk ok (Eh hm (by omega))) fun t1 n₁ tk₁ _=>?_
 refine pc0 ok 2 0 hA (.call (.type "range") ⟨[.int ((k+1:Nat):Int) t1],[]⟩) (gd dp un) (fun _ _ eA=>r_new ok (Ab dp un eA (by omega) (by omega)) hm6) fun p n₂ tk₂ _=>?_
 refine BB ok 5 65 hA (.call (.builtin "range.__iter__") ⟨[.ref (p.1+8)],[]⟩) [0] (c8 p.1 (Bc (k+1) t1 p.2)) (gd dp un) (fun _ _ eA=>r_iter ok (Ab dp un eA (by omega) (by omega)) hm6) fun it n₃ tk₃ _=>?_
 refine CQ ok 1 1 hA (plC W it n) (c8 n (Aw W T z c least tl nw n nm tm td d ([]))::c8 it (rit 0 (k+1))::lS (n+7) (cvl nv) en::(53,o)::(plX n d c ed el ec lb ds cs++(c8 p.1 (Bc (k+1) t1 p.2)::L))) [3,0,4,5,2,6,7,8,1] 0 (BP (Ar dp un F)) (fun _ eA=>Tri.at eA (pl_a (k:=k) (i:=0) ok hd hu N hlb hm hm6 hcs hj hnd hP hPl (by omega) ho)) fun q n₄ tk₄ hq=>?_
 exact Aj ok 0 0 hR q hq .next rfl [7,0,1,2,3,4,5,6] 1
noncomputable def cnt (qq:Nat->NL) (i j:Nat):Nat:=((qq i).ns.map (·.1)).count j
noncomputable def lack (qq:Nat->NL) (os:List (Nat×Nat)) (i:Nat):Nat:=(fl os (qq i).ns).length
noncomputable def pv (qq:Nat->NL) (gs os:List (Nat×Nat)) (i:Nat):Int:=if Az os i then -2 else if Az gs i then -1 else (lack qq os i:Int)
noncomputable def dep (qq:Nat->NL) (j:Nat):List Nat:=(List.range' 0 6).flatMap fun i=>List.replicate (cnt qq i j) i
noncomputable def nview (cl:Nat->Str×Nat) (qq:Nat->NL) (f:Nat->Int):List (Str×Int×List Str):=(List.range' 0 6).map fun j=>((cl j).1,f j,(dep qq j).map fun i=>(cl i).1)
theorem AC {l:List (Nat×Nat)}:Az l j=true↔j∈l.map (·.1):=by
 simp [Az]
theorem Bm {l l':List (Nat×Nat)}:Az (l++l') j=(Az l j||Az l' j):=by simp [Az]
theorem lack_add {t:Nat} (hj:Az os j=false):lack qq os i=lack qq (os++[(j,t)]) i+cnt qq i j:=by
 unfold lack cnt fl
 generalize (qq i).ns=l
 induction l with
 | nil=>rfl
 | cons p l ih=>
  rw [List.map_cons,List.count_cons,List.filter_cons,List.filter_cons,Bm]
  have e:Az [(j,t)] p.1=(p.1==j):=by
   rw [Bool.eq_iff_iff,AC,beq_iff_eq,List.map_cons,List.map_nil,List.mem_singleton]
  rw [e]
  by_cases h:p.1=j
  ·subst h
   simp [hj]
   rw [ih];simp only [Nat.add_assoc]
  ·have:(p.1==j)=false:=by simpa using h
   rw [this]
   cases Az os p.1<;>simp<;>omega
noncomputable def CY:(Nat->Int)->List Nat->List Nat
 | _,[]=>[]
 | f,y::q=>(if f y - 1=0 then [y] else [])++CY (fun s=>if s=y then f s - 1 else f s) q
theorem Bq:∀ (l:List Nat) {f g:Nat->Int},(∀ i∈l,f i=g i)->CY f l=CY g l
 | [],_,_,_=>rfl
 | y::q,f,g,h=>by
  unfold CY
  rw [h y (List.mem_cons_self ..),Bq q fun i hi=>by
   show (if i=y then f i - 1 else f i)=if i=y then g i - 1 else g i
   rw [h i (List.mem_cons_of_mem _ hi)]]
theorem rdy_map:∀ (l:List Nat) (ss:List (Str×Nat)) {f:Str->Int} (K:List Nat),ss.map (·.1)=l.map (fun i=>(cl i).1)->(∀ i∈l,i∈K)->(∀ i j,i∈K->j∈K->(cl i).1=(cl j).1->i=j) ->
  (rdy f ss).map (·.1)=(CY (fun i=>f (cl i).1) l).map fun i=>(cl i).1
 | [],ss,f,K,e,hK,inj=>by
  have:ss=[]:=by simpa using e
  subst this;rfl
 | y::l,[],f,K,e,hK,inj=>by simp at e
 | y::l,p::ss,f,K,e,hK,inj=>by
  rw [List.map_cons,List.map_cons,List.cons.injEq] at e
  unfold rdy CY
  rw [List.map_append,List.map_append,e.1]
  congr 1
  ·split<;>simp [e.1]
  ·rw [rdy_map l ss K e.2 (fun i hi=>hK i (List.mem_cons_of_mem _ hi)) inj]
   congr 1
   refine Bq l fun i hi=>?_
   show (if (cl i).1=(cl y).1 then f (cl i).1 - 1 else f (cl i).1)=if i=y then f (cl i).1 - 1 else f (cl i).1
   by_cases h:i=y
   ·subst h;simp
   ·rw [if_neg h,if_neg fun h2=>h (inj i y (hK i (List.mem_cons_of_mem _ hi)) (hK y (List.mem_cons_self ..)) h2)]
theorem rdyM_rep (i:Nat):∀ (c:Nat) (f:Nat->Int) (l:List Nat),CY f (List.replicate c i++l)=(if 1<=f i/\f i<=c then [i] else [])++CY (fun s=>if s=i then f s - c else f s) l
 | 0,f,l=>by
  rw [if_neg (by omega)]
  show CY f l=_
  rw [List.nil_append]
  refine Bq l fun k _=>?_
  split<;>omega
 | c+1,f,l=>by
  rw [List.replicate_succ,List.cons_append]
  rw [CY,rdyM_rep i c]
  rw [← List.append_assoc]
  congr 1
  ·rw [if_pos rfl]
   by_cases h1:f i=1
   ·rw [if_pos (by omega),if_neg (by omega),if_pos (by omega)];rfl
   ·rw [if_neg (by omega)]
    by_cases h2:1<=f i - 1/\f i - 1<=c
    ·rw [if_pos h2,if_pos (by omega)];rfl
    ·rw [if_neg h2,if_neg (by omega)];rfl
  ·refine Bq l fun k _=>?_
   split<;>omega
theorem rdyM_flat (c:Nat->Nat):∀ (k a:Nat) (f:Nat->Int),CY f ((List.range' a k).flatMap fun i=>List.replicate (c i) i)=(List.range' a k).filter fun i=>decide (1<=f i/\f i<=c i)
 | 0,a,f=>rfl
 | k+1,a,f=>by
  rw [List.range'_succ,List.flatMap_cons,rdyM_rep,List.filter_cons]
  have e:CY (fun s=>if s=a then f s - c a else f s) ((List.range' (a+1) k).flatMap fun i=>List.replicate (c i) i)=CY f ((List.range' (a+1) k).flatMap fun i=>List.replicate (c i) i):=by
   refine Bq _ fun i hi=>?_
   obtain ⟨b,hb,hr⟩:=List.mem_flatMap.mp hi
   obtain ⟨_,rfl⟩:=List.mem_replicate.mp hr
   have:=(List.mem_range'_1.mp hb).1
   rw [if_neg (by omega)]
  rw [e,rdyM_flat c k (a+1) f]
  by_cases h:1<=f a/\f a<=c a
  ·rw [if_pos h,if_pos (by simpa using h)];rfl
  ·rw [if_neg h,if_neg (by simpa using h)];rfl
structure CI (cl:Nat->Str×Nat) (qq:Nat->NL) (ns:List Nd) (rs:List (Str×Nat)) (os gs ws:List (Nat×Nat)):Prop where
 v:ns.map Nd.v=nview cl qq (pv qq gs os)
 rs:rs.map (·.1)=(AH gs os qq 0 6).map fun j=>(cl j).1
 perm:(gs.map (·.1)).Perm (os.map (·.1)++ws.map (·.1))
 nd:(gs.map (·.1)).Nodup
 lt:∀ q∈gs,q.1<6
 cls:∀ i,Az gs i=true->lack qq os i=0
section
variable {cl:Nat->Str×Nat} {qq:Nat->NL} {ns:List Nd} {rs:List (Str×Nat)} {os gs ws ds:List (Nat×Nat)}
theorem nview_x {f:Nat->Int} (h:ns.map Nd.v=nview cl qq f):ns.map Nd.x=(List.range' 0 6).map fun j=>(cl j).1:=by
 have e:=congrArg (List.map fun p:Str×Int×List Str=>p.1) h
 rw [List.map_map] at e
 refine e.trans ?_
 unfold nview
 rw [List.map_map];rfl
theorem nview_map {f g:Nat->Int} {F:Nd->Str×Int×List Str} {H:Str×Int×List Str->Str×Int×List Str} (h:ns.map Nd.v=nview cl qq f) (e:∀ b,F b=H b.v) (eg:∀ j,j<6->H ((cl j).1,f j,(dep qq j).map fun i=>(cl i).1)=((cl j).1,g j,(dep qq j).map fun i=>(cl i).1)):ns.map F=nview cl qq g:=by
 have e1:ns.map F=(ns.map Nd.v).map H:=by
  rw [List.map_map]
  exact List.map_congr_left fun b _=>e b
 rw [e1,h]
 unfold nview
 rw [List.map_map]
 refine List.map_congr_left fun j hj=>eg j ?_
 have:=List.mem_range'_1.mp hj
 omega
theorem isIn_due {k:Nat} (hds:ds.map (·.1)=AH gs os qq 0 6) (hk:k<6):Az ds k=Cn gs os qq k:=by
 rw [Bool.eq_iff_iff,AC,hds]
 unfold AH
 rw [List.mem_filter,List.mem_range'_1]
 constructor
 ·exact fun h=>h.2
 ·exact fun h=>⟨⟨Nat.zero_le _,by omega⟩,h⟩
theorem E4 (hds:ds.map (·.1)=AH gs os qq 0 6):∀ q∈ds,q.1<6:=by
 intro q hq
 have:q.1∈ds.map (·.1):=List.mem_map_of_mem hq
 rw [hds] at this
 have:=List.mem_range'_1.mp (List.mem_filter.mp this).1
 omega
theorem Dj (hds:ds.map (·.1)=AH gs os qq 0 6):(ds.map (·.1)).Nodup:=by
 rw [hds]
 exact List.Pairwise.filter _ List.nodup_range'
theorem CP (hds:ds.map (·.1)=AH gs os qq 0 6):ds.length<=6:=by
 have h:=congrArg List.length hds
 rw [List.length_map] at h
 rw [h]
 exact List.length_filter_le _ _
theorem CI.over (h:CI cl qq ns rs os gs ws) (hi:Az os i=true):Az gs i=true:=by
 rw [AC] at hi ⊢
 exact h.perm.mem_iff.mpr (List.mem_append_left _ hi)
theorem CI.due_new (h:CI cl qq ns rs os gs ws) (hds:ds.map (·.1)=AH gs os qq 0 6) (hi:Az ds i=true):Az gs i=false/\lack qq os i=0:=by
 have hm:=AC.mp hi
 rw [hds] at hm
 have hl:=(List.mem_filter.mp hm).2
 unfold Cn at hl
 rw [Bool.and_eq_true] at hl
 refine ⟨by simpa using hl.1,?_⟩
 unfold lack
 have:=List.isEmpty_iff.mp hl.2
 rw [this];rfl
theorem CI.out (inj:∀ i j,i<6->j<6->(cl i).1=(cl j).1->i=j) (h:CI cl qq ns rs os gs ws) (hds:ds.map (·.1)=AH gs os qq 0 6) {ns':List Nd} (hn:ns'.map Nd.v=ns.map (C7 (rs.map (·.1)))) :
  ns'.map Nd.v=nview cl qq (pv qq (gs++ds) os):=by
 rw [hn]
 refine nview_map (H:=fun p=>(p.1,if p.1∈rs.map (·.1) then -1 else p.2.1,p.2.2)) h.v (fun b=>rfl) fun j hj=>?_
 dsimp only
 have e:(cl j).1∈rs.map (·.1)↔Az ds j=true:=by
  rw [h.rs,AC,hds]
  constructor
  ·intro hm
   obtain ⟨i,hi,e⟩:=List.mem_map.mp hm
   have hi6:i<6:=by
    have:=List.mem_range'_1.mp (List.mem_filter.mp hi).1
    omega
   exact inj i j hi6 hj e▸hi
  ·exact fun hm=>List.mem_map_of_mem (f:=fun j=>(cl j).1) hm
 have:pv qq (gs++ds) os j=if (cl j).1∈rs.map (·.1) then -1 else pv qq gs os j:=by
  unfold pv
  rw [Bm]
  by_cases hd:Az ds j=true
  ·rw [if_pos (e.mpr hd)]
   have ho:Az os j=false:=by
    cases ho:Az os j with
    | false=>rfl
    | true=>exact absurd (h.over ho) (by rw [(h.due_new hds hd).1];exact Bool.false_ne_true)
   rw [ho,hd];simp
  ·rw [if_neg fun x=>hd (e.mp x)]
   have:Az ds j=false:=by simpa using hd
   rw [this,Bool.or_false]
 rw [this]
theorem CI.hb (h:CI cl qq ns rs os gs ws) (hds:ds.map (·.1)=AH gs os qq 0 6):(decide ((os.length:Int)<(gs.length:Int))||!rs.isEmpty)=(!ws.isEmpty||!ds.isEmpty):=by
 have h1:=h.perm.length_eq
 rw [List.length_append,List.length_map,List.length_map,List.length_map] at h1
 have h2:rs.length=ds.length:=by
  have e:=congrArg List.length h.rs
  rw [List.length_map,List.length_map,← hds,List.length_map] at e
  exact e
 have e1:decide ((os.length:Int)<(gs.length:Int))=!ws.isEmpty:=by
  rw [h1]
  cases ws with
  | nil=>simp
  | cons a b=>simp;omega
 have e2:rs.isEmpty=ds.isEmpty:=by
  cases rs<;>cases ds<;>simp at h2<;>rfl
 rw [e1,e2]
end
section
variable {cl:Nat->Str×Nat} {qq:Nat->NL} {ns:List Nd} {rs:List (Str×Nat)} {os gs ws ds:List (Nat×Nat)}
theorem Dv (inj:∀ i j,i<6->j<6->(cl i).1=(cl j).1->i=j) {f:Nat->Int} (h:ns.map Nd.v=nview cl qq f):(ns.map Nd.x).Nodup:=by
 rw [nview_x h,List.nodup_iff_pairwise_ne,List.pairwise_map]
 refine List.Pairwise.imp_of_mem (fun {a b} ha hb hab e=>?_) List.nodup_range'
 have h1:=List.mem_range'_1.mp ha
 have h2:=List.mem_range'_1.mp hb
 exact hab (inj a b (by omega) (by omega) e)
theorem nview_get {f:Nat->Int} (h:ns.map Nd.v=nview cl qq f) (hj:j<6):∃ nd,ns[j]?=some nd/\nd.x=(cl j).1/\nd.p=f j/\nd.ss.map (·.1)=(dep qq j).map fun i=>(cl i).1:=by
 have e:(ns.map Nd.v)[j]?=some ((cl j).1,f j,(dep qq j).map fun i=>(cl i).1):=by
  rw [h]
  unfold nview
  simp [hj]
 rw [List.getElem?_map] at e
 cases hn:ns[j]? with
 | none=>rw [hn] at e;simp at e
 | some nd=>
  rw [hn] at e
  have e':=Option.some.inj e
  refine ⟨nd,rfl,congrArg (·.1) e',congrArg (·.2.1) e',congrArg (·.2.2) e'⟩
theorem pOf_mem:∀ {l:List Nd} {b:Nd},(l.map Nd.x).Nodup->b∈l->C1 l b.x=b.p
 | [],_,_,h=>absurd h (List.not_mem_nil)
 | a::l,b,hnd,h=>by
  unfold C1
  rw [List.find?_cons]
  rcases List.mem_cons.mp h with rfl | h
  ·simp
  ·rw [List.map_cons,List.nodup_cons] at hnd
   have:a.x≠b.x:=fun e=>hnd.1 (e▸List.mem_map_of_mem h)
   rw [decide_eq_false this]
   exact pOf_mem hnd.2 h
theorem dep_mem (h:i∈dep qq j):i<6/\0<cnt qq i j:=by
 obtain ⟨b,hb,hr⟩:=List.mem_flatMap.mp h
 obtain ⟨h0,rfl⟩:=List.mem_replicate.mp hr
 have:=List.mem_range'_1.mp hb
 exact ⟨by omega,by omega⟩
theorem cnt_lt (hq:Needs qq) (hi:i<6) (h:0<cnt qq i j):j<i:=by
 have:=List.count_pos_iff.mp h
 obtain ⟨p,hp,rfl⟩:=List.mem_map.mp this
 exact (hq i hi).1 p hp
theorem dep_len (hq:Needs qq) (j:Nat):(dep qq j).length<=72:=by
 have e:∀ i,i<6->cnt qq i j<=12:=by
  intro i hi
  have h1:=List.count_le_length (a:=j) (l:=(qq i).ns.map (·.1))
  rw [List.length_map] at h1
  have h2:=(hq i hi).2
  unfold cnt
  omega
 have h:∀ k a,a+k<=6->((List.range' a k).flatMap fun i=>List.replicate (cnt qq i j) i).length<=12*k:=by
  intro k
  induction k with
  | zero=>intro a _;simp
  | succ k ih=>
   intro a ha
   rw [List.range'_succ,List.flatMap_cons,List.length_append,List.length_replicate]
   have h1:=ih (a+1) (by omega)
   have h2:=e a (by omega)
   omega
 exact h 6 0 (by omega)
structure Pick (cl:Nat->Str×Nat) (qq:Nat->NL) (f:Nat->Int) (j:Nat) (ns pre post:List Nd) (nd:Nd):Prop where
 eq:ns=pre++nd::post
 x:(cl j).1=nd.x
 p:nd.p=f j
 ss:nd.ss.map (·.1)=(dep qq j).map fun i=>(cl i).1
 nodup:((pre++nd::post).map Nd.x).Nodup
 mem:∀ y∈nd.ss,y.1∈(pre++post).map Nd.x
 len:nd.ss.length<=72
 pof:∀ i,i<6->i≠j->C1 (pre++post) (cl i).1=f i
theorem nview_pick (inj:∀ i j,i<6->j<6->(cl i).1=(cl j).1->i=j) (hq:Needs qq) {f:Nat->Int} (h:ns.map Nd.v=nview cl qq f) {j:Nat} (hj:j<6):∃ pre nd post,Pick cl qq f j ns pre post nd:=by
 obtain ⟨nd,hg,hx,hp,hs⟩:=nview_get h hj
 obtain ⟨pre,post,e⟩:=List.append_of_mem (List.mem_of_getElem? hg)
 have hnd:=Dv inj h
 have hnd':=hnd
 rw [e] at hnd
 have other:∀ i,i<6->i≠j->∃ b∈pre++post,b.x=(cl i).1/\b.p=f i:=by
  intro i hi hij
  obtain ⟨b,hb,hbx,hbp,_⟩:=nview_get h hi
  have hm:=List.mem_of_getElem? hb
  rw [e] at hm
  have hne:b≠nd:=fun eb=>hij (inj i j hi hj (by rw [← hbx,← hx,eb]))
  refine ⟨b,?_,hbx,hbp⟩
  rcases List.mem_append.mp hm with hm | hm
  ·exact List.mem_append_left _ hm
  ·rcases List.mem_cons.mp hm with rfl | hm
   ·exact absurd rfl hne
   ·exact List.mem_append_right _ hm
 have hnd2:((pre++post).map Nd.x).Nodup:=by
  refine List.Pairwise.sublist ?_ hnd
  exact List.Sublist.map _ (List.Sublist.append_left (List.sublist_cons_self ..) _)
 refine ⟨pre,nd,post,e,hx.symm,hp,hs,hnd,?_,?_,?_⟩
 ·intro y hy
  have:y.1∈nd.ss.map (·.1):=List.mem_map_of_mem hy
  rw [hs] at this
  obtain ⟨i,hi,ei⟩:=List.mem_map.mp this
  obtain ⟨hi6,hc⟩:=dep_mem hi
  have:=cnt_lt hq hi6 hc
  obtain ⟨b,hb,hbx,_⟩:=other i hi6 (by omega)
  rw [← ei,← hbx]
  exact List.mem_map_of_mem hb
 ·have:=congrArg List.length hs
  rw [List.length_map,List.length_map] at this
  rw [this];exact dep_len hq j
 ·intro i hi hij
  obtain ⟨b,hb,hbx,hbp⟩:=other i hi hij
  rw [← hbx,← hbp]
  exact pOf_mem hnd2 hb
theorem count_cl (inj:∀ i j,i<6->j<6->(cl i).1=(cl j).1->i=j) {i:Nat} (hi:i<6):∀ (l:List Nat),(∀ k∈l,k<6)->(l.map fun k=>(cl k).1).count (cl i).1=l.count i
 | [],_=>rfl
 | k::l,h=>by
  rw [List.map_cons,List.count_cons,List.count_cons,count_cl inj hi l fun k hk=>h k (List.mem_cons_of_mem _ hk)]
  have:((cl k).1==(cl i).1)=(k==i):=by
   rw [Bool.eq_iff_iff,beq_iff_eq,beq_iff_eq]
   exact ⟨inj k i (h k (List.mem_cons_self ..)) hi,fun e=>e▸rfl⟩
  rw [this]
theorem count_dep (hi:i<6):(dep qq j).count i=cnt qq i j:=by
 have h:∀ k a,((List.range' a k).flatMap fun b=>List.replicate (cnt qq b j) b).count i=if a<=i/\i<a+k then cnt qq i j else 0:=by
  intro k
  induction k with
  | zero=>intro a;rw [if_neg (by omega)];rfl
  | succ k ih=>
   intro a
   rw [List.range'_succ,List.flatMap_cons,List.count_append,ih,List.count_replicate]
   by_cases e:a=i
   ·subst e
    rw [if_pos (beq_self_eq_true a),if_neg (by omega),if_pos (by omega)];rfl
   ·rw [if_neg (by simpa using e)]
    by_cases e2:a+1<=i/\i<a+1+k
    ·rw [if_pos e2,if_pos (by omega)];omega
    ·rw [if_neg e2,if_neg (by omega)]
 exact (h 6 0).trans (if_pos (by omega))
theorem CI.step (inj:∀ i j,i<6->j<6->(cl i).1=(cl j).1->i=j) (hq:Needs qq) (h:CI cl qq ns rs os gs ws) (hds:ds.map (·.1)=AH gs os qq 0 6) {j t:Nat} {ns' ns2 pre post:List Nd} {nd:Nd} {ws':List (Nat×Nat)}
  (hP:Pick cl qq (pv qq (gs++ds) os) j ns' pre post nd) (hv:ns'.map Nd.v=nview cl qq (pv qq (gs++ds) os)) (hw:(ws.map (·.1)++ds.map (·.1)).Perm (j::ws'.map (·.1))) (hj6:j<6)
  (hn:ns2.map Nd.v=(pre++nd::post).map fun b=>if b.x=nd.x then (b.x,-2,b.ss.map (·.1)) else BL (nd.ss.map (·.1)) b) :
  CI cl qq ns2 ([]++rdy (C1 (pre++post)) nd.ss) (os++[(j,t)]) (gs++ds) ws':=by
 have hnd:((gs++ds).map (·.1)).Nodup:=by
  rw [List.map_append,List.nodup_append]
  refine ⟨h.nd,Dj hds,fun a ha b hb e=>?_⟩
  subst e
  have h1:=AC.mpr ha
  have h2:=(h.due_new hds (AC.mpr hb)).1
  rw [h1] at h2;exact Bool.noConfusion h2
 have hperm:((gs++ds).map (·.1)).Perm ((os++[(j,t)]).map (·.1)++ws'.map (·.1)):=by
  rw [List.map_append,List.map_append]
  refine (h.perm.append_right _).trans ?_
  rw [List.append_assoc,List.append_assoc]
  exact hw.append_left _
 have hjo:Az os j=false:=by
  cases ho:Az os j with
  | false=>rfl
  | true=>
   have:=hperm.nodup_iff.mp hnd
   rw [List.map_append,List.append_assoc,List.nodup_append] at this
   exact absurd rfl (this.2.2 j (AC.mp ho) j (by simp))
 have hjg:Az (gs++ds) j=true:=AC.mpr (hperm.mem_iff.mpr (by simp))
 have hcls:∀ i,Az (gs++ds) i=true->lack qq os i=0:=by
  intro i hi
  rw [Bm,Bool.or_eq_true] at hi
  rcases hi with hi | hi
  ·exact h.cls i hi
  ·exact (h.due_new hds hi).2
 have hla:∀ i,lack qq os i=lack qq (os++[(j,t)]) i+cnt qq i j:=fun i=>lack_add hjo
 have hio:∀ i,Az (os++[(j,t)]) i=(Az os i||j==i):=fun i=>by rw [Bm];simp [Az]
 refine ⟨?_,?_,hperm,hnd,?_,fun i hi=>by have:=hcls i hi;rw [hla] at this;omega⟩
 ·rw [hn,← hP.eq]
  refine nview_map (H:=fun p=>(p.1,if p.1=nd.x then -2 else p.2.1 - (nd.ss.map (·.1)).count p.1,p.2.2)) hv (fun b=>?_) fun i hi=>?_
  ·show (if b.x=nd.x then (b.x,-2,b.ss.map (·.1)) else BL (nd.ss.map (·.1)) b)=(b.x,(if b.x=nd.x then -2 else b.p - ((nd.ss.map (·.1)).count b.x:Nat)),b.ss.map (·.1))
   by_cases hx:b.x=nd.x
   ·rw [if_pos hx,if_pos hx]
   ·rw [if_neg hx,if_neg hx];rfl
  ·dsimp only
   have:(if (cl i).1=nd.x then -2 else pv qq (gs++ds) os i - ((nd.ss.map (·.1)).count (cl i).1:Nat))=pv qq (gs++ds) (os++[(j,t)]) i:=by
    rw [← hP.x,hP.ss,count_cl inj hi _ fun k hk=>(dep_mem hk).1,count_dep hi]
    unfold pv
    rw [hio]
    by_cases e:i=j
    ·subst e
     simp
    ·rw [if_neg fun x=>e (inj i j hi hj6 x)]
     have e2:(j==i)=false:=by simpa using fun x=>e x.symm
     rw [e2,Bool.or_false]
     by_cases h1:Az os i=true
     ·rw [if_pos h1,if_pos h1]
      have:=hcls i (by rw [Bm,h.over h1];rfl)
      have:=hla i
      omega
     ·rw [if_neg h1,if_neg h1]
      by_cases h2:Az (gs++ds) i=true
      ·rw [if_pos h2,if_pos h2]
       have:=hcls i h2
       have:=hla i
       omega
      ·rw [if_neg h2,if_neg h2]
       have:=hla i
       omega
   rw [this]
 ·rw [List.nil_append,rdy_map (dep qq j) nd.ss (List.range' 0 6) hP.ss (fun i hi=>List.mem_range'_1.mpr ⟨Nat.zero_le _,by have:=(dep_mem hi).1;omega⟩) (fun a b ha hb e=>inj a b (by have:=List.mem_range'_1.mp ha;omega) (by have:=List.mem_range'_1.mp hb;omega) e)]
  congr 1
  unfold dep
  rw [rdyM_flat]
  unfold AH
  refine List.filter_congr fun i hi=>?_
  have hi6:i<6:=by have:=List.mem_range'_1.mp hi;omega
  have hf:Cn (gs++ds) (os++[(j,t)]) qq i=(!Az (gs++ds) i&&decide (lack qq (os++[(j,t)]) i=0)):=by
   unfold Cn lack
   cases fl (os++[(j,t)]) (qq i).ns<;>simp
  rw [hf]
  by_cases e:i=j
  ·subst e
   have h0:cnt qq i i=0:=by
    cases hc:cnt qq i i with
    | zero=>rfl
    | succ k=>exact absurd (cnt_lt hq hi6 (by omega:0<cnt qq i i)) (by omega)
   rw [hjg,h0]
   simp;omega
  ·rw [hP.pof i hi6 e]
   have hl:=hla i
   cases h2:Az (gs++ds) i with
   | true=>
    have:=hcls i h2
    unfold pv
    rw [h2]
    cases Az os i<;>simp
   | false=>
    have ho:Az os i=false:=by
     cases ho:Az os i with
     | false=>rfl
     | true=>rw [Bm,h.over ho] at h2;exact Bool.noConfusion h2
    have hpos:lack qq os i≠0:=by
     intro h0
     have hg:Az gs i=false:=by
      rw [Bm] at h2
      exact (Bool.or_eq_false_iff.mp h2).1
     have:Az ds i=true:=by
      rw [isIn_due hds hi6]
      unfold Cn
      rw [hg]
      unfold lack at h0
      rw [List.length_eq_zero_iff.mp h0];rfl
     rw [Bm,this,Bool.or_true] at h2
     exact Bool.noConfusion h2
    unfold pv
    rw [ho,h2]
    simp only [Bool.false_eq_true,if_false,Bool.not_false,Bool.true_and]
    rw [decide_eq_decide]
    omega
 ·intro q hq'
  rcases List.mem_append.mp hq' with hq' | hq'
  ·exact h.lt q hq'
  ·exact E4 hds q hq'
theorem CI.fin (hq:Needs qq) (h:CI cl qq ns rs os gs ws) (hds:ds.map (·.1)=AH gs os qq 0 6) (hw:ws=[]) (hd:ds=[]):os.length=6:=by
 subst hw hd
 have hall:∀ i,i<6->Az os i=true:=by
  intro i
  induction i using Nat.strongRecOn with
  | _ i ih=>
   intro hi
   have hl:lack qq os i=0:=by
    unfold lack fl
    rw [List.length_eq_zero_iff,List.filter_eq_nil_iff]
    intro p hp
    have:=(hq i hi).1 p hp
    rw [ih p.1 this (by omega)]
    decide
   have hg:Az gs i=true:=by
    cases hg:Az gs i with
    | true=>rfl
    | false=>
     have:Az ([]:List (Nat×Nat)) i=true:=by
      rw [isIn_due hds hi]
      unfold Cn
      rw [hg]
      unfold lack at hl
      rw [List.length_eq_zero_iff.mp hl];rfl
     exact Bool.noConfusion this
   rw [AC] at hg ⊢
   have:=h.perm.mem_iff.mp hg
   simpa using this
 have hp:(os.map (·.1)).Perm (List.range 6):=by
  have hn:(os.map (·.1)).Nodup:=by
   have:=h.perm.nodup_iff.mp h.nd
   simpa using this
  refine (List.perm_ext_iff_of_nodup hn List.nodup_range).mpr fun a=>?_
  constructor
  ·intro ha
   obtain ⟨p,hp,rfl⟩:=List.mem_map.mp ha
   have:p.1∈gs.map (·.1):=h.perm.mem_iff.mpr (List.mem_append_left _ ha)
   obtain ⟨q,hq2,e⟩:=List.mem_map.mp this
   exact List.mem_range.mpr (e▸h.lt q hq2)
  ·exact fun ha=>AC.mp (hall a (List.mem_range.mp ha))
 have:=hp.length_eq
 rwa [List.length_map,List.length_range] at this
end
noncomputable def mm:List Nat->List Nat->Prop
 | a::p,b::q=>a<b∨(a=b/\mm p q)
 | _,_=>False
theorem mm_app:∀ {p q:List Nat} (x y:List Nat),mm p q->mm (p++x) (q++y)
 | [],_,_,_,h=>h.elim
 | _::_,[],_,_,h=>h.elim
 | a::p,b::q,x,y,h=>by
  rcases h with h | ⟨h1,h2⟩
  ·exact .inl h
  ·exact .inr ⟨h1,mm_app x y h2⟩
theorem mm_kid:∀ (P:List Nat) {a b:Nat},a<b->mm (P++[a]) (P++[b])
 | [],_,_,h=> .inl h
 | c::P,_,_,h=> .inr ⟨rfl,mm_kid P h⟩
theorem mm_trans:∀ {p q r:List Nat},mm p q->mm q r->mm p r
 | [],_,_,h,_=>h.elim
 | _::_,[],_,h,_=>h.elim
 | _::_,_::_,[],_,h=>h.elim
 | a::p,b::q,c::r,h1,h2=>by
  rcases h1 with h1 | ⟨h1,h1'⟩<;>rcases h2 with h2 | ⟨h2,h2'⟩
  ·exact .inl (by omega)
  ·exact .inl (by omega)
  ·exact .inl (by omega)
  ·exact .inr ⟨by omega,mm_trans h1' h2'⟩
noncomputable def sl (p q:List Nat):Prop:=p.length<q.length∨(p.length=q.length/\mm p q)
theorem sl_trans {p q r:List Nat} (h1:sl p q) (h2:sl q r):sl p r:=by
 rcases h1 with h1 | ⟨h1,h1'⟩<;>rcases h2 with h2 | ⟨h2,h2'⟩
 ·exact .inl (by omega)
 ·exact .inl (by omega)
 ·exact .inl (by omega)
 ·exact .inr ⟨by omega,mm_trans h1' h2'⟩
noncomputable def OR (nw:Bool) (p q:List Nat):Prop:=if nw=true then (∃ r,q=p++[r])∨mm p q else sl p q
noncomputable def OI (nw:Bool) (P:List Nat) (wp:List (List Nat)):Prop:=
 if nw=true then wp.Pairwise (fun x y=>mm y x)/\∀ w∈wp,mm P w else wp.Pairwise sl/\∀ w∈wp,sl P w/\w≠[]/\sl w.dropLast P
theorem OI.stepT {p':List Nat} {wp wp':List (List Nat)} {rs:List Nat} (h:OI true P wp) (hr:rs.Pairwise fun a b=>b<a) (e:wp++rs.map (fun r=>P++[r])=wp'++[p']):OR true P p'/\OI true p' wp':=by
 unfold OI at h ⊢
 unfold OR
 rw [if_pos rfl] at h ⊢
 rw [if_pos rfl]
 obtain ⟨h1,h2⟩:=h
 have hp:(wp++rs.map (fun r=>P++[r])).Pairwise fun x y=>mm y x:=by
  rw [List.pairwise_append]
  refine ⟨h1,?_,fun a ha b hb=>?_⟩
  ·rw [List.pairwise_map]
   exact hr.imp fun h=>mm_kid P h
  ·obtain ⟨r,_,rfl⟩:=List.mem_map.mp hb
   have:=mm_app [r] [] (h2 a ha)
   rwa [List.append_nil] at this
 have hm:p'∈wp++rs.map (fun r=>P++[r]):=by rw [e];simp
 rw [e,List.pairwise_append] at hp
 refine ⟨?_,hp.1,fun w hw=>hp.2.2 w hw p' (by simp)⟩
 rcases List.mem_append.mp hm with hm | hm
 ·exact .inr (h2 p' hm)
 ·obtain ⟨r,_,rfl⟩:=List.mem_map.mp hm
  exact .inl ⟨r,rfl⟩
theorem OI.stepF {p':List Nat} {wp wp':List (List Nat)} {rs:List Nat} (h:OI false P wp) (hr:rs.Pairwise fun a b=>a<b) (e:wp++rs.map (fun r=>P++[r])=p'::wp'):OR false P p'/\OI false p' wp':=by
 unfold OI at h ⊢
 unfold OR
 rw [if_neg Bool.false_ne_true] at h ⊢
 rw [if_neg Bool.false_ne_true]
 obtain ⟨h1,h2⟩:=h
 have hp:(wp++rs.map (fun r=>P++[r])).Pairwise sl:=by
  rw [List.pairwise_append]
  refine ⟨h1,?_,fun a ha b hb=>?_⟩
  ·rw [List.pairwise_map]
   exact hr.imp fun h=> .inr ⟨by simp,mm_kid P h⟩
  ·obtain ⟨r,_,rfl⟩:=List.mem_map.mp hb
   obtain ⟨_,hne,hd⟩:=h2 a ha
   have ea:a=a.dropLast++[a.getLast hne]:=(List.dropLast_concat_getLast hne).symm
   have el:a.length=a.dropLast.length+1:=by
    rw [List.length_dropLast]
    have:=List.length_pos_iff.mpr hne
    omega
   rcases hd with hd | ⟨hd,hd'⟩
   ·exact .inl (by rw [List.length_append,List.length_singleton];omega)
   ·refine .inr ⟨by rw [List.length_append,List.length_singleton];omega,?_⟩
    rw [ea]
    exact mm_app _ _ hd'
 have hk:∀ w∈wp++rs.map (fun r=>P++[r]),sl P w/\w≠[]/\(w.dropLast=P∨sl w.dropLast P):=by
  intro w hw
  rcases List.mem_append.mp hw with hw | hw
  ·obtain ⟨a,b,c⟩:=h2 w hw
   exact ⟨a,b,.inr c⟩
  ·obtain ⟨r,_,rfl⟩:=List.mem_map.mp hw
   exact ⟨.inl (by simp),by simp,.inl (by simp)⟩
 rw [e] at hp hk
 rw [List.pairwise_cons] at hp
 have hP:=(hk p' (List.mem_cons_self ..)).1
 refine ⟨hP,hp.2,fun w hw=>⟨hp.1 w hw,(hk w (List.mem_cons_of_mem _ hw)).2.1,?_⟩⟩
 rcases (hk w (List.mem_cons_of_mem _ hw)).2.2 with h | h
 ·rw [h];exact hP
 ·exact sl_trans h hP
noncomputable def Al (f:Nat->List Nat->Prop):List (Nat×Nat)->List (List Nat)->Prop
 | [],[]=>True
 | q::qs,p::ps=>f q.1 p/\Al f qs ps
 | _,_=>False
theorem Al.app {f:Nat->List Nat->Prop}:∀ {a:List (Nat×Nat)} {x:List (List Nat)} {b:List (Nat×Nat)} {y:List (List Nat)},Al f a x->Al f b y->Al f (a++b) (x++y)
 | [],[],_,_,_,h=>h
 | [],_::_,_,_,h,_=>h.elim
 | _::_,[],_,_,h,_=>h.elim
 | q::qs,p::ps,_,_,h,h'=>⟨h.1,Al.app h.2 h'⟩
theorem Al.imp {f g:Nat->List Nat->Prop}:∀ {a:List (Nat×Nat)} {x:List (List Nat)},Al f a x->(∀ q∈a,∀ p,f q.1 p->g q.1 p)->Al g a x
 | [],[],_,_=>trivial
 | [],_::_,h,_=>h.elim
 | _::_,[],h,_=>h.elim
 | q::qs,p::ps,h,k=>⟨k q (List.mem_cons_self ..) p h.1,Al.imp h.2 fun q hq=>k q (List.mem_cons_of_mem _ hq)⟩
theorem Al.len {f:Nat->List Nat->Prop}:∀ {a:List (Nat×Nat)} {x:List (List Nat)},Al f a x->a.length=x.length
 | [],[],_=>rfl
 | [],_::_,h=>h.elim
 | _::_,[],h=>h.elim
 | q::qs,p::ps,h=>congrArg (·+1) (Al.len h.2)
theorem Al.last {f:Nat->List Nat->Prop}:∀ {a:List (Nat×Nat)} {q:Nat×Nat} {x:List (List Nat)},Al f (a++[q]) x->∃ y p,x=y++[p]/\Al f a y/\f q.1 p
 | [],q,[],h=>h.elim
 | [],q,[p],h=>⟨[],p,rfl,trivial,h.1⟩
 | [],q,_::_::_,h=>h.2.elim
 | _::_,_,[],h=>h.elim
 | a::as,q,x::xs,h=>by
  obtain ⟨y,p,e,h1,h2⟩:=Al.last (a:=as) (q:=q) h.2
  exact ⟨x::y,p,by rw [e];rfl,⟨h.1,h1⟩,h2⟩
theorem Al.at {f:Nat->List Nat->Prop}:∀ {a:List (Nat×Nat)} {x:List (List Nat)} {i:Nat} {q:Nat×Nat} {p:List Nat},Al f a x->a[i]?=some q->x[i]?=some p->f q.1 p
 | [],[],_,_,_,_,h,_=>by simp at h
 | [],_::_,_,_,_,h,_,_=>h.elim
 | _::_,[],_,_,_,h,_,_=>h.elim
 | q::qs,p::ps,0,_,_,h,e1,e2=>by
  simp at e1 e2
  subst e1 e2
  exact h.1
 | q::qs,p::ps,i+1,_,_,h,e1,e2=>by
  rw [List.getElem?_cons_succ] at e1 e2
  exact Al.at h.2 e1 e2
structure CJ (NO:List Nat->Str->Prop) (nw:Bool) (nv:Nat->Str×Nat) (nm:Str) (P:List Nat) (os ws:List (Nat×Nat)) (ops wps:List (List Nat)):Prop where
 aos:Al (fun j p=>NO p (nv j).1/\p.length<=6) os ops
 aws:Al (fun j p=>NO p (nv j).1/\p.length<=os.length) ws wps
 cur:NO P nm
 len:P.length<=os.length
 oi:OI nw P wps
 ch:∀ i p q,ops[i]?=some p->ops[i+1]?=some q->OR nw p q
 last:ops=[]∨ops.getLast?=some P
theorem rk_pair (least:Int) (m:Nat) (nw:Bool):∀ (k a:Nat),a+k=m->((List.range' a k).map (rkO least m nw)).Pairwise fun x y=>if nw=true then y<x else x<y
 | 0,_,_=>by simp
 | k+1,a,h=>by
  rw [List.range'_succ,List.map_cons,List.pairwise_cons]
  refine ⟨fun x hx=>?_,rk_pair least m nw k (a+1) (by omega)⟩
  obtain ⟨i,hi,rfl⟩:=List.mem_map.mp hx
  have:=List.mem_range'_1.mp hi
  unfold rkO
  cases nw with
  | true=>simp only [if_true];omega
  | false=>simp only [Bool.false_eq_true,if_false];omega
theorem al_due {NO:List Nat->Str->Prop} {nv':Nat->Str×Nat} (h:CZ NO P least m nw ds nv 0 nv'):∀ (l:List (Nat×Nat)) (a:Nat),ds.drop a=l->Al (fun j p=>NO p (nv' j).1/\p.length<=P.length+1) l ((List.range' a l.length).map fun i=>P++[rkO least m nw i])
 | [],a,e=>trivial
 | q::l,a,e=>by
  have hq:ds[a]?=some q:=by
   have:(ds.drop a)[0]?=some q:=by rw [e];rfl
   rwa [List.getElem?_drop] at this
  refine ⟨⟨h.got a q (Nat.zero_le _) hq,by simp⟩,?_⟩
  refine al_due h l (a+1) ?_
  have:(ds.drop a).drop 1=l:=by rw [e];rfl
  rwa [List.drop_drop] at this
theorem E3 {p:List Nat} (hc:∀ i p q,ops[i]?=some p->ops[i+1]?=some q->OR nw p q) (hl:ops=[]∨ops.getLast?=some P) (hp:OR nw P p):∀ i x y,(ops++[p])[i]?=some x->(ops++[p])[i+1]?=some y->OR nw x y:=by
 intro i x y hx hy
 by_cases h:i+1<ops.length
 ·rw [List.getElem?_append_left (by omega)] at hx
  rw [List.getElem?_append_left h] at hy
  exact hc i x y hx hy
 ·have hi:i+1=ops.length:=by
   have:=(List.getElem?_eq_some_iff.mp hy).1
   rw [List.length_append,List.length_singleton] at this
   omega
  rw [List.getElem?_append_left (by omega)] at hx
  rw [List.getElem?_append_right (by omega),show i+1 - ops.length=0 by omega] at hy
  have:p=y:=by simpa using hy
  subst this
  rcases hl with rfl | hl
  ·simp at hi
  ·rw [List.getLast?_eq_getElem?,show ops.length - 1=i by omega,hx] at hl
   obtain rfl:=Option.some.inj hl
   exact hp
theorem CJ.step {NO:List Nat->Str->Prop} {nw:Bool} {nv nv':Nat->Str×Nat} {nm:Str} {P:List Nat} {os ws ds ws':List (Nat×Nat)} {ops wps:List (List Nat)} {least:Int} {x:Nat×Nat} (h:CJ NO nw nv nm P os ws ops wps) (hn:CZ NO P least ds.length nw ds nv 0 nv')
  (hd:∀ q∈ds,∀ p∈os++ws,q.1≠p.1) (ho:os.length+1<=6) (e:ws++ds=if nw=true then ws'++[x] else x::ws') :
  ∃ P' ops' wps',CJ NO nw nv' (nv' x.1).1 P' (os++[x]) ws' ops' wps':=by
 have old:∀ q∈os++ws,nv' q.1=nv q.1:=fun q hq=>hn.old q.1 fun i q' _ hi=>hd q' (List.mem_of_getElem? hi) q hq
 have ha:Al (fun j p=>NO p (nv' j).1/\p.length<=os.length+1) (ws++ds) (wps++(List.range' 0 ds.length).map fun i=>P++[rkO least ds.length nw i]):=by
  refine Al.app (h.aws.imp fun q hq p hp=>?_) ((al_due hn ds 0 rfl).imp fun q hq p hp=>⟨hp.1,by have:=h.len;omega⟩)
  rw [old q (List.mem_append_right _ hq)]
  exact ⟨hp.1,by omega⟩
 have hos:Al (fun j p=>NO p (nv' j).1/\p.length<=6) os ops:=h.aos.imp fun q hq p hp=>by
  rw [old q (List.mem_append_left _ hq)]
  exact hp
 have hm:(List.range' 0 ds.length).map (fun i=>P++[rkO least ds.length nw i])=((List.range' 0 ds.length).map (rkO least ds.length nw)).map fun r=>P++[r]:=by rw [List.map_map];rfl
 have hrk:=rk_pair least ds.length nw ds.length 0 (by omega)
 have hl1:(os++[x]).length=os.length+1:=by simp
 cases nw with
 | true=>
  rw [if_pos rfl] at e
  rw [e] at ha
  obtain ⟨wps',p',e2,h1,h2⟩:=Al.last ha
  simp only [if_true] at hrk
  obtain ⟨h3,h4⟩:=OI.stepT h.oi hrk (by rw [← hm];exact e2)
  refine ⟨p',ops++[p'],wps',?_,?_,h2.1,by rw [hl1];exact h2.2,h4,E3 h.ch h.last h3,.inr (by simp)⟩
  ·exact Al.app hos ⟨⟨h2.1,by omega⟩,trivial⟩
  ·rw [hl1];exact h1
 | false=>
  rw [if_neg Bool.false_ne_true] at e
  rw [e] at ha
  simp only [Bool.false_eq_true,if_false] at hrk
  generalize hg:(wps++(List.range' 0 ds.length).map fun i=>P++[rkO least ds.length false i])=wl at ha
  cases wl with
  | nil=>exact ha.elim
  | cons p' wps'=>
   obtain ⟨h3,h4⟩:=OI.stepF h.oi hrk (by rw [← hm];exact hg)
   refine ⟨p',ops++[p'],wps',?_,?_,ha.1.1,by rw [hl1];exact ha.1.2,h4,E3 h.ch h.last h3,.inr (by simp)⟩
   ·exact Al.app hos ⟨⟨ha.1.1,by have:=ha.1.2;omega⟩,trivial⟩
   ·rw [hl1];exact ha.2
noncomputable def CRes (NO:List Nat->Str->Prop) (nw:Bool) (ys:List (Str×Nat)):Prop:=
 ∃ pls:List (List Nat),pls.length=6/\ys.length=6/\(∀ (i:Nat) (p:List Nat) (y:Str×Nat),pls[i]?=some p->ys[i]?=some y->NO p y.1/\p.length<=6)/\∀ i p q,pls[i]?=some p->pls[i+1]?=some q->OR nw p q
theorem CJ.res {NO:List Nat->Str->Prop} {wps:List (List Nat)} (h:CJ NO nw nv nm P os ws ops wps) (ho:os.length=6):CRes NO nw (os.map fun p=>nv p.1):=by
 refine ⟨ops,by rw [← h.aos.len,ho],by simp [ho],fun i p y hp hy=>?_,h.ch⟩
 rw [List.getElem?_map] at hy
 cases hq:os[i]? with
 | none=>rw [hq] at hy;simp at hy
 | some q=>
  rw [hq] at hy
  obtain rfl:=Option.some.inj hy
  exact h.aos.at hq hp
noncomputable def cwC (W:Wd) (n:Nat):Code:=whC (wW W) (Av W n)
theorem cw_eq (W:Wd) (n:Nat):cwC W n= .whileLoop (tsW (wW W)) (bdW (wW W)) (oeW (wW W)) (Av W n):=by kernel_rfl
theorem bd_eq (W:Wd):bdW (wW W)=wS W 0::wS W 1::wS W 2::wS W 3::wS W 4::wS W 5::wS W 6::wS W 7::wS W 8::tl9 W:=by kernel_rfl
theorem s8_eq (W:Wd):wS W 7= .Assign [.Name saa (asN (wS W 7))] (Bh (wS W 7)) (asP (wS W 7)):=by kernel_rfl
theorem s8_sw (W:Wd) (n:Nat):swapsWith (Bh (wS W 7)) (some (.Name saa (asN (wS W 7)))) (asP (wS W 7)).line (Av W n)=pure false:=by kernel_rfl
theorem p_true (ok:W.Ok) :
  Pc W (Ar dp un F) (PySem.isTrue (tsW (wW W)) (Av W n) (eval (tsW (wW W)) (Av W n))) G L (⟨fun _=>G,fun _=>True,fun _=>true,fun _=>L⟩:A3 Bool Unit):=by
 refine Pc.of embB Bv _ (by rw [BA,Ag]) fun R n' tk' c₀ d f gg u hA hR=>?_
 exact Aj ok 1 0 hR () trivial (.ret (.bool true)) rfl [] 0
theorem p_pop (ok:W.Ok) {z:Nat} {al:List (Nat×Nat)} {x:Nat×Nat} (hl:ws.length<=100) (e:al=if nw=true then ws++[x] else x::ws) :
  Pc W (Ar dp un F) (eval (Bh (wS W 7)) (Av W n)) G (c8 n (Aw W T z c least tl nw n nm tm td d ext)::lN (n+10) al ew::L)
  (⟨fun _=>G,fun _=>True,fun _=> .int (x.1:Int) x.2,fun e'=>c8 n (Aw W T z c least tl nw n nm tm td d ext)::lN (n+10) ws e'::L⟩:A3 Value Nat):=by
 cases nw with
 | true=>rw [if_pos rfl] at e;subst e;exact p_popT ok hl
 | false=>rw [if_neg Bool.false_ne_true] at e;subst e;exact p_popF ok hl
noncomputable abbrev cwL (W:Wd) (fo:Obj) (n q eq r k ek c ec el:Nat) (qq:Nat->NL) (cl lb:Nat->Str×Nat) (cs:List (Int×Nat)) (eo eg e en ew:Nat) (os gs ws:List (Nat×Nat)) (z:Sr) (rs:List (Str×Nat)) (ns:List Nd) (nv:Nat->Str×Nat) (o:Obj) (L:List Cell):List Cell:=
 (n+8,fo)::(Cs n q eq eo eg qq os gs++(qc qq 6++z.all W r rs e (gs.length:Nat) (os.length:Nat) ns 6 (cC (n+9) k::lS k (cvl cl) ek::lS (n+7) (cvl nv) en::(53,o)::lS (n+6) (lbl lb) el::lI c cs ec::cC (n+11) (n+7)::lN (n+10) ws ew::L)))
noncomputable abbrev cwQ (W:Wd) (G:List GenState) (q eq k ek c ec:Nat) (qq:Nat->NL) (cl:Nat->Str×Nat) (cs:List (Int×Nat)) (NO:List Nat->Str->Prop) (nw:Bool) (L:List Cell):Post (List GenState×List (Str×Nat)×Nat×Nat×Obj):=
 ⟨fun p=>p.1,fun p=>CRes NO nw p.2.1/\Tb W p.2.2.2.2/\((∀ y∈G,y.bare=true)->∀ y∈p.1,y.bare=true),fun p=> .ok (.ret (.ref (p.2.2.1+8))),fun p=>lS p.2.2.1 p.2.1 p.2.2.2.1::(53,p.2.2.2.2)::lS k (cvl cl) ek::lL q (nlv (qv qq 6)) eq::(qc qq 6++(lI c cs ec::L))⟩
section
variable {cl:Nat->Str×Nat} {qq:Nat->NL} {ns:List Nd} {rs:List (Str×Nat)} {os gs ws ds:List (Nat×Nat)}
theorem CI.rs_len (h:CI cl qq ns rs os gs ws) (hds:ds.map (·.1)=AH gs os qq 0 6):rs.length=ds.length:=by
 have e:=congrArg List.length h.rs
 rw [List.length_map,List.length_map,← hds,List.length_map] at e
 exact e
theorem CI.rs6 (h:CI cl qq ns rs os gs ws):rs.length<=6:=by
 have e:=congrArg List.length h.rs
 rw [List.length_map,List.length_map] at e
 rw [e]
 exact List.length_filter_le _ _
theorem CI.rs_mem (h:CI cl qq ns rs os gs ws):∀ y∈rs,y.1∈ns.map Nd.x:=by
 intro y hy
 have:y.1∈rs.map (·.1):=List.mem_map_of_mem hy
 rw [h.rs] at this
 obtain ⟨i,hi,e⟩:=List.mem_map.mp this
 rw [nview_x h.v]
 exact List.mem_map.mpr ⟨i,(List.mem_filter.mp hi).1,e⟩
theorem nodupN:∀ (k:Nat) (l:List Nat),l.Nodup->(∀ a∈l,a<k)->l.length<=k
 | 0,[],_,_=>Nat.le_refl _
 | 0,a::_,_,h=>absurd (h a (List.mem_cons_self ..)) (Nat.not_lt_zero _)
 | k+1,l,hn,h=>by
  have h1:=nodupN k (l.erase k) (hn.erase k) fun a ha=>by
   have:=(List.Nodup.mem_erase_iff hn).mp ha
   have:=h a this.2
   omega
  by_cases hk:k∈l
  ·have:=List.length_erase_of_mem hk
   omega
  ·rw [List.erase_of_not_mem hk] at h1
   omega
theorem nodup6 {l:List (Nat×Nat)} (hn:(l.map (·.1)).Nodup) (h:∀ q∈l,q.1<6):l.length<=6:=by
 have:=nodupN 6 (l.map (·.1)) hn fun a ha=>by
  obtain ⟨q,hq,rfl⟩:=List.mem_map.mp ha
  exact h q hq
 rwa [List.length_map] at this
theorem CI.nd2 (h:CI cl qq ns rs os gs ws) (hds:ds.map (·.1)=AH gs os qq 0 6):((gs++ds).map (·.1)).Nodup:=by
 rw [List.map_append,List.nodup_append]
 refine ⟨h.nd,Dj hds,fun a ha b hb e=>?_⟩
 subst e
 have h1:=AC.mpr ha
 have h2:=(h.due_new hds (AC.mpr hb)).1
 rw [h1] at h2;exact Bool.noConfusion h2
theorem CI.all6 (h:CI cl qq ns rs os gs ws) (hds:ds.map (·.1)=AH gs os qq 0 6):os.length+ws.length+ds.length<=6:=by
 have h1:=nodup6 (h.nd2 hds) fun q hq=>by
  rcases List.mem_append.mp hq with hq | hq
  ·exact h.lt q hq
  ·exact E4 hds q hq
 have h2:=h.perm.length_eq
 rw [List.length_append,List.length_map,List.length_map,List.length_map] at h2
 rw [List.length_append] at h1
 omega
theorem due_ex (gs os:List (Nat×Nat)) (qq:Nat->NL):∃ ds:List (Nat×Nat),ds.map (·.1)=AH gs os qq 0 6:=⟨(AH gs os qq 0 6).map fun i=>(i,0),by rw [List.map_map];exact List.map_id' _⟩
theorem CI.olen (h:CI cl qq ns rs os gs ws):os.length<=6:=by
 obtain ⟨ds,hds⟩:=due_ex gs os qq
 have:=h.all6 hds
 omega
theorem CI.wlen (h:CI cl qq ns rs os gs ws):ws.length<=6:=by
 obtain ⟨ds,hds⟩:=due_ex gs os qq
 have:=h.all6 hds
 omega
theorem CI.glen (h:CI cl qq ns rs os gs ws):gs.length<=6:=nodup6 h.nd h.lt
theorem CI.room6 (h:CI cl qq ns rs os gs ws) (hds:ds.map (·.1)=AH gs os qq 0 6):os.length+ds.length<=6:=by
 have:=h.all6 hds
 omega
theorem CI.olt (h:CI cl qq ns rs os gs ws):∀ q∈os,q.1<6:=by
 intro q hq
 have:q.1∈gs.map (·.1):=h.perm.mem_iff.mpr (List.mem_append_left _ (List.mem_map_of_mem hq))
 obtain ⟨p,hp,e⟩:=List.mem_map.mp this
 exact e▸h.lt p hp
theorem CI.disj (h:CI cl qq ns rs os gs ws) (hds:ds.map (·.1)=AH gs os qq 0 6):∀ q∈ds,∀ p∈os++ws,q.1≠p.1:=by
 intro q hq p hp e
 have h1:p.1∈gs.map (·.1):=h.perm.mem_iff.mpr (by rw [← List.map_append];exact List.mem_map_of_mem hp)
 have h2:=(h.due_new hds (AC.mpr (List.mem_map_of_mem hq))).1
 rw [e,AC.mpr h1] at h2
 exact Bool.noConfusion h2
theorem pop_of (nw:Bool) {al:List (Nat×Nat)} (h:al≠[]):∃ (x:Nat×Nat) (ws2:List (Nat×Nat)),al=if nw=true then ws2++[x] else x::ws2:=by
 cases nw with
 | true=>exact ⟨al.getLast h,al.dropLast,(List.dropLast_concat_getLast h).symm⟩
 | false=>
  cases al with
  | nil=>exact absurd rfl h
  | cons x l=>exact ⟨x,l,rfl⟩
theorem Dp {al:List (Nat×Nat)} {x:Nat×Nat} (e:al=if nw=true then ws2++[x] else x::ws2):al.Perm (x::ws2):=by
 cases nw with
 | true=>
  rw [if_pos rfl] at e
  rw [e]
  exact List.perm_append_comm
 | false=>
  rw [if_neg Bool.false_ne_true] at e
  rw [e]
theorem pop_perm {x:Nat×Nat} (e:ws++ds=if nw=true then ws2++[x] else x::ws2):(ws.map (·.1)++ds.map (·.1)).Perm (x.1::ws2.map (·.1)):=by
 rw [← List.map_append]
 exact (Dp e).map (·.1)
theorem pop_len {x:Nat×Nat} (e:ws++ds=if nw=true then ws2++[x] else x::ws2):ws2.length+1=ws.length+ds.length:=by
 have:=(Dp e).length_eq
 rw [List.length_append] at this
 exact this.symm
theorem CI.room (h:CI cl qq ns rs os gs ws) (hds:ds.map (·.1)=AH gs os qq 0 6) {x:Nat×Nat} (e:ws++ds=if nw=true then ws2++[x] else x::ws2):os.length+1<=6:=by
 have h1:=h.all6 hds
 have h2:=pop_len e
 omega
theorem CI.xin (h:CI cl qq ns rs os gs ws) {x:Nat×Nat} (e:ws++ds=if nw=true then ws2++[x] else x::ws2):x.1∈(gs++ds).map (·.1):=by
 have h1:x∈ws++ds:=(Dp e).mem_iff.mpr (List.mem_cons_self ..)
 rw [List.map_append]
 rcases List.mem_append.mp h1 with h1 | h1
 ·exact List.mem_append_left _ (h.perm.mem_iff.mpr (List.mem_append_right _ (List.mem_map_of_mem h1)))
 ·exact List.mem_append_right _ (List.mem_map_of_mem h1)
theorem CI.xlt (h:CI cl qq ns rs os gs ws) (hds:ds.map (·.1)=AH gs os qq 0 6) {x:Nat×Nat} (e:ws++ds=if nw=true then ws2++[x] else x::ws2):x.1<6:=by
 obtain ⟨q,hq,e1⟩:=List.mem_map.mp (h.xin e)
 rw [← e1]
 rcases List.mem_append.mp hq with hq | hq
 ·exact h.lt q hq
 ·exact E4 hds q hq
theorem CI.xpv (h:CI cl qq ns rs os gs ws) (hds:ds.map (·.1)=AH gs os qq 0 6) {x:Nat×Nat} (e:ws++ds=if nw=true then ws2++[x] else x::ws2):pv qq (gs++ds) os x.1= -1:=by
 have hp:((gs++ds).map (·.1)).Perm (os.map (·.1)++(x.1::ws2.map (·.1))):=by
  rw [List.map_append]
  refine (h.perm.append_right _).trans ?_
  rw [List.append_assoc]
  exact (pop_perm e).append_left _
 have ho:Az os x.1=false:=by
  cases ho:Az os x.1 with
  | false=>rfl
  | true=>
   have:=hp.nodup_iff.mp (h.nd2 hds)
   rw [List.nodup_append] at this
   exact absurd rfl (this.2.2 x.1 (AC.mp ho) x.1 (List.mem_cons_self ..))
 unfold pv
 rw [ho,AC.mpr (h.xin e)]
 rfl
theorem due_ne (hq:Needs qq) (h:ds.map (·.1)=AH [] [] qq 0 6):0<ds.length:=by
 have:0∈ds.map (·.1):=by
  rw [h]
  refine List.mem_filter.mpr ⟨by decide,?_⟩
  have h0:(qq 0).ns=[]:=List.length_eq_zero_iff.mp (by have:=(hq 0 (by omega)).2;omega)
  unfold Cn fl Az
  rw [h0];rfl
 cases ds with
 | nil=>simp at this
 | cons a l=>exact Nat.succ_pos _
theorem own_drop (Ls:List (List Cell)) {tail:List Cell} (D:Own h₀ 53 h (Ls.foldr (·++·) tail)):Own h₀ 53 h tail:=by
 induction Ls with
 | nil=>exact D
 | cons a l ih=>exact ih (Own.sub D (List.sublist_append_right ..))
end
theorem x_Due (ok:W.Ok) {z:Nat} {e1:List (Str×Nat×Value)} {fo:Obj} (hd:dp<=700) (hu:un<=700) (hq:Needs qq) (hfo:(fo=fr W (cwN T z c least tl nw n nm tm [])/\e1=[])∨∃ td d0,fo=Aw W T z c least tl nw n nm tm td d0 e1) :
  Pc W (Ar dp un F) (exec (wS W 0) (Av W n)) G ((n+8,fo)::(Cs n q eq eo eg qq os gs++(qc qq 6++L)))
  (⟨fun _=>G,fun p=>p.2.1.map (·.1)=AH gs os qq 0 6,fun _=> .next,fun p=>c8 n (Aw W T z c least tl nw n nm tm p.2.2.2 p.1 e1)::lN p.1 p.2.1 p.2.2.1::(Cs n q eq eo eg qq os gs++(qc qq 6++L))⟩:A3 Flow (Nat×List (Nat×Nat)×Nat×Nat)):=by
 rcases hfo with ⟨rfl,rfl⟩ | ⟨td,d0,rfl⟩
 ·exact x_Due0 (d0:=0) (td:=0) (ext:=[]) ok hd hu hq
 ·exact x_Due1 (d0:=d0) (td:=td) (ext:=e1) ok hd hu hq
theorem x_For (ok:W.Ok) {z:Nat} {e0 e1:List (Str×Nat×Value)} {cs:List (Int×Nat)} {NO:List Nat->Str->Prop} (hd:dp<=590) (hu:un<=590) (N:Dy NO) (hlb:∀ i,(lb i).1=lab i) (he:(e1=[]/\e0=[]/\0<ds.length)∨∃ tp vp tr vr,e1=(sac,tp,vp)::(saf,tr,vr)::e0) (hm6:ds.length<=6) (hcs:cs.length=6) (hj:∀ q∈ds,q.1<6) (hnd:(ds.map (·.1)).Nodup) (hP:NO P nm) (hPl:0<ds.length->P.length<=5) (ho:Tb W o) :
  Pc W (Ar dp un F) (exec (wS W 3) (Av W n)) G (c8 n (Aw W T z c least tl nw n nm tm td d e1)::lS (n+7) (cvl nv) en::(53,o)::(plX n d c ed el ec lb ds cs++L))
  (plP W G L T z c least tl nw n nm tm td d e0 ed el ec lb ds cs (CZ NO P least ds.length nw ds nv 0)):=by
 rcases he with ⟨rfl,rfl,hne⟩ | ⟨tp,vp,tr,vr,rfl⟩
 ·obtain ⟨k0,hk0⟩:∃ k0,ds.length=k0+1:=⟨ds.length - 1,by omega⟩
  have z:=x_Fora (k:=k0) (ext:=[]) (vp:= .none) (vr:= .none) (tp:=0) (tr:=0) (L:=L) (z:=z) (td:=td) (d:=d) (c:=c) (n:=n) (T:=T) (en:=en) (ed:=ed) (el:=el) (ec:=ec) (P:=P) (G:=G) (F:=F) (least:=least) (tl:=tl) (nw:=nw) (tm:=tm) (lb:=lb) (nv:=nv) ok hd hu N hlb hk0 (by omega) hcs hj hnd hP (fun h=>hPl (by omega)) ho
  rw [← hk0] at z
  exact z
 ·exact x_Forb (m:=ds.length) (ext:=e0) ok hd hu N hlb rfl hm6 hcs hj hnd hP hPl ho
theorem s_job (ok:W.Ok) {z t tr:Nat} {e0:List (Str×Nat×Value)} (h0:e0=[]∨∃ t v,e0=[(saa,t,v)]) :
  Pc W (Ar dp un F) (storeName (Av W n) saa (.int (j:Int) t)) G (c8 n (Aw W T z c least tl nw n nm tm td d ((sac,tp,vp)::(saf,tr,vr)::e0))::L)
  (⟨fun _=>G,fun _=>True,fun _=>(),fun tj=>c8 n (Aw W T z c least tl nw n nm tm td d ((sac,tp,vp)::(saf,tr,vr)::[(saa,tj,.int (j:Int) t)]))::L⟩:A3 Unit Nat):=by
 rcases h0 with rfl | ⟨tj,vj,rfl⟩
 ·exact s_job0 (tj:=0) (vj:= .none) ok
 ·exact s_job1 ok
noncomputable abbrev rl1 (n:Nat) (q:Nat) (qq:Nat->NL) (eq:Nat) (os:List (Nat×Nat)) (eo:Nat) (gs:List (Nat×Nat)) (eg:Nat) (z:Sr) (W:Wd) (ns:List Nd) (k:Nat) (cl:Nat->Str×Nat) (ek:Nat) (nv:Nat->Str×Nat) (en:Nat) (o:Obj) (lb:Nat->Str×Nat) (el:Nat) (c:Nat) (cs:List (Int×Nat)) (ec:Nat) (L:List Cell):List Cell:=cC (n+10) q::cC (n+13) (n+9)::lL q (nlv (qv qq 6)) eq::lN (n+9) os eo::cC (n+12) (n+8)::lN (n+8) gs eg::(qc qq 6++(dD z.m (ents W ns) 6::(A0 ns++(cC (n+9) k::lS k (cvl cl) ek::lS (n+7) (cvl nv) en::(53,o)::lS (n+6) (lbl lb) el::lI c cs ec::cC (n+11) (n+7)::L))))
noncomputable abbrev rl2 (n:Nat) (ws:List (Nat×Nat)) (ew:Nat) (q:Nat) (qq:Nat->NL) (eq:Nat) (os:List (Nat×Nat)) (eo:Nat) (gs:List (Nat×Nat)) (eg:Nat) (nv:Nat->Str×Nat) (en:Nat) (o:Obj) (lb:Nat->Str×Nat) (el:Nat) (c:Nat) (cs:List (Int×Nat)) (ec:Nat) (L:List Cell):List Cell:=lN (n+10) ws ew::cC (n+10) q::cC (n+13) (n+9)::lL q (nlv (qv qq 6)) eq::lN (n+9) os eo::cC (n+12) (n+8)::lN (n+8) gs eg::(qc qq 6++(lS (n+7) (cvl nv) en::(53,o)::lS (n+6) (lbl lb) el::lI c cs ec::cC (n+11) (n+7)::L))
noncomputable abbrev rl3 (z3:Sr) (r:Nat) (gs:List (Nat×Nat)) (ds:List (Nat×Nat)) (os:List (Nat×Nat)) (W:Wd) (ns3:List Nd) (e3:Nat) (n:Nat) (k:Nat) (cl:Nat->Str×Nat) (ek:Nat) (ws:List (Nat×Nat)) (ew:Nat) (q:Nat) (qq:Nat->NL) (eq:Nat) (eo:Nat) (eg:Nat) (L:List Cell):List Cell:=(z3.act (.ref (r+8)) ((gs++ds).length:Nat) (os.length:Nat)++(dD z3.m (ents W ns3) 6::lS r [] e3::(A0 ns3++(cC (n+9) k::lS k (cvl cl) ek::lN (n+10) ws ew::cC (n+10) q::cC (n+13) (n+9)::lL q (nlv (qv qq 6)) eq::lN (n+9) os eo::cC (n+12) (n+8)::lN (n+8) gs eg::(qc qq 6++(L))))))
noncomputable abbrev rl4 (n:Nat) (nv4:Nat->Str×Nat) (en4:Nat) (o4:Obj) (lb:Nat->Str×Nat) (el:Nat) (c:Nat) (cs:List (Int×Nat)) (ec:Nat) (z3:Sr) (r:Nat) (gs:List (Nat×Nat)) (ds:List (Nat×Nat)) (os:List (Nat×Nat)) (W:Wd) (ns3:List Nd) (e3:Nat) (k:Nat) (cl:Nat->Str×Nat) (ek:Nat) (ws:List (Nat×Nat)) (ew:Nat) (q:Nat) (qq:Nat->NL) (eq:Nat) (eo:Nat) (L:List Cell):List Cell:=lS (n+7) (cvl nv4) en4::(53,o4)::lS (n+6) (lbl lb) el::lI c cs ec::cC (n+11) (n+7)::(z3.act (.ref (r+8)) ((gs++ds).length:Nat) (os.length:Nat)++(dD z3.m (ents W ns3) 6::lS r [] e3::(A0 ns3++(cC (n+9) k::lS k (cvl cl) ek::lN (n+10) ws ew::cC (n+10) q::cC (n+13) (n+9)::lL q (nlv (qv qq 6)) eq::lN (n+9) os eo::(qc qq 6++(L))))))
noncomputable abbrev rl5 (n:Nat) (gs:List (Nat×Nat)) (ds:List (Nat×Nat)) (eg5:Nat) (nv4:Nat->Str×Nat) (en4:Nat) (o4:Obj) (lb:Nat->Str×Nat) (el:Nat) (c:Nat) (cs:List (Int×Nat)) (ec:Nat) (z3:Sr) (r:Nat) (os:List (Nat×Nat)) (W:Wd) (ns3:List Nd) (e3:Nat) (k:Nat) (cl:Nat->Str×Nat) (ek:Nat) (q:Nat) (qq:Nat->NL) (eq:Nat) (eo:Nat) (L:List Cell):List Cell:=cC (n+12) (n+8)::(n+8+8,A1 (iv (nvl (gs++ds))) eg5)::lS (n+7) (cvl nv4) en4::(53,o4)::lS (n+6) (lbl lb) el::lI c cs ec::cC (n+11) (n+7)::(z3.act (.ref (r+8)) ((gs++ds).length:Nat) (os.length:Nat)++(dD z3.m (ents W ns3) 6::lS r [] e3::(A0 ns3++(cC (n+9) k::lS k (cvl cl) ek::cC (n+10) q::cC (n+13) (n+9)::lL q (nlv (qv qq 6)) eq::lN (n+9) os eo::(qc qq 6++(L))))))
noncomputable abbrev rl6 (d:Nat) (ds:List (Nat×Nat)) (ed:Nat) (n:Nat) (gs:List (Nat×Nat)) (eg5:Nat) (o4:Obj) (lb:Nat->Str×Nat) (el:Nat) (c:Nat) (cs:List (Int×Nat)) (ec:Nat) (z3:Sr) (r:Nat) (os:List (Nat×Nat)) (W:Wd) (ns3:List Nd) (e3:Nat) (k:Nat) (cl:Nat->Str×Nat) (ek:Nat) (q:Nat) (qq:Nat->NL) (eq:Nat) (L:List Cell):List Cell:=lN d ds ed::cC (n+12) (n+8)::(n+8+8,A1 (iv (nvl (gs++ds))) eg5)::(53,o4)::lS (n+6) (lbl lb) el::lI c cs ec::(z3.act (.ref (r+8)) ((gs++ds).length:Nat) (os.length:Nat)++(dD z3.m (ents W ns3) 6::lS r [] e3::(A0 ns3++(cC (n+9) k::lS k (cvl cl) ek::cC (n+10) q::lL q (nlv (qv qq 6)) eq::(qc qq 6++(L))))))
noncomputable abbrev rl7 (d:Nat) (ds:List (Nat×Nat)) (ed:Nat) (n:Nat) (gs:List (Nat×Nat)) (eg5:Nat) (nv4:Nat->Str×Nat) (en4:Nat) (o4:Obj) (lb:Nat->Str×Nat) (el:Nat) (c:Nat) (cs:List (Int×Nat)) (ec:Nat) (z3:Sr) (r:Nat) (os:List (Nat×Nat)) (W:Wd) (ns3:List Nd) (e3:Nat) (k:Nat) (cl:Nat->Str×Nat) (ek:Nat) (q:Nat) (qq:Nat->NL) (eq:Nat) (eo:Nat) (L:List Cell):List Cell:=lN d ds ed::cC (n+12) (n+8)::(n+8+8,A1 (iv (nvl (gs++ds))) eg5)::lS (n+7) (cvl nv4) en4::(53,o4)::lS (n+6) (lbl lb) el::lI c cs ec::cC (n+11) (n+7)::(z3.act (.ref (r+8)) ((gs++ds).length:Nat) (os.length:Nat)++(dD z3.m (ents W ns3) 6::lS r [] e3::(A0 ns3++(cC (n+9) k::lS k (cvl cl) ek::cC (n+10) q::cC (n+13) (n+9)::lL q (nlv (qv qq 6)) eq::lN (n+9) os eo::(qc qq 6++(L))))))
noncomputable abbrev rl8 (n:Nat) (ws2:List (Nat×Nat)) (ew8:Nat) (d:Nat) (ds:List (Nat×Nat)) (ed:Nat) (gs:List (Nat×Nat)) (eg5:Nat) (nv4:Nat->Str×Nat) (en4:Nat) (o4:Obj) (lb:Nat->Str×Nat) (el:Nat) (c:Nat) (cs:List (Int×Nat)) (ec:Nat) (q:Nat) (qq:Nat->NL) (eq:Nat) (os:List (Nat×Nat)) (eo:Nat) (L:List Cell):List Cell:=lN (n+10) ws2 ew8::lN d ds ed::cC (n+12) (n+8)::(n+8+8,A1 (iv (nvl (gs++ds))) eg5)::lS (n+7) (cvl nv4) en4::(53,o4)::lS (n+6) (lbl lb) el::lI c cs ec::cC (n+11) (n+7)::cC (n+10) q::cC (n+13) (n+9)::lL q (nlv (qv qq 6)) eq::lN (n+9) os eo::(qc qq 6++(L))
noncomputable abbrev rl9 (n:Nat) (k:Nat) (cl:Nat->Str×Nat) (ek:Nat) (z10:Sr) (r:Nat) (gs:List (Nat×Nat)) (ds:List (Nat×Nat)) (os:List (Nat×Nat)) (x:Nat×Nat) (W:Wd) (ns10:List Nd) (pre:List Nd) (post:List Nd) (nd:Nd) (e10:Nat) (ws2:List (Nat×Nat)) (ew8:Nat) (d:Nat) (ed:Nat) (eg5:Nat) (o4:Obj) (lb:Nat->Str×Nat) (el:Nat) (q:Nat) (qq:Nat->NL) (eq:Nat) (L:List Cell):List Cell:=cC (n+9) k::lS k (cvl cl) ek::(z10.act (.ref (r+8)) ((gs++ds).length:Nat) ((os++[(x.1,x.2)]).length:Nat)++(dD z10.m (ents W ns10) 6::(r+8,A1 (sv ([]++rdy (C1 (pre++post)) nd.ss)) e10)::(A0 ns10++(lN (n+10) ws2 ew8::lN d ds ed::cC (n+12) (n+8)::(n+8+8,A1 (iv (nvl (gs++ds))) eg5)::(53,o4)::lS (n+6) (lbl lb) el::cC (n+10) q::lL q (nlv (qv qq 6)) eq::(qc qq 6++(L))))))
theorem cw_turn (ok:W.Ok) {k:Nat} {cs:List (Int×Nat)} {NO:List Nat->Str->Prop} (hd:dp<=590) (hu:un<=590) (hq:Needs qq) (inj:∀ i j,i<6->j<6->(cl i).1=(cl j).1->i=j) (N:Dy NO) (hlb:∀ i,(lb i).1=lab i) (hcs:cs.length=6) {z:Sr} {ns:List Nd} {wps:List (List Nat)} {fo:Obj} {e0 e1:List (Str×Nat×Value)} (hfo:(fo=fr W (cwN T z.s c least tl nw n nm tm [])/\e1=[])∨∃ td d0,fo=Aw W T z.s c least tl nw n nm tm td d0 e1) (h0:e0=[]∨∃ t v,e0=[(saa,t,v)]) (he:∀ ds:List (Nat×Nat),ds.map (·.1)=AH gs os qq 0 6->(e1=[]/\e0=[]/\0<ds.length)∨∃ tp vp tr vr,e1=(sac,tp,vp)::(saf,tr,vr)::e0) (I:CI cl qq ns rs os gs ws) (J:CJ NO nw nv nm P os ws ops wps) (ho:Tb W o)
  (next:∀ (G':List GenState) (os' gs' ws':List (Nat×Nat)) (z':Sr) (rs':List (Str×Nat)) (ns':List Nd) (nv':Nat->Str×Nat) (nm':Str) (P':List Nat) (ops' wps':List (List Nat)) (o':Obj) (least':Int) (tl' tm' td' d' tp' tr' tj' j' t' eo' eg' e' en' ew':Nat) (vp' vr':Value),os'.length=os.length+1->os'.length<=6->CI cl qq ns' rs' os' gs' ws'->CJ NO nw nv' nm' P' os' ws' ops' wps'->Tb W o'->Tri W (Ar dp un F) (cwC W n) G' (cwL W (Aw W T z'.s c least' tl' nw n nm' tm' td' d' (exJ tp' vp' tr' vr' tj' j' t')) n q eq r k ek c ec el qq cl lb cs eo' eg' e' en' ew' os' gs' ws' z' rs' ns' nv' o' L) (cwQ W G' q eq k ek c ec qq cl cs NO nw L)) :
  Tri W (Ar dp un F) (cwC W n) G (cwL W fo n q eq r k ek c ec el qq cl lb cs eo eg e en ew os gs ws z rs ns nv o L) (cwQ W G q eq k ek c ec qq cl cs NO nw L):=by
 intro R hR h n0 tk0 hs D0
 rw [cw_eq]
 refine E7 ?_
 refine Pc.go (p_true ok) (fun _ _ ha na ta hsa Da=>?_) hs D0
 rw [if_pos rfl,bd_eq]
 refine wpAny_execs_cons ?_
 refine Pc.go (x_Due (e1:=e1) ok (by omega) (by omega) hq hfo) (fun p1 hp1 h1 n1 tk1 hs1 D1=>?_) hsa Da
 have hds:p1.2.1.map (·.1)=AH gs os qq 0 6:=hp1
 clear hp1
 refine wpAny_execs_cons ?_
 refine Pc.go (x_S2 (ext:=e1) (L:=rl1 n q qq eq os eo gs eg z W ns k cl ek nv en o lb el c cs ec L) ok (by omega) (by omega) (by have:=I.rs6;omega) (I.hb hds)) (fun _ _ h2 n2 tk2 hs2 D2=>?_) hs1 (A2 [[c8 n (Aw W T z.s c least tl nw n nm tm p1.2.2.2 p1.1 e1)],[lN p1.1 p1.2.1 p1.2.2.1],[cC (n+10) q],[cC (n+13) (n+9)],[lL q (nlv (qv qq 6)) eq],[lN (n+9) os eo],[cC (n+12) (n+8)],[lN (n+8) gs eg],qc qq 6,z.act (.ref (r+8)) (gs.length:Nat) (os.length:Nat),[dD z.m (ents W ns) 6],[lS r rs e],A0 ns,[cC (n+9) k],[lS k (cvl cl) ek],[lS (n+7) (cvl nv) en],[(53,o)],[lS (n+6) (lbl lb) el],[lI c cs ec],[cC (n+11) (n+7)],[lN (n+10) ws ew]] [0,9,11,20,1,2,3,4,5,6,7,8,10,12,13,14,15,16,17,18,19] (tail:=L)  D1)
 refine wpAny_execs_cons ?_
 refine Pc.go (x_S3 (ext:=e1) (L:=rl2 n ws ew q qq eq os eo gs eg nv en o lb el c cs ec L) ok hd hu (Dv inj I.v) (I.rs_mem) (CP hds) (E4 hds) (I.rs.trans (by rw [← hds,List.map_map];rfl))) (fun p3 hp3 h3 n3 tk3 hs3 D3=>?_) hs2 (A2 [[c8 n (Aw W T z.s c least tl nw n nm tm p1.2.2.2 p1.1 e1)],z.act (.ref (r+8)) (gs.length:Nat) (os.length:Nat),[lS r rs e],[lN (n+10) ws ew],[lN p1.1 p1.2.1 p1.2.2.1],[cC (n+10) q],[cC (n+13) (n+9)],[lL q (nlv (qv qq 6)) eq],[lN (n+9) os eo],[cC (n+12) (n+8)],[lN (n+8) gs eg],qc qq 6,[dD z.m (ents W ns) 6],A0 ns,[cC (n+9) k],[lS k (cvl cl) ek],[lS (n+7) (cvl nv) en],[(53,o)],[lS (n+6) (lbl lb) el],[lI c cs ec],[cC (n+11) (n+7)]] [0,1,12,2,13,14,15,4,3,5,6,7,8,9,10,11,16,17,18,19,20] (tail:=L)  D2)
 obtain ⟨e3,z3,ns3⟩:=p3
 obtain ⟨hz3,hns3⟩:z3.s=z.s/\ns3.map Nd.v=ns.map (C7 (rs.map (·.1))):=hp3
 have hnp:((gs.length:Nat):Int)+(rs.length:Nat)=((gs++p1.2.1).length:Nat):=by rw [List.length_append,I.rs_len hds];simp
 try dsimp only at D3
 rw [hnp] at D3
 refine wpAny_execs_cons ?_
 refine Pc.go (x_For (e1:=e1) (e0:=e0) (z:=z.s) (P:=P) (L:=rl3 z3 r gs p1.2.1 os W ns3 e3 n k cl ek ws ew q qq eq eo eg L) ok hd hu N hlb (he p1.2.1 hds) (CP hds) hcs (E4 hds) (Dj hds) J.cur (fun _=>by have:=J.len;have:=I.room6 hds;omega) ho) (fun p4 hp4 h4 n4 tk4 hs4 D4=>?_) hs3 (A2 [[c8 n (Aw W T z.s c least tl nw n nm tm p1.2.2.2 p1.1 e1)],z3.act (.ref (r+8)) ((gs++p1.2.1).length:Nat) (os.length:Nat),[dD z3.m (ents W ns3) 6],[lS r [] e3],A0 ns3,[cC (n+9) k],[lS k (cvl cl) ek],[lN p1.1 p1.2.1 p1.2.2.1],[lN (n+10) ws ew],[cC (n+10) q],[cC (n+13) (n+9)],[lL q (nlv (qv qq 6)) eq],[lN (n+9) os eo],[cC (n+12) (n+8)],[lN (n+8) gs eg],qc qq 6,[lS (n+7) (cvl nv) en],[(53,o)],[lS (n+6) (lbl lb) el],[lI c cs ec],[cC (n+11) (n+7)]] [0,16,17,7,18,19,20,1,2,3,4,5,6,8,9,10,11,12,13,14,15] (tail:=L)  D3)
 obtain ⟨hpl,ho4,hG4⟩:CZ NO P least p1.2.1.length nw p1.2.1 nv 0 p4.2/\Tb W p4.4/\((∀ y∈G,y.bare=true)->∀ y∈p4.1,y.bare=true):=hp4
 refine wpAny_execs_cons ?_
 refine Pc.go (x_S5 (ext:=((sac,p4.5,p4.6)::(saf,p4.7,p4.8)::e0)) (L:=rl4 n p4.2 p4.3 p4.4 lb el c cs ec z3 r gs p1.2.1 os W ns3 e3 k cl ek ws ew q qq eq eo L) ok (by have:=I.glen;have:=CP hds;omega)) (fun eg5 _ h5 n5 tk5 hs5 D5=>?_) hs4 (A2 [[c8 n (Aw W T z.s c least tl nw n nm tm p1.2.2.2 p1.1 ((sac,p4.5,p4.6)::(saf,p4.7,p4.8)::e0))],[lS (n+7) (cvl p4.2) p4.3],[(53,p4.4)],[lN p1.1 p1.2.1 p1.2.2.1],[lS (n+6) (lbl lb) el],[lI c cs ec],[cC (n+11) (n+7)],z3.act (.ref (r+8)) ((gs++p1.2.1).length:Nat) (os.length:Nat),[dD z3.m (ents W ns3) 6],[lS r [] e3],A0 ns3,[cC (n+9) k],[lS k (cvl cl) ek],[lN (n+10) ws ew],[cC (n+10) q],[cC (n+13) (n+9)],[lL q (nlv (qv qq 6)) eq],[lN (n+9) os eo],[cC (n+12) (n+8)],[lN (n+8) gs eg],qc qq 6] [0,18,19,3,1,2,4,5,6,7,8,9,10,11,12,13,14,15,16,17,20] (tail:=L)  D4)
 refine wpAny_execs_cons ?_
 refine Pc.go (x_S6 (ext:=((sac,p4.5,p4.6)::(saf,p4.7,p4.8)::e0)) (L:=rl5 n gs p1.2.1 eg5 p4.2 p4.3 p4.4 lb el c cs ec z3 r os W ns3 e3 k cl ek q qq eq eo L) ok (by have:=I.wlen;have:=CP hds;omega)) (fun ew6 _ h6 n6 tk6 hs6 D6=>?_) hs5 (A2 [[c8 n (Aw W T z.s c least tl nw n nm tm p1.2.2.2 p1.1 ((sac,p4.5,p4.6)::(saf,p4.7,p4.8)::e0))],[cC (n+12) (n+8)],[(n+8+8,A1 (iv (nvl (gs++p1.2.1))) eg5)],[lN p1.1 p1.2.1 p1.2.2.1],[lS (n+7) (cvl p4.2) p4.3],[(53,p4.4)],[lS (n+6) (lbl lb) el],[lI c cs ec],[cC (n+11) (n+7)],z3.act (.ref (r+8)) ((gs++p1.2.1).length:Nat) (os.length:Nat),[dD z3.m (ents W ns3) 6],[lS r [] e3],A0 ns3,[cC (n+9) k],[lS k (cvl cl) ek],[lN (n+10) ws ew],[cC (n+10) q],[cC (n+13) (n+9)],[lL q (nlv (qv qq 6)) eq],[lN (n+9) os eo],qc qq 6] [0,15,3,1,2,4,5,6,7,8,9,10,11,12,13,14,16,17,18,19,20] (tail:=L)  D5)
 refine wpAny_execs_cons ?_
 by_cases hw:ws++p1.2.1=[]
 ·obtain ⟨hw0,hd0⟩:=List.append_eq_nil_iff.mp hw
  have hfin:=I.fin hq hds hw0 hd0
  refine Pc.go (x_S7b (ext:=((sac,p4.5,p4.6)::(saf,p4.7,p4.8)::e0)) (L:=rl6 p1.1 p1.2.1 p1.2.2.1 n gs eg5 p4.4 lb el c cs ec z3 r os W ns3 e3 k cl ek q qq eq L) ok hd hu (by omega) I.olt hw) (fun p7 _ h7 n7 tk7 hs7 D7=>?_) hs6 (A2 [[c8 n (Aw W T z.s c least tl nw n nm tm p1.2.2.2 p1.1 ((sac,p4.5,p4.6)::(saf,p4.7,p4.8)::e0))],[(n+10+8,A1 (iv (nvl (ws++p1.2.1))) ew6)],[lN p1.1 p1.2.1 p1.2.2.1],[cC (n+12) (n+8)],[(n+8+8,A1 (iv (nvl (gs++p1.2.1))) eg5)],[lS (n+7) (cvl p4.2) p4.3],[(53,p4.4)],[lS (n+6) (lbl lb) el],[lI c cs ec],[cC (n+11) (n+7)],z3.act (.ref (r+8)) ((gs++p1.2.1).length:Nat) (os.length:Nat),[dD z3.m (ents W ns3) 6],[lS r [] e3],A0 ns3,[cC (n+9) k],[lS k (cvl cl) ek],[cC (n+10) q],[cC (n+13) (n+9)],[lL q (nlv (qv qq 6)) eq],[lN (n+9) os eo],qc qq 6] [0,1,9,5,17,19,2,3,4,6,7,8,10,11,12,13,14,15,16,18,20] (tail:=L)  D6)
  try dsimp only
  have hold:(os.map fun p=>p4.2 p.1)=os.map fun p=>nv p.1:=List.map_congr_left fun p hp=>hpl.old p.1 fun i q _ hi=>by rw [hd0] at hi;simp at hi
  refine hR (p4.1,os.map fun p=>p4.2 p.1,p7.1,p7.2,p4.4) ⟨by rw [hold];exact J.res hfin,ho4,hG4⟩ h7 n7 tk7 hs7 ?_
  have D8:=(A2 [[lS p7.1 (os.map fun p=>p4.2 p.1) p7.2],[lN p1.1 p1.2.1 p1.2.2.1],[cC (n+12) (n+8)],[(n+8+8,A1 (iv (nvl (gs++p1.2.1))) eg5)],[(53,p4.4)],[lS (n+6) (lbl lb) el],[lI c cs ec],z3.act (.ref (r+8)) ((gs++p1.2.1).length:Nat) (os.length:Nat),[dD z3.m (ents W ns3) 6],[lS r [] e3],A0 ns3,[cC (n+9) k],[lS k (cvl cl) ek],[cC (n+10) q],[lL q (nlv (qv qq 6)) eq],qc qq 6] [1,7,8,9,10,11,5,13,2,3,0,4,12,14,15,6] (tail:=L)  D7)
  exact own_drop [[lN p1.1 p1.2.1 p1.2.2.1],z3.act (.ref (r+8)) ((gs++p1.2.1).length:Nat) (os.length:Nat),[dD z3.m (ents W ns3) 6],[lS r [] e3],A0 ns3,[cC (n+9) k],[lS (n+6) (lbl lb) el],[cC (n+10) q],[cC (n+12) (n+8)],[(n+8+8,A1 (iv (nvl (gs++p1.2.1))) eg5)]] D8
 ·obtain ⟨x,ws2,e2⟩:=pop_of nw hw
  refine Pc.go (x_S7a (ext:=((sac,p4.5,p4.6)::(saf,p4.7,p4.8)::e0)) (L:=rl7 p1.1 p1.2.1 p1.2.2.1 n gs eg5 p4.2 p4.3 p4.4 lb el c cs ec z3 r os W ns3 e3 k cl ek q qq eq eo L) ok hu hw) (fun _ _ h7 n7 tk7 hs7 D7=>?_) hs6 (A2 [[c8 n (Aw W T z.s c least tl nw n nm tm p1.2.2.2 p1.1 ((sac,p4.5,p4.6)::(saf,p4.7,p4.8)::e0))],[(n+10+8,A1 (iv (nvl (ws++p1.2.1))) ew6)],[lN p1.1 p1.2.1 p1.2.2.1],[cC (n+12) (n+8)],[(n+8+8,A1 (iv (nvl (gs++p1.2.1))) eg5)],[lS (n+7) (cvl p4.2) p4.3],[(53,p4.4)],[lS (n+6) (lbl lb) el],[lI c cs ec],[cC (n+11) (n+7)],z3.act (.ref (r+8)) ((gs++p1.2.1).length:Nat) (os.length:Nat),[dD z3.m (ents W ns3) 6],[lS r [] e3],A0 ns3,[cC (n+9) k],[lS k (cvl cl) ek],[cC (n+10) q],[cC (n+13) (n+9)],[lL q (nlv (qv qq 6)) eq],[lN (n+9) os eo],qc qq 6] [0,1,2,3,4,5,6,7,8,9,10,11,12,13,14,15,16,17,18,19,20] (tail:=L)  D6)
  refine wpAny_execs_cons ?_
  rw [s8_eq]
  refine wpAny_Assign_Name ?_ (s8_sw W n)
  refine Pc.go (p_pop (ext:=((sac,p4.5,p4.6)::(saf,p4.7,p4.8)::e0)) (ws:=ws2) (x:=x) ok (by have:=I.wlen;have:=CP hds;have:=pop_len e2;omega) e2) (fun ew8 _ h8 n8 tk8 hs8 D8=>?_) hs7 D7
  refine Pc.go (s_job (j:=x.1) (t:=x.2) ok h0) (fun tj9 _ h9 n9 tk9 hs9 D9=>?_) hs8 D8
  try dsimp only at D9 ⊢
  have Iv:=I.out inj hds hns3
  have hx6:x.1<6:=I.xlt hds e2
  obtain ⟨pre,nd,post,hP⟩:=nview_pick inj hq Iv hx6
  have hpe:=hP.eq
  subst hpe
  refine wpAny_execs_cons ?_
  rw [← hz3] at D9
  refine Pc.go (x_S9 (z:=z3) (rs:=[]) (L:=rl8 n ws2 ew8 p1.1 p1.2.1 p1.2.2.1 gs eg5 p4.2 p4.3 p4.4 lb el c cs ec q qq eq os eo L) ok hd hu hx6 hP.x (hP.p.trans (I.xpv hds e2)) hP.nodup hP.mem (by have:=hP.len;simp;omega)) (fun p10 hp10 h10 n10 tk10 hs10 D10=>?_) hs9 (A2 [[c8 n (Aw W T z3.s c least tl nw n nm tm p1.2.2.2 p1.1 (exJ p4.5 p4.6 p4.7 p4.8 tj9 x.1 x.2))],[lN (n+10) ws2 ew8],[lN p1.1 p1.2.1 p1.2.2.1],[cC (n+12) (n+8)],[(n+8+8,A1 (iv (nvl (gs++p1.2.1))) eg5)],[lS (n+7) (cvl p4.2) p4.3],[(53,p4.4)],[lS (n+6) (lbl lb) el],[lI c cs ec],[cC (n+11) (n+7)],z3.act (.ref (r+8)) ((gs++p1.2.1).length:Nat) (os.length:Nat),[dD z3.m (ents W (pre++nd::post)) 6],[lS r [] e3],A0 (pre++nd::post),[cC (n+9) k],[lS k (cvl cl) ek],[cC (n+10) q],[cC (n+13) (n+9)],[lL q (nlv (qv qq 6)) eq],[lN (n+9) os eo],qc qq 6] [0,14,15,10,11,12,13,1,2,3,4,5,6,7,8,9,16,17,18,19,20] (tail:=L)  D9)
  obtain ⟨hz10,hns10⟩:p10.2.1.s=z3.s/\p10.2.2.map Nd.v=(pre++nd::post).map (fun b=>if b.x=nd.x then (b.x,-2,b.ss.map (·.1)) else BL (nd.ss.map (·.1)) b):=hp10
  have hnf:((os.length:Nat):Int)+1=((os++[(x.1,x.2)]).length:Nat):=by rw [List.length_append];rfl
  try dsimp only at D10
  rw [hnf,← hz10] at D10
  obtain ⟨b,hb⟩:∃ b,cs[x.1]?=some b:=⟨cs[x.1]'(by omega),List.getElem?_eq_getElem (by omega)⟩
  refine Pc.go (x_S10 (z:=p10.2.1.s) (b:=b) (L:=rl9 n k cl ek p10.2.1 r gs p1.2.1 os x W p10.2.2 pre post nd p10.1 ws2 ew8 p1.1 p1.2.2.1 eg5 p4.4 lb el q qq eq L) ok hd hu hx6 hb (by have:=I.olen;omega)) (fun p11 _ h11 n11 tk11 hs11 D11=>?_) hs10 (A2 [[c8 n (Aw W T p10.2.1.s c least tl nw n nm tm p1.2.2.2 p1.1 (exJ p4.5 p4.6 p4.7 p4.8 tj9 x.1 x.2))],[cC (n+9) k],[lS k (cvl cl) ek],p10.2.1.act (.ref (r+8)) ((gs++p1.2.1).length:Nat) ((os++[(x.1,x.2)]).length:Nat),[dD p10.2.1.m (ents W p10.2.2) 6],[(r+8,A1 (sv ([]++rdy (C1 (pre++post)) nd.ss)) p10.1)],A0 p10.2.2,[lN (n+10) ws2 ew8],[lN p1.1 p1.2.1 p1.2.2.1],[cC (n+12) (n+8)],[(n+8+8,A1 (iv (nvl (gs++p1.2.1))) eg5)],[lS (n+7) (cvl p4.2) p4.3],[(53,p4.4)],[lS (n+6) (lbl lb) el],[lI c cs ec],[cC (n+11) (n+7)],[cC (n+10) q],[cC (n+13) (n+9)],[lL q (nlv (qv qq 6)) eq],[lN (n+9) os eo],qc qq 6] [0,17,19,15,11,14,1,2,3,4,5,6,7,8,9,10,12,13,16,18,20] (tail:=L)  D10)
  try dsimp only at D11 ⊢
  have D12:=own_drop [[lN p1.1 p1.2.1 p1.2.2.1]] (A2 [[c8 n (Aw W T p10.2.1.s c (b.1.fdiv ((1944:Nat):Int)) p11.2 nw n (p4.2 x.1).1 (p4.2 x.1).2 p1.2.2.2 p1.1 (exJ p4.5 p4.6 p4.7 p4.8 tj9 x.1 x.2))],[cC (n+13) (n+9)],[(n+9+8,A1 (iv (nvl (os++[(x.1,x.2)]))) p11.1)],[cC (n+11) (n+7)],[lS (n+7) (cvl p4.2) p4.3],[lI c cs ec],[cC (n+9) k],[lS k (cvl cl) ek],p10.2.1.act (.ref (r+8)) ((gs++p1.2.1).length:Nat) ((os++[(x.1,x.2)]).length:Nat),[dD p10.2.1.m (ents W p10.2.2) 6],[(r+8,A1 (sv ([]++rdy (C1 (pre++post)) nd.ss)) p10.1)],A0 p10.2.2,[lN (n+10) ws2 ew8],[lN p1.1 p1.2.1 p1.2.2.1],[cC (n+12) (n+8)],[(n+8+8,A1 (iv (nvl (gs++p1.2.1))) eg5)],[(53,p4.4)],[lS (n+6) (lbl lb) el],[cC (n+10) q],[lL q (nlv (qv qq 6)) eq],qc qq 6] [13,0,18,1,19,2,14,15,20,8,9,10,11,6,7,4,16,17,5,3,12] (tail:=L)  D11)
  have I2:=I.step (t:=x.2) inj hq hds hP Iv (pop_perm e2) hx6 hns10
  obtain ⟨P2,ops2,wps2,J2⟩:=J.step hpl (I.disj hds) (I.room hds e2) e2
  have zz:=next p4.1 (os++[(x.1,x.2)]) (gs++p1.2.1) ws2 p10.2.1 _ p10.2.2 p4.2 (p4.2 x.1).1 P2 ops2 wps2 p4.4 (b.1.fdiv ((1944:Nat):Int)) p11.2 (p4.2 x.1).2 p1.2.2.2 p1.1 p4.5 p4.7 tj9 x.1 x.2 p11.1 eg5 p10.1 p4.3 ew8 p4.6 p4.8 (by simp) (by have:=I.room hds e2;simp;omega) I2 J2 ho4 R (fun p hp=>hR p ⟨hp.1,hp.2.1,fun hb=>hp.2.2 (hG4 hb)⟩) h11 n11 tk11 hs11 D12
  rw [cw_eq,bd_eq] at zz
  exact zz
theorem cw_turn1 (ok:W.Ok) {k:Nat} {cs:List (Int×Nat)} {NO:List Nat->Str->Prop} (hd:dp<=590) (hu:un<=590) (hq:Needs qq) (inj:∀ i j,i<6->j<6->(cl i).1=(cl j).1->i=j) (N:Dy NO) (hlb:∀ i,(lb i).1=lab i) (hcs:cs.length=6) {z:Sr} {ns:List Nd} {wps:List (List Nat)} {d0 tr j t:Nat} (I:CI cl qq ns rs os gs ws) (J:CJ NO nw nv nm P os ws ops wps) (ho:Tb W o)
  (next:∀ (G':List GenState) (os' gs' ws':List (Nat×Nat)) (z':Sr) (rs':List (Str×Nat)) (ns':List Nd) (nv':Nat->Str×Nat) (nm':Str) (P':List Nat) (ops' wps':List (List Nat)) (o':Obj) (least':Int) (tl' tm' td' d' tp' tr' tj' j' t' eo' eg' e' en' ew':Nat) (vp' vr':Value),os'.length=os.length+1->os'.length<=6->CI cl qq ns' rs' os' gs' ws'->CJ NO nw nv' nm' P' os' ws' ops' wps'->Tb W o'->Tri W (Ar dp un F) (cwC W n) G' (cwL W (Aw W T z'.s c least' tl' nw n nm' tm' td' d' (exJ tp' vp' tr' vr' tj' j' t')) n q eq r k ek c ec el qq cl lb cs eo' eg' e' en' ew' os' gs' ws' z' rs' ns' nv' o' L) (cwQ W G' q eq k ek c ec qq cl cs NO nw L)) :
  Tri W (Ar dp un F) (cwC W n) G (cwL W (Aw W T z.s c least tl nw n nm tm td d0 (exJ tp vp tr vr tj j t)) n q eq r k ek c ec el qq cl lb cs eo eg e en ew os gs ws z rs ns nv o L) (cwQ W G q eq k ek c ec qq cl cs NO nw L):=by
 exact cw_turn (e0:=[(saa,tj,.int (j:Int) t)]) (e1:=exJ tp vp tr vr tj j t) ok hd hu hq inj N hlb hcs (.inr ⟨td,d0,rfl⟩) (.inr ⟨_,_,rfl⟩) (fun _ _=> .inr ⟨tp,vp,tr,vr,rfl⟩) I J ho next
theorem cw_turn0 (ok:W.Ok) {k:Nat} {cs:List (Int×Nat)} {NO:List Nat->Str->Prop} (hd:dp<=590) (hu:un<=590) (hq:Needs qq) (inj:∀ i j,i<6->j<6->(cl i).1=(cl j).1->i=j) (N:Dy NO) (hlb:∀ i,(lb i).1=lab i) (hcs:cs.length=6) {z:Sr} {ns:List Nd} {wps:List (List Nat)} (I:CI cl qq ns rs os gs ws) (J:CJ NO nw nv nm P os ws ops wps) (ho:Tb W o) (hne:∀ ds:List (Nat×Nat),ds.map (·.1)=AH gs os qq 0 6->0<ds.length)
  (next:∀ (G':List GenState) (os' gs' ws':List (Nat×Nat)) (z':Sr) (rs':List (Str×Nat)) (ns':List Nd) (nv':Nat->Str×Nat) (nm':Str) (P':List Nat) (ops' wps':List (List Nat)) (o':Obj) (least':Int) (tl' tm' td' d' tp' tr' tj' j' t' eo' eg' e' en' ew':Nat) (vp' vr':Value),os'.length=os.length+1->os'.length<=6->CI cl qq ns' rs' os' gs' ws'->CJ NO nw nv' nm' P' os' ws' ops' wps'->Tb W o'->Tri W (Ar dp un F) (cwC W n) G' (cwL W (Aw W T z'.s c least' tl' nw n nm' tm' td' d' (exJ tp' vp' tr' vr' tj' j' t')) n q eq r k ek c ec el qq cl lb cs eo' eg' e' en' ew' os' gs' ws' z' rs' ns' nv' o' L) (cwQ W G' q eq k ek c ec qq cl cs NO nw L)) :
  Tri W (Ar dp un F) (cwC W n) G (cwL W (fr W (cwN T z.s c least tl nw n nm tm [])) n q eq r k ek c ec el qq cl lb cs eo eg e en ew os gs ws z rs ns nv o L) (cwQ W G q eq k ek c ec qq cl cs NO nw L):=by
 exact cw_turn (e0:=[]) (e1:=[]) ok hd hu hq inj N hlb hcs (.inl ⟨rfl,rfl⟩) (.inl rfl) (fun ds h=> .inl ⟨rfl,rfl,hne ds h⟩) I J ho next
theorem cw_loop (ok:W.Ok) {k:Nat} {cs:List (Int×Nat)} {NO:List Nat->Str->Prop} (hd:dp<=590) (hu:un<=590) (hq:Needs qq) (inj:∀ i j,i<6->j<6->(cl i).1=(cl j).1->i=j) (N:Dy NO) (hlb:∀ i,(lb i).1=lab i) (hcs:cs.length=6):∀ (m:Nat) {G:List GenState} {os gs ws:List (Nat×Nat)} {z:Sr} {rs:List (Str×Nat)} {ns:List Nd} {nv:Nat->Str×Nat} {nm:Str} {P:List Nat} {ops wps:List (List Nat)} {o:Obj} {least:Int} {tl tm td d0 tp tr tj j t eo eg e en ew:Nat} {vp vr:Value},os.length+m=6->CI cl qq ns rs os gs ws->CJ NO nw nv nm P os ws ops wps->Tb W o ->
  Tri W (Ar dp un F) (cwC W n) G (cwL W (Aw W T z.s c least tl nw n nm tm td d0 (exJ tp vp tr vr tj j t)) n q eq r k ek c ec el qq cl lb cs eo eg e en ew os gs ws z rs ns nv o L) (cwQ W G q eq k ek c ec qq cl cs NO nw L):=by
 intro m
 induction m with
 | zero=>
  intro G os gs ws z rs ns nv nm P ops wps o least tl tm td d0 tp tr tj j t eo eg e en ew vp vr hm I J ho
  exact cw_turn1 ok hd hu hq inj N hlb hcs I J ho fun _ _ _ _ _ _ _ _ _ _ _ _ _ _ _ _ _ _ _ _ _ _ _ _ _ _ _ _ _ _ h1 h2=>by omega
 | succ m ih=>
  intro G os gs ws z rs ns nv nm P ops wps o least tl tm td d0 tp tr tj j t eo eg e en ew vp vr hm I J ho
  exact cw_turn1 ok hd hu hq inj N hlb hcs I J ho fun _ _ _ _ _ _ _ _ _ _ _ _ _ _ _ _ _ _ _ _ _ _ _ _ _ _ _ _ _ _ h1 h2 I' J' ho'=>ih (by omega) I' J' ho'
noncomputable def cwT (tk:Nat):Nat->Nat
 | 4=>tk+18
 | 5=>tk+25
 | 6=>tk+27
 | i=>tk+i
noncomputable def cwB (tk i:Nat):Str×Nat:=(lab i,tk+4+i)
noncomputable def cwV (tk i:Nat):Str×Nat:=(S [],tk+19+i)
theorem DZ (ok:W.Ok) {k:Nat} {cs:List (Int×Nat)} {NO:List Nat->Str->Prop} {z:Sr} {ns:List Nd} (hA:Good A 580) (hq:Needs qq) (inj:∀ i j,i<6->j<6->(cl i).1=(cl j).1->i=j) (N:Dy NO) (hN:NO [] (S [])) (hcs:cs.length=6) (I:CI cl qq ns rs [] [] []) (ho:Tb W o) :
  Tri W A (.call (.ref 202) ⟨[.ref (z.s+8),.ref (k+8),.ref (q+8),.ref (c+8),.int least tl,.bool nw],[]⟩) G (z.all W r rs e 0 0 ns 6 (lS k (cvl cl) ek::lL q (nlv (qv qq 6)) eq::(qc qq 6++((53,o)::lI c cs ec::L)))) (cwQ W G q eq k ek c ec qq cl cs NO nw L):=by
 refine Tri.good hA fun dp un F hd hu=>?_
 unfold Sr.all
 refine Tri.of fun R n tk hR=>?_
 refine BC ok 28 1539867417600321977081856 (entry W.kt 202 n 8) (dp+0) (by omega) ?_
 refine gcL ok 75 750735157649059369351 (cwC W n) (cwL W (fr W (cwN (cwT tk) z.s c least tl nw n (S []) (tk+26) [])) n q eq r k ek c ec 0 qq cl (cwB tk) cs 0 0 e 0 0 [] [] [] z rs ns (cwV tk) o L) (BP (Ar (dp+1) (un+3) (Av W n::F))) (fun h D=>A2 [[lN (n+10) [] 0],[lN (n+9) [] 0],[lN (n+8) [] 0],[lS (n+7) (cvl (cwV tk)) 0],[lS (n+6) (lbl (cwB tk)) 0],[cC (n+13) (n+9)],[cC (n+12) (n+8)],[cC (n+11) (n+7)],[cC (n+10) q],[cC (n+9) k],[AF W n (cwN (cwT tk) z.s c least tl nw n (S []) (tk+26) [])],z.cells W (.ref (r+8)) 0 0 ns 6,[lS r rs e],A0 ns,[lS k (cvl cl) ek],[lL q (nlv (qv qq 6)) eq],qc qq 6,[(53,o)],[lI c cs ec]] [10,8,5,15,1,6,2,16,11,12,13,9,14,3,17,4,18,7,0] (tail:=L)  (A4 [] 0 (by kernel_rfl) h D)) (fun _ eA=>Tri.at eA (cw_turn0 (L:=L) (el:=0) (eo:=0) (eg:=0) (en:=0) (ew:=0) (nv:=cwV tk) (ops:=[]) (wps:=[]) (P:=[]) ok (by omega) (by omega) hq inj N (fun _=>rfl) hcs I ⟨trivial,trivial,hN,Nat.zero_le _,by cases nw<;>simp [OI],fun i p q hp=>by simp at hp,.inl rfl⟩ ho (fun ds hds=>due_ne hq hds) fun _ _ _ _ _ _ _ _ _ _ _ _ _ _ _ _ _ _ _ _ _ _ _ _ _ _ _ _ _ _ h1 h2 I' J' ho'=>cw_loop ok (by omega) (by omega) hq inj N (fun _=>rfl) hcs 5 (by simp at h1;omega) I' J' ho')) fun p n₁ tk₁ hp=>?_
 exact Aj ok 0 0 hR (p.1,p.2.1,p.2.2.1,p.2.2.2.1,p.2.2.2.2) hp (.ret (.ref (p.2.2.1+8))) rfl [] 0
end
section
open PySem PySem.Builtin PySem.Builtin.Str PySem.StrLaws
variable {n c:Nat} {x y:Str}
noncomputable def rp (y z:List Nat):Nat->List Nat->List Nat
 | _,[]=>[]
 | k+1,_::l=>rp y z k l
 | 0,c::l=>if y.isPrefixOf (c::l)=true then z++rp y z (y.length - 1) l else c::rp y z 0 l
theorem rp_drop (y z:List Nat):∀ (k:Nat) (l:List Nat),rp y z k l=rp y z 0 (l.drop k)
 | 0,_=>rfl
 | k+1,[]=>rfl
 | k+1,_::l=>rp_drop y z k l
theorem rp_hit {y z l:List Nat} (hy:1<=y.length) (h:y <+: l):rp y z 0 l=z++rp y z 0 (l.drop y.length):=by
 cases l with
 | nil=>rw [List.prefix_nil.mp h] at hy;exact absurd hy (by decide)
 | cons c l=>
  rw [rp,if_pos (List.isPrefixOf_iff_prefix.mpr h),rp_drop]
  obtain ⟨m,e⟩:=Nat.exists_eq_add_of_le' hy
  rw [e,Nat.add_sub_cancel,List.drop_succ_cons]
theorem rp_free {y z:List Nat}:∀ (m:Nat) (l:List Nat),(∀ k,k<m->¬ y <+: l.drop k)->rp y z 0 l=l.take m++rp y z 0 (l.drop m)
 | 0,_,_=>rfl
 | m+1,[],_=>rfl
 | m+1,c::l,h=>by
  have h0:¬ y <+: c::l:=h 0 (Nat.succ_pos _)
  rw [rp,if_neg fun e=>h0 (List.isPrefixOf_iff_prefix.mp e),rp_free m l fun k hk=>h (k+1) (Nat.succ_lt_succ hk)];rfl
theorem at_iff {k:Nat} (hy:1<=y.length):At x y x.length k↔y.cps.toList <+: x.cps.toList.drop k:=by
 have hy':y.length=y.cps.toList.length:=by simp [Str.length]
 have hx':x.length=x.cps.toList.length:=by simp [Str.length]
 constructor
 ·intro h
  have:=h.2
  rw [subAt_eq] at this
  rw [← eq_of_beq this]
  exact List.take_prefix ..
 ·intro h
  have hl:=h.length_le
  rw [List.length_drop] at hl
  refine ⟨by omega,?_⟩
  rw [subAt_eq,hy',← List.prefix_iff_eq_take.mp h]
  exact beq_self_eq_true _
theorem rp_parts (x y z:Str) (hy:1<=y.length):∀ (cuts:List Nat) (a f:Nat),ChainG x y x.length a cuts f->(∀ k,f<=k->¬ At x y x.length k)->(Str.join z (partsFrom x y.length a cuts)).cps.toList=rp y.cps.toList z.cps.toList 0 (x.cps.toList.drop a)
 | [],a,f,h,hn=>by
  have e:f=a:=h
  subst e
  show (strSub x f x.length).cps.toList=_
  rw [strSub_toList,rp_free (x.length - f) _ fun k _ e=>hn (f+k) (Nat.le_add_right ..) ((at_iff hy).mpr (by rw [← List.drop_drop];exact e)),List.drop_drop]
  have:x.cps.toList.drop (f+(x.length - f))=[]:=List.drop_eq_nil_of_le (by simp [Str.length];omega)
  rw [this,rp,List.append_nil]
 | c::r,a,f,h,hn=>by
  obtain ⟨hac,hat,hfree,hr⟩:=h
  have ih:=rp_parts x y z hy r (c+y.length) f hr hn
  obtain ⟨p,q,e⟩:=partsFrom_ne x y.length (c+y.length) r
  show (Str.join z (strSub x a c::partsFrom x y.length (c+y.length) r)).cps.toList=_
  rw [e] at ih ⊢
  show (strSub x a c++z++Str.join z (p::q)).cps.toList=_
  simp only [Str.cps_append,Array.toList_append]
  rw [ih,strSub_toList,rp_free (c - a) (x.cps.toList.drop a) fun k hk e=>hfree (a+k) (Nat.le_add_right ..) (by omega) ((at_iff hy).mpr (by rw [← List.drop_drop];exact e)),List.drop_drop,Nat.add_sub_cancel' hac,
   rp_hit (by simpa [Str.length] using hy) ((at_iff hy).mp hat),List.drop_drop,List.append_assoc]
  simp [Str.length]
theorem BU (x y z:Str) (hy:1<=y.length):(Txt.replace x y z).cps.toList=rp y.cps.toList z.cps.toList 0 x.cps.toList:=by
 obtain ⟨f,h,hn⟩:=occ_tight x y hy
 have key:=rp_parts x y z hy _ 0 f h hn
 rw [List.drop_zero] at key
 unfold Txt.replace
 have h0:(y.length==0)=false:=by simp;omega
 rw [h0,Bool.false_and,Bool.or_false]
 cases he:(occurrences x y 0 x.length (x.length+1)).isEmpty
 ·rw [if_neg Bool.false_ne_true,glued_eq_join,partsBetween_eq]
  exact key
 ·rw [if_pos rfl,← key,List.isEmpty_iff.mp he]
  show _=(strSub x 0 x.length).cps.toList
  rw [sub_whole]
theorem rp_one (a b:Nat):∀ l:List Nat,rp [a] [b] 0 l=l.map fun c=>if c=a then b else c
 | []=>rfl
 | c::l=>by
  rw [rp,List.map_cons]
  by_cases h:c=a
  ·subst h
   rw [if_pos rfl,if_pos (by simp [List.isPrefixOf])]
   exact congrArg (b::·) (rp_one c b l)
  ·rw [if_neg h,if_neg (by simp [List.isPrefixOf];exact fun e=>h e.symm)]
   exact congrArg (c::·) (rp_one a b l)
noncomputable def Ay (l:List Nat):List Nat:=((l.dropWhile Unicode.isSpace).reverse.dropWhile Unicode.isSpace).reverse
theorem DB (p:Nat->Bool):∀ l:List Nat,l.drop (l.takeWhile p).length=l.dropWhile p
 | []=>rfl
 | c::l=>by
  by_cases h:p c=true
  ·rw [List.takeWhile_cons_of_pos h,List.dropWhile_cons_of_pos h];exact DB p l
  ·rw [List.takeWhile_cons_of_neg h,List.dropWhile_cons_of_neg h];rfl
theorem E0 (x:Str):(Txt.strip x).cps.toList=Ay x.cps.toList:=by
 have e:Txt.strip x=stripped Unicode.isSpace true true x:=by
  unfold Txt.strip Txt.stripBy
  split
  ·rename_i h
   unfold stripSame at h
   rw [Bool.and_eq_true,beq_iff_eq,beq_iff_eq] at h
   unfold stripped
   rw [h.2,h.1,sub_whole]
  ·rfl
 rw [e]
 unfold stripped stripHi stripLo
 simp only [if_true]
 rw [strSub_toList,DB]
 unfold Ay
 have hx:x.length=x.cps.toList.length:=by simp [Str.length]
 have h1:=congrArg List.length (DB Unicode.isSpace x.cps.toList)
 rw [List.length_drop] at h1
 have h2:x.length - ((x.cps.toList.dropWhile Unicode.isSpace).reverse.takeWhile Unicode.isSpace).length - (x.cps.toList.takeWhile Unicode.isSpace).length=(x.cps.toList.dropWhile Unicode.isSpace).length - ((x.cps.toList.dropWhile Unicode.isSpace).reverse.takeWhile Unicode.isSpace).length:=by omega
 rw [h2]
 generalize x.cps.toList.dropWhile Unicode.isSpace=D
 rw [← DB Unicode.isSpace D.reverse,List.drop_reverse,List.reverse_reverse]
noncomputable def cs (c:Nat) (l:List Nat):List Nat:=if c=45/\l.head?=some 45 then l else c::l
noncomputable def col (l:List Nat):List Nat:=l.foldr cs []
noncomputable def nodd:List Nat->Bool
 | a::b::l=>!(a==45&&b==45)&&nodd (b::l)
 | _=>true
noncomputable def dd (l:List Nat):List Nat:=rp [45,45] [45] 0 l
theorem dd_two (l:List Nat):dd (45::45::l)=45::dd l:=rfl
theorem dd_one {l:List Nat} (h:¬ (c=45/\l.head?=some 45)):dd (c::l)=c::dd l:=by
 unfold dd
 rw [rp,if_neg]
 intro e
 refine h ?_
 cases l with
 | nil=>simp [List.isPrefixOf] at e
 | cons b l=>
  simp [List.isPrefixOf] at e
  exact ⟨e.1.symm,by rw [← e.2];rfl⟩
theorem cs_cs (l:List Nat):cs 45 (cs 45 l)=cs 45 l:=by
 by_cases h:l.head?=some 45
 ·have e:cs 45 l=l:=if_pos ⟨rfl,h⟩
  rw [e,e]
 ·have e:cs 45 l=45::l:=if_neg fun e=>h e.2
  rw [e]
  exact if_pos ⟨rfl,rfl⟩
theorem Ek:∀ (k:Nat) (l:List Nat),l.length<=k->col (dd l)=col l/\(dd l).length<=l.length/\((dd l).length=l.length->dd l=l/\nodd l=true)
 | 0,l,h=>by
  rw [List.length_eq_zero_iff.mp (Nat.le_zero.mp h)]
  exact ⟨rfl,Nat.le_refl _,fun _=>⟨rfl,rfl⟩⟩
 | k+1,[],_=>⟨rfl,Nat.le_refl _,fun _=>⟨rfl,rfl⟩⟩
 | k+1,c::l,h=>by
  have hl:l.length<=k:=Nat.le_of_succ_le_succ h
  by_cases hc:c=45/\l.head?=some 45
  ·obtain ⟨rfl,hh⟩:=hc
   cases l with
   | nil=>cases hh
   | cons b l=>
    obtain rfl:b=45:=Option.some.inj hh
    obtain ⟨h1,h2,h3⟩:=Ek k l (by rw [List.length_cons] at hl;omega)
    rw [dd_two]
    refine ⟨?_,?_,fun e=>?_⟩
    ·show cs 45 (col (dd l))=cs 45 (cs 45 (col l))
     rw [h1,cs_cs]
    ·rw [List.length_cons,List.length_cons,List.length_cons];omega
    ·rw [List.length_cons,List.length_cons,List.length_cons] at e;omega
  ·obtain ⟨h1,h2,h3⟩:=Ek k l hl
   rw [dd_one hc]
   refine ⟨congrArg (cs c) h1,Nat.succ_le_succ h2,fun e=>?_⟩
   obtain ⟨h4,h5⟩:=h3 (Nat.succ.inj e)
   refine ⟨congrArg (c::·) h4,?_⟩
   cases l with
   | nil=>rfl
   | cons b l=>
    show (!(c==45&&b==45)&&nodd (b::l))=true
    rw [h5,Bool.and_true,Bool.not_eq_true']
    cases hb:(c==45&&b==45) with
    | false=>rfl
    | true=>
     rw [Bool.and_eq_true,beq_iff_eq,beq_iff_eq] at hb
     exact absurd ⟨hb.1,by rw [← hb.2];rfl⟩ hc
theorem Eo:∀ (l:List Nat),nodd l=true->col l=l
 | [],_=>rfl
 | [a],_=>by show cs a []=_;unfold cs;rw [if_neg (by simp)]
 | a::b::l,h=>by
  unfold nodd at h
  rw [Bool.and_eq_true] at h
  show cs a (col (b::l))=_
  rw [Eo (b::l) h.2]
  unfold cs
  rw [if_neg fun e=>?_]
  have h2:b=45:=Option.some.inj e.2
  rw [e.1,h2] at h
  exact Bool.noConfusion h.1
theorem s_inj {a b:Str} (h:a.cps.toList=b.cps.toList):a=b:=PyProof.Rows.str_of_list h
theorem rep_dd (x:Str):(Txt.replace x scm sbo).cps.toList=dd x.cps.toList:=BU _ _ _ (by decide)
theorem coll_col:∀ (k:Nat) (x:Str),x.length<=k->x.length<=900->Coll x ⟨⟨col x.cps.toList⟩⟩
 | k,x,hk,hx=>by
  obtain ⟨h1,h2,h3⟩:=Ek _ x.cps.toList (Nat.le_refl _)
  have hl:x.length=x.cps.toList.length:=by simp [Str.length]
  by_cases e:(dd x.cps.toList).length=x.cps.toList.length
  ·obtain ⟨h4,h5⟩:=h3 e
   rw [Eo _ h5]
   exact .fix hx (s_inj ((rep_dd x).trans h4))
  ·match k,hk with
   | 0,hk=>omega
   | k+1,hk=>
    have hy:(Txt.replace x scm sbo).length=(dd x.cps.toList).length:=by rw [← rep_dd];simp [Str.length]
    have ih:=coll_col k (Txt.replace x scm sbo) (by omega) (by omega)
    rw [rep_dd,h1] at ih
    refine .step hx rfl (beq_eq_false_iff_ne.mpr fun eq=>e ?_) ih
    rw [← rep_dd,eq]
theorem trm_of {z:List Nat} (hc:c≠45):∀ (k:Nat),(z++[c]).length+k<=900->Trm (z++[c]++List.replicate k 45) (z++[c])
 | 0,h=>by
  rw [List.replicate_zero,List.append_nil]
  exact .fix (by simp at h;omega) hc
 | k+1,h=>by
  rw [List.replicate_succ',← List.append_assoc]
  exact .step (by simp at h ⊢;omega) (trm_of hc k (by omega))
theorem Cb:∀ {l m:List Nat},nodd l=true->nodd m=true->¬ (l.getLast?=some 45/\m.head?=some 45)->nodd (l++m)=true
 | [],_,_,h,_=>h
 | [a],[],_,_,_=>rfl
 | [a],b::m,_,h,hn=>by
  show (!(a==45&&b==45)&&nodd (b::m))=true
  rw [h,Bool.and_true,Bool.not_eq_true']
  cases hb:(a==45&&b==45) with
  | false=>rfl
  | true=>
   rw [Bool.and_eq_true,beq_iff_eq,beq_iff_eq] at hb
   exact absurd ⟨by rw [hb.1];rfl,by rw [hb.2];rfl⟩ hn
 | a::b::l,m,h,hm,hn=>by
  unfold nodd at h
  rw [Bool.and_eq_true] at h
  show (!(a==45&&b==45)&&nodd ((b::l)++m))=true
  rw [Bool.and_eq_true]
  exact ⟨h.1,Cb h.2 hm fun e=>hn ⟨by rw [List.getLast?_cons_cons];exact e.1,e.2⟩⟩
theorem col_app:∀ {l:List Nat} (m:List Nat),nodd l=true->l≠[]->l.getLast?≠some 45->col (l++m)=l++col m
 | [],_,_,h,_=>absurd rfl h
 | [a],m,_,_,h=>by
  show cs a (col m)=_
  unfold cs
  rw [if_neg fun e=>h (by rw [e.1];rfl)];rfl
 | a::b::l,m,h,_,hl=>by
  unfold nodd at h
  rw [Bool.and_eq_true] at h
  have ih:=col_app (l:=b::l) m h.2 (List.cons_ne_nil _ _) (by rwa [List.getLast?_cons_cons] at hl)
  show cs a (col ((b::l)++m))=_
  rw [ih]
  unfold cs
  rw [if_neg fun e=>?_];rfl
  have h2:b=45:=Option.some.inj e.2
  rw [e.1,h2] at h
  exact Bool.noConfusion h.1
noncomputable def okL:List Nat:=[43,45,46,48,49,57,67,82,95,97,98,99,100,101,104,108,112,114,116,118,120]
theorem ok_space:∀ c∈okL,Unicode.isSpace c=false:=by decide +kernel
theorem ok_u:∀ c∈okL,c≠117:=by decide +kernel
noncomputable def f1 (a b c:Nat):Nat:=if c=a then b else c
noncomputable def trF (c:Nat):Nat:=f1 41 45 (f1 40 45 (f1 34 45 (f1 59 45 (f1 58 45 (f1 92 45 (f1 47 45 (f1 32 95 c)))))))
theorem ok_tr:∀ c∈okL,trF c=c:=by decide +kernel
theorem tr_id:∀ {l:List Nat},(∀ c∈l,c∈okL)->l.map trF=l
 | [],_=>rfl
 | c::l,h=>by rw [List.map_cons,ok_tr c (h c (List.mem_cons_self ..)),tr_id fun a ha=>h a (List.mem_cons_of_mem _ ha)]
noncomputable def unk (l:List Nat):List Nat:=rp [117,110,107,110,111,119,110] [] 0 l
theorem DG:∀ {l:List Nat} (m:List Nat),(∀ c∈l,c∈okL)->unk (l++m)=l++unk m
 | [],_,_=>rfl
 | c::l,m,h=>by
  have ih:=DG (l:=l) m fun a ha=>h a (List.mem_cons_of_mem _ ha)
  unfold unk at ih ⊢
  have hc:=ok_u c (h c (List.mem_cons_self ..))
  rw [List.cons_append,rp,if_neg (by simp [List.isPrefixOf];exact fun e=>absurd e.symm hc),ih];rfl
theorem Dr (y:List Nat):∀ (k:Nat) (l:List Nat),(rp y [] k l).length<=l.length
 | k,[]=>by cases k<;>exact Nat.le_refl _
 | k+1,c::l=>Nat.le_succ_of_le (Dr y k l)
 | 0,c::l=>by
  rw [rp]
  split
  ·exact Nat.le_succ_of_le (Dr y _ l)
  ·exact Nat.succ_le_succ (Dr y 0 l)
noncomputable def glue:List (List Nat)->List Nat
 | []=>[]
 | [a]=>a
 | a::b::r=>a++45::glue (b::r)
theorem glue_eq:∀ l:List Str,(Str.join sbo l).cps.toList=glue (l.map fun x=>x.cps.toList)
 | []=>rfl
 | [a]=>rfl
 | a::b::r=>by
  show (a++S [45]++Str.join sbo (b::r)).cps.toList=_
  simp only [Str.cps_append,Array.toList_append]
  rw [glue_eq (b::r),List.append_assoc];rfl
theorem join_glue (ts:List Str):(Cc ts).cps.toList=glue (((ts.map fun x=>x.cps.toList).filter fun l=>l.length != 0).map Ay):=by
 unfold Cc Txt.join
 rw [glued_eq_join,glue_eq,List.map_map,List.filter_map,List.map_map]
 refine congrArg glue ?_
 have:((fun l:List Nat=>l.length != 0) ∘ fun x:Str=>x.cps.toList)=fun x:Str=>x.length != 0:=by
  funext x
  simp [Str.length]
 rw [this]
 exact List.map_congr_left fun x _=>E0 x
theorem join_ok:∀ {l:List Str},l.length<=3->(∀ x∈l,x.length<=1000)->JoinOk sbo l=true
 | [],_,_=>rfl
 | [a],_,h=>by
  have:=h a (by simp)
  simp [JoinOk,tooLong,sizeLine,BF];try omega
 | [a,b],_,h=>by
  have:=h a (by simp)
  have:=h b (by simp)
  simp [JoinOk,tooLong,sizeLine,BF];omega
 | [a,b,c],_,h=>by
  have:=h a (by simp)
  have:=h b (by simp)
  have:=h c (by simp)
  simp [JoinOk,tooLong,sizeLine,BF];omega
 | _::_::_::_::_,h,_=>by simp at h
theorem strip_len (l:List Nat):(Ay l).length<=l.length:=by
 unfold Ay
 rw [List.length_reverse]
 refine Nat.le_trans ((List.dropWhile_sublist _).length_le) ?_
 rw [List.length_reverse]
 exact (List.dropWhile_sublist _).length_le
theorem rep1 (x:Str) (a b:Nat):(Txt.replace x (S [a]) (S [b])).cps.toList=x.cps.toList.map (f1 a b):=by
 rw [BU _ (S [a]) _ (Nat.le_refl 1)]
 exact rp_one a b _
theorem CT (x:Str):x.length=x.cps.toList.length:=PySem.W.KWk.len_list
theorem plat_of {ts:List Str} {Z:List Nat} (k:Nat) (hn:ts.length<=3) (hts:∀ x∈ts,x.length<=100) (hl:(Cc ts).length<=900)
  (hz:col (unk ((Cc ts).cps.toList.map trF))=Z++List.replicate k 45) (h0:Z≠[]) (h1:Z.getLast?≠some 45) (h2:Z.length+k<=900):Dh ts Z:=by
 refine ⟨fun x hx=>Nat.le_trans (hts x hx) (by decide),join_ok ?_ ?_,_,_,_,_,_,_,_,_,_,col (unk ((Cc ts).cps.toList.map trF)),⟨rfl,rfl,rfl,rfl,rfl,rfl,rfl,rfl,rfl⟩,?_,?_,?_⟩
 ·rw [List.length_map]
  exact Nat.le_trans (List.length_filter_le _ _) hn
 ·intro y hy
  obtain ⟨x,hx,rfl⟩:=List.mem_map.mp hy
  have h3:=hts x ((List.mem_filter.mp hx).1)
  rw [CT,E0]
  refine Nat.le_trans (strip_len _) ?_
  rw [← CT]
  omega
 ·have e9:=Dr [117,110,107,110,111,119,110] 0
  have hr:∀ x:Str,(Txt.replace x saw (S [])).length<=x.length:=fun x=>by
   rw [CT,BU _ _ _ (by decide),CT x]
   exact e9 _
  have h8:∀ (x:Str) (a b:Nat),(Txt.replace x (S [a]) (S [b])).length=x.length:=fun x a b=>by rw [CT,rep1,List.length_map,← CT]
  simp only [h8]
  refine ⟨hl,hl,hl,hl,hl,hl,hl,hl,hl,?_⟩
  exact Nat.le_trans (hr _) (by simp only [h8];exact hl)
 ·have hr:∀ x:Str,(Txt.replace x saw (S [])).cps.toList=unk x.cps.toList:=fun x=>BU _ _ _ (by decide)
  have h8:∀ (x:Str) (a b:Nat),(Txt.replace x (S [a]) (S [b])).length=x.length:=fun x a b=>by rw [CT,rep1,List.length_map,← CT]
  have e:=coll_col _ (Txt.replace (Txt.replace (Txt.replace (Txt.replace (Txt.replace (Txt.replace (Txt.replace (Txt.replace (Txt.replace (Cc ts) sco (S [95])) scp sbo) (S [92]) sbo) (S [58]) sbo) (S [59]) sbo) (S [34]) sbo) scq sbo) (S [41]) sbo) saw (S [])) (Nat.le_refl _) ?_
  ·rw [hr] at e
   simp only [rep1,List.map_map] at e
   exact e
  ·rw [CT,hr]
   refine Nat.le_trans (Dr _ _ _) ?_
   simp only [rep1,List.length_map]
   rw [← CT];exact hl
 ·rw [hz]
  obtain ⟨W,c,rfl⟩:∃ W c,Z=W++[c]:=⟨Z.dropLast,Z.getLast h0,(List.dropLast_concat_getLast h0).symm⟩
  exact trm_of (fun e=>h1 (by rw [e];simp)) k h2
structure Nm (n:Nat) (l:List Nat):Prop where
 ok:∀ c∈l,c∈okL
 nd:nodd l=true
 last:l.getLast?≠some 45
 len:l.length<=10*n
 nil:n=0->l=[]
 ne:n≠0->l≠[]
structure Lb (l:List Nat):Prop where
 ok:∀ c∈l,c∈okL
 nd:nodd l=true
 last:l.getLast?≠some 45
 len:l.length<=6
 head:l.head?≠some 45
 ne:l≠[]
theorem lab_lb:∀ r,r<14->Lb (lab r).cps.toList
 | 0,_ | 1,_ | 2,_ | 3,_ | 4,_ | 5,_ | 6,_ | 7,_ | 8,_ | 9,_ | 10,_ | 11,_ | 12,_ | 13,_=>⟨by decide,by decide,by decide,by decide,by decide,by decide⟩
 | n+14,h=>by omega
theorem Bw {l:List Nat} (h1:∀ c,l.head?=some c->Unicode.isSpace c=false) (h2:∀ c,l.getLast?=some c->Unicode.isSpace c=false):Ay l=l:=by
 have key:∀ m:List Nat,(∀ c,m.head?=some c->Unicode.isSpace c=false)->m.dropWhile Unicode.isSpace=m:=by
  intro m h
  cases m with
  | nil=>rfl
  | cons a m=>rw [List.dropWhile_cons,h a rfl];rfl
 unfold Ay
 rw [key l h1,key _ (by rw [List.head?_reverse];exact h2),List.reverse_reverse]
structure ZF (xs ys Z:List Nat):Prop where
 ex:∃ A B C,Z=A++(xs++(B++(ys++C)))/\(A=[]∨A=[45]/\(xs++ys).head?≠some 45)/\(xs=[]/\B=[]∨xs≠[]/\(B=[45]∨B=[95]))/\(C=[]∨C=[46])
section
variable {xs ys:List Nat}
theorem csd (m:List Nat):cs 45 (45::m)=45::m:=if_pos ⟨rfl,rfl⟩
theorem csn (m:List Nat) (h:c≠45):cs c m=c::m:=if_neg fun e=>h e.1
theorem csh {m:List Nat} (h:m.head?≠some 45):cs 45 m=45::m:=if_neg fun e=>h e.2
theorem B2 {l:List Nat} (m:List Nat) (h:l≠[]):(l++m).head?=l.head?:=by
 cases l with
 | nil=>exact absurd rfl h
 | cons a l=>rfl
theorem Bl {l:List Nat} (m:List Nat) (h:l≠[]):(m++l).getLast?=l.getLast?:=by
 rw [List.getLast?_append]
 cases e:l.getLast? with
 | none=>exact absurd (List.getLast?_eq_none_iff.mp e) h
 | some a=>rfl
theorem CC {l:List Nat} (h:∀ c∈l,c∈okL):∀ c,l.head?=some c->Unicode.isSpace c=false:=fun c e=>ok_space c (h c (List.mem_of_mem_head? e))
theorem CB {l:List Nat} (h:∀ c∈l,c∈okL):∀ c,l.getLast?=some c->Unicode.isSpace c=false:=fun c e=>ok_space c (h c (List.mem_of_getLast? e))
noncomputable def dl (xs ys:List Nat):Nat->List (List Nat)
 | 0=>[xs,ys]
 | 1=>[xs++[32],[117,110,107,110,111,119,110],ys]
 | 2=>[xs,40::(ys++[41])]
 | 3=>[xs,[],47::(ys++[58])]
 | 4=>[xs,[9],ys++[59]]
 | 5=>[92::xs,34::ys]
 | 6=>[xs++32::ys]
 | _=>[xs,ys++[46],[117,110,107,110,111,119,110]]
theorem dl_eq:∀ k,k<8->(BJ ⟨⟨xs⟩⟩ ⟨⟨ys⟩⟩ k).map (fun x=>x.cps.toList)=dl xs ys k
 | 0,_ | 1,_ | 2,_ | 3,_ | 4,_ | 5,_ | 6,_ | 7,_=>by
  simp only [BJ,dl,List.map_cons,List.map_nil,Str.cps_append,Array.toList_append,S]
  try simp
 | n+8,h=>by omega
theorem glue_len:∀ l:List (List Nat),(∀ a∈l,a.length<=100)->(glue l).length<=101*l.length
 | [],_=>Nat.le_refl _
 | [a],h=>by
  have:=h a (by simp)
  show a.length<=_
  rw [List.length_singleton];omega
 | a::b::r,h=>by
  have h1:=h a (by simp)
  have h2:=glue_len (b::r) fun c hc=>h c (List.mem_cons_of_mem _ hc)
  show (a++45::glue (b::r)).length<=101*((b::r).length+1)
  rw [List.length_append,List.length_cons]
  omega
theorem cs_len (c:Nat) (l:List Nat):(cs c l).length<=l.length+1:=by
 unfold cs
 split
 ·exact Nat.le_succ _
 ·exact Nat.le_refl _
theorem col_len:∀ l:List Nat,(col l).length<=l.length
 | []=>Nat.le_refl _
 | c::l=>Nat.le_trans (cs_len c (col l)) (Nat.succ_le_succ (col_len l))
theorem dl_ok (k:Nat) (hx:xs.length<=50) (hy:ys.length<=6):(dl xs ys k).length<=3/\∀ l∈dl xs ys k,l.length<=100:=by
 unfold dl
 split<;>(refine ⟨by simp,fun l hl=>?_⟩;simp at hl;rcases hl with rfl | hl)<;>(try rcases hl with rfl | hl)<;>(try subst hl)<;>(try simp)<;>omega
theorem dplat {J Z:List Nat} (k r:Nat) (hk:k<8) (hx:xs.length<=50) (hy:ys.length<=6) (hJ:glue (((dl xs ys k).filter fun l=>l.length != 0).map Ay)=J)
  (hz:col (unk (J.map trF))=Z++List.replicate r 45) (h0:Z≠[]) (h1:Z.getLast?≠some 45):Dh (BJ ⟨⟨xs⟩⟩ ⟨⟨ys⟩⟩ k) Z:=by
 have hL:=dl_eq (xs:=xs) (ys:=ys) k hk
 obtain ⟨hn,hts⟩:=dl_ok k hx hy
 generalize BJ ⟨⟨xs⟩⟩ ⟨⟨ys⟩⟩ k=ts at hL
 have hj:(Cc ts).cps.toList=J:=by rw [join_glue,hL];exact hJ
 have hl:J.length<=303:=by
  rw [← hJ]
  refine Nat.le_trans (glue_len _ fun a ha=>?_) ?_
  ·obtain ⟨b,hb,rfl⟩:=List.mem_map.mp ha
   exact Nat.le_trans (strip_len b) (hts b (List.mem_filter.mp hb).1)
  ·rw [List.length_map]
   have:=List.length_filter_le (fun l:List Nat=>l.length != 0) (dl xs ys k)
   omega
 have h2:=congrArg List.length hz
 have h3:=col_len (unk (J.map trF))
 have h4:(unk (J.map trF)).length<=_:=Dr _ _ _
 rw [List.length_append,List.length_replicate] at h2
 rw [List.length_map] at h4
 refine plat_of r ?_ (fun x hx=>?_) ?_ (by rw [hj];exact hz) h0 h1 (by omega)
 ·rw [← List.length_map (f:=fun x:Str=>x.cps.toList),hL];exact hn
 ·rw [CT];exact hts _ (hL▸List.mem_map_of_mem hx)
 ·rw [CT,hj];omega
theorem unk_id {l:List Nat} (h:∀ c∈l,c∈okL):unk l=l:=by
 have:=DG [] h
 rwa [List.append_nil,show unk []=[] from rfl,List.append_nil] at this
theorem unkU (m:List Nat):unk (117::110::107::110::111::119::110::m)=unk m:=rfl
theorem unk45 (m:List Nat):unk (45::m)=45::unk m:=rfl
theorem unk46 (m:List Nat):unk (46::m)=46::unk m:=rfl
theorem unk95 (m:List Nat):unk (95::m)=95::unk m:=rfl
theorem B3 (m:List Nat):col (45::m)=cs 45 (col m):=rfl
theorem col46 (m:List Nat):col (46::m)=46::col m:=csn (c:=46) _ (by decide)
theorem col95 (m:List Nat):col (95::m)=95::col m:=csn (c:=95) _ (by decide)
theorem strU:Ay [117,110,107,110,111,119,110]=[117,110,107,110,111,119,110]:=by decide +kernel
theorem strT:Ay [9]=[]:=by decide +kernel
theorem sp32:Unicode.isSpace 32=true:=by decide +kernel
theorem sp_o:∀ c∈[34,40,41,46,47,58,59,92],Unicode.isSpace c=false:=by decide +kernel
theorem plat_step {k:Nat} (hx:Nm n xs) (hy:Lb ys) (hn:n<=5) (hk:k<8):∃ Z,Dh (BJ ⟨⟨xs⟩⟩ ⟨⟨ys⟩⟩ k) Z/\ZF xs ys Z:=by
 have hxl:=hx.len
 have hyl:=hy.len
 have hx5:xs.length<=50:=by omega
 have tx:=tr_id hx.ok
 have ty:=tr_id hy.ok
 have cy:=fun m=>col_app m hy.nd hy.ne hy.last
 have cy0:=Eo ys hy.nd
 have c5:∀ m,cs 45 (ys++m)=45::(ys++m):=fun m=>csh (by rw [B2 m hy.ne];exact hy.head)
 have c50:cs 45 ys=45::ys:=csh hy.head
 have sy:Ay ys=ys:=Bw (CC hy.ok) (CB hy.ok)
 have sya:∀ (c:Nat),c∈[34,40,41,46,47,58,59,92]->Ay (ys++[c])=ys++[c]:=fun c hc=>Bw (by rw [B2 _ hy.ne];exact CC hy.ok) (fun a e=>by rw [List.getLast?_concat] at e;exact Option.some.inj e▸sp_o c hc)
 have syb:∀ (a c:Nat),a∈[34,40,41,46,47,58,59,92]->c∈[34,40,41,46,47,58,59,92]->Ay (a::(ys++[c]))=a::(ys++[c]):=fun a c ha hc=>Bw (fun b e=>Option.some.inj e▸sp_o a ha) (fun b e=>by rw [← List.cons_append,List.getLast?_concat] at e;exact Option.some.inj e▸sp_o c hc)
 have syc:Ay (34::ys)=34::ys:=Bw (fun b e=>Option.some.inj e▸sp_o 34 (by decide)) (fun b e=>CB hy.ok b (by rwa [show (34::ys).getLast?=ys.getLast? from Bl [34] hy.ne] at e))
 have hyne:ys.length≠0:=fun e=>hy.ne (List.length_eq_zero_iff.mp e)
 have lastC:∀ m:List Nat,(m++ys).getLast?≠some 45:=fun m=>by rw [Bl m hy.ne];exact hy.last
 have uy:=unk_id hy.ok
 have uya:=fun m=>DG m hy.ok
 have hb:(ys.length != 0)=true:=by simpa using hyne
 by_cases h0:n=0
 ·have ex:=hx.nil h0
  subst ex
  have t9':Ay [32]=[]:=by decide +kernel
  have ta:Ay [92]=[92]:=by decide +kernel
  have s6:Ay (32::ys)=ys:=by
   have:Ay (32::ys)=Ay ys:=by unfold Ay;rw [List.dropWhile_cons,sp32];rfl
   rw [this,sy]
  match k,hk with
  | 0,_=>exact ⟨ys,dplat (J:=ys) 0 0 (by decide) hx5 hyl (by simp [dl,hyne,sy,glue]) (by rw [ty,uy,cy0,List.replicate_zero,List.append_nil]) hy.ne hy.last,⟨[],[],[],by simp,.inl rfl,.inl ⟨rfl,rfl⟩,.inl rfl⟩⟩
  | 1,_=>exact ⟨45::ys,dplat (J:=45::117::110::107::110::111::119::110::45::ys) 1 0 (by decide) hx5 hyl (by simp only [dl,List.nil_append];simp [hyne,hy.ne,sy,glue,t9',strU]) (by
    simp only [List.map_cons,ty]
    show col (45::45::unk ys)=_
    rw [uy,B3,B3,cy0,c50,csd];simp) (by simp) (lastC [45]),⟨[45],[],[],by simp,.inr ⟨rfl,by simpa using hy.head⟩,.inl ⟨rfl,rfl⟩,.inl rfl⟩⟩
  | 2,_=>exact ⟨45::ys,dplat (J:=40::(ys++[41])) 2 1 (by decide) hx5 hyl (by simp [dl,glue,syb]) (by
    rw [List.map_cons,List.map_append,ty]
    show col (45::unk (ys++[45]))=_
    rw [uya,B3,cy]
    show cs 45 (ys++[45])=_
    rw [c5];simp) (by simp) (lastC [45]),⟨[45],[],[],by simp,.inr ⟨rfl,by simpa using hy.head⟩,.inl ⟨rfl,rfl⟩,.inl rfl⟩⟩
  | 3,_=>exact ⟨45::ys,dplat (J:=47::(ys++[58])) 3 1 (by decide) hx5 hyl (by simp [dl,glue,syb]) (by
    rw [List.map_cons,List.map_append,ty]
    show col (45::unk (ys++[45]))=_
    rw [uya,B3,cy]
    show cs 45 (ys++[45])=_
    rw [c5];simp) (by simp) (lastC [45]),⟨[45],[],[],by simp,.inr ⟨rfl,by simpa using hy.head⟩,.inl ⟨rfl,rfl⟩,.inl rfl⟩⟩
  | 4,_=>exact ⟨45::ys,dplat (J:=45::(ys++[59])) 4 1 (by decide) hx5 hyl (by simp [dl,glue,sya,strT]) (by
    rw [List.map_cons,List.map_append,ty]
    show col (45::unk (ys++[45]))=_
    rw [uya,B3,cy]
    show cs 45 (ys++[45])=_
    rw [c5];simp) (by simp) (lastC [45]),⟨[45],[],[],by simp,.inr ⟨rfl,by simpa using hy.head⟩,.inl ⟨rfl,rfl⟩,.inl rfl⟩⟩
  | 5,_=>exact ⟨45::ys,dplat (J:=92::45::34::ys) 5 0 (by decide) hx5 hyl (by simp [dl,glue,syc,ta]) (by
    rw [List.map_cons,List.map_cons,List.map_cons,ty]
    show col (45::45::45::unk ys)=_
    rw [uy,B3,B3,B3,cy0,c50,csd,csd];simp) (by simp) (lastC [45]),⟨[45],[],[],by simp,.inr ⟨rfl,by simpa using hy.head⟩,.inl ⟨rfl,rfl⟩,.inl rfl⟩⟩
  | 6,_=>exact ⟨ys,dplat (J:=ys) 6 0 (by decide) hx5 hyl (by simp [dl,s6,glue]) (by rw [ty,uy,cy0,List.replicate_zero,List.append_nil]) hy.ne hy.last,⟨[],[],[],by simp,.inl rfl,.inl ⟨rfl,rfl⟩,.inl rfl⟩⟩
  | 7,_=>exact ⟨ys++[46],dplat (J:=(ys++[46])++45::[117,110,107,110,111,119,110]) 7 1 (by decide) hx5 hyl (by simp [dl,sya,strU,glue]) (by
    rw [List.append_assoc,List.map_append,ty,uya,cy]
    show ys++[46,45]=_
    simp) (by simp) (by simp),⟨[],[],[46],by simp,.inl rfl,.inl ⟨rfl,rfl⟩,.inr rfl⟩⟩
  | n+8,h=>omega
 ·have hne:=hx.ne h0
  have hxne:xs.length≠0:=fun e=>hne (List.length_eq_zero_iff.mp e)
  have hx0:¬ xs.isEmpty=true:=fun e=>hne (List.isEmpty_iff.mp e)
  have cx:=fun m=>col_app m hx.nd hne hx.last
  have ux:=fun m=>DG m hx.ok
  have sx:Ay xs=xs:=Bw (CC hx.ok) (CB hx.ok)
  have sxs:Ay (xs++[32])=xs:=by
   have:Ay (xs++[32])=Ay xs:=by
    unfold Ay
    have key:∀ m,(xs++m).dropWhile Unicode.isSpace=xs++m:=fun m=>by
     cases hxs:xs with
     | nil=>exact absurd hxs hne
     | cons a l=>rw [List.cons_append,List.dropWhile_cons,CC hx.ok a (by rw [hxs];rfl)];rfl
    have key0:=key []
    rw [List.append_nil] at key0
    rw [key,key0,List.reverse_append]
    show (List.dropWhile Unicode.isSpace (32::xs.reverse)).reverse=_
    rw [List.dropWhile_cons,sp32];rfl
   rw [this,sx]
  have s5:Ay (92::xs)=92::xs:=Bw (fun b e=>Option.some.inj e▸sp_o 92 (by decide)) (fun b e=>CB hx.ok b (by rwa [show (92::xs).getLast?=xs.getLast? from Bl [92] hne] at e))
  have s6:Ay (xs++32::ys)=xs++32::ys:=Bw (by rw [B2 _ hne];exact CC hx.ok) (by rw [List.append_cons,Bl _ hy.ne];exact CB hy.ok)
  have zf:∀ {Z},Z=xs++45::ys->ZF xs ys Z:=fun e=>⟨[],[45],[],by simp [e],.inl rfl,.inr ⟨hne,.inl rfl⟩,.inl rfl⟩
  have l5:(xs++45::ys).getLast?≠some 45:=by rw [List.append_cons];exact lastC _
  match k,hk with
  | 0,_=>exact ⟨xs++45::ys,dplat (J:=xs++45::ys) 0 0 (by decide) hx5 hyl (by simp [dl,hyne,hxne,hy.ne,hne,sy,sx,glue]) (by
    rw [List.map_append,List.map_cons,tx,ty,ux]
    show col (xs++45::unk ys)=_
    rw [uy,cx,B3,cy0,c50];simp) (by simp) l5,zf rfl⟩
  | 1,_=>exact ⟨xs++45::ys,dplat (J:=xs++45::117::110::107::110::111::119::110::45::ys) 1 0 (by decide) hx5 hyl (by simp [dl,hyne,hxne,hy.ne,hne,sy,sxs,strU,glue]) (by
    simp only [List.map_append,List.map_cons,tx,ty,ux]
    show col (xs++45::45::unk ys)=_
    rw [uy,cx,B3,B3,cy0,c50,csd];simp) (by simp) l5,zf rfl⟩
  | 2,_=>exact ⟨xs++45::ys,dplat (J:=xs++45::40::(ys++[41])) 2 1 (by decide) hx5 hyl (by simp [dl,hxne,hne,sx,syb,glue]) (by
    rw [List.map_append,List.map_cons,List.map_cons,List.map_append,tx,ty,ux]
    show col (xs++45::45::unk (ys++[45]))=_
    rw [uya,cx,B3,B3,cy]
    show xs++cs 45 (cs 45 (ys++[45]))=_
    rw [c5,csd];simp) (by simp) l5,zf rfl⟩
  | 3,_=>exact ⟨xs++45::ys,dplat (J:=xs++45::47::(ys++[58])) 3 1 (by decide) hx5 hyl (by simp [dl,hxne,hne,sx,syb,glue]) (by
    rw [List.map_append,List.map_cons,List.map_cons,List.map_append,tx,ty,ux]
    show col (xs++45::45::unk (ys++[45]))=_
    rw [uya,cx,B3,B3,cy]
    show xs++cs 45 (cs 45 (ys++[45]))=_
    rw [c5,csd];simp) (by simp) l5,zf rfl⟩
  | 4,_=>exact ⟨xs++45::ys,dplat (J:=xs++45::45::(ys++[59])) 4 1 (by decide) hx5 hyl (by simp [dl,hxne,hne,sx,sya,strT,glue]) (by
    rw [List.map_append,List.map_cons,List.map_cons,List.map_append,tx,ty,ux]
    show col (xs++45::45::unk (ys++[45]))=_
    rw [uya,cx,B3,B3,cy]
    show xs++cs 45 (cs 45 (ys++[45]))=_
    rw [c5,csd];simp) (by simp) l5,zf rfl⟩
  | 5,_=>
   have hz:col (unk ((92::(xs++45::34::ys)).map trF))=cs 45 (xs++45::ys):=by
    rw [List.map_cons,List.map_append,List.map_cons,List.map_cons,tx,ty]
    show col (45::unk (xs++45::45::ys))=_
    rw [ux]
    show col (45::(xs++45::45::unk ys))=_
    rw [uy,B3,cx,B3,B3,cy0,c50,csd]
   by_cases hh:xs.head?=some 45
   ·exact ⟨xs++45::ys,dplat (J:=92::(xs++45::34::ys)) 5 0 (by decide) hx5 hyl (by simp [dl,s5,syc,glue]) (by
     rw [hz]
     unfold cs
     rw [if_pos ⟨rfl,by rw [B2 _ hne];exact hh⟩];simp) (by simp) l5,zf rfl⟩
   ·exact ⟨45::(xs++45::ys),dplat (J:=92::(xs++45::34::ys)) 5 0 (by decide) hx5 hyl (by simp [dl,s5,syc,glue]) (by
     rw [hz,csh (by rw [B2 _ hne];exact hh)];simp) (by simp) (by rw [show (45::(xs++45::ys)).getLast?=(xs++45::ys).getLast? from Bl [45] (by simp)];exact l5),⟨[45],[45],[],by simp,.inr ⟨rfl,by rw [B2 _ hne];exact hh⟩,.inr ⟨hne,.inl rfl⟩,.inl rfl⟩⟩
  | 6,_=>exact ⟨xs++95::ys,dplat (J:=xs++32::ys) 6 0 (by decide) hx5 hyl (by simp [dl,s6,glue]) (by
    rw [List.map_append,List.map_cons,tx,ty,ux]
    show col (xs++95::unk ys)=_
    rw [uy,cx,col95,cy0];simp) (by simp) (by rw [List.append_cons];exact lastC _),⟨[],[95],[],by simp,.inl rfl,.inr ⟨hne,.inr rfl⟩,.inl rfl⟩⟩
  | 7,_=>exact ⟨xs++45::(ys++[46]),dplat (J:=xs++45::((ys++[46])++45::[117,110,107,110,111,119,110])) 7 1 (by decide) hx5 hyl (by simp [dl,hxne,hne,sx,sya,strU,glue]) (by
    rw [List.map_append,List.map_cons,List.append_assoc,List.map_append,tx,ty,ux]
    show col (xs++45::unk (ys++[46,45,117,110,107,110,111,119,110]))=_
    rw [uya,cx,B3]
    show xs++cs 45 (col (ys++[46,45]))=_
    rw [cy,c5]
    show xs++45::(ys++[46,45])=_
    simp) (by simp) (by rw [← List.cons_append,← List.append_assoc,List.getLast?_concat];decide),⟨[],[45],[46],by simp,.inl rfl,.inr ⟨hne,.inl rfl⟩,.inr rfl⟩⟩
  | n+8,h=>omega
end
end
section
open PySem PySem.W PySem.W.X PySem.Calls PySem.Spec
variable {W:Wd} {c a:Nat}
theorem Pieces.det {l:List Nat} {ps:List (List Nat)} (h:Pieces l ps):∀ {qs:List (List Nat)},Pieces l qs->ps=qs:=by
 induction h with
 | last h=>
  intro qs hq
  cases hq with
  | last _=>rfl
  | more h' _=>rw [h] at h';cases h'
 | more h _ ih=>
  intro qs hq
  cases hq with
  | last h'=>rw [h] at h';cases h'
  | more h' hq=>
   rw [h] at h'
   cases h'
   rw [ih hq]
theorem tw_app {r:List Nat} (hc:CW c=false):∀ l:List Nat,(l++c::r).takeWhile CW=l.takeWhile CW
 | []=>by rw [List.nil_append,List.takeWhile_cons,hc];rfl
 | a::l=>by
  rw [List.cons_append,List.takeWhile_cons,List.takeWhile_cons,tw_app hc l]
theorem El {r:List Nat} (hc:CW c=false) (hs:C8 c=true):∀ l:List Nat,AP (l++c::r)=match AP l with | some p=>some p | none=>some (l.length,1)
 | []=>by
  show AP (c::r)=some (0,1)
  unfold AP
  rw [hc,hs];rfl
 | a::l=>by
  rw [List.cons_append,AP,AP,tw_app hc l,El hc hs l]
  cases CW a with
  | true=>rfl
  | false=>cases C8 a with
   | true=>rfl
   | false=>cases AP l<;>rfl
theorem Pieces.app {r:List Nat} {qs:List (List Nat)} (hc:CW c=false) (hs:C8 c=true) (hq:Pieces r qs) {l:List Nat} {ps:List (List Nat)} (h:Pieces l ps):Pieces (l++c::r) (ps++[c]::qs):=by
 induction h with
 | @last l h=>
  have e:=El (r:=r) hc hs l
  rw [h] at e
  have z:=Pieces.more (ps:=qs) e (by rw [← List.drop_drop,List.drop_left];exact hq)
  rw [List.take_left,List.drop_left] at z
  exact z
 | @more l a n ps h _ ih=>
  have e:=El (r:=r) hc hs l
  rw [h] at e
  have hle:=(nextM_le h).2
  have z:=Pieces.more (ps:=ps++[c]::qs) e (by rw [List.drop_append_of_le_length hle];exact ih)
  rw [List.take_append_of_le_length (by omega),List.drop_append_of_le_length (by omega),List.take_append_of_le_length (by rw [List.length_drop];omega)] at z
  exact z
theorem Fits.app {a b:List Str} {x y:List KI} (h:Fits W a x) (h':Fits W b y):Fits W (a++b) (x++y):=by
 induction h with
 | nil=>exact h'
 | cons f _ ih=>rw [List.append_assoc];exact .cons f ih
noncomputable def KL (W:Wd) (l:List Nat) (ks:List KI):Prop:=∃ ps,Pieces l ps/\Fits W (ps.map S) ks
theorem KL.key {T:Str} {ks:List KI} (h:KL W T.cps.toList ks):KeyOf W T ks:=by
 intro vs hv
 obtain ⟨ps,hp,hf⟩:=h
 rw [← hv.det hp,List.map_map] at hf
 exact hf
theorem KL.app {l m:List Nat} {x y:List KI} (hc:CW c=false) (hs:C8 c=true) (hf:AV (S [c]) true) (h:KL W l x) (h':KL W m y):KL W (l++c::m) (x++y):=by
 obtain ⟨ps,hp,hx⟩:=h
 obtain ⟨qs,hq,hy⟩:=h'
 refine ⟨_,hq.app hc hs hp,?_⟩
 rw [List.map_append]
 exact hx.app (.cons (im:= .sep) hf hy)
theorem in_45:AV sbo true:=fun _ _=>by kernel_rfl
theorem in_43:AV (S [43]) true:=fun _ _=>by kernel_rfl
theorem in_95:AV (S [95]) true:=fun _ _=>by kernel_rfl
noncomputable def lk:Nat->List KI
 | 0=>[.inl 100,.inl 0,.inl 0,.inr (S [120])]
 | 1=>[.inl 100,.inl 0,.inl 10,.inr (S [100,101,118])]
 | 2=>[.inl 100,.inl 0,.inl 20,.inr (S [97])]
 | 3=>[.inl 100,.inl 0,.inl 20,.inr (S [97,108,112,104,97])]
 | 4=>[.inl 100,.inl 0,.inl 30,.inr (S [98])]
 | 5=>[.inl 100,.inl 0,.inl 30,.inr (S [98,101,116,97])]
 | 6=>[.inl 100,.inl 0,.inl 40,.inr (S [99])]
 | 7=>[.inl 100,.inl 0,.inl 50,.inr (S [82,67])]
 | 8=>[.inl 100,.inl 0,.inl 50,.inr (S [114,99])]
 | 9=>[.inl 100,.inl 0,.inl 100,.inl 9]
 | 10=>[.inl 100,.inl 0,.inl 100,.inl 10]
 | 11=>[.inl 100,.inl 0,.inl 100,.inl 11]
 | 12=>[.inl 100,.inl 0,.inl 200,.inr (S [112])]
 | _=>[.inl 100,.inl 0,.inl 200,.inr (S [112,108])]
section
variable {W:Wd}
theorem kl_nil:KL W [] []:=⟨[[]],.last rfl,.cons (im:= .sep) Dl .nil⟩
theorem in_0:AV (S [48]) false:=fun _ _=>by kernel_rfl
theorem kl_0:KL W [48] [.inl 100,.inl 0]:=⟨[[],[48],[]],.more (a:=0) (n:=1) rfl (.last rfl),.cons (im:= .sep) Dl (.cons (im:= .dig 0) ⟨in_0,words.2.1⟩ (.cons (im:= .sep) Dl .nil))⟩
theorem kl_word {w:List Nat} {k:Int} (hn:AP w=none) (hi:AV (S w) false) (hb:Bad (S w)) (hl:∀ t0,∃ a,((look (stages W) (S w)).getD (.int 0 t0))= .int k a):KL W w [.inl k,.inr (S w)]:=
 ⟨[w],.last hn,.cons (im:= .word k) ⟨hi,hb,hl⟩ .nil⟩
theorem Co {w:List Nat} {k:Int} (ha:CW a=false) (hn:AP (a::w)=none) (hi:AV (S (a::w)) false) (hb:Bad (S (a::w))) (hl:∀ t0,∃ b,((look (stages W) (S (a::w))).getD (.int 0 t0))= .int k b):KL W (48::a::w) [.inl 100,.inl 0,.inl k,.inr (S (a::w))]:=
 ⟨[[],[48],a::w],.more (a:=0) (n:=1) (by rw [AP,List.takeWhile_cons,ha];rfl) (.last hn),.cons (im:= .sep) Dl (.cons (im:= .dig 0) ⟨in_0,words.2.1⟩ (.cons (im:= .word k) ⟨hi,hb,hl⟩ .nil))⟩
theorem kl_num {w:List Nat} {k:Int} (hn:AP w=some (0,w.length)) (hi:AV (S w) false) (hm:Num (S w) k):KL W w [.inl 100,.inl k]:=by
 refine ⟨[[],w,[]],?_,.cons (im:= .sep) Dl (.cons (im:= .dig k) ⟨hi,hm⟩ (.cons (im:= .sep) Dl .nil))⟩
 have z:=Pieces.more (ps:=[[]]) hn (by rw [Nat.zero_add,List.drop_length];exact .last rfl)
 rw [List.drop_zero,List.take_length] at z
 exact z
theorem kl_lab:∀ r,r<14->KL W (lab r).cps.toList (lk r)
 | 0,_=>Co rfl rfl in_x words.1.1 fun t0=>⟨_,look_x W t0⟩
 | 1,_=>Co rfl rfl (fun _ _=>by kernel_rfl) words.1.2.1 fun t0=>⟨_,look_dev W t0⟩
 | 2,_=>Co rfl rfl (fun _ _=>by kernel_rfl) words.1.2.2.1 fun t0=>⟨343,by kernel_rfl⟩
 | 3,_=>Co rfl rfl (fun _ _=>by kernel_rfl) words.1.2.2.2.1 fun t0=>⟨341,by kernel_rfl⟩
 | 4,_=>Co rfl rfl (fun _ _=>by kernel_rfl) words.1.2.2.2.2.1 fun t0=>⟨347,by kernel_rfl⟩
 | 5,_=>Co rfl rfl (fun _ _=>by kernel_rfl) words.1.2.2.2.2.2.1 fun t0=>⟨345,by kernel_rfl⟩
 | 6,_=>Co rfl rfl (fun _ _=>by kernel_rfl) words.1.2.2.2.2.2.2.1 fun t0=>⟨349,by kernel_rfl⟩
 | 7,_=>Co rfl rfl (fun _ _=>by kernel_rfl) words.1.2.2.2.2.2.2.2.1 fun t0=>⟨351,by kernel_rfl⟩
 | 8,_=>KL.app (c:=43) rfl rfl in_43 kl_0 (kl_word rfl (fun _ _=>by kernel_rfl) words.1.2.2.2.2.2.2.2.2.1 fun t0=>⟨353,by kernel_rfl⟩)
 | 9,_=>KL.app (c:=46) rfl rfl in_dot kl_0 (kl_num rfl (fun _ _=>by kernel_rfl) words.2.2.2.1)
 | 10,_=>KL.app (c:=46) rfl rfl in_dot kl_0 (kl_num rfl (fun _ _=>by kernel_rfl) words.2.2.2.2)
 | 11,_=>KL.app (c:=43) rfl rfl in_43 kl_0 (kl_num rfl (fun _ _=>by kernel_rfl) words.2.2.1)
 | 12,_=>Co rfl rfl (fun _ _=>by kernel_rfl) words.1.2.2.2.2.2.2.2.2.2.1 fun t0=>⟨357,by kernel_rfl⟩
 | 13,_=>Co rfl rfl (fun _ _=>by kernel_rfl) words.1.2.2.2.2.2.2.2.2.2.2 fun t0=>⟨355,by kernel_rfl⟩
 | n+14,h=>by omega
end
noncomputable def pk (P:List Nat):List KI:=P.flatMap lk
noncomputable def NO (W:Wd) (P:List Nat) (x:Str):Prop:=(∀ r∈P,r<14)/\Nm P.length x.cps.toList/\KL W x.cps.toList (pk P)
theorem no_nil (W:Wd):NO W [] (S []):=⟨fun _ h=>absurd h List.not_mem_nil,⟨by simp [S],rfl,by simp [S],Nat.le_refl _,fun _=>rfl,fun h=>absurd rfl h⟩,kl_nil⟩
theorem no_law (W:Wd):Dy (NO W) where
 len P x h hP:=by
  have:=h.2.1.len
  rw [CT];omega
 lablen r:=by
  by_cases h:r<14
  ·rw [CT]
   exact Nat.le_trans (lab_lb r h).len (by decide)
  ·obtain ⟨k,rfl⟩:=Nat.exists_eq_add_of_le (Nat.le_of_not_lt h)
   rw [Nat.add_comm];exact (by decide:(S [48,112,108]).length<=400)
 step P x r k h hP hr hk:=by
  obtain ⟨hP14,hx,hkx⟩:=h
  obtain ⟨⟨xs⟩⟩:=x
  have hy:=lab_lb r hr
  have hky:=kl_lab (W:=W) r hr
  generalize lab r=y at hy hky
  obtain ⟨⟨ys⟩⟩:=y
  replace hx:Nm P.length xs:=hx
  replace hy:Lb ys:=hy
  replace hkx:KL W xs (pk P):=hkx
  replace hky:KL W ys (lk r):=hky
  obtain ⟨Z,hz,⟨A,B,C,rfl,hA,hB,hC⟩⟩:=plat_step hx hy hP hk
  refine ⟨_,hz,fun q hq=>?_,?_,?_⟩
  ·rcases List.mem_append.mp hq with hq | hq
   ·exact hP14 q hq
   ·rw [List.mem_singleton.mp hq];exact hr
  ·have hyne:ys++C≠[]:=fun e=>hy.ne (List.append_eq_nil_iff.mp e).1
   have hyh:(ys++C).head?≠some 45:=by rw [B2 _ hy.ne];exact hy.head
   have h1:nodd (ys++C)=true:=Cb hy.nd (by rcases hC with rfl | rfl<;>rfl) fun e=>hy.last e.1
   have h2:(ys++C).getLast?≠some 45:=by
    rcases hC with rfl | rfl
    ·rw [List.append_nil];exact hy.last
    ·simp
   have h3:nodd (xs++(B++(ys++C)))=true/\(xs++(B++(ys++C))).getLast?≠some 45/\(xs++(B++(ys++C))).head?=(xs++ys).head?/\B.length<=1:=by
    rcases hB with ⟨rfl,rfl⟩ | ⟨hne,hB⟩
    ·exact ⟨h1,h2,by rw [List.nil_append,List.nil_append,List.nil_append,B2 _ hy.ne],by decide⟩
    ·refine ⟨Cb hx.nd ?_ fun e=>hx.last e.1,?_,by rw [B2 _ hne,B2 _ hne],by rcases hB with rfl | rfl<;>decide⟩
     ·rcases hB with rfl | rfl<;>exact Cb rfl h1 fun e=>hyh e.2
     ·rw [Bl _ (by intro e;exact hyne (List.append_eq_nil_iff.mp e).2),Bl _ hyne];exact h2
   obtain ⟨h3,h4,h5,h6⟩:=h3
   have hw:xs++(B++(ys++C))≠[]:=fun e=>hyne (List.append_eq_nil_iff.mp (List.append_eq_nil_iff.mp e).2).2
   have hCl:C.length<=1:=by rcases hC with rfl | rfl<;>decide
   have hAl:A.length<=1:=by rcases hA with rfl | ⟨rfl,_⟩<;>decide
   refine ⟨fun c hc=>?_,?_,?_,?_,?_,fun _=>fun e=>hw (List.append_eq_nil_iff.mp e).2⟩
   ·rcases List.mem_append.mp hc with hc | hc
    ·rcases hA with rfl | ⟨rfl,_⟩
     ·exact absurd hc List.not_mem_nil
     ·rw [List.mem_singleton.mp hc];decide
    ·rcases List.mem_append.mp hc with hc | hc
     ·exact hx.ok c hc
     ·rcases List.mem_append.mp hc with hc | hc
      ·rcases hB with ⟨_,rfl⟩ | ⟨_,rfl | rfl⟩
       ·exact absurd hc List.not_mem_nil
       ·rw [List.mem_singleton.mp hc];decide
       ·rw [List.mem_singleton.mp hc];decide
      ·rcases List.mem_append.mp hc with hc | hc
       ·exact hy.ok c hc
       ·rcases hC with rfl | rfl
        ·exact absurd hc List.not_mem_nil
        ·rw [List.mem_singleton.mp hc];decide
   ·rcases hA with rfl | ⟨rfl,hA⟩
    ·exact h3
    ·exact Cb rfl h3 fun e=>hA (by rw [← h5];exact e.2)
   ·show (A++(xs++(B++(ys++C)))).getLast?≠some 45
    rw [Bl _ hw];exact h4
   ·show (A++(xs++(B++(ys++C)))).length<=_
    have:=hx.len
    have:=hy.len
    simp only [List.length_append,List.length_singleton]
    omega
   ·intro e
    rw [List.length_append,List.length_singleton] at e
    omega
  ·have e:pk (P++[r])=pk P++lk r:=by
    unfold pk
    rw [List.flatMap_append]
    show _++(lk r++[])=_
    rw [List.append_nil]
   rw [e]
   have h1:KL W (ys++C) (lk r):=by
    rcases hC with rfl | rfl
    ·rw [List.append_nil];exact hky
    ·have:=KL.app (c:=46) rfl rfl in_dot hky (kl_nil (W:=W))
     rwa [List.append_nil] at this
   have h2:KL W (xs++(B++(ys++C))) (pk P++lk r):=by
    rcases hB with ⟨rfl,rfl⟩ | ⟨hne,rfl | rfl⟩
    ·have hp:pk P=[]:=by
      cases P with
      | nil=>rfl
      | cons a P=>exact absurd rfl (hx.ne (by simp))
     rw [hp];exact h1
    ·exact KL.app rfl rfl in_45 hkx h1
    ·exact KL.app rfl rfl in_95 hkx h1
   rcases hA with rfl | ⟨rfl,_⟩
   ·exact h2
   ·exact KL.app rfl rfl in_45 kl_nil h2
end
section
open PySem PySem.W PySem.W.X PySem.Calls PySem.Spec PyProof.Rows
open PySem.SeqAt PySem.MeetsSeq PySem.MeetsSeq2 PySem.MeetsSeq3 PySem.SeqRoads2
open AutoSeq1 (wpAny_loadPart')
variable {n m u:Nat} {A:Around} {x y:Str} {xs ys:Array Value} {s:Shared}
noncomputable def Ck (A:Around) (s:Shared) (y x:Value):Prop:=∀ (prog:Program) (w:World) (E:Value->Shared->Prop) (Q:Value->Shared->Prop),Q (.bool true) s->wpAny (model prog w) A (richCompare .Lt y x) Q E s
structure LtL (A:Around) (s:Shared) (xs ys:Array Value) (m:Nat):Prop where
 eq:∀ j (h1:j<xs.size) (h2:j<ys.size),j<m->EqAt A s xs[j] ys[j] true
 le:m<=xs.size
 le2:m<=ys.size
 lt:(∃ (h1:m<xs.size) (h2:m<ys.size),EqAt A s xs[m] ys[m] false/\Ck A s xs[m] ys[m])∨(xs.size=m/\m<ys.size)
theorem lt_loop (l b:Addr) (xs ys:Array Value) (n n2 m:Nat) (k:Nat) :
  ∀ i:Nat,i+k=m->Meets (Builtin.«list.__eq__.loop» ⟨[.ref l,.ref b,rawInt i,rawInt 0],[]⟩)
   (fun A R s=>s.heap.get? l=some (A1 xs n)/\s.heap.get? b=some (A1 ys n2)/\LtL A.in1 s xs ys m/\R (.ok (.ret (.bool true))) s):=by
 induction k with
 | zero=>
  intro i hk prog w A R s h
  obtain ⟨hp,g,d,tk,os⟩:=s;obtain ⟨hl,hb,hL,h⟩:=h
  obtain rfl:i=m:=hk
  rcases hL.lt with ⟨h1,h2,he,hlt⟩ | ⟨h1,h2⟩
  ·wp_walk using wpAny_loadPart' hl,wpAny_loadPart' hb
   have hi1:xs[((i:Nat):Int).toNat]?=some xs[i]:=by simp [h1]
   have hi2:ys[((i:Nat):Int).toNat]?=some ys[i]:=by simp [h2]
   rw [hi1,hi2]
   refine wpAny_bind (he prog w _ _ ?_)
   wp_walk using wpAny_loadPart' hl,wpAny_loadPart' hb
   rw [hi1,hi2]
   refine wpAny_bind (hlt prog w _ _ ?_)
   wp_walk
   exact h
  ·wp_walk using wpAny_loadPart' hl,wpAny_loadPart' hb
   have hi1:xs[((i:Nat):Int).toNat]?=none:=by simp;omega
   rw [hi1]
   wp_walk using wpAny_loadPart' hl,wpAny_loadPart' hb
   show R (.ok (.ret (.bool (decide (xs.size<ys.size))))) _
   rw [decide_eq_true (by omega)]
   exact h
 | succ k ih=>
  intro i hk prog w A R s h
  obtain ⟨hp,g,d,tk,os⟩:=s;obtain ⟨hl,hb,hL,h⟩:=h
  have g1:=hL.le
  have g2:=hL.le2
  have h1:i<xs.size:=by omega
  have h2:i<ys.size:=by omega
  wp_walk using wpAny_loadPart' hl,wpAny_loadPart' hb
  have hi1:xs[((i:Nat):Int).toNat]?=some xs[i]:=by simp [h1]
  have hi2:ys[((i:Nat):Int).toNat]?=some ys[i]:=by simp [h2]
  have hc:((i:Int)+1)=((i+1:Nat):Int):=by push_cast;rfl
  rw [hi1,hi2]
  refine wpAny_bind (hL.eq i h1 h2 (by omega) prog w _ _ ?_)
  wp_walk
  rw [hc]
  exact ⟨plainId_quiet plain_eq_loop _,codeAny_builtin entry_eq_loop (by
   rw [Around.under_plainId plain_eq_loop _]
   exact ih (i+1) (by omega) prog w A R _ ⟨hl,hb,hL,h⟩)⟩
theorem list_ltAt (l b:Addr) (xs ys:Array Value) (n n2 m:Nat) :
  Meets (Builtin.«list.__lt__» ⟨[.ref l,.ref b],[]⟩)
   (fun A R s=>s.heap.get? l=some (A1 xs n)/\s.heap.get? b=some (A1 ys n2)/\LtL A.in1 s xs ys m/\R (.ok (.ret (.bool true))) s):=by
 intro prog w A R s h
 obtain ⟨hp,g,d,tk,os⟩:=s;obtain ⟨hl,hb,hL,h⟩:=h
 have f3:=AutoSeq1.sub_list_list
 unfold A1 at hl hb
 wp_walk using wpAny_loadPart' hl,wpAny_loadPart' hb
 exact ⟨plainId_quiet plain_eq_loop _,codeAny_builtin entry_eq_loop (by
  rw [Around.under_plainId plain_eq_loop _]
  exact lt_loop l b xs ys n n2 m m 0 (Nat.zero_add m) prog w A R _ ⟨hl,hb,hL,h⟩)⟩
theorem tuple_ltAt (l b:Addr) (x1 x2 y1 y2:Value) (n n2:Nat) :
  Meets (Builtin.«tuple.__lt__» ⟨[.ref l,.ref b],[]⟩)
   (fun A R s=>s.heap.get? l=some { cls:= .type "tuple",dict:=none,data:= .seq #[x1,x2] n,slots:=#[] }/\s.heap.get? b=some { cls:= .type "tuple",dict:=none,data:= .seq #[y1,y2] n2,slots:=#[] } /\
    ((EqAt A.in1 s x1 y1 false/\Ck A.in1 s x1 y1)∨(EqAt A.in1 s x1 y1 true/\EqAt A.in1 s x2 y2 false/\Ck A.in1 s x2 y2))/\R (.ok (.ret (.bool true))) s):=
 .of_wp fun prog w A R s h=>by
  obtain ⟨hp,g,d,tk,os⟩:=s;obtain ⟨hl,hb,hx,h⟩:=h
  have f2:=AutoSeq1.sub_tuple_tuple
  wp_walk using wpAny_loadPart' hl,wpAny_loadPart' hb,wpAny_forIn_list _ (fun rest b s'=>b.1=none/\s'=⟨hp,g,d,tk,os⟩/\(rest=[(x1,y1),(x2,y2)]∨rest=[(x2,y2)]/\EqAt A.in1 ⟨hp,g,d,tk,os⟩ x2 y2 false/\Ck A.in1 ⟨hp,g,d,tk,os⟩ x2 y2)) _
  case turn=>
   rintro ⟨y,x⟩ rest b s' ⟨hb',rfl,hr⟩
   rcases hr with hr | ⟨hr,he,hlt⟩
   ·cases hr
    rcases hx with ⟨he,hlt⟩ | ⟨he,h2⟩
    ·exact wpAny_bind (he prog w _ _ (wpAny_bind (wpAny_rule (wpAny_bind (hlt prog w _ _ (wpAny_bind (wpAny_pure (wpAny_pure (wpAny_pure ⟨_,rfl,h⟩)))))))))
    ·refine wpAny_bind (he prog w _ _ ?_)
     wp_walk
     exact ⟨rfl,rfl,.inr ⟨rfl,h2⟩⟩
   ·cases hr
    exact wpAny_bind (he prog w _ _ (wpAny_bind (wpAny_rule (wpAny_bind (hlt prog w _ _ (wpAny_bind (wpAny_pure (wpAny_pure (wpAny_pure ⟨_,rfl,h⟩)))))))))
  case fin=>
   rintro ⟨b1,b2⟩ s' ⟨hb',rfl,hr⟩
   rcases hr with hr | ⟨hr,_⟩<;>cases hr
  case h=>
   exact ⟨rfl,rfl,.inl rfl⟩
theorem lt_int_at {i j:Int} {t:Nat} (h:i<j):Ck A s (.int i t) (.int j u):=fun prog w E Q hq=>
 wpAny_lt_int (prog:=prog) (by rw [decide_eq_true h];exact hq)
theorem lt_str_at {t:Nat} (h:x.cps.toList<y.cps.toList):Ck A s (.str x t) (.str y u):=fun prog w E Q hq=>
 lt_str (by rw [decide_eq_true h];exact hq)
theorem Eb {l b:Addr} {n2:Nat} (hu:A.units<9900) (h1:s.heap.get? l=some (A1 xs n)) (h2:s.heap.get? b=some (A1 ys n2)) (hL:LtL A.in1 s xs ys m):Ck A s (.ref l) (.ref b):=fun prog w E Q hq=>
 richCompare_meets_room ⟨_,h1,rfl⟩ ⟨_,h2,rfl⟩ F.slot_list_lt F.entry_list_lt (F.args_list_lt_2 _ _) (list_ltAt l b xs ys n n2 m) ⟨h1,h2,hL,Value.noConfusion,hq⟩ hu
end
section
open PySem PySem.W PySem.W.X PySem.Calls PySem.Spec PyProof.Rows
open PySem.SeqAt
variable {n a m:Nat} {A:Around} {x:Str} {s:Shared}
noncomputable def KLt:KI->KI->Prop
 | .inl i,.inl j=>i<j
 | .inr x,.inr y=>x.cps.toList<y.cps.toList
 | _,_=>False
noncomputable def keq:KI->KI->Bool
 | .inl i,.inl j=>i==j
 | .inr x,.inr y=>x==y
 | _,_=>false
theorem keq_same:∀ a:KI,keq a a=true
 | .inl i=>beq_self_eq_true i
 | .inr x=>beq_self_eq_true x
theorem klt_ne:∀ {a b:KI},KLt a b->keq a b=false
 | .inl i,.inl j,h=>beq_eq_false_iff_ne.mpr fun e=>by subst e;exact absurd h (Int.lt_irrefl _)
 | .inr x,.inr y,h=>beq_eq_false_iff_ne.mpr fun e=>by subst e;exact absurd h (List.lt_irrefl _)
 | .inl _,.inr _,h=>h.elim
 | .inr _,.inl _,h=>h.elim
theorem CK {v:Value} {i:Int} (h:Rep v (.inl i)):∃ t,v= .int i t:=by
 cases v<;>first | exact h.elim | (cases h;exact ⟨_,rfl⟩)
theorem CG {v:Value} (h:Rep v (.inr x)):∃ t,v= .str x t:=by
 cases v<;>first | exact h.elim | (cases h;exact ⟨_,rfl⟩)
theorem Em {v w:Value} {a b:KI} (h:Rep v a) (h':Rep w b):EqAt A s v w (keq a b):=by
 cases a with
 | inl i=>
  obtain ⟨t,rfl⟩:=CK h
  cases b with
  | inl j=>obtain ⟨u,rfl⟩:=CK h';exact EqAt.int_int i t j u
  | inr y=>obtain ⟨u,rfl⟩:=CG h';exact EqAt.int_str i t y u
 | inr x=>
  obtain ⟨t,rfl⟩:=CG h
  cases b with
  | inl j=>obtain ⟨u,rfl⟩:=CK h';exact EqAt.str_int x t j u
  | inr y=>obtain ⟨u,rfl⟩:=CG h';exact EqAt.str_str x t y u
theorem rep_lt {v w:Value} {a b:KI} (h:Rep v a) (h':Rep w b) (k:KLt a b):Ck A s v w:=by
 cases a with
 | inl i=>
  obtain ⟨t,rfl⟩:=CK h
  cases b with
  | inl j=>obtain ⟨u,rfl⟩:=CK h';exact lt_int_at k
  | inr y=>exact k.elim
 | inr x=>
  obtain ⟨t,rfl⟩:=CG h
  cases b with
  | inl j=>exact k.elim
  | inr y=>obtain ⟨u,rfl⟩:=CG h';exact lt_str_at k
inductive KLs:List KI->List KI->Prop
 | here {a b x y:_}:KLt a b->KLs (a::x) (b::y)
 | pre {b y:_}:KLs [] (b::y)
 | step {a x y:_}:KLs x y->KLs (a::x) (a::y)
theorem ltl_cons {v w:Value} {zs ws:List Value} (h:EqAt A s v w true) (hL:LtL A s zs.toArray ws.toArray m):LtL A s (v::zs).toArray (w::ws).toArray (m+1):=by
 obtain ⟨h1,h2,h3,h4⟩:=hL
 simp only [List.size_toArray,List.getElem_toArray] at h1 h2 h3 h4
 refine ⟨fun j g1 g2 hj=>?_,by simpa using h2,by simpa using h3,?_⟩
 ·cases j with
  | zero=>exact h
  | succ j=>exact h1 j (by simpa using g1) (by simpa using g2) (Nat.lt_of_succ_lt_succ hj)
 ·rcases h4 with ⟨g1,g2,h5⟩ | ⟨g1,g2⟩
  ·exact .inl ⟨by simpa using g1,by simpa using g2,h5⟩
  ·exact .inr ⟨by simpa using g1,by simpa using g2⟩
theorem reps_ltl {ks ls:List KI} (h:KLs ks ls):∀ {zs ws:List Value},Reps zs ks->Reps ws ls->∃ m,LtL A s zs.toArray ws.toArray m:=by
 induction h with
 | here h=>
  intro zs ws hz hw
  cases hz with
  | cons a _=>cases hw with
   | cons b _=>
    have e:=Em (A:=A) (s:=s) a b
    rw [klt_ne h] at e
    exact ⟨0,fun j _ _ hj=>absurd hj (Nat.not_lt_zero _),Nat.zero_le _,Nat.zero_le _,.inl ⟨by simp,by simp,e,rep_lt a b h⟩⟩
 | pre=>
  intro zs ws hz hw
  cases hz
  cases hw
  exact ⟨0,fun j _ _ hj=>absurd hj (Nat.not_lt_zero _),Nat.zero_le _,Nat.zero_le _,.inr ⟨rfl,by simp⟩⟩
 | step _ ih=>
  intro zs ws hz hw
  cases hz with
  | cons a hz=>cases hw with
   | cons b hw=>
    obtain ⟨m,hm⟩:=ih hz hw
    have e:=Em (A:=A) (s:=s) a b
    rw [keq_same] at e
    exact ⟨m+1,ltl_cons e hm⟩
theorem reps_get {zs:List Value} {ks:List KI} (h:Reps zs ks):∀ (j:Nat) (h1:j<zs.length) (h2:j<ks.length),Rep zs[j] ks[j]:=by
 induction h with
 | nil=>intro j h1;exact absurd h1 (Nat.not_lt_zero _)
 | cons a _ ih=>
  intro j h1 h2
  cases j with
  | zero=>exact a
  | succ j=>exact ih j (Nat.lt_of_succ_lt_succ h1) (Nat.lt_of_succ_lt_succ h2)
theorem kls_ne {ks ls:List KI} (h:KLs ks ls):ks.length=ls.length->∃ (j:Nat) (h1:j<ks.length) (h2:j<ls.length),keq ks[j] ls[j]=false:=by
 induction h with
 | here h=>exact fun _=>⟨0,by simp,by simp,klt_ne h⟩
 | pre=>intro e;cases e
 | step _ ih=>
  intro e
  obtain ⟨j,h1,h2,h⟩:=ih (Nat.succ.inj e)
  exact ⟨j+1,by simpa using h1,by simpa using h2,h⟩
theorem rows_ne {l b:Addr} {ks ls:List KI} {zs ws:List Value} {n2:Nat} (hne:l≠b) (h1:s.heap.get? l=some (A1 zs.toArray n)) (h2:s.heap.get? b=some (A1 ws.toArray n2)) (hz:Reps zs ks) (hw:Reps ws ls) (hk:KLs ks ls) (hl:ks.length=ls.length) (hu:A.units<9900):EqAt A s (.ref l) (.ref b) false:=by
 obtain ⟨j,g1,g2,hj⟩:=kls_ne hk hl
 have e1:=hz.len
 have e2:=hw.len
 refine EqAt.of_refs hne ?_
 have z:=RcAt.lists (A:=A) (s:=s) (l:=l) (b:=b) (items:=zs.toArray) (items2:=ws.toArray) (e:=fun j=>match ks[j]?,ls[j]? with | some a,some b=>keq a b | _,_=>false) ⟨_,h1,rfl,n,rfl⟩ ⟨_,h2,rfl,n2,rfl⟩ (by simp;omega) hu (fun i f1 f2=>by
  simp only [List.size_toArray] at f1 f2
  rw [List.getElem?_eq_getElem (show i<ks.length by omega),List.getElem?_eq_getElem (show i<ls.length by omega)]
  simp only [List.getElem_toArray]
  exact Em (reps_get hz i f1 (by omega)) (reps_get hw i f2 (by omega)))
 have:((List.range zs.toArray.size).all fun j=>match ks[j]?,ls[j]? with | some a,some b=>keq a b | _,_=>false)=false:=by
  rw [List.all_eq_false]
  refine ⟨j,List.mem_range.mpr (by simp;omega),?_⟩
  rw [List.getElem?_eq_getElem g1,List.getElem?_eq_getElem g2]
  simp [hj]
 rw [this] at z
 exact z
noncomputable def ltK (r:Nat):Int:=[0,10,20,20,30,30,40,50,50,100,100,100,200,200].getD r 0
noncomputable def lvK (r:Nat):KI:=match (lk r) with
 | [_,_,_,v]=>v
 | _=> .inl 0
theorem lk_eq:∀ r,r<14->lk r=[.inl 100,.inl 0,.inl (ltK r),lvK r]
 | 0,_ | 1,_ | 2,_ | 3,_ | 4,_ | 5,_ | 6,_ | 7,_ | 8,_ | 9,_ | 10,_ | 11,_ | 12,_ | 13,_=>rfl
 | n+14,h=>by omega
noncomputable def kltB:KI->KI->Bool
 | .inl i,.inl j=>decide (i<j)
 | .inr x,.inr y=>decide (x.cps.toList<y.cps.toList)
 | _,_=>false
theorem kltB_lt:∀ {a b:KI},kltB a b=true->KLt a b
 | .inl i,.inl j,h=>of_decide_eq_true (p:=i<j) h
 | .inr x,.inr y,h=>of_decide_eq_true (p:=x.cps.toList<y.cps.toList) h
 | .inl _,.inr _,h=>Bool.noConfusion h
 | .inr _,.inl _,h=>Bool.noConfusion h
theorem lk_rise:∀ a,a<14->∀ b,b<14->a<b->ltK a<ltK b∨(ltK a=ltK b/\kltB (lvK a) (lvK b)=true):=by decide +kernel
theorem lk_lt {b:Nat} (hb:b<14) (h:a<b) (x y:List KI):KLs (lk a++x) (lk b++y):=by
 rw [lk_eq a (by omega),lk_eq b hb]
 refine .step (.step ?_)
 rcases lk_rise a (by omega) b hb h with h | ⟨h1,h2⟩
 ·exact .here h
 ·rw [h1];exact .step (.here (kltB_lt h2))
theorem kls_app:∀ (p:List KI) {x y:List KI},KLs x y->KLs (p++x) (p++y)
 | [],_,_,h=>h
 | _::p,_,_,h=> .step (kls_app p h)
theorem kls_mm:∀ {p q:List Nat},(∀ r∈p,r<14)->(∀ r∈q,r<14)->mm p q->KLs (pk p) (pk q)
 | [],_,_,_,h=>h.elim
 | _::_,[],_,_,h=>h.elim
 | a::p,b::q,hp,hq,h=>by
  show KLs (lk a++pk p) (lk b++pk q)
  rcases h with h | ⟨rfl,h⟩
  ·exact lk_lt (hq b (List.mem_cons_self ..)) h _ _
  ·exact kls_app _ (kls_mm (fun r hr=>hp r (List.mem_cons_of_mem _ hr)) (fun r hr=>hq r (List.mem_cons_of_mem _ hr)) h)
theorem Ei:∀ {p:List Nat},(∀ r∈p,r<14)->(pk p).length=4*p.length
 | [],_=>rfl
 | a::p,h=>by
  show (lk a++pk p).length=_
  rw [lk_eq a (h a (List.mem_cons_self ..)),List.length_append,Ei fun r hr=>h r (List.mem_cons_of_mem _ hr)]
  show 4+4*p.length=4*(p.length+1)
  omega
theorem or_true {p q:List Nat} (hp:∀ r∈p,r<14) (hq:∀ r∈q,r<14) (h:OR true p q):KLs (pk p) (pk q):=by
 unfold OR at h
 rw [if_pos rfl] at h
 rcases h with ⟨r,rfl⟩ | h
 ·have e:pk (p++[r])=pk p++(lk r++[]):=by unfold pk;rw [List.flatMap_append];rfl
  have:=kls_app (pk p) (KLs.pre (b:= .inl 100) (y:=[.inl 0,.inl (ltK r),lvK r]))
  rw [List.append_nil,← lk_eq r (hq r (by simp))] at this
  rw [e,List.append_nil];exact this
 ·exact kls_mm hp hq h
theorem or_false {p q:List Nat} (hp:∀ r∈p,r<14) (hq:∀ r∈q,r<14) (h:OR false p q):(pk p).length<(pk q).length∨((pk p).length=(pk q).length/\KLs (pk p) (pk q)):=by
 unfold OR at h
 rw [if_neg Bool.false_ne_true] at h
 rw [Ei hp,Ei hq]
 rcases h with h | ⟨h1,h2⟩
 ·exact .inl (by omega)
 ·exact .inr ⟨by omega,kls_mm hp hq h2⟩
end
section
open PySem PySem.W PySem.W.X PySem.Calls PySem.Spec PyProof.Rows
variable {W:Wd} {L C CF:List Cell} {G:List GenState} {n dp un e i c it d D r a tl tk tm acc l ep tt tj ec tp q eq ek ed e1 D':Nat} {A:Around} {F:List Env} {x:Str} {nw b:Bool} {least:Int} {h h₀:Heap} {xs:Array Value} {s:Shared} {ext:List (Str×Nat×Value)} {R:Result->Shared->Prop} {qq:Nat->NL} {cl:Nat->Str×Nat} {o:Obj} {ds:List (Nat×Nat)} {rs ps:List (Str×Nat)} {es:Array DictEntry} {env:Env} {prog:Program} {n0 n1 n2 n3 n4 n5:Nd} {rk:Str->Nat} {p1 p2 p3 p4 p5:Pos} {itx:PySem.Expr} {body:List Stmt}
noncomputable def Bx (W:Wd) (i:Nat):Stmt:=AE (Ak W.kt 207) i
noncomputable def AD (W:Wd) (n:Nat):Env:=A5 W.kt 207 n 8
noncomputable def DP (W:Wd):PySem.Expr:=caA (Bh (Bx W 3))
noncomputable def dcV (e:PySem.Expr):PySem.Expr:=(Bp e).f
noncomputable def eP (e:PySem.Expr):Pos:=(Bp e).p
noncomputable def suL (e:PySem.Expr):PySem.Expr:=(Bp e).e
noncomputable def suR (e:PySem.Expr):PySem.Expr:=(Bp e).f
noncomputable def inE (it:PySem.Expr) (sc:Scope) (p1 p2 p3 p4 p5:Pos):PySem.Expr:= .ListComp (.Subscript (.Name scc p1) (.Name sam p2) p3) [⟨.Name sam p4,it,[],0⟩] sc p5
noncomputable def inS (W:Wd):Scope:=E8 (dcV (DP W))
noncomputable abbrev inD (e:PySem.Expr) (sc:Scope):PySem.Expr:=inE (lcI e) sc (eP (suL (lcE e))) (eP (suR (lcE e))) (eP (lcE e)) (eP (lcT e)) (lcP e)
noncomputable def inC (W:Wd) (e:PySem.Expr) (it acc n D:Nat):Code:= .compLoop e 0 (.ref (it+8)) (.ref (acc+8)) (Cm (AD W n) e (D+8) [(scc,n+10)])
noncomputable def inSt (W:Wd) (e:PySem.Expr) (it acc n D:Nat):Code:= .compStart e 0 (.ref (it+8)) (.ref (acc+8)) (Cm (AD W n) e (D+8) [(scc,n+10)])
noncomputable abbrev inQ (W:Wd) (G:List GenState) (L:List Cell) (n acc D k d ek ed:Nat) (cl:Nat->Str×Nat) (ds:List (Nat×Nat)) (ys:List (Str×Nat)):Post (List (Str×Nat×Value)×Nat):=
 Nx G (fun p=>c8 D (lo W p.1)::lS acc ys p.2::cC (n+10) k::lS k (cvl cl) ek::lN d ds ed::L) fun p=>(p.1=[]/\ds=[])∨((∃ t v,p.1=[(sam,t,v)])/\ds≠[])
theorem in_b (ok:W.Ok) {k:Nat} (hd:dp<=700) (hu:un<=700) (hn:ds≠[]) :
  ∀ (rst done:List (Nat×Nat)) (xs:List (Str×Nat)) (tp e1:Nat) (v:Value),ds=done++rst->xs.length+rst.length<=500->(∀ q∈rst,q.1<6)->Tri W (Ar dp un F) (inC W (inE itx (inS W) p1 p2 p3 p4 p5) it acc n D') G (c8 D' (lo W [(sam,tp,v)])::lS acc xs e1::c8 it (lit (d+8) done.length)::cC (n+10) k::lS k (cvl cl) ek::lN d ds ed::L) (inQ W G L n acc D' k d ek ed cl ds (xs++rst.map fun p=>cl p.1)):=by
 intro rst
 induction rst with
 | nil=>
  intro done xs tp e1 v hds hl hj
  refine Tri.of fun R n' tk hR=>?_
  refine Cg ok 2 3 (.call (.builtin "list_iterator.__next__") ⟨[.ref (it+8)],[]⟩) [2,5] (c8 it (lit (d+8) done.length)) (lN d ds ed) (BP (Ar dp un F)) (fun _ _ eA=>Tri.at eA (B1 (BE hds))) fun p n₀ tk₀ _=>?_
  exact gmend ok 1 1 hR ([(sam,tp,v)],e1) (.inr ⟨⟨_,_,rfl⟩,hn⟩) .next rfl (fun h D=>by
   have e:xs++([]:List (Nat×Nat)).map (fun p=>cl p.1)=xs:=by simp
   show Own W.h₀ 53 h (c8 D' (lo W [(sam,tp,v)])::(acc+8,A1 (sv (xs++([]:List (Nat×Nat)).map (fun p=>cl p.1))) e1)::cC (n+10) k::lS k (cvl cl) ek::lN d ds ed::L)
   rw [e]
   exact A4 [0,1,2,4,5,6,7,3] 3 (by kernel_rfl) h D)
 | cons p rst ih=>
  intro done xs tp e1 v hds hl hj
  refine Tri.of fun R n' tk hR=>?_
  refine Cg ok 2 3 (.call (.builtin "list_iterator.__next__") ⟨[.ref (it+8)],[]⟩) [2,5] (c8 it (lit (d+8) done.length)) (lN d ds ed) A6 (fun _ _ eA=>AM (BG hds)) fun _ n₀ tk₀ _=>?_
  refine AU ok 15 418860781699 (.call (.builtin "list.__getitem__") ⟨[.ref (k+8),.int (p.1:Int) p.2],[]⟩) [5] (lS k (cvl cl) ek) A6 (fun _ _ eA=>Aa (x:= .str (cl p.1).1 (cl p.1).2) (by omega) (by have:=hj p (List.mem_cons_self ..);omega) (by rw [Int.toNat_natCast];exact Bi (hj p (List.mem_cons_self ..)))) fun _ n₁ tk₁ _=>?_
  refine AU ok 0 0 (.call (.builtin "list.append") ⟨[.ref (acc+8),.str (cl p.1).1 (cl p.1).2],[]⟩) [4] (lS acc xs e1) A6 (fun _ _ eA=>A8 (by simp [sv];simp at hl;omega)) fun e' n₂ tk₂ _=>?_
  refine gmagn ok 0 0 (inC W (inE itx (inS W) p1 p2 p3 p4 p5) it acc n D') hR (L:=c8 D' (lo W [(sam,tp,.int (p.1:Int) p.2)])::(acc+8,A1 (sv (xs++[cl p.1])) e')::c8 it (lit (d+8) (done.length+1))::cC (n+10) k::lS k (cvl cl) ek::lN d ds ed::L)
   (fun h D=>(AB xs (cl p.1).1 (cl p.1).2)▸A4 [4,0,2,5,1,3] 0 (by kernel_rfl) h D) ?_
  have z:=ih (done++[p]) (xs++[cl p.1]) tp e' (.int (p.1:Int) p.2) (by rw [hds,List.append_assoc];rfl) (by simp at hl ⊢;omega) (fun q hq=>hj q (List.mem_cons_of_mem _ hq))
  rw [List.length_append,List.append_assoc] at z
  exact z
theorem in_a (ok:W.Ok) {k:Nat} (hd:dp<=700) (hu:un<=700) :
  ∀ (rst done:List (Nat×Nat)) (xs:List (Str×Nat)) (e1:Nat),done=[]->ds=done++rst->xs.length+rst.length<=500->(∀ q∈rst,q.1<6)->Tri W (Ar dp un F) (inC W (inE itx (inS W) p1 p2 p3 p4 p5) it acc n D') G (c8 D' (lo W [])::lS acc xs e1::c8 it (lit (d+8) done.length)::cC (n+10) k::lS k (cvl cl) ek::lN d ds ed::L) (inQ W G L n acc D' k d ek ed cl ds (xs++rst.map fun p=>cl p.1)):=by
 intro rst
 cases rst with
 | nil=>
  intro done xs e1 hdn hds hl hj
  refine Tri.of fun R n' tk hR=>?_
  refine Cg ok 2 3 (.call (.builtin "list_iterator.__next__") ⟨[.ref (it+8)],[]⟩) [2,5] (c8 it (lit (d+8) done.length)) (lN d ds ed) (BP (Ar dp un F)) (fun _ _ eA=>Tri.at eA (B1 (BE hds))) fun p n₀ tk₀ _=>?_
  exact gmend ok 1 1 hR ([],e1) (.inl ⟨rfl,by subst hdn;exact hds⟩) .next rfl (fun h D=>by
   have e:xs++([]:List (Nat×Nat)).map (fun p=>cl p.1)=xs:=by simp
   show Own W.h₀ 53 h (c8 D' (lo W [])::(acc+8,A1 (sv (xs++([]:List (Nat×Nat)).map (fun p=>cl p.1))) e1)::cC (n+10) k::lS k (cvl cl) ek::lN d ds ed::L)
   rw [e]
   exact A4 [0,1,2,4,5,6,7,3] 3 (by kernel_rfl) h D)
 | cons p rst=>
  intro done xs e1 hdn hds hl hj
  refine Tri.of fun R n' tk hR=>?_
  refine Cg ok 2 3 (.call (.builtin "list_iterator.__next__") ⟨[.ref (it+8)],[]⟩) [2,5] (c8 it (lit (d+8) done.length)) (lN d ds ed) A6 (fun _ _ eA=>AM (BG hds)) fun _ n₀ tk₀ _=>?_
  refine AU ok 15 418860781699 (.call (.builtin "list.__getitem__") ⟨[.ref (k+8),.int (p.1:Int) p.2],[]⟩) [5] (lS k (cvl cl) ek) A6 (fun _ _ eA=>Aa (x:= .str (cl p.1).1 (cl p.1).2) (by omega) (by have:=hj p (List.mem_cons_self ..);omega) (by rw [Int.toNat_natCast];exact Bi (hj p (List.mem_cons_self ..)))) fun _ n₁ tk₁ _=>?_
  refine AU ok 0 0 (.call (.builtin "list.append") ⟨[.ref (acc+8),.str (cl p.1).1 (cl p.1).2],[]⟩) [4] (lS acc xs e1) A6 (fun _ _ eA=>A8 (by simp [sv];simp at hl;omega)) fun e' n₂ tk₂ _=>?_
  refine gmagn ok 0 0 (inC W (inE itx (inS W) p1 p2 p3 p4 p5) it acc n D') hR (L:=c8 D' (lo W [(sam,tk₀,.int (p.1:Int) p.2)])::(acc+8,A1 (sv (xs++[cl p.1])) e')::c8 it (lit (d+8) (done.length+1))::cC (n+10) k::lS k (cvl cl) ek::lN d ds ed::L)
   (fun h D=>(AB xs (cl p.1).1 (cl p.1).2)▸A4 [4,0,2,5,1,3] 0 (by kernel_rfl) h D) ?_
  have z:=in_b (G:=G) (L:=L) (F:=F) (n:=n) (D':=D') (itx:=itx) (p1:=p1) (p2:=p2) (p3:=p3) (p4:=p4) (p5:=p5) (it:=it) (acc:=acc) (k:=k) (d:=d) (ek:=ek) (ed:=ed) (cl:=cl) (ds:=ds) ok hd hu (by rw [hds];simp) rst (done++[p]) (xs++[cl p.1]) tk₀ e' (.int (p.1:Int) p.2) (by rw [hds,List.append_assoc];rfl) (by simp at hl ⊢;omega) (fun q hq=>hj q (List.mem_cons_of_mem _ hq))
  rw [List.length_append,List.append_assoc] at z
  exact z
theorem in_start (ok:W.Ok) {α:Type} {Q:Post α} (spec:Tri W A (inC W (inE itx (inS W) p1 p2 p3 p4 p5) it acc n D) G (c8 it (lit (l+8) i)::L) Q):Tri W A (inSt W (inE itx (inS W) p1 p2 p3 p4 p5) it acc n D) G (c8 it (lit (l+8) i)::L) Q:=by
 obtain ⟨w₀,b2,b3,h₀,dd,os⟩:=W
 cases b2
 ·refine Tri.of fun R n' tk hR=>?_
  exact Cq ok 11 266305 (inC _ (inE itx (inS _) p1 p2 p3 p4 p5) it acc n D) _ [] 0 hR spec
 ·refine Tri.of fun R n' tk hR=>?_
  exact Cq ok 1 0 (inC _ (inE itx (inS _) p1 p2 p3 p4 p5) it acc n D) _ [] 0 hR spec
theorem c1I_eq (W:Wd):dcV (DP W)=inD (dcV (DP W)) (inS W):=by kernel_rfl
noncomputable def psN (cl:Nat->Str×Nat) (qq:Nat->NL) (j:Nat):List (Str×Nat):=(qq j).ns.map fun p=>cl p.1
noncomputable def gEi (W:Wd) (cl:Nat->Str×Nat) (l:Nat->Nat) (i:Nat):Array DictEntry:=((List.range i).map fun j=>(⟨hashStr W.w (cl j).1,.str (cl j).1 (cl j).2,.ref (l j+8)⟩:DictEntry)).toArray
noncomputable def gLi (cl:Nat->Str×Nat) (qq:Nat->NL) (l le:Nat->Nat):Nat->List Cell
 | 0=>[]
 | i+1=>lS (l i) (psN cl qq i) (le i)::gLi cl qq l le i
noncomputable def setl (l:Nat->Nat) (i v j:Nat):Nat:=if j=i then v else l j
theorem gEi_push (W:Wd) (cl:Nat->Str×Nat) (l:Nat->Nat) (i v:Nat):(gEi W cl l i).push ⟨hashStr W.w (cl i).1,.str (cl i).1 (cl i).2,.ref (v+8)⟩=gEi W cl (setl l i v) (i+1):=by
 unfold gEi
 rw [List.range_succ,List.map_append,List.map_singleton]
 have e:(List.range i).map (fun j=>(⟨hashStr W.w (cl j).1,.str (cl j).1 (cl j).2,.ref (setl l i v j+8)⟩:DictEntry))=(List.range i).map fun j=>⟨hashStr W.w (cl j).1,.str (cl j).1 (cl j).2,.ref (l j+8)⟩:=
  List.map_congr_left fun j hj=>by
   have:=List.mem_range.mp hj
   unfold setl
   rw [if_neg (by omega)]
 rw [e]
 unfold setl
 rw [if_pos rfl]
 simp
theorem gLi_set (cl:Nat->Str×Nat) (qq:Nat->NL) (l le:Nat->Nat) (k v w:Nat):∀ i,i<=k->gLi cl qq (setl l k v) (setl le k w) i=gLi cl qq l le i
 | 0,_=>rfl
 | i+1,h=>by
  unfold gLi setl
  rw [if_neg (by omega),if_neg (by omega)]
  exact congrArg _ (gLi_set cl qq l le k v w i (by omega))
theorem gEi_keys (W:Wd) (cl:Nat->Str×Nat) (l:Nat->Nat) (i:Nat):Keys W (gEi W cl l i):=by
 intro e he
 obtain ⟨j,_,rfl⟩:=List.mem_map.mp (List.mem_toArray.mp he)
 exact ⟨(cl j).1,by simp [PySem.strKind,Value.isStrOf],rfl⟩
theorem gEi_none {l:Nat->Nat} (h:∀ j,j<i->(cl j).1≠x):look (gEi W cl l i) x=none:=by
 simp only [look,findBy,gEi,List.find?_toArray,Option.map_eq_none_iff,List.find?_eq_none]
 intro e he
 obtain ⟨j,hj,rfl⟩:=List.mem_map.mp he
 have:=h j (List.mem_range.mp hj)
 simpa [Value.isStrOf] using this
noncomputable def c1V (W:Wd) (n D:Nat):Env:=Cm (AD W n) (DP W) (D+8) [(sch,n+9),(scc,n+10)]
noncomputable def c1C (W:Wd) (it acc n D:Nat):Code:= .compLoop (DP W) 0 (.ref (it+8)) (.ref (acc+8)) (c1V W n D)
noncomputable def c1S (W:Wd) (it acc n D:Nat):Code:= .compStart (DP W) 0 (.ref (it+8)) (.ref (acc+8)) (c1V W n D)
noncomputable def dcK (e:PySem.Expr):PySem.Expr:=(Bp e).e
noncomputable def dcT (e:PySem.Expr):PySem.Expr:=(hdG (Bp e).g).target
noncomputable def dcI (e:PySem.Expr):PySem.Expr:=(hdG (Bp e).g).iter
noncomputable def dcSc (e:PySem.Expr):Scope:=(Bp e).s
noncomputable def dcP (e:PySem.Expr):Pos:=(Bp e).p
theorem c1_eq (W:Wd):DP W= .DictComp (dcK (DP W)) (dcV (DP W)) [⟨dcT (DP W),dcI (DP W),[],0⟩] (dcSc (DP W)) (dcP (DP W)):=by kernel_rfl
theorem c1C_eq (W:Wd) (it acc n D:Nat):c1C W it acc n D= .compLoop (.DictComp (dcK (DP W)) (dcV (DP W)) [⟨dcT (DP W),dcI (DP W),[],0⟩] (dcSc (DP W)) (dcP (DP W))) 0 (.ref (it+8)) (.ref (acc+8)) (c1V W n D):=by
 unfold c1C
 rw [← c1_eq]
theorem E9 {w:World} {kx vx target iter:PySem.Expr} {scope:Scope} {pos:Pos} {it:Value} {D:Addr}
  (h:wpAny (model prog w) A (pyNext it) (fun r s₁=>match r with
   | none=>R (.ok .next) s₁
   | some v=>wpAny (model prog w) A (assign target env v) (fun _ s₂=>wpAny (model prog w) A (eval kx env) (fun kv s₃=>wpAny (model prog w) A (eval vx env) (fun vv s₄=>
     wpAny (model prog w) A (dictSet D kv vv) (fun _ s₅=>codeAny (model prog w) A (.compLoop (.DictComp kx vx [⟨target,iter,[],0⟩] scope pos) 0 it (.ref D) env) R s₅) (notedBy (model prog w) A env fun e s'=>R (.error e) s') s₄) (notedBy (model prog w) A env fun e s'=>R (.error e) s') s₃) (notedBy (model prog w) A env fun e s'=>R (.error e) s') s₂) (notedBy (model prog w) A env fun e s'=>R (.error e) s') s₁) (notedBy (model prog w) A env fun e s'=>R (.error e) s') s)
  (ht:∀ v,letOwnedTupleGo target it v=pure ():=by intro _;rfl) :
  codeAny (model prog w) A (.compLoop (.DictComp kx vx [⟨target,iter,[],0⟩] scope pos) 0 it (.ref D) env) R s:=by
 refine codeAny_of_tree ?_
 show wpAny _ A ((compTurn (.DictComp kx vx [⟨target,iter,[],0⟩] scope pos) 0 it (.ref D) env).onRaise (fun x=>do noteFrame x env;theTreesLotGoes x)) _ _ s
 refine wpAny_noted ?_
 rw [compTurn_dict]
 refine wpAny_bind (wpAny_standAt (wpAny_bind (wpAny_mono h (fun r s₁ h₁=>?_) fun _ _ h'=>h')))
 cases r with
 | none=>exact wpAny_pure h₁
 | some v=>
  refine wpAny_bind (wpAny_of_eq (ht v) ?_)
  refine wpAny_bind (wpAny_mono h₁ (fun _ s₂ h₂=>?_) fun _ _ h'=>h')
  simp only [List.forIn_nil]
  refine wpAny_bind (wpAny_pure ?_)
  rw [if_pos rfl]
  exact wpAny_bind (wpAny_bind (wpAny_mono h₂ (fun kv s₃ h₃=>wpAny_bind (wpAny_holding (wpAny_mono h₃ (fun vv s₄ h₄=>wpAny_bind (wpAny_standAt (wpAny_holding (wpAny_mono h₄ (fun _ s₅ h₅=>wpAny_pure ⟨rfl,h₅⟩) fun _ _ h'=>h')))) fun _ _ h'=>h'))) fun _ _ h'=>h'))
theorem set_new {t:Nat} {v:Value} (hk:Keys W es) (hv:look es x=none) (hz:es.size<=1000) :
  Pc W A (dictSet (d+8) (.str x t) v) G (dD d es ep::L) (⟨fun _=>G,fun _=>True,fun _=>(),fun _=>dD d (es.push ⟨hashStr W.w x,.str x t,v⟩) (ep+1)::L⟩:A3 Unit Unit):=by
 intro K hK E h n tk hs D
 unfold dictSet
 try with_reducible refine wpAny_holding ?_
 refine wpAny_bind ((strKind AA W.w).pyHash (strKind_is _ _ x t) ?_)
 unfold dictSetHashed
 try with_reducible refine wpAny_holding ?_
 refine wpAny_bind (wpAny_dictFind_of (knd:=strKind AA W.w) (strKind_is _ _ x t) D.at0 rfl hk ?_)
 have hi:(es.findIdx? fun e=>(strKind AA W.w).is x e.key)=none:=by
  cases e:es.findIdx? fun e=>(strKind AA W.w).is x e.key with
  | none=>rfl
  | some i=>
   exfalso
   have:=findBy_of_findIdx? Value.isStrOf es x
   rw [show (es.findIdx? fun e=>Value.isStrOf x e.key)=some i from e,show findBy Value.isStrOf es x=none from hv] at this
   have hl:i<es.size:=(Array.findIdx?_eq_some_iff_getElem.mp e).1
   try dsimp only at this
   rw [Array.getElem?_eq_getElem hl] at this
   cases this
 rw [hi]
 have D':=D.update (i:=0) (f:=Obj.mapDictKeys fun es=>es.push ⟨hashStr W.w x,.str x t,v⟩) rfl rfl
 exact wpAny_bind (wpAny_rule (wpAny_updateDictKeys (hz:=by rw [sizeLine_eq];omega) D.at0 rfl (hK () trivial _ n _ (by rw [(Heap.SameBut.update ..).1];exact hs) D')))
noncomputable def Dx (x:Str) (e:List (Str×Nat×Value)):Prop:=e=[]∨∃ t v,e=[(x,t,v)]
theorem c1_asg (ok:W.Ok) {t:Nat} (hx:Dx saa ext) :
  Pc W (Ar dp un F) (assign (dcT (DP W)) (c1V W n D) (.int (i:Int) t)) G (c8 D (lo W ext)::L)
  (⟨fun _=>G,fun _=>True,fun _=>(),fun p=>c8 D (lo W [(saa,p,.int (i:Int) t)])::L⟩:A3 Unit Nat):=by
 rcases hx with rfl | ⟨tj,v,rfl⟩<;>refine Pc.of Bo Ap _ (by rw [Ax]) fun R n' tk' c₀ d f gg u hA hR=>?_
 ·exact Aj ok 7 1 hR tk' trivial .next rfl [] 0
 ·exact Aj ok 7 1 hR tj trivial .next rfl [] 0
theorem c1_key (ok:W.Ok) {t k:Nat} (hi:i<6) :
  Pc W (Ar dp un F) (eval (dcK (DP W)) (c1V W n D)) G (c8 D (lo W [(saa,tj,.int (i:Int) t)])::cC (n+10) k::lS k (cvl cl) ek::L)
  (⟨fun _=>G,fun _=>True,fun _=> .str (cl i).1 (cl i).2,fun _=>c8 D (lo W [(saa,tj,.int (i:Int) t)])::cC (n+10) k::lS k (cvl cl) ek::L⟩:A3 Value Unit):=by
 refine Pc.of AL Ac _ (by rw [Ag]) fun R n' tk' c₀ d f gg u hA hR=>?_
 refine BB ok 8 51130434 hA (.call (.builtin "list.__getitem__") ⟨[.ref (k+8),.int (i:Int) t],[]⟩) [2] (lS k (cvl cl) ek) A6 (fun _ _ eA=>Aa (x:= .str (cl i).1 (cl i).2) (by omega) (by omega) (by rw [Int.toNat_natCast];exact Bi hi)) fun _ n₁ tk₁ _=>?_
 exact Aj ok 0 0 hR () trivial (.ret (.str (cl i).1 (cl i).2)) rfl [1,2,0] 0
theorem c1_val (ok:W.Ok) {t k:Nat} (hd:dp<=700) (hu:un<=700) (hq:Needs qq) (hi:i<6) :
  Pc W (Ar dp un F) (eval (dcV (DP W)) (c1V W n D)) G (c8 D (lo W [(saa,tj,.int (i:Int) t)])::cC (n+9) q::cC (n+10) k::lL q (nlv (qv qq 6)) eq::lS k (cvl cl) ek::(qq i).cell::L)
  (⟨fun _=>G,fun _=>True,fun p=> .ref (p.1+8),fun p=>lS p.1 (psN cl qq i) p.2::c8 D (lo W [(saa,tj,.int (i:Int) t)])::cC (n+9) q::cC (n+10) k::lL q (nlv (qv qq 6)) eq::lS k (cvl cl) ek::(qq i).cell::L⟩:A3 Value (Nat×Nat)):=by
 have hqi:=hq i hi
 refine Pc.of AL Ac _ (by rw [Ag]) fun R n' tk' c₀ d f gg u hA hR=>?_
 refine BB ok 8 68173890 hA (.call (.builtin "list.__getitem__") ⟨[.ref (q+8),.int (i:Int) t],[]⟩) [3] (lL q (nlv (qv qq 6)) eq) A6 (fun _ _ eA=>Aa (x:= .ref ((qq i).l+8)) (by omega) (by omega) (by rw [Int.toNat_natCast];exact nlv_get hi)) fun _ n₂ tk₂ _=>?_
 refine CQ ok 12 287110 hA (inSt W (inD (dcV (DP W)) (inS W)) n₂ (n₂+1) n (n₂+2)) (c8 n₂ (lit ((qq i).l+8) 0)::c8 (n₂+2) (lo W [])::lS (n₂+1) [] 0::cC (n+10) k::lS k (cvl cl) ek::(qq i).cell::c8 D (lo W [(saa,tj,.int (i:Int) t)])::cC (n+9) q::lL q (nlv (qv qq 6)) eq::L) [2,0,1,6,7,8,4,5,3] 0 (BP (Ar dp un F)) (fun _ eA=>in_start ok (Tri.at eA (Tri.own (in_a (e1:=0) (xs:=[]) (done:=[]) (rst:=(qq i).ns) (n:=n) (D':=n₂+2) (it:=n₂) (acc:=n₂+1) (k:=k) (d:=(qq i).l) (ek:=ek) (ed:=(qq i).e) (cl:=cl) (ds:=(qq i).ns) (L:=c8 D (lo W [(saa,tj,.int (i:Int) t)])::cC (n+9) q::lL q (nlv (qv qq 6)) eq::L) ok (by omega) (by omega) rfl rfl (by have:=hqi.2;simp;omega) (fun p hp=>Nat.lt_trans (hqi.1 p hp) (by omega))) (fun h D=>A4 [1,2,0] 0 (by kernel_rfl) h D)))) fun p n₃ tk₃ hp=>?_
 obtain ⟨pn,pe⟩:=p
 rcases (hp:(pn=[]/\_)∨((∃ t v,pn=[(sam,t,v)])/\_)) with ⟨rfl,_⟩ | ⟨⟨to,vo,rfl⟩,_⟩
 ·exact Aj ok 1 1 hR (n₂+1,pe) trivial (.ret (.ref (n₂+1+8))) rfl [0,1,5,6,2,7,3,4] 1
 ·exact Aj ok 5 65 hR (n₂+1,pe) trivial (.ret (.ref (n₂+1+8))) rfl [0,1,5,6,2,7,3,4] 1
noncomputable abbrev c1Q (W:Wd) (G:List GenState) (L:List Cell) (n acc D q k eq ek:Nat) (qq:Nat->NL) (cl:Nat->Str×Nat):Post (List (Str×Nat×Value)×(Nat->Nat)×(Nat->Nat)):=
 Nx G (fun p=>c8 D (lo W p.1)::dD acc (gEi W cl p.2.1 6) 6::cC (n+9) q::cC (n+10) k::lL q (nlv (qv qq 6)) eq::lS k (cvl cl) ek::(qc qq 6++(gLi cl qq p.2.1 p.2.2 6++L))) fun p=>∃ t v,p.1=[(saa,t,v)]
theorem c1_loop (ok:W.Ok) {kk:Nat} (hd:dp<=700) (hu:un<=700) (hq:Needs qq) (inj:∀ i j,i<6->j<6->(cl i).1=(cl j).1->i=j) :
  ∀ (k i:Nat) (ext:List (Str×Nat×Value)) (l le:Nat->Nat),i+k=6->Dx saa ext->(0<i->ext≠[]) ->
  Tri W (Ar dp un F) (c1C W it acc n D) G (c8 D (lo W ext)::dD acc (gEi W cl l i) i::c8 it (rit i k)::cC (n+9) q::cC (n+10) kk::lL q (nlv (qv qq 6)) eq::lS kk (cvl cl) ek::(qc qq 6++(gLi cl qq l le i++L))) (c1Q W G L n acc D q kk eq ek qq cl):=by
 intro k
 induction k with
 | zero=>
  intro i ext l le hik hx hne R hR h n0 tk0 hs D0
  obtain rfl:i=6:=hik
  rw [c1C_eq]
  refine E9 ?_
  refine Pc.go (r_end (it:=it) (i:=6) ok) (fun _ _ h1 n1 tk1 hs1 D1=>?_) hs (A2 [[c8 D (lo W ext)],[dD acc (gEi W cl l 6) 6],[c8 it (rit 6 0)]] [2,0,1] (tail:=cC (n+9) q::cC (n+10) kk::lL q (nlv (qv qq 6)) eq::lS kk (cvl cl) ek::(qc qq 6++(gLi cl qq l le 6++L)))  D0)
  exact hR (ext,l,le) (hx.resolve_left (hne (by decide))) h1 n1 tk1 hs1 D1
 | succ k ih=>
  intro i ext l le hik hx hne R hR h n0 tk0 hs D0
  obtain ⟨A,B,hAB⟩:=CL (qq:=qq) (i:=i) (by omega)
  rw [hAB,List.append_assoc,List.append_assoc] at D0
  rw [c1C_eq]
  refine E9 ?_
  refine Pc.go (Cv (it:=it) (i:=i) (k:=k) ok) (fun t _ h1 n1 tk1 hs1 D1=>?_) hs (A2 [[c8 D (lo W ext)],[dD acc (gEi W cl l i) i],[c8 it (rit i (k+1))],[cC (n+9) q],[cC (n+10) kk],[lL q (nlv (qv qq 6)) eq],[lS kk (cvl cl) ek],A,[(qq i).cell],B] [2,0,4,6,3,5,8,1,7,9] (tail:=gLi cl qq l le i++L)  D0)
  try dsimp only
  refine Pc.go (c1_asg ok hx) (fun tj _ h2 n2 tk2 hs2 D2=>?_) hs1 (A2 [[c8 it (rit (i+1) k)],[c8 D (lo W ext)]] [1,0] (tail:=cC (n+10) kk::lS kk (cvl cl) ek::cC (n+9) q::lL q (nlv (qv qq 6)) eq::(qq i).cell::dD acc (gEi W cl l i) i::(A++(B++(gLi cl qq l le i++L))))  D1)
  refine Pc.go (c1_key (t:=t) (tj:=tj) (k:=kk) (ek:=ek) (cl:=cl) (L:=cC (n+9) q::lL q (nlv (qv qq 6)) eq::(qq i).cell::dD acc (gEi W cl l i) i::c8 it (rit (i+1) k)::(A++(B++(gLi cl qq l le i++L)))) ok (by omega)) (fun _ _ h3 n3 tk3 hs3 D3=>?_) hs2 (A2 [[c8 D (lo W [(saa,tj,.int (i:Int) t)])],[c8 it (rit (i+1) k)],[cC (n+10) kk],[lS kk (cvl cl) ek],[cC (n+9) q],[lL q (nlv (qv qq 6)) eq],[(qq i).cell],[dD acc (gEi W cl l i) i]] [0,2,3,4,5,6,7,1] (tail:=A++(B++(gLi cl qq l le i++L)))  D2)
  refine Pc.go (c1_val (t:=t) (tj:=tj) (q:=q) (k:=kk) (eq:=eq) (ek:=ek) (cl:=cl) (L:=dD acc (gEi W cl l i) i::c8 it (rit (i+1) k)::(A++(B++(gLi cl qq l le i++L)))) ok hd hu hq (by omega)) (fun p _ h4 n4 tk4 hs4 D4=>?_) hs3 (A2 [[c8 D (lo W [(saa,tj,.int (i:Int) t)])],[cC (n+10) kk],[lS kk (cvl cl) ek],[cC (n+9) q],[lL q (nlv (qv qq 6)) eq]] [0,3,1,4,2] (tail:=(qq i).cell::dD acc (gEi W cl l i) i::c8 it (rit (i+1) k)::(A++(B++(gLi cl qq l le i++L))))  D3)
  refine Pc.go (set_new (d:=acc) (L:=c8 D (lo W [(saa,tj,.int (i:Int) t)])::c8 it (rit (i+1) k)::cC (n+9) q::cC (n+10) kk::lL q (nlv (qv qq 6)) eq::lS kk (cvl cl) ek::(A++([(qq i).cell]++(B++(lS p.1 (psN cl qq i) p.2::(gLi cl qq l le i++L)))))) (gEi_keys W cl l i) (gEi_none fun j hj e=>absurd (inj j i (by omega) (by omega) e) (by omega)) (by simp [gEi];omega)) (fun _ _ h5 n5 tk5 hs5 D5=>?_) hs4 (A2 [[lS p.1 (psN cl qq i) p.2],[c8 D (lo W [(saa,tj,.int (i:Int) t)])],[cC (n+9) q],[cC (n+10) kk],[lL q (nlv (qv qq 6)) eq],[lS kk (cvl cl) ek],[(qq i).cell],[dD acc (gEi W cl l i) i],[c8 it (rit (i+1) k)],A,B] [7,1,8,2,3,4,5,9,6,10,0] (tail:=gLi cl qq l le i++L)  D4)
  have D6:=A2 [[dD acc ((gEi W cl l i).push ⟨hashStr W.w (cl i).1,.str (cl i).1 (cl i).2,.ref (p.1+8)⟩) (i+1)],[c8 D (lo W [(saa,tj,.int (i:Int) t)])]] [1,0] (tail:=c8 it (rit (i+1) k)::cC (n+9) q::cC (n+10) kk::lL q (nlv (qv qq 6)) eq::lS kk (cvl cl) ek::(A++([(qq i).cell]++(B++(lS p.1 (psN cl qq i) p.2::(gLi cl qq l le i++L))))))  D5
  rw [gEi_push,← List.append_assoc [(qq i).cell],← List.append_assoc A,← hAB] at D6
  have eg:(lS p.1 (psN cl qq i) p.2)::gLi cl qq l le i=gLi cl qq (setl l i p.1) (setl le i p.2) (i+1):=by
   show _=(setl l i p.1 i+8,A1 (sv (psN cl qq i)) (setl le i p.2 i))::_
   rw [gLi_set cl qq l le i p.1 p.2 i (Nat.le_refl _)]
   unfold setl
   rw [if_pos rfl,if_pos rfl]
  have eg':(lS p.1 (psN cl qq i) p.2)::(gLi cl qq l le i++L)=gLi cl qq (setl l i p.1) (setl le i p.2) (i+1)++L:=by rw [← eg];rfl
  rw [eg'] at D6
  have z:=ih (i+1) _ (setl l i p.1) (setl le i p.2) (by omega) (.inr ⟨tj,.int (i:Int) t,rfl⟩) (fun _=>List.cons_ne_nil _ _) R hR h5 n5 tk5 hs5 D6
  rw [c1C_eq] at z
  exact z
theorem psN_ok (hq:Needs qq) (inj:∀ i j,i<6->j<6->(cl i).1=(cl j).1->i=j):GOk (fun i=>(cl i).1) (psN cl qq) where
 inj:=inj
 len k hk:=by
  have:=(hq k hk).2
  unfold psN
  rw [List.length_map];omega
 mem k hk y hy:=by
  obtain ⟨p,hp,rfl⟩:=List.mem_map.mp hy
  exact ⟨p.1,(hq k hk).1 p hp,rfl⟩
noncomputable def vw (x:Nat->Str) (ps:Nat->List (Str×Nat)) (k j:Nat):Str×Int×List Str:=(x j,(ps j).length,(List.range' 0 k).flatMap fun i=>List.replicate (((ps i).map (·.1)).count (x j)) (x i))
theorem st_vw {x:Nat->Str} {t:Nat} {ps:Nat->List (Str×Nat)} {k:Nat} {ns ns':List Nd} (hg:GOk x ps) (hk:k<6) (h:ns.map Nd.v=(List.range' 0 k).map (vw x ps k)) (s:St (x k) t (ps k) ns ns'):ns'.map Nd.v=(List.range' 0 (k+1)).map (vw x ps (k+1)):=by
 obtain ⟨a,di,tp,l,e⟩:=s
 have e1:=congrArg (List.map Nd.v) e
 rw [List.map_map,show Nd.v ∘ Nd.z=Nd.v from rfl,List.map_append,List.map_map] at e1
 rw [e1,List.range'_1_concat,List.map_append]
 congr 1
 ·have:(Nd.v ∘ app (x k) t ((ps k).map (·.1)))=(fun p:Str×Int×List Str=>(p.1,p.2.1,p.2.2++List.replicate (((ps k).map (·.1)).count p.1) (x k))) ∘ Nd.v:=by
   funext nd
   simp [app,Nd.v]
  rw [this,← List.map_map,h,List.map_map]
  refine List.map_congr_left fun j _=>?_
  simp only [vw,Function.comp,List.range'_1_concat,List.flatMap_append,List.flatMap_cons,List.flatMap_nil,List.append_nil,Nat.zero_add]
 ·simp only [List.map_cons,List.map_nil,Nd.v,vw,Nat.zero_add]
  congr 3
  symm
  rw [List.flatMap_eq_nil_iff]
  intro i hi
  have hi:=List.mem_range'_1.mp hi
  rw [List.replicate_eq_nil_iff,List.count_eq_zero]
  intro hm
  obtain ⟨y,hy,ey⟩:=List.mem_map.mp hm
  obtain ⟨m,hm,em⟩:=hg.mem i (by omega) y hy
  have:=hg.inj k m hk (by omega) (ey▸em)
  omega
theorem ch_vw {x:Nat->Str} {t:Nat->Nat} {ps:Nat->List (Str×Nat)} (hg:GOk x ps):∀ (f k:Nat) {ns ns':List Nd},f+k=6->ns.map Nd.v=(List.range' 0 k).map (vw x ps k)->Ch x t ps f k ns ns'->ns'.map Nd.v=(List.range' 0 6).map (vw x ps 6)
 | 0,k,ns,ns',hf,h,c=>by
  obtain rfl:k=6:=by omega
  obtain rfl:ns'=ns:=c
  exact h
 | f+1,k,ns,ns',hf,h,⟨ns1,s,c⟩=>ch_vw hg f (k+1) (by omega) (st_vw hg (by omega) h s) c
theorem vw_pv (hq:Needs qq) (inj:∀ i j,i<6->j<6->(cl i).1=(cl j).1->i=j):(List.range' 0 6).map (vw (fun i=>(cl i).1) (psN cl qq) 6)=nview cl qq (pv qq [] []):=by
 unfold nview
 refine List.map_congr_left fun j hj=>?_
 have hj:=List.mem_range'_1.mp hj
 have e1:((psN cl qq j).length:Int)=pv qq [] [] j:=by
  have e:fl [] (qq j).ns=(qq j).ns:=List.filter_eq_self.mpr fun p _=>rfl
  show _=((fl [] (qq j).ns).length:Int)
  rw [e];simp [psN]
 have e2:((List.range' 0 6).flatMap fun i=>List.replicate (((psN cl qq i).map (·.1)).count (cl j).1) (cl i).1)=(dep qq j).map fun i=>(cl i).1:=by
  unfold dep
  rw [List.map_flatMap]
  refine congrArg List.flatten (List.map_congr_left fun i hi=>?_)
  have hi:=List.mem_range'_1.mp hi
  rw [List.map_replicate]
  congr 1
  have hm:=(hq i (by omega)).1
  unfold cnt psN
  revert hm
  generalize (qq i).ns=l
  intro hm
  induction l with
  | nil=>rfl
  | cons p l ih=>
   simp only [List.map_cons,List.count_cons]
   rw [ih fun q hq=>hm q (List.mem_cons_of_mem _ hq)]
   have:=hm p (List.mem_cons_self ..)
   congr 1
   by_cases e:p.1=j
   ·subst e;simp
   ·have:(cl p.1).1≠(cl j).1:=fun h=>e (inj _ _ (by omega) (by omega) h)
    simp [e,this]
 show (_,_,_)=(_,_,_)
 rw [e1,e2]
theorem six {ns:List Nd} {α:Type} {f:Nd->α} {g:Nat->α} (h:ns.map f=(List.range' 0 6).map g):∃ n0 n1 n2 n3 n4 n5,ns=[n0,n1,n2,n3,n4,n5]:=by
 have e:=congrArg List.length h
 simp only [List.length_map,List.length_range'] at e
 obtain ⟨n0,t,rfl⟩:=List.exists_cons_of_length_eq_add_one e
 obtain ⟨n1,t,rfl⟩:=List.exists_cons_of_length_eq_add_one (Nat.succ.inj e)
 obtain ⟨n2,t,rfl⟩:=List.exists_cons_of_length_eq_add_one (Nat.succ.inj (Nat.succ.inj e))
 obtain ⟨n3,t,rfl⟩:=List.exists_cons_of_length_eq_add_one (Nat.succ.inj (Nat.succ.inj (Nat.succ.inj e)))
 obtain ⟨n4,t,rfl⟩:=List.exists_cons_of_length_eq_add_one (Nat.succ.inj (Nat.succ.inj (Nat.succ.inj (Nat.succ.inj e))))
 obtain ⟨n5,t,rfl⟩:=List.exists_cons_of_length_eq_add_one (Nat.succ.inj (Nat.succ.inj (Nat.succ.inj (Nat.succ.inj (Nat.succ.inj e)))))
 obtain rfl:t=[]:=List.length_eq_zero_iff.mp (Nat.succ.inj (Nat.succ.inj (Nat.succ.inj (Nat.succ.inj (Nat.succ.inj (Nat.succ.inj e))))))
 exact ⟨n0,n1,n2,n3,n4,n5,rfl⟩
noncomputable def rkC (cl:Nat->Str×Nat) (s:Str):Nat:=(List.range' 0 6).findIdx fun i=>decide ((cl i).1=s)
theorem rkC_eq (inj:∀ i j,i<6->j<6->(cl i).1=(cl j).1->i=j) {j:Nat} (hj:j<6):rkC cl (cl j).1=j:=by
 unfold rkC
 rw [List.findIdx_eq (by simpa using hj)]
 simp only [List.getElem_range',Nat.one_mul,Nat.zero_add,decide_true,true_and]
 refine fun i hi=>by
  have:=fun h=>inj i j (by omega) hj h
  simp;exact fun h=>by have:=this h;omega
theorem gr_ok {ns:List Nd} (hq:Needs qq) (inj:∀ i j,i<6->j<6->(cl i).1=(cl j).1->i=j) (h:ns.map Nd.v=nview cl qq (pv qq [] [])):GrOk (rkC cl) ns:=by
 have hx:=nview_x h
 have key:∀ nd∈ns,∀ z∈nd.ss,∃ j i,j<6/\i<6/\j<i/\nd.x=(cl j).1/\z.1=(cl i).1:=by
  intro nd hn z hz
  have hm:nd.v∈nview cl qq (pv qq [] []):=h▸List.mem_map_of_mem hn
  obtain ⟨j,hj,e⟩:=List.mem_map.mp hm
  have hj:=List.mem_range'_1.mp hj
  have e1:(cl j).1=nd.x:=congrArg (·.1) e
  have e2:((dep qq j).map fun i=>(cl i).1)=nd.ss.map (·.1):=congrArg (·.2.2) e
  have hz':z.1∈nd.ss.map (·.1):=List.mem_map_of_mem hz
  rw [← e2] at hz'
  obtain ⟨i,hi,e3⟩:=List.mem_map.mp hz'
  obtain ⟨m,hm,hr⟩:=List.mem_flatMap.mp hi
  obtain ⟨hc,rfl⟩:=List.mem_replicate.mp hr
  have hm:=List.mem_range'_1.mp hm
  have hc:j∈(qq i).ns.map (·.1):=by
   rw [← List.count_pos_iff]
   exact Nat.pos_of_ne_zero hc
  obtain ⟨p,hp,rfl⟩:=List.mem_map.mp hc
  exact ⟨p.1,i,by omega,by omega,(hq i (by omega)).1 p hp,e1.symm,e3.symm⟩
 refine ⟨?_,fun nd hn z hz=>?_,fun nd hn z hz=>?_⟩
 ·rw [hx,List.nodup_iff_pairwise_ne,List.pairwise_map]
  refine List.Pairwise.imp_of_mem (fun {a b} ha hb hab e=>?_) (List.nodup_range' (step:=1))
  exact hab (inj a b (by have:=List.mem_range'_1.mp ha;omega) (by have:=List.mem_range'_1.mp hb;omega) e)
 ·obtain ⟨j,i,h1,h2,h3,e1,e2⟩:=key nd hn z hz
  rw [e1,e2,rkC_eq inj h1,rkC_eq inj h2]
  exact h3
 ·obtain ⟨j,i,h1,h2,h3,e1,e2⟩:=key nd hn z hz
  rw [hx,e2]
  exact List.mem_map_of_mem (List.mem_range'_1.mpr (by omega))
theorem ci_0 (h:[n0,n1,n2,n3,n4,n5].map Nd.v=nview cl qq (pv qq [] [])):CI cl qq [n0,n1,n2,n3,n4,n5] ([]++zero n0++zero n1++zero n2++zero n3++zero n4++zero n5) [] [] [] where
 v:=h
 rs:=by
  have e:([]++zero n0++zero n1++zero n2++zero n3++zero n4++zero n5).map (fun p:Str×Nat=>p.1)=([n0,n1,n2,n3,n4,n5].map Nd.v).flatMap fun p=>if p.2.1=0 then [p.1] else []:=by
   have z:∀ nd:Nd,(zero nd).map (·.1)=if nd.v.2.1=0 then [nd.v.1] else []:=fun nd=>by
    unfold zero Nd.v
    split<;>rfl
   simp only [List.map_append,z,List.map_cons,List.map_nil,List.flatMap_cons,List.flatMap_nil,List.append_nil,List.nil_append,List.append_assoc]
  rw [e,h]
  unfold nview AH
  rw [List.flatMap_map]
  induction (List.range' 0 6) with
  | nil=>rfl
  | cons j l ih=>
   rw [List.flatMap_cons,ih,List.filter_cons]
   have:Cn [] [] qq j=decide (pv qq [] [] j=0):=by
    show (fl [] (qq j).ns).isEmpty=decide (((fl [] (qq j).ns).length:Int)=0)
    cases fl [] (qq j).ns<;>simp<;>omega
   rw [this]
   by_cases z:pv qq [] [] j=0<;>simp [z]
 perm:= .refl _
 nd:= .nil
 lt:=fun q hq=>by cases hq
 cls:=fun i h=>by cases h
noncomputable def A7:Obj:=⟨.type "cell",none,.cell none,#[]⟩
theorem c1_start (ok:W.Ok) {k:Nat} {α:Type} {Q:Post α} (spec:Tri W A (c1C W it acc n D) G (c8 it (rit i k)::L) Q):Tri W A (c1S W it acc n D) G (c8 it (rit i k)::L) Q:=by
 obtain ⟨w₀,b2,b3,h₀,dd,os⟩:=W
 cases b2
 ·refine Tri.of fun R n' tk hR=>?_
  exact Cq ok 11 266305 (c1C _ it acc n D) _ [] 0 hR spec
 ·refine Tri.of fun R n' tk hR=>?_
  exact Cq ok 1 0 (c1C _ it acc n D) _ [] 0 hR spec
noncomputable def CE (tk i:Nat):Str×Nat:=(match i with
 | 0=>sbn
 | 1=>(S [98])
 | 2=>(S [113])
 | 3=>(S [101])
 | 4=>(S [120])
 | 5=>(S [99])
 | _=>S [],tk+i)
theorem CO (tk:Nat):∀ i j,i<6->j<6->(CE tk i).1=(CE tk j).1->i=j:=by
 have h:∀ i,i<6->∀ j,j<6->(CE 0 i).1=(CE 0 j).1->i=j:=by decide +kernel
 exact fun i j hi hj e=>h i hi j hj e
theorem execs_take (W:Wd):Ak W.kt 207=(Ak W.kt 207).take 5++(Ak W.kt 207).drop 5:=(List.take_append_drop ..).symm
structure SA where
 c:Nat
 cs:List (Int×Nat)
 ec:Nat
 q:Nat
 eq:Nat
 qq:Nat->NL
 k:Nat
 tc:Nat
 z:Sr
 n0:Nd
 n1:Nd
 n2:Nd
 n3:Nd
 n4:Nd
 n5:Nd
 y:Sr
 t1:Nat
 t2:Nat
noncomputable abbrev SA.ns (p:SA):List Nd:=[p.n0,p.n1,p.n2,p.n3,p.n4,p.n5]
noncomputable def saN (tk l:Nat) (p:SA) (ext:List (Str×Nat×Value)):List (Str×Nat×Value):=(sag,tk,.ref (l+8))::(sal,p.t1,.ref (p.c+8))::(san,p.t2,.ref (p.z.s+8))::ext
noncomputable def saL (W:Wd) (n tk l e:Nat) (xs:List (Int×Nat)) (L:List Cell) (p:SA):List Cell:=
 (AF W n (saN tk l p []))::cC (n+9) p.q::cC (n+10) p.k::cC (n+11) p.y.s::(n+12,A7)::(n+13,A7)::lI l xs e::lI p.c p.cs p.ec::lS p.k (cvl (CE p.tc)) 0::lL p.q (nlv (qv p.qq 6)) p.eq::(qc p.qq 6++(p.z.cells W .none 0 0 p.ns 6++(p.y.cells W .none 0 0 [] 0++(A0 p.ns++L))))
structure SAok (p:SA):Prop where
 cs:p.cs.length=6
 q:Needs p.qq
 v:p.ns.map Nd.v=nview (CE p.tc) p.qq (pv p.qq [] [])
theorem x_A (ok:W.Ok) (hz:W.Low) {xs:List (Int×Nat)} (hd:dp<=400) (hu:un<=400) (hx:xs.length<=63) :
  Pc W (Ar dp un F) (execs ((Ak W.kt 207).take 5) (AD W n)) G (AF W n [(sag,tk,.ref (l+8))]::(n+9,A7)::(n+10,A7)::(n+11,A7)::(n+12,A7)::(n+13,A7)::lI l xs e::L)
  (⟨fun _=>G,fun p=>SAok p,fun _=> .next,saL W n tk l e xs L⟩:A3 Flow SA):=by
 refine Pc.of id Ai _ (by rw [Ao]) fun R n' tk' c₀ d f gg u hA hR=>?_
 refine BB ok 7 64 hA (.call (.ref 183) ⟨[.ref (l+8)],[]⟩) [6] (lI l xs e) (gd dp un) (fun _ _ eA=>law_cells ok hz (Ab dp un eA (by omega) (by omega)) (by omega)) fun p n₁ tk₁ hp=>?_
 refine BB ok 15 786563 hA (.call (.ref 190) ⟨[.ref (p.1+8)],[]⟩) [0] (lI p.1 p.2.1 p.2.2) (gd dp un) (fun _ _ eA=>law_needs ok (Ab dp un eA (by omega) (by omega)) hp) fun p2 n₂ tk₂ hq=>?_
 refine CQ ok 61 5151088153308360742519971041931 hA (c1S W (n₂+2) (n₂+3) n (n₂+4)) (c8 (n₂+2) (rit 0 6)::c8 (n₂+4) (lo W [])::dD (n₂+3) (gEi W (CE tk₂) (fun _=>0) 0) 0::cC (n+9) p2.1::cC (n+10) n₂::lL p2.1 (nlv (qv p2.2.2 6)) p2.2.1::lS n₂ (cvl (CE tk₂)) 0::(qc p2.2.2 6++(gLi (CE tk₂) p2.2.2 (fun _=>0) (fun _=>0) 0++(lI p.1 p.2.1 p.2.2::lI l xs e::AF W n [(sag,tk,.ref (l+8)),(sal,tk₁,.ref (p.1+8))]::(n+11,A7)::(n+12,A7)::(n+13,A7)::L)))) [3,2,0,1,15,16,5,4,6,7,8,9,10,11,12,13,14,17,18,19] 1 (BP (Ar dp un F)) (fun _ eA=>c1_start ok (Tri.at eA (Tri.own (c1_loop (n:=n) (D:=n₂+4) (it:=n₂+2) (acc:=n₂+3) (q:=p2.1) (kk:=n₂) (eq:=p2.2.1) (ek:=0) (qq:=p2.2.2) (cl:=CE tk₂) (L:=lI p.1 p.2.1 p.2.2::lI l xs e::AF W n [(sag,tk,.ref (l+8)),(sal,tk₁,.ref (p.1+8))]::(n+11,A7)::(n+12,A7)::(n+13,A7)::L) ok (by omega) (by omega) hq (CO tk₂) 6 0 [] (fun _=>0) (fun _=>0) rfl (.inl rfl) (fun h=>absurd h (Nat.lt_irrefl 0))) (fun h D=>A4 [1,2,0] 0 (by kernel_rfl) h D)))) fun p3 n₃ tk₃ hp3=>?_
 obtain ⟨ext,gl,gle⟩:=p3
 obtain ⟨tj,vj,rfl⟩:∃ t v,ext=[(saa,t,v)]:=hp3
 refine CQ ok 8 65 hA (.call (.ref 174) ⟨[.ref (n₂+3+8)],[]⟩) (dD (n₂+3) (gE (fun i=>hashStr W.w (CE tk₂ i).1) (fun i=>(CE tk₂ i).1) (fun i=>(CE tk₂ i).2) gl) 6::(gL gl (psN (CE tk₂) p2.2.2) gle++(cC (n+9) p2.1::cC (n+10) n₂::lL p2.1 (nlv (qv p2.2.2 6)) p2.2.1::lS n₂ (cvl (CE tk₂)) 0::(qc p2.2.2 6++(lI p.1 p.2.1 p.2.2::lI l xs e::AF W n [(sag,tk,.ref (l+8)),(sal,tk₁,.ref (p.1+8))]::(n+11,A7)::(n+12,A7)::(n+13,A7)::L))))) [0,1,17,16,15,14,13,12,2,3,4,5,6,7,8,9,10,11,18,19,20,21,22,23] 1 (gd dp un) (fun _ eA=>newg ok (Ab dp un eA (by omega) (by omega)) (psN_ok hq (CO tk₂))) fun p4 n₄ tk₄ hp4=>?_
 obtain ⟨z,ns⟩:=p4
 have hv:=(ch_vw (psN_ok hq (CO tk₂)) 6 0 rfl rfl hp4).trans (vw_pv hq (CO tk₂))
 obtain ⟨n0,n1,n2,n3,n4,n5,rfl⟩:=six (hv.trans rfl)
 refine CQ ok 14 2146 hA (.call (.ref 174) ⟨[],[]⟩) (gL gl (psN (CE tk₂) p2.2.2) gle++(z.cells W .none 0 0 [n0,n1,n2,n3,n4,n5] 6++(A0 [n0,n1,n2,n3,n4,n5]++(cC (n+9) p2.1::cC (n+10) n₂::lL p2.1 (nlv (qv p2.2.2 6)) p2.2.1::lS n₂ (cvl (CE tk₂)) 0::(qc p2.2.2 6++(lI p.1 p.2.1 p.2.2::lI l xs e::AF W n [(sag,tk,.ref (l+8)),(sal,tk₁,.ref (p.1+8)),(san,tk₄,.ref (z.s+8))]::(n+11,A7)::(n+12,A7)::(n+13,A7)::L)))))) [] 0 (gd dp un) (fun _ eA=>new0 ok (Ab dp un eA (by omega) (by omega))) fun y n₅ tk₅ _=>?_
 exact Aj ok 6 2406 hR (SA.mk p.1 p.2.1 p.2.2 p2.1 p2.2.1 p2.2.2 n₂ tk₂ z n0 n1 n2 n3 n4 n5 y tk₁ tk₄) ⟨hp,hq,hv⟩ .next rfl [3,4,5,6,7,8,36,24,25,37,38,39,35,34,27,26,28,29,30,31,32,33,9,10,11,0,1,2,12,13,14,15,16,17,18,19,20,21,22,23] 6
noncomputable def a5C (W:Wd):PySem.Expr:=cmL (ifT (Bx W 5))
noncomputable def a5F (W:Wd):PySem.Expr:=B6 (lcF (a5C W)) 0
noncomputable def caB (e:PySem.Expr):PySem.Expr:=(Bp (B6 (Bp e).l 1)).e
noncomputable def a5I (W:Wd):PySem.Expr:=caB (cmL (a5F W))
theorem a5I_eq (W:Wd):a5I W=inD (a5I W) (inS W):=by kernel_rfl
theorem a5_eq (W:Wd):a5C W= .ListComp (lcE (a5C W)) [⟨lcT (a5C W),lcI (a5C W),[a5F W],0⟩] (E8 (a5C W)) (lcP (a5C W)):=by kernel_rfl
noncomputable def a5V (W:Wd) (n D:Nat):Env:=Cm (AD W n) (a5C W) (D+8) [(S [111,108,100,101,115,116],n+11),(sch,n+9),(scc,n+10)]
noncomputable def a5Co (W:Wd) (it acc n D:Nat):Code:= .compLoop (a5C W) 0 (.ref (it+8)) (.ref (acc+8)) (a5V W n D)
noncomputable def a5S (W:Wd) (it acc n D:Nat):Code:= .compStart (a5C W) 0 (.ref (it+8)) (.ref (acc+8)) (a5V W n D)
theorem Bu {X Z:List Cell} (D:Own h₀ 53 h (X++(C++(Z++L)))):Own h₀ 53 h (Z++(X++(C++L))):=
 D.perm ((List.Perm.append_left X (List.perm_append_comm_assoc ..)).trans (List.perm_append_comm_assoc ..))
theorem a5_cnd (ok:W.Ok) {t k:Nat} {y:Sr} {ns:List Nd} (hd:dp<=550) (hu:un<=550) (hq:Needs qq) (hi:i<6) (hps:(qq i).ns.map (fun p=>cl p.1)=ps) (hnd:(ns.map Nd.x).Nodup) (hx:(cl i).1∉ns.map Nd.x) (hin:∀ y∈ps,y.1∈ns.map Nd.x) (hlen:ps.length<=10) (hns:ns.length<=100) (hl:∀ nd∈ns,nd.ss.length<=100) :
  Pc W (Ar dp un F) (PySem.isTrue (a5F W) (a5V W n D) (eval (a5F W) (a5V W n D))) G (c8 D (lo W [(saa,tj,.int (i:Int) t)])::cC (n+9) q::cC (n+10) k::cC (n+11) y.s::lL q (nlv (qv qq 6)) eq::lS k (cvl cl) ek::(qq i).cell::(y.cells W .none 0 0 ns ep++(A0 ns++L)))
  (⟨fun _=>G,fun ns'=>St (cl i).1 (cl i).2 ps ns ns',fun _=>false,fun ns'=>c8 D (lo W [(saa,tj,.int (i:Int) t)])::cC (n+9) q::cC (n+10) k::cC (n+11) y.s::lL q (nlv (qv qq 6)) eq::lS k (cvl cl) ek::(qq i).cell::(y.cells W .none 0 0 ns' (ep+1)++(A0 ns'++L))⟩:A3 Bool (List Nd)):=by
 have hqi:=hq i hi
 have spec:∀ n' n₂:Nat,Tri W (Ar dp un F) (inC W (inD (a5I W) (inS W)) n₂ (n₂+1) n (n₂+2)) G (c8 n₂ (lit ((qq i).l+8) 0)::c8 (n₂+2) (lo W [])::lS (n₂+1) [] 0::cC (n+10) k::lS k (cvl cl) ek::(qq i).cell::c8 n' (AI 124 (y.s+8))::c8 D (lo W [(saa,tj,.int (i:Int) t)])::cC (n+9) q::cC (n+11) y.s::lL q (nlv (qv qq 6)) eq::(y.cells W .none 0 0 ns ep++(A0 ns++L))) (inQ W G (c8 n' (AI 124 (y.s+8))::c8 D (lo W [(saa,tj,.int (i:Int) t)])::cC (n+9) q::cC (n+11) y.s::lL q (nlv (qv qq 6)) eq::(y.cells W .none 0 0 ns ep++(A0 ns++L))) n (n₂+1) (n₂+2) k (qq i).l ek (qq i).e cl (qq i).ns ps):=fun n' n₂=>by
  have z:=in_a (W:=W) (G:=G) (dp:=dp) (un:=un) (F:=F) (e1:=0) (xs:=[]) (done:=[]) (rst:=(qq i).ns) (n:=n) (D':=n₂+2) (it:=n₂) (acc:=n₂+1) (k:=k) (d:=(qq i).l) (ek:=ek) (ed:=(qq i).e) (cl:=cl) (ds:=(qq i).ns) (itx:=lcI (a5I W)) (p1:=eP (suL (lcE (a5I W)))) (p2:=eP (suR (lcE (a5I W)))) (p3:=eP (lcE (a5I W))) (p4:=eP (lcT (a5I W))) (p5:=lcP (a5I W)) (L:=c8 n' (AI 124 (y.s+8))::c8 D (lo W [(saa,tj,.int (i:Int) t)])::cC (n+9) q::cC (n+11) y.s::lL q (nlv (qv qq 6)) eq::(y.cells W .none 0 0 ns ep++(A0 ns++L))) ok (by omega) (by omega) rfl rfl (by have:=hqi.2;simp;omega) (fun p hp=>Nat.lt_trans (hqi.1 p hp) (by omega))
  rw [List.nil_append,hps] at z
  exact Tri.own z (fun h D=>A4 [1,2,0] 0 (by kernel_rfl) h D)
 refine Pc.of embB Bv _ (by rw [BA,Ag]) fun R n' tk' c₀ d f gg u hA hR=>?_
 refine BB ok 38 158582647478994248757574602492688458319921668 hA (.call (.builtin "list.__getitem__") ⟨[.ref (k+8),.int (i:Int) t],[]⟩) [6] (lS k (cvl cl) ek) A6 (fun _ _ eA=>Aa (x:= .str (cl i).1 (cl i).2) (by omega) (by omega) (by rw [Int.toNat_natCast];exact Bi hi)) fun _ n₁ tk₁ _=>?_
 refine BB ok 8 119304388 hA (.call (.builtin "list.__getitem__") ⟨[.ref (q+8),.int (i:Int) t],[]⟩) [6] (lL q (nlv (qv qq 6)) eq) A6 (fun _ _ eA=>Aa (x:= .ref ((qq i).l+8)) (by omega) (by omega) (by rw [Int.toNat_natCast];exact nlv_get hi)) fun _ n₂ tk₂ _=>?_
 refine CQ ok 12 295432 hA (inSt W (inD (a5I W) (inS W)) n₂ (n₂+1) n (n₂+2)) (c8 n₂ (lit ((qq i).l+8) 0)::c8 (n₂+2) (lo W [])::lS (n₂+1) [] 0::cC (n+10) k::lS k (cvl cl) ek::(qq i).cell::c8 n' (AI 124 (y.s+8))::c8 D (lo W [(saa,tj,.int (i:Int) t)])::cC (n+9) q::cC (n+11) y.s::lL q (nlv (qv qq 6)) eq::(y.cells W .none 0 0 ns ep++(A0 ns++L))) [2,0,1,8,4,10,5,6,7,9,3] 0 (BP (Ar dp un F)) (fun _ eA=>in_start ok (Tri.at eA (spec n' n₂))) fun p n₃ tk₃ hp=>?_
 obtain ⟨pn,pe⟩:=p
 rcases (hp:(pn=[]/\(qq i).ns=[])∨((∃ t v,pn=[(sam,t,v)])/\(qq i).ns≠[])) with ⟨rfl,he⟩ | ⟨⟨to,vo,rfl⟩,he⟩
 ·have e:ps=[]:=by rw [← hps,he];rfl
  clear spec hps
  subst e
  refine BB ok 3 129 hA (.builtin "proto.collect" ⟨[.ref (n₂+1+8)],[]⟩) [1] (lS (n₂+1) [] pe) (gd dp un) (fun _ _ eA=>collect ok (by rw [Am];omega) (Ab dp un eA (by omega) (by omega))) fun p n₄ tk₄ _=>?_
  refine gmore ok 4 449 ⟨by kernel_rfl,?_⟩
  refine pcall hA (by kernel_rfl) (.call (.ref (n'+8)) ⟨.str (cl i).1 (cl i).2::[],[]⟩) (by kernel_rfl) (by kernel_rfl) (L:=c8 n' (AI 124 (y.s+8))::(y.cells W .none 0 0 ns ep++(A0 ns++(c8 D (lo W [(saa,tj,.int (i:Int) t)])::cC (n+9) q::cC (n+10) k::cC (n+11) y.s::lL q (nlv (qv qq 6)) eq::lS k (cvl cl) ek::(qq i).cell::L))))
   (fun h D9=>AJ (X:=c8 n' (AI 124 (y.s+8))::y.cells W .none 0 0 ns ep) (Y:=[c8 D (lo W [(saa,tj,.int (i:Int) t)]),cC (n+9) q,cC (n+10) k,cC (n+11) y.s,lL q (nlv (qv qq 6)) eq,lS k (cvl cl) ek,(qq i).cell]) (C:=A0 ns) (L:=L) (A4 [0,1,2,6,11,12,13,7,8,3,9,10,4,5] 3 (by kernel_rfl) h D9)) (bound ok (AS (ps:=[]) ok (Ab dp un (by kernel_rfl) (by omega) (by omega)) ns hnd hx hin (by simp) hns hl)) fun ns' n₂ tk₂ hn=>?_
  exact gmend ok 2 0 hR ns' hn (.ret (.bool false)) rfl (fun h D9=>Bu (X:=y.cells W .none 0 0 ns' (ep+1)) (C:=A0 ns') (Z:=[c8 D (lo W [(saa,tj,.int (i:Int) t)]),cC (n+9) q,cC (n+10) k,cC (n+11) y.s,lL q (nlv (qv qq 6)) eq,lS k (cvl cl) ek,(qq i).cell]) (L:=L) (A4 [] 0 (by kernel_rfl) h D9))
 ·have e:ps≠[]:=by rw [← hps];simpa using he
  clear spec hps
  refine BB ok 7 524353 hA (.builtin "proto.collect" ⟨[.ref (n₂+1+8)],[]⟩) [1] (lS (n₂+1) ps pe) (gd dp un) (fun _ _ eA=>collect ok (by rw [Am];omega) (Ab dp un eA (by omega) (by omega))) fun p n₄ tk₄ _=>?_
  clear he
  revert hR hin e
  induction ps,hlen using short with
  | h0=>exact fun _ _ e=>absurd rfl e
  | h1 a0=>
   intro hin hR e
   refine gmore ok 4 449 ⟨by kernel_rfl,?_⟩
   refine pcall hA (by kernel_rfl) (.call (.ref (n'+8)) ⟨.str (cl i).1 (cl i).2::[.str a0.1 a0.2],[]⟩) (by kernel_rfl) (by kernel_rfl) (L:=c8 n' (AI 124 (y.s+8))::(y.cells W .none 0 0 ns ep++(A0 ns++(c8 D (lo W [(saa,tj,.int (i:Int) t)])::cC (n+9) q::cC (n+10) k::cC (n+11) y.s::lL q (nlv (qv qq 6)) eq::lS k (cvl cl) ek::(qq i).cell::L))))
    (fun h D9=>AJ (X:=c8 n' (AI 124 (y.s+8))::y.cells W .none 0 0 ns ep) (Y:=[c8 D (lo W [(saa,tj,.int (i:Int) t)]),cC (n+9) q,cC (n+10) k,cC (n+11) y.s,lL q (nlv (qv qq 6)) eq,lS k (cvl cl) ek,(qq i).cell]) (C:=A0 ns) (L:=L) (A4 [0,1,2,6,11,12,13,7,8,3,9,10,4,5] 3 (by kernel_rfl) h D9)) (bound ok (AS (ps:=[a0]) ok (Ab dp un (by kernel_rfl) (by omega) (by omega)) ns hnd hx hin (by simp) hns hl)) fun ns' n₂ tk₂ hn=>?_
   exact gmend ok 2 0 hR ns' hn (.ret (.bool false)) rfl (fun h D9=>Bu (X:=y.cells W .none 0 0 ns' (ep+1)) (C:=A0 ns') (Z:=[c8 D (lo W [(saa,tj,.int (i:Int) t)]),cC (n+9) q,cC (n+10) k,cC (n+11) y.s,lL q (nlv (qv qq 6)) eq,lS k (cvl cl) ek,(qq i).cell]) (L:=L) (A4 [] 0 (by kernel_rfl) h D9))
  | h2 a0 b0=>
   intro hin hR e
   refine gmore ok 4 449 ⟨by kernel_rfl,?_⟩
   refine pcall hA (by kernel_rfl) (.call (.ref (n'+8)) ⟨.str (cl i).1 (cl i).2::[.str a0.1 a0.2,.str b0.1 b0.2],[]⟩) (by kernel_rfl) (by kernel_rfl) (L:=c8 n' (AI 124 (y.s+8))::(y.cells W .none 0 0 ns ep++(A0 ns++(c8 D (lo W [(saa,tj,.int (i:Int) t)])::cC (n+9) q::cC (n+10) k::cC (n+11) y.s::lL q (nlv (qv qq 6)) eq::lS k (cvl cl) ek::(qq i).cell::L))))
    (fun h D9=>AJ (X:=c8 n' (AI 124 (y.s+8))::y.cells W .none 0 0 ns ep) (Y:=[c8 D (lo W [(saa,tj,.int (i:Int) t)]),cC (n+9) q,cC (n+10) k,cC (n+11) y.s,lL q (nlv (qv qq 6)) eq,lS k (cvl cl) ek,(qq i).cell]) (C:=A0 ns) (L:=L) (A4 [0,1,2,6,11,12,13,7,8,3,9,10,4,5] 3 (by kernel_rfl) h D9)) (bound ok (AS (ps:=[a0,b0]) ok (Ab dp un (by kernel_rfl) (by omega) (by omega)) ns hnd hx hin (by simp) hns hl)) fun ns' n₂ tk₂ hn=>?_
   exact gmend ok 2 0 hR ns' hn (.ret (.bool false)) rfl (fun h D9=>Bu (X:=y.cells W .none 0 0 ns' (ep+1)) (C:=A0 ns') (Z:=[c8 D (lo W [(saa,tj,.int (i:Int) t)]),cC (n+9) q,cC (n+10) k,cC (n+11) y.s,lL q (nlv (qv qq 6)) eq,lS k (cvl cl) ek,(qq i).cell]) (L:=L) (A4 [] 0 (by kernel_rfl) h D9))
  | h3 a0 b0 c0=>
   intro hin hR e
   refine gmore ok 4 449 ⟨by kernel_rfl,?_⟩
   refine pcall hA (by kernel_rfl) (.call (.ref (n'+8)) ⟨.str (cl i).1 (cl i).2::[.str a0.1 a0.2,.str b0.1 b0.2,.str c0.1 c0.2],[]⟩) (by kernel_rfl) (by kernel_rfl) (L:=c8 n' (AI 124 (y.s+8))::(y.cells W .none 0 0 ns ep++(A0 ns++(c8 D (lo W [(saa,tj,.int (i:Int) t)])::cC (n+9) q::cC (n+10) k::cC (n+11) y.s::lL q (nlv (qv qq 6)) eq::lS k (cvl cl) ek::(qq i).cell::L))))
    (fun h D9=>AJ (X:=c8 n' (AI 124 (y.s+8))::y.cells W .none 0 0 ns ep) (Y:=[c8 D (lo W [(saa,tj,.int (i:Int) t)]),cC (n+9) q,cC (n+10) k,cC (n+11) y.s,lL q (nlv (qv qq 6)) eq,lS k (cvl cl) ek,(qq i).cell]) (C:=A0 ns) (L:=L) (A4 [0,1,2,6,11,12,13,7,8,3,9,10,4,5] 3 (by kernel_rfl) h D9)) (bound ok (AS (ps:=[a0,b0,c0]) ok (Ab dp un (by kernel_rfl) (by omega) (by omega)) ns hnd hx hin (by simp) hns hl)) fun ns' n₂ tk₂ hn=>?_
   exact gmend ok 2 0 hR ns' hn (.ret (.bool false)) rfl (fun h D9=>Bu (X:=y.cells W .none 0 0 ns' (ep+1)) (C:=A0 ns') (Z:=[c8 D (lo W [(saa,tj,.int (i:Int) t)]),cC (n+9) q,cC (n+10) k,cC (n+11) y.s,lL q (nlv (qv qq 6)) eq,lS k (cvl cl) ek,(qq i).cell]) (L:=L) (A4 [] 0 (by kernel_rfl) h D9))
  | h4 a0 b0 c0 d0=>
   intro hin hR e
   refine gmore ok 4 449 ⟨by kernel_rfl,?_⟩
   refine pcall hA (by kernel_rfl) (.call (.ref (n'+8)) ⟨.str (cl i).1 (cl i).2::[.str a0.1 a0.2,.str b0.1 b0.2,.str c0.1 c0.2,.str d0.1 d0.2],[]⟩) (by kernel_rfl) (by kernel_rfl) (L:=c8 n' (AI 124 (y.s+8))::(y.cells W .none 0 0 ns ep++(A0 ns++(c8 D (lo W [(saa,tj,.int (i:Int) t)])::cC (n+9) q::cC (n+10) k::cC (n+11) y.s::lL q (nlv (qv qq 6)) eq::lS k (cvl cl) ek::(qq i).cell::L))))
    (fun h D9=>AJ (X:=c8 n' (AI 124 (y.s+8))::y.cells W .none 0 0 ns ep) (Y:=[c8 D (lo W [(saa,tj,.int (i:Int) t)]),cC (n+9) q,cC (n+10) k,cC (n+11) y.s,lL q (nlv (qv qq 6)) eq,lS k (cvl cl) ek,(qq i).cell]) (C:=A0 ns) (L:=L) (A4 [0,1,2,6,11,12,13,7,8,3,9,10,4,5] 3 (by kernel_rfl) h D9)) (bound ok (AS (ps:=[a0,b0,c0,d0]) ok (Ab dp un (by kernel_rfl) (by omega) (by omega)) ns hnd hx hin (by simp) hns hl)) fun ns' n₂ tk₂ hn=>?_
   exact gmend ok 2 0 hR ns' hn (.ret (.bool false)) rfl (fun h D9=>Bu (X:=y.cells W .none 0 0 ns' (ep+1)) (C:=A0 ns') (Z:=[c8 D (lo W [(saa,tj,.int (i:Int) t)]),cC (n+9) q,cC (n+10) k,cC (n+11) y.s,lL q (nlv (qv qq 6)) eq,lS k (cvl cl) ek,(qq i).cell]) (L:=L) (A4 [] 0 (by kernel_rfl) h D9))
  | h5 a0 b0 c0 d0 e0=>
   intro hin hR e
   refine gmore ok 4 449 ⟨by kernel_rfl,?_⟩
   refine pcall hA (by kernel_rfl) (.call (.ref (n'+8)) ⟨.str (cl i).1 (cl i).2::[.str a0.1 a0.2,.str b0.1 b0.2,.str c0.1 c0.2,.str d0.1 d0.2,.str e0.1 e0.2],[]⟩) (by kernel_rfl) (by kernel_rfl) (L:=c8 n' (AI 124 (y.s+8))::(y.cells W .none 0 0 ns ep++(A0 ns++(c8 D (lo W [(saa,tj,.int (i:Int) t)])::cC (n+9) q::cC (n+10) k::cC (n+11) y.s::lL q (nlv (qv qq 6)) eq::lS k (cvl cl) ek::(qq i).cell::L))))
    (fun h D9=>AJ (X:=c8 n' (AI 124 (y.s+8))::y.cells W .none 0 0 ns ep) (Y:=[c8 D (lo W [(saa,tj,.int (i:Int) t)]),cC (n+9) q,cC (n+10) k,cC (n+11) y.s,lL q (nlv (qv qq 6)) eq,lS k (cvl cl) ek,(qq i).cell]) (C:=A0 ns) (L:=L) (A4 [0,1,2,6,11,12,13,7,8,3,9,10,4,5] 3 (by kernel_rfl) h D9)) (bound ok (AS (ps:=[a0,b0,c0,d0,e0]) ok (Ab dp un (by kernel_rfl) (by omega) (by omega)) ns hnd hx hin (by simp) hns hl)) fun ns' n₂ tk₂ hn=>?_
   exact gmend ok 2 0 hR ns' hn (.ret (.bool false)) rfl (fun h D9=>Bu (X:=y.cells W .none 0 0 ns' (ep+1)) (C:=A0 ns') (Z:=[c8 D (lo W [(saa,tj,.int (i:Int) t)]),cC (n+9) q,cC (n+10) k,cC (n+11) y.s,lL q (nlv (qv qq 6)) eq,lS k (cvl cl) ek,(qq i).cell]) (L:=L) (A4 [] 0 (by kernel_rfl) h D9))
  | h6 a0 b0 c0 d0 e0 f0=>
   intro hin hR e
   refine gmore ok 4 449 ⟨by kernel_rfl,?_⟩
   refine pcall hA (by kernel_rfl) (.call (.ref (n'+8)) ⟨.str (cl i).1 (cl i).2::[.str a0.1 a0.2,.str b0.1 b0.2,.str c0.1 c0.2,.str d0.1 d0.2,.str e0.1 e0.2,.str f0.1 f0.2],[]⟩) (by kernel_rfl) (by kernel_rfl) (L:=c8 n' (AI 124 (y.s+8))::(y.cells W .none 0 0 ns ep++(A0 ns++(c8 D (lo W [(saa,tj,.int (i:Int) t)])::cC (n+9) q::cC (n+10) k::cC (n+11) y.s::lL q (nlv (qv qq 6)) eq::lS k (cvl cl) ek::(qq i).cell::L))))
    (fun h D9=>AJ (X:=c8 n' (AI 124 (y.s+8))::y.cells W .none 0 0 ns ep) (Y:=[c8 D (lo W [(saa,tj,.int (i:Int) t)]),cC (n+9) q,cC (n+10) k,cC (n+11) y.s,lL q (nlv (qv qq 6)) eq,lS k (cvl cl) ek,(qq i).cell]) (C:=A0 ns) (L:=L) (A4 [0,1,2,6,11,12,13,7,8,3,9,10,4,5] 3 (by kernel_rfl) h D9)) (bound ok (AS (ps:=[a0,b0,c0,d0,e0,f0]) ok (Ab dp un (by kernel_rfl) (by omega) (by omega)) ns hnd hx hin (by simp) hns hl)) fun ns' n₂ tk₂ hn=>?_
   exact gmend ok 2 0 hR ns' hn (.ret (.bool false)) rfl (fun h D9=>Bu (X:=y.cells W .none 0 0 ns' (ep+1)) (C:=A0 ns') (Z:=[c8 D (lo W [(saa,tj,.int (i:Int) t)]),cC (n+9) q,cC (n+10) k,cC (n+11) y.s,lL q (nlv (qv qq 6)) eq,lS k (cvl cl) ek,(qq i).cell]) (L:=L) (A4 [] 0 (by kernel_rfl) h D9))
  | h7 a0 b0 c0 d0 e0 f0 g0=>
   intro hin hR e
   refine gmore ok 4 449 ⟨by kernel_rfl,?_⟩
   refine pcall hA (by kernel_rfl) (.call (.ref (n'+8)) ⟨.str (cl i).1 (cl i).2::[.str a0.1 a0.2,.str b0.1 b0.2,.str c0.1 c0.2,.str d0.1 d0.2,.str e0.1 e0.2,.str f0.1 f0.2,.str g0.1 g0.2],[]⟩) (by kernel_rfl) (by kernel_rfl) (L:=c8 n' (AI 124 (y.s+8))::(y.cells W .none 0 0 ns ep++(A0 ns++(c8 D (lo W [(saa,tj,.int (i:Int) t)])::cC (n+9) q::cC (n+10) k::cC (n+11) y.s::lL q (nlv (qv qq 6)) eq::lS k (cvl cl) ek::(qq i).cell::L))))
    (fun h D9=>AJ (X:=c8 n' (AI 124 (y.s+8))::y.cells W .none 0 0 ns ep) (Y:=[c8 D (lo W [(saa,tj,.int (i:Int) t)]),cC (n+9) q,cC (n+10) k,cC (n+11) y.s,lL q (nlv (qv qq 6)) eq,lS k (cvl cl) ek,(qq i).cell]) (C:=A0 ns) (L:=L) (A4 [0,1,2,6,11,12,13,7,8,3,9,10,4,5] 3 (by kernel_rfl) h D9)) (bound ok (AS (ps:=[a0,b0,c0,d0,e0,f0,g0]) ok (Ab dp un (by kernel_rfl) (by omega) (by omega)) ns hnd hx hin (by simp) hns hl)) fun ns' n₂ tk₂ hn=>?_
   exact gmend ok 2 0 hR ns' hn (.ret (.bool false)) rfl (fun h D9=>Bu (X:=y.cells W .none 0 0 ns' (ep+1)) (C:=A0 ns') (Z:=[c8 D (lo W [(saa,tj,.int (i:Int) t)]),cC (n+9) q,cC (n+10) k,cC (n+11) y.s,lL q (nlv (qv qq 6)) eq,lS k (cvl cl) ek,(qq i).cell]) (L:=L) (A4 [] 0 (by kernel_rfl) h D9))
  | h8 a0 b0 c0 d0 e0 f0 g0 h0=>
   intro hin hR e
   refine gmore ok 4 449 ⟨by kernel_rfl,?_⟩
   refine pcall hA (by kernel_rfl) (.call (.ref (n'+8)) ⟨.str (cl i).1 (cl i).2::[.str a0.1 a0.2,.str b0.1 b0.2,.str c0.1 c0.2,.str d0.1 d0.2,.str e0.1 e0.2,.str f0.1 f0.2,.str g0.1 g0.2,.str h0.1 h0.2],[]⟩) (by kernel_rfl) (by kernel_rfl) (L:=c8 n' (AI 124 (y.s+8))::(y.cells W .none 0 0 ns ep++(A0 ns++(c8 D (lo W [(saa,tj,.int (i:Int) t)])::cC (n+9) q::cC (n+10) k::cC (n+11) y.s::lL q (nlv (qv qq 6)) eq::lS k (cvl cl) ek::(qq i).cell::L))))
    (fun h D9=>AJ (X:=c8 n' (AI 124 (y.s+8))::y.cells W .none 0 0 ns ep) (Y:=[c8 D (lo W [(saa,tj,.int (i:Int) t)]),cC (n+9) q,cC (n+10) k,cC (n+11) y.s,lL q (nlv (qv qq 6)) eq,lS k (cvl cl) ek,(qq i).cell]) (C:=A0 ns) (L:=L) (A4 [0,1,2,6,11,12,13,7,8,3,9,10,4,5] 3 (by kernel_rfl) h D9)) (bound ok (AS (ps:=[a0,b0,c0,d0,e0,f0,g0,h0]) ok (Ab dp un (by kernel_rfl) (by omega) (by omega)) ns hnd hx hin (by simp) hns hl)) fun ns' n₂ tk₂ hn=>?_
   exact gmend ok 2 0 hR ns' hn (.ret (.bool false)) rfl (fun h D9=>Bu (X:=y.cells W .none 0 0 ns' (ep+1)) (C:=A0 ns') (Z:=[c8 D (lo W [(saa,tj,.int (i:Int) t)]),cC (n+9) q,cC (n+10) k,cC (n+11) y.s,lL q (nlv (qv qq 6)) eq,lS k (cvl cl) ek,(qq i).cell]) (L:=L) (A4 [] 0 (by kernel_rfl) h D9))
  | h9 a0 b0 c0 d0 e0 f0 g0 h0 i0=>
   intro hin hR e
   refine gmore ok 4 449 ⟨by kernel_rfl,?_⟩
   refine pcall hA (by kernel_rfl) (.call (.ref (n'+8)) ⟨.str (cl i).1 (cl i).2::[.str a0.1 a0.2,.str b0.1 b0.2,.str c0.1 c0.2,.str d0.1 d0.2,.str e0.1 e0.2,.str f0.1 f0.2,.str g0.1 g0.2,.str h0.1 h0.2,.str i0.1 i0.2],[]⟩) (by kernel_rfl) (by kernel_rfl) (L:=c8 n' (AI 124 (y.s+8))::(y.cells W .none 0 0 ns ep++(A0 ns++(c8 D (lo W [(saa,tj,.int (i:Int) t)])::cC (n+9) q::cC (n+10) k::cC (n+11) y.s::lL q (nlv (qv qq 6)) eq::lS k (cvl cl) ek::(qq i).cell::L))))
    (fun h D9=>AJ (X:=c8 n' (AI 124 (y.s+8))::y.cells W .none 0 0 ns ep) (Y:=[c8 D (lo W [(saa,tj,.int (i:Int) t)]),cC (n+9) q,cC (n+10) k,cC (n+11) y.s,lL q (nlv (qv qq 6)) eq,lS k (cvl cl) ek,(qq i).cell]) (C:=A0 ns) (L:=L) (A4 [0,1,2,6,11,12,13,7,8,3,9,10,4,5] 3 (by kernel_rfl) h D9)) (bound ok (AS (ps:=[a0,b0,c0,d0,e0,f0,g0,h0,i0]) ok (Ab dp un (by kernel_rfl) (by omega) (by omega)) ns hnd hx hin (by simp) hns hl)) fun ns' n₂ tk₂ hn=>?_
   exact gmend ok 2 0 hR ns' hn (.ret (.bool false)) rfl (fun h D9=>Bu (X:=y.cells W .none 0 0 ns' (ep+1)) (C:=A0 ns') (Z:=[c8 D (lo W [(saa,tj,.int (i:Int) t)]),cC (n+9) q,cC (n+10) k,cC (n+11) y.s,lL q (nlv (qv qq 6)) eq,lS k (cvl cl) ek,(qq i).cell]) (L:=L) (A4 [] 0 (by kernel_rfl) h D9))
  | h10 a0 b0 c0 d0 e0 f0 g0 h0 i0 j0=>
   intro hin hR e
   refine gmore ok 4 449 ⟨by kernel_rfl,?_⟩
   refine pcall hA (by kernel_rfl) (.call (.ref (n'+8)) ⟨.str (cl i).1 (cl i).2::[.str a0.1 a0.2,.str b0.1 b0.2,.str c0.1 c0.2,.str d0.1 d0.2,.str e0.1 e0.2,.str f0.1 f0.2,.str g0.1 g0.2,.str h0.1 h0.2,.str i0.1 i0.2,.str j0.1 j0.2],[]⟩) (by kernel_rfl) (by kernel_rfl) (L:=c8 n' (AI 124 (y.s+8))::(y.cells W .none 0 0 ns ep++(A0 ns++(c8 D (lo W [(saa,tj,.int (i:Int) t)])::cC (n+9) q::cC (n+10) k::cC (n+11) y.s::lL q (nlv (qv qq 6)) eq::lS k (cvl cl) ek::(qq i).cell::L))))
    (fun h D9=>AJ (X:=c8 n' (AI 124 (y.s+8))::y.cells W .none 0 0 ns ep) (Y:=[c8 D (lo W [(saa,tj,.int (i:Int) t)]),cC (n+9) q,cC (n+10) k,cC (n+11) y.s,lL q (nlv (qv qq 6)) eq,lS k (cvl cl) ek,(qq i).cell]) (C:=A0 ns) (L:=L) (A4 [0,1,2,6,11,12,13,7,8,3,9,10,4,5] 3 (by kernel_rfl) h D9)) (bound ok (AS (ps:=[a0,b0,c0,d0,e0,f0,g0,h0,i0,j0]) ok (Ab dp un (by kernel_rfl) (by omega) (by omega)) ns hnd hx hin (by simp) hns hl)) fun ns' n₂ tk₂ hn=>?_
   exact gmend ok 2 0 hR ns' hn (.ret (.bool false)) rfl (fun h D9=>Bu (X:=y.cells W .none 0 0 ns' (ep+1)) (C:=A0 ns') (Z:=[c8 D (lo W [(saa,tj,.int (i:Int) t)]),cC (n+9) q,cC (n+10) k,cC (n+11) y.s,lL q (nlv (qv qq 6)) eq,lS k (cvl cl) ek,(qq i).cell]) (L:=L) (A4 [] 0 (by kernel_rfl) h D9))
theorem a5Co_eq (W:Wd) (it acc n D:Nat):a5Co W it acc n D= .compLoop (.ListComp (lcE (a5C W)) [⟨lcT (a5C W),lcI (a5C W),[a5F W],0⟩] (E8 (a5C W)) (lcP (a5C W))) 0 (.ref (it+8)) (.ref (acc+8)) (a5V W n D):=by
 unfold a5Co
 rw [← a5_eq]
theorem a5_asg (ok:W.Ok) {t:Nat} (hx:Dx saa ext) :
  Pc W (Ar dp un F) (assign (lcT (a5C W)) (a5V W n D) (.int (i:Int) t)) G (c8 D (lo W ext)::L)
  (⟨fun _=>G,fun _=>True,fun _=>(),fun p=>c8 D (lo W [(saa,p,.int (i:Int) t)])::L⟩:A3 Unit Nat):=by
 rcases hx with rfl | ⟨tj,v,rfl⟩<;>refine Pc.of Bo Ap _ (by rw [Ax]) fun R n' tk' c₀ d f gg u hA hR=>?_
 ·exact Aj ok 7 1 hR tk' trivial .next rfl [] 0
 ·exact Aj ok 7 1 hR tj trivial .next rfl [] 0
noncomputable abbrev a5Q (W:Wd) (G:List GenState) (L:List Cell) (n acc D q k eq ek e1:Nat) (qq:Nat->NL) (cl:Nat->Str×Nat) (y:Sr):Post (List (Str×Nat×Value)×List Nd):=
 Nx G (fun p=>c8 D (lo W p.1)::lL acc #[] e1::cC (n+9) q::cC (n+10) k::cC (n+11) y.s::lL q (nlv (qv qq 6)) eq::lS k (cvl cl) ek::(qc qq 6++(y.cells W .none 0 0 p.2 6++(A0 p.2++L)))) fun p=>(∃ t v,p.1=[(saa,t,v)])/\p.2.map Nd.v=nview cl qq (pv qq [] [])
theorem a5_loop (ok:W.Ok) {kk:Nat} {y:Sr} (hd:dp<=550) (hu:un<=550) (hq:Needs qq) (inj:∀ i j,i<6->j<6->(cl i).1=(cl j).1->i=j) :
  ∀ (k i:Nat) (ext:List (Str×Nat×Value)) (ns:List Nd),i+k=6->Dx saa ext->(0<i->ext≠[])->Inv (fun i=>(cl i).1) i ns->ns.map Nd.v=(List.range' 0 i).map (vw (fun i=>(cl i).1) (psN cl qq) i) ->
  Tri W (Ar dp un F) (a5Co W it acc n D) G (c8 D (lo W ext)::lL acc #[] e1::c8 it (rit i k)::cC (n+9) q::cC (n+10) kk::cC (n+11) y.s::lL q (nlv (qv qq 6)) eq::lS kk (cvl cl) ek::(qc qq 6++(y.cells W .none 0 0 ns i++(A0 ns++L)))) (a5Q W G L n acc D q kk eq ek e1 qq cl y):=by
 have hg:=psN_ok hq inj
 intro k
 induction k with
 | zero=>
  intro i ext ns hik hx hne I hv R hR h n0 tk0 hs D0
  obtain rfl:i=6:=hik
  rw [a5Co_eq]
  refine AX ?_
  refine Pc.go (r_end (it:=it) (i:=6) ok) (fun _ _ h1 n1 tk1 hs1 D1=>?_) hs (A2 [[c8 D (lo W ext)],[lL acc #[] e1],[c8 it (rit 6 0)]] [2,0,1] (tail:=cC (n+9) q::cC (n+10) kk::cC (n+11) y.s::lL q (nlv (qv qq 6)) eq::lS kk (cvl cl) ek::(qc qq 6++(y.cells W .none 0 0 ns 6++(A0 ns++L))))  D0)
  exact hR (ext,ns) ⟨hx.resolve_left (hne (by decide)),hv.trans (vw_pv hq inj)⟩ h1 n1 tk1 hs1 D1
 | succ k ih=>
  intro i ext ns hik hx hne I hv R hR h n0 tk0 hs D0
  obtain ⟨A,B,hAB⟩:=CL (qq:=qq) (i:=i) (by omega)
  rw [hAB,List.append_assoc,List.append_assoc] at D0
  rw [a5Co_eq]
  refine AX ?_
  refine Pc.go (Cv (it:=it) (i:=i) (k:=k) ok) (fun t _ h1 n1 tk1 hs1 D1=>?_) hs (A2 [[c8 D (lo W ext)],[lL acc #[] e1],[c8 it (rit i (k+1))]] [2,0,1] (tail:=cC (n+9) q::cC (n+10) kk::cC (n+11) y.s::lL q (nlv (qv qq 6)) eq::lS kk (cvl cl) ek::(A++([(qq i).cell]++(B++(y.cells W .none 0 0 ns i++(A0 ns++L))))))  D0)
  try dsimp only
  refine Pc.go (a5_asg ok hx) (fun tj _ h2 n2 tk2 hs2 D2=>?_) hs1 (A2 [[c8 it (rit (i+1) k)],[c8 D (lo W ext)]] [1,0] (tail:=lL acc #[] e1::cC (n+9) q::cC (n+10) kk::cC (n+11) y.s::lL q (nlv (qv qq 6)) eq::lS kk (cvl cl) ek::(A++([(qq i).cell]++(B++(y.cells W .none 0 0 ns i++(A0 ns++L))))))  D1)
  simp only [List.forIn_cons,List.forIn_nil,if_true]
  refine wpAny_bind (wpAny_bind ?_)
  refine Pc.go (a5_cnd (t:=t) (tj:=tj) (q:=q) (k:=kk) (eq:=eq) (ek:=ek) (cl:=cl) (ep:=i) (L:=c8 it (rit (i+1) k)::lL acc #[] e1::(A++(B++L))) ok hd hu hq (by omega) rfl (I.nodup hg.inj) (I.new hg (by omega)) (I.old hg (by omega)) (hg.len i (by omega)) I.size I.sum) (fun ns' s h3 n3 tk3 hs3 D3=>?_) hs2 (A2 [[c8 D (lo W [(saa,tj,.int (i:Int) t)])],[c8 it (rit (i+1) k)],[lL acc #[] e1],[cC (n+9) q,cC (n+10) kk,cC (n+11) y.s,lL q (nlv (qv qq 6)) eq,lS kk (cvl cl) ek],A,[(qq i).cell],B,y.cells W .none 0 0 ns i,A0 ns] [0,3,5,7,8,1,2,4,6] (tail:=L)  D2)
  refine wpAny_pure (wpAny_pure ?_)
  rw [if_neg Bool.false_ne_true]
  have D4:=A2 [[c8 D (lo W [(saa,tj,.int (i:Int) t)])],[cC (n+9) q,cC (n+10) kk,cC (n+11) y.s,lL q (nlv (qv qq 6)) eq,lS kk (cvl cl) ek],[(qq i).cell],y.cells W .none 0 0 ns' (i+1),A0 ns',[c8 it (rit (i+1) k)],[lL acc #[] e1],A,B] [0,6,5,1,7,2,8,3,4] (tail:=L)  D3
  have D5:Own W.h₀ 53 h3 (c8 D (lo W [(saa,tj,.int (i:Int) t)])::lL acc #[] e1::c8 it (rit (i+1) k)::cC (n+9) q::cC (n+10) kk::cC (n+11) y.s::lL q (nlv (qv qq 6)) eq::lS kk (cvl cl) ek::((A++([(qq i).cell]++B))++(y.cells W .none 0 0 ns' (i+1)++(A0 ns'++L)))):=by
   rw [List.append_assoc,List.append_assoc];exact D4
  rw [← hAB] at D5
  have z:=ih (i+1) _ ns' (by omega) (.inr ⟨tj,.int (i:Int) t,rfl⟩) (fun _=>List.cons_ne_nil _ _) (I.step hg (by omega) s) (st_vw hg (by omega) hv s) R hR h3 n3 tk3 hs3 D5
  rw [a5Co_eq] at z
  exact z
theorem a5_start (ok:W.Ok) {k:Nat} {α:Type} {Q:Post α} (spec:Tri W A (a5Co W it acc n D) G (c8 it (rit i k)::L) Q):Tri W A (a5S W it acc n D) G (c8 it (rit i k)::L) Q:=by
 obtain ⟨w₀,b2,b3,h₀,dd,os⟩:=W
 cases b2
 ·refine Tri.of fun R n' tk hR=>?_
  exact Cq ok 11 266305 (a5Co _ it acc n D) _ [] 0 hR spec
 ·refine Tri.of fun R n' tk hR=>?_
  exact Cq ok 1 0 (a5Co _ it acc n D) _ [] 0 hR spec
theorem if5_eq (W:Wd):Bx W 5= .If (ifT (Bx W 5)) (ifB (Bx W 5)) [] (ifP (Bx W 5)):=by kernel_rfl
theorem if5_t (W:Wd):ifT (Bx W 5)= .Compare (a5C W) [.NotEq] [Ci (ifT (Bx W 5))] (cmP (ifT (Bx W 5))):=by kernel_rfl
theorem if5_m (W:Wd):behindInMarks .NotEq (Ci (ifT (Bx W 5)))=false:=by kernel_rfl
noncomputable abbrev saM (W:Wd) (n tk l e:Nat) (xs:List (Int×Nat)) (L:List Cell) (p:SA) (ms:List Nd) (ep:Nat):List Cell:=
 (AF W n (saN tk l p []))::cC (n+9) p.q::cC (n+10) p.k::cC (n+11) p.y.s::(n+12,A7)::(n+13,A7)::lI l xs e::lI p.c p.cs p.ec::lS p.k (cvl (CE p.tc)) 0::lL p.q (nlv (qv p.qq 6)) p.eq::(qc p.qq 6++(p.z.cells W .none 0 0 p.ns 6++(A0 p.ns++(p.y.cells W .none 0 0 ms ep++(A0 ms++L)))))
theorem e5_comp (ok:W.Ok) {k:Nat} {y:Sr} (hd:dp<=400) (hu:un<=400) (hq:Needs qq) (inj:∀ i j,i<6->j<6->(cl i).1=(cl j).1->i=j) :
  Pc W (Ar dp un F) (eval (a5C W) (AD W n)) G (cC (n+9) q::cC (n+10) k::cC (n+11) y.s::lL q (nlv (qv qq 6)) eq::lS k (cvl cl) ek::(qc qq 6++(y.cells W .none 0 0 [] 0++L)))
  (⟨fun _=>G,fun p=>p.1.map Nd.v=nview cl qq (pv qq [] []),fun p=> .ref (p.2+8),fun p=>lL p.2 #[] 0::cC (n+9) q::cC (n+10) k::cC (n+11) y.s::lL q (nlv (qv qq 6)) eq::lS k (cvl cl) ek::(qc qq 6++(y.cells W .none 0 0 p.1 6++(A0 p.1++L)))⟩:A3 Value (List Nd×Nat)):=by
 refine Pc.of AL Ac _ (by rw [Ag]) fun R n' tk' c₀ d f gg u hA hR=>?_
 refine CQ ok 38 4797324681010433232896 hA (a5S W (n'+1) (n'+2) n (n'+3)) (c8 (n'+1) (rit 0 6)::c8 (n'+3) (lo W [])::lL (n'+2) #[] 0::cC (n+9) q::cC (n+10) k::cC (n+11) y.s::lL q (nlv (qv qq 6)) eq::lS k (cvl cl) ek::(qc qq 6++(y.cells W .none 0 0 [] 0++L))) [3,2,0,1] 1 (BP (Ar dp un F)) (fun _ eA=>a5_start ok (Tri.at eA (Tri.own (a5_loop (n:=n) (D:=n'+3) (it:=n'+1) (acc:=n'+2) (q:=q) (kk:=k) (eq:=eq) (ek:=ek) (e1:=0) (qq:=qq) (cl:=cl) (y:=y) (L:=L) ok (by omega) (by omega) hq inj 6 0 [] [] rfl (.inl rfl) (fun h=>absurd h (Nat.lt_irrefl 0)) ⟨rfl,fun _ h=>(nomatch h),Nat.zero_le _⟩ rfl) (fun h D=>A4 [1,2,0] 0 (by kernel_rfl) h D)))) fun p n₃ tk₃ hp=>?_
 obtain ⟨pn,ms⟩:=p
 obtain ⟨⟨tj,vj,rfl⟩,hv⟩:(∃ t v,pn=[(saa,t,v)])/\ms.map Nd.v=_:=hp
 exact Aj ok 5 65 hR (ms,n'+2) hv (.ret (.ref (n'+2+8))) rfl [0,1] 1
theorem e5_nil (ok:W.Ok) :
  Pc W (Ar dp un F) (eval (Ci (ifT (Bx W 5))) (AD W n)) G L
  (⟨fun _=>G,fun _=>True,fun p=> .ref (p+8),fun p=>lL p #[] 0::L⟩:A3 Value Nat):=by
 refine Pc.of AL Ac _ (by rw [Ag]) fun R n' tk' c₀ d f gg u hA hR=>?_
 exact Aj ok 2 0 hR n' trivial (.ret (.ref (n'+8))) rfl [] 0
theorem x_5 (ok:W.Ok) {k:Nat} {y:Sr} (hd:dp<=400) (hu:un<=400) (hq:Needs qq) (inj:∀ i j,i<6->j<6->(cl i).1=(cl j).1->i=j) :
  Pc W (Ar dp un F) (exec (Bx W 5) (AD W n)) G (cC (n+9) q::cC (n+10) k::cC (n+11) y.s::lL q (nlv (qv qq 6)) eq::lS k (cvl cl) ek::(qc qq 6++(y.cells W .none 0 0 [] 0++L)))
  (⟨fun _=>G,fun p=>p.map Nd.v=nview cl qq (pv qq [] []),fun _=> .next,fun p=>cC (n+9) q::cC (n+10) k::cC (n+11) y.s::lL q (nlv (qv qq 6)) eq::lS k (cvl cl) ek::(qc qq 6++(y.cells W .none 0 0 p 6++(A0 p++L)))⟩:A3 Flow (List Nd)):=by
 intro K hK E h n0 tk0 hs D0
 rw [if5_eq,if5_t]
 refine wpAny_If (wpAny_isTrue_Compare1 ?_ (if5_m W))
 refine Pc.go (e5_comp (L:=L) ok hd hu hq inj) (fun p hp h1 n1 tk1 hs1 D1=>?_) hs D0
 refine Pc.go (e5_nil ok) (fun m _ h2 n2 tk2 hs2 D2=>?_) hs1 D1
 refine Pc.go (CD (xs:=#[]) (e:=0) (e2:=0) (L:=cC (n+9) q::cC (n+10) k::cC (n+11) y.s::lL q (nlv (qv qq 6)) eq::lS k (cvl cl) ek::(qc qq 6++(y.cells W .none 0 0 p.1 6++(A0 p.1++L)))) (show un<=9000 by omega)) (fun _ _ h3 n3 tk3 hs3 D3=>?_) hs2 (A2 [[lL m #[] 0],[lL p.2 #[] 0]] [1,0] (tail:=cC (n+9) q::cC (n+10) k::cC (n+11) y.s::lL q (nlv (qv qq 6)) eq::lS k (cvl cl) ek::(qc qq 6++(y.cells W .none 0 0 p.1 6++(A0 p.1++L))))  D2)
 refine wpAny_truthy_bool ?_
 exact wpAny_execs_nil (hK p.1 hp h3 n3 tk3 hs3 (D3.sub (List.Sublist.trans (List.sublist_cons_self ..) (List.sublist_cons_self ..))))
theorem up_one {a:Addr} {names:List (Str×Nat×Value)} {sl:Array (Option Value)} (h:Up [(a,fS W names sl)] CF):∃ sl',CF=[(a,fS W names sl')]:=by
 match CF,h with
 | [q],⟨h1,⟨sl',h2⟩,_⟩=>exact ⟨sl',by rw [show q=(q.1,q.2) from rfl,h1,h2];rfl⟩
 | _::_::_,⟨_,_,h⟩=>exact h.elim
theorem frc_law {names:List (Str×Nat×Value)} {sl:Array (Option Value)}:DO [AD W n] [c8 n (fS W names sl)]:=
 ⟨by rw [show (AD W n).scope.kind= .function from by kernel_rfl];decide,by kernel_rfl,⟨_,_,_,_,_,rfl⟩,trivial⟩
theorem fr_fS {names:List (Str×Nat×Value)}:fr W names=fS W names #[]:=rfl
noncomputable def zeros (n0 n1 n2 n3 n4 n5:Nd):List (Str×Nat):=[]++zero n0++zero n1++zero n2++zero n3++zero n4++zero n5
structure SJ where
 z:Sr
 r:Nat
 e:Nat
 y:Sr
 r':Nat
 e':Nat
 sl:Array (Option Value)
theorem x_6 (ok:W.Ok) {ts tc:Nat} {z y:Sr} {m0 m1 m2 m3 m4 m5:Nd} (hd:dp<=400) (hu:un<=400) (hg:GrOk rk [n0,n1,n2,n3,n4,n5]) (hm:GrOk rk [m0,m1,m2,m3,m4,m5]) :
  Pc W (Ar dp un [AD W n]) (execs [Bx W 6] (AD W n)) G (AF W n [(sag,ts,.ref (l+8)),(sal,tc,.ref (c+8)),(san,tl,.ref (z.s+8))]::cC (n+11) y.s::(z.cells W .none 0 0 [n0,n1,n2,n3,n4,n5] 6++(A0 [n0,n1,n2,n3,n4,n5]++(y.cells W .none 0 0 [m0,m1,m2,m3,m4,m5] 6++(A0 [m0,m1,m2,m3,m4,m5]++L)))))
  (⟨fun _=>G,fun p=>p.z.s=z.s/\p.y.s=y.s,fun _=> .next,fun p=>c8 n (fS W [(sag,ts,.ref (l+8)),(sal,tc,.ref (c+8)),(san,tl,.ref (z.s+8))] p.sl)::cC (n+11) y.s::p.z.all W p.r (zeros n0 n1 n2 n3 n4 n5) p.e 0 0 [n0,n1,n2,n3,n4,n5] 6 (p.y.all W p.r' (zeros m0 m1 m2 m3 m4 m5) p.e' 0 0 [m0,m1,m2,m3,m4,m5] 6 L)⟩:A3 Flow SJ):=by
 refine Pc.of id Ai _ (by rw [Ao]) fun R n' tk' c₀ d f gg u hA hR=>?_
 refine CQ ok 22 5009788596537066498732064961 hA (.call (.ref 129) ⟨[.ref (z.s+8)],[]⟩) (z.cells W .none 0 0 [n0,n1,n2,n3,n4,n5] 6++(A0 [n0,n1,n2,n3,n4,n5]++([c8 n (fS W [(sag,ts,.ref (l+8)),(sal,tc,.ref (c+8)),(san,tl,.ref (z.s+8))] #[])]++(cC (n+11) y.s::(y.cells W .none 0 0 [m0,m1,m2,m3,m4,m5] 6++(A0 [m0,m1,m2,m3,m4,m5]++L)))))) [2,3,4,5,6,7,8,9,10,11,12,13,14,15,16,0,1] 0 (BP (Ar dp (un+0) [AD W n])) (fun _ eA=>Tri.at eA (prepare ok (by omega) (by omega) hg frc_law)) fun p n₁ tk₁ hp=>?_
 obtain ⟨z',r,e,CF⟩:=p
 obtain ⟨h1,h2⟩:z'.s=z.s/\Up _ CF:=hp
 obtain ⟨sl,rfl⟩:=up_one h2
 refine CQ ok 23 25126314235212726359174415570 hA (.call (.ref 129) ⟨[.ref (y.s+8)],[]⟩) (y.cells W .none 0 0 [m0,m1,m2,m3,m4,m5] 6++(A0 [m0,m1,m2,m3,m4,m5]++([c8 n (fS W [(sag,ts,.ref (l+8)),(sal,tc,.ref (c+8)),(san,tl,.ref (z.s+8))] sl)]++(cC (n+11) y.s::z'.all W r (zeros n0 n1 n2 n3 n4 n5) e 0 0 [n0,n1,n2,n3,n4,n5] 6 L)))) (List.range' 18 15++[16,17]) 0 (BP (Ar dp (un+0) [AD W n])) (fun _ eA=>Tri.at eA (prepare ok (by omega) (by omega) hm frc_law)) fun p n₂ tk₂ hp=>?_
 obtain ⟨y',r',e',CF⟩:=p
 obtain ⟨h3,h4⟩:y'.s=y.s/\Up _ CF:=hp
 obtain ⟨sl',rfl⟩:=up_one h4
 exact Aj ok 2 0 hR (SJ.mk z' r e y' r' e' sl') ⟨h1,h3⟩ .next rfl (List.range' 16 18) 0
theorem Ee {w:World} {elt target iter:PySem.Expr} {scope:Scope} {pos:Pos} {it acc:Value}
  (h:wpAny (model prog w) A (pyNext it) (fun r s₁=>match r with
   | none=>R (.ok .next) s₁
   | some v=>wpAny (model prog w) A (assign target env v) (fun _ s₂=>As true (model prog w) A (eval elt env) (fun x s₄=>
       wpAny (model prog w) A (call (.builtin "list.append") [acc,x]) (fun _ s₅=>Bb true (model prog w) A (.compLoop (.ListComp elt [⟨target,iter,[],0⟩] scope pos) 0 it acc env) R s₅) (notedBy (model prog w) A env fun e s'=>R (.error e) s') s₄) (notedBy (model prog w) A env fun e s'=>R (.error e) s') s₂) (notedBy (model prog w) A env fun e s'=>R (.error e) s') s₁) (notedBy (model prog w) A env fun e s'=>R (.error e) s') s)
  (ht:∀ v,letOwnedTupleGo target it v=pure ():=by intro _;rfl) :
  Bb true (model prog w) A (.compLoop (.ListComp elt [⟨target,iter,[],0⟩] scope pos) 0 it acc env) R s:=by
 refine Ce ?_
 show As true _ A ((compTurn (.ListComp elt [⟨target,iter,[],0⟩] scope pos) 0 it acc env).onRaise (fun x=>do noteFrame x env;theTreesLotGoes x)) _ _ s
 refine As.noted ?_
 rw [compTurn_list]
 refine As.bind (As.up (wpAny_standAt (As.bind (As.up (wpAny_mono h (fun r s₁ h₁=>?_) fun _ _ h'=>h')))))
 cases r with
 | none=>exact As.up (wpAny_pure h₁)
 | some v=>
  refine As.bind (As.up (wpAny_of_eq (ht v) ?_))
  refine As.bind (As.up (wpAny_mono h₁ (fun _ s₂ h₂=>?_) fun _ _ h'=>h'))
  simp only [List.forIn_nil]
  refine As.bind (As.up (wpAny_pure ?_))
  rw [if_pos rfl]
  exact As.bind (As.bind (As.mono h₂ (fun x s₄ h₄=>As.bind (As.up (wpAny_mono h₄ (fun _ s₅ h₅=>As.up (wpAny_pure (As.up (wpAny_pure (And.intro rfl h₅))))) fun _ _ h'=>h'))) fun _ _ h'=>h'))
theorem As.onRaise {M:Model} {α:Type} {m:Sem α} {k:Value->Sem Unit} {Q:α->Shared->Prop} {E:Value->Shared->Prop}
  (h:As b M A m Q (fun e s'=>wpAny M A (k e) (fun _ s''=>E e s'') E s') s):As b M A (m.onRaise k) Q E s:=fun Γ p hΓ hb=>by
 rw [Sem.wp_onRaise]
 exact Sem.wp_mono M Γ m (fun _ _ _ h'=>h') (fun e p' s' h'=>h' Γ p' hΓ) p s (h Γ p hΓ hb)
theorem wp_app {M:Model} {Γ:PySem.Ctx} {tl:List Stmt} {Q:Flow->Pos->Shared->Prop} {E:Value->Pos->Shared->Prop}:∀ {hd:List Stmt} {p:Pos} {s:Shared},
  Sem.wp M Γ (execs hd env) (fun f p' s'=>match f with | .next=>Sem.wp M Γ (execs tl env) Q E p' s' | f=>Q f p' s') E p s->Sem.wp M Γ (execs (hd++tl) env) Q E p s
 | [],p,s,h=>h
 | st::rest,p,s,h=>by
  rw [List.cons_append]
  rw [execs_cons,Sem.wp_bind'] at h ⊢
  refine Sem.wp_mono M Γ _ (fun f p' s' h'=>?_) (fun _ _ _ h'=>h') _ _ h
  cases f with
  | next=>exact wp_app (hd:=rest) h'
  | brk=>exact h'
  | cont=>exact h'
  | ret v=>exact h'
theorem As.app {M:Model} {hd tl:List Stmt} {Q:Flow->Shared->Prop} {E:Value->Shared->Prop}
  (h:As b M A (execs hd env) (fun f s'=>match f with | .next=>As b M A (execs tl env) Q E s' | f=>Q f s') E s):As b M A (execs (hd++tl) env) Q E s:=fun Γ p hΓ hb=>by
 refine wp_app (Sem.wp_mono M Γ _ (fun f p' s' h'=>?_) (fun _ _ _ h'=>h') _ _ (h Γ p hΓ hb))
 cases f<;>first | exact h' Γ p' hΓ hb | exact h'
theorem As.cons {M:Model} {st:Stmt} {tl:List Stmt} {Q:Flow->Shared->Prop} {E:Value->Shared->Prop}
  (h:As b M A (exec st env) (fun f s'=>match f with | .next=>As b M A (execs tl env) Q E s' | f=>Q f s') E s):As b M A (execs (st::tl) env) Q E s:=fun Γ p hΓ hb=>by
 rw [execs_cons,Sem.wp_bind']
 refine Sem.wp_mono M Γ _ (fun f p' s' h'=>?_) (fun _ _ _ h'=>h') _ _ (h Γ p hΓ hb)
 cases f<;>first | exact h' Γ p' hΓ hb | exact h'
theorem func_tree {w:World}
  (h:As true (model prog w) (A.deeper env) (execs body env) (fun f s'=>R (.ok (.ret (match f with | .ret v=>v | _=> .none))) s')
   (fun e s'=>wpAny (model prog w) (A.deeper env) (leaving env e) (fun _ s''=>R (.error e) s'') (fun e' s''=>R (.error e') s'') s') s) :
  Bb true (model prog w) A (.func body env) R s:=by
 refine Ce ?_
 show As true _ (A.deeper env) (do point;match ← (execs body env).onRaise (leaving env) with | .ret v=>ret v | _=>ret .none) _ _ s
 refine As.bind (As.up (wpAny_point (As.bind (As.onRaise (As.mono h (fun f s' h'=>?_) fun _ _ h'=>?_)))))
 ·cases f<;>exact As.up (wpAny_pure h')
 ·exact wpAny_mono h' (fun _ _ x=>x) fun _ _ x=>x
noncomputable def kvE (it:PySem.Expr) (sc:Scope) (p1 p2 p3 p4 p5:Pos):PySem.Expr:= .ListComp (.Call (.Name sap p1) [.Name sao p2] [] p3) [⟨.Name sao p4,it,[],0⟩] sc p5
noncomputable def cF (e:PySem.Expr):PySem.Expr:=(Bp e).e
noncomputable def cP (e:PySem.Expr):Pos:=(Bp e).p
noncomputable def kvS (W:Wd):Scope:=E8 (Bh (Bx W 8))
noncomputable abbrev kvD (e:PySem.Expr) (sc:Scope):PySem.Expr:=kvE (lcI e) sc (cP (cF (lcE e))) (cP (caA (lcE e))) (cP (lcE e)) (cP (lcT e)) (lcP e)
theorem k8_eq (W:Wd):Bh (Bx W 8)=kvD (Bh (Bx W 8)) (kvS W):=by kernel_rfl
theorem k10_eq (W:Wd):Bh (Bx W 10)=kvD (Bh (Bx W 10)) (kvS W):=by kernel_rfl
noncomputable def kvV (W:Wd) (e:PySem.Expr) (n D:Nat):Env:=Cm (AD W n) e (D+8) []
noncomputable def kvC (W:Wd) (e:PySem.Expr) (it acc n D:Nat):Code:= .compLoop e 0 (.ref (it+8)) (.ref (acc+8)) (kvV W e n D)
noncomputable def kvSt (W:Wd) (e:PySem.Expr) (it acc n D:Nat):Code:= .compStart e 0 (.ref (it+8)) (.ref (acc+8)) (kvV W e n D)
theorem k_asg (ok:W.Ok) {t:Nat} (hx:Dx sao ext) :
  Pc W (Ar dp un F) (assign (.Name sao p4) (kvV W (kvE itx (kvS W) p1 p2 p3 p4 p5) n D) (.str x t)) G (c8 D (lo W ext)::L)
  (⟨fun _=>G,fun _=>True,fun _=>(),fun p=>c8 D (lo W [(sao,p,.str x t)])::L⟩:A3 Unit Nat):=by
 rcases hx with rfl | ⟨tj,v,rfl⟩<;>refine Pc.of Bo Ap _ (by rw [Ax]) fun R n' tk' c₀ d f gg u hA hR=>?_
 ·exact Aj ok 7 1 hR tk' trivial .next rfl [] 0
 ·exact Aj ok 7 1 hR tj trivial .next rfl [] 0
structure KC where
 a:Nat
 vs:List Value
 e:Nat
 ki:List KI
noncomputable def KC.cell (k:KC):Cell:=(lL k.a k.vs.toArray k.e)
noncomputable def kcs (l:List KC):Array Value:=(l.map fun k=>Value.ref (k.a+8)).toArray
theorem kcs_push (l:List KC) (k:KC):(kcs l).push (.ref (k.a+8))=kcs (l++[k]):=by simp [kcs]
theorem k_elt (ok:W.Ok) {t:Nat} {ks:List KI} {names:List (Str×Nat×Value)} {sl:Array (Option Value)} (hd:dp<=500) (hu:un<=500) (hT:x.cps.size<=400) (hk:KeyOf W x ks) (hl:ks.length<=400) :
  PcC W (Ar dp un [AD W n]) (eval (.Call (.Name sap p1) [.Name sao p2] [] p3) (kvV W (kvE itx (kvS W) p1 p2 p3 p4 p5) n D)) G (c8 n (fS W names sl)::c8 D (lo W [(sao,tp,.str x t)])::L)
  (⟨fun _=>G,fun p=>Reps p.1.vs p.1.ki/\p.1.ki=ks,fun p=> .ref (p.1.a+8),fun p=>p.1.cell::c8 n (fS W names p.2)::c8 D (lo W [(sao,tp,.str x t)])::L⟩:A3 Value (KC×Array (Option Value))):=by
 refine PcC.of AL Ac _ (by rw [Ag]) fun R n' tk' c₀ d f gg u hA hR=>?_
 refine gmore ok 6 128 ⟨by kernel_rfl,?_⟩
 refine pcall hA (by kernel_rfl) (.call (.ref 51) ⟨[.str x t],[]⟩) (by kernel_rfl) (by kernel_rfl) (L:=[c8 n (fS W names sl)]++(c8 D (lo W [(sao,tp,.str x t)])::L)) (A4 [] 0 (by kernel_rfl)) (AK.at (by kernel_rfl:BN (Ar dp un [AD W n]) _=Ar dp (un+0) [AD W n]) (cmpv ok (by omega) (by omega) frc_law hT hk hl)) fun p n₁ tk₁ hp=>?_
 obtain ⟨a,vs,e,CF⟩:=p
 obtain ⟨h1,h2⟩:Reps vs ks/\Up _ CF:=hp
 obtain ⟨sl',rfl⟩:=up_one h2
 exact Aj ok 1 0 hR (KC.mk a vs e ks,sl') ⟨h1,rfl⟩ (.ret (.ref (a+8))) rfl [] 0
structure SK where
 ext:List (Str×Nat×Value)
 ks:List KC
 e:Nat
 sl:Array (Option Value)
noncomputable abbrev kvQ (W:Wd) (G:List GenState) (L:List Cell) (n acc D:Nat) (names:List (Str×Nat×Value)) (kss:List (List KI)):Post SK:=
 Nx G (fun p=>c8 D (lo W p.ext)::lL acc (kcs p.ks) p.e::c8 n (fS W names p.sl)::(p.ks.map KC.cell++L)) fun p=>(∃ t v,p.ext=[(sao,t,v)])/\(∀ k∈p.ks,Reps k.vs k.ki)/\p.ks.map KC.ki=kss
theorem kv_loop (ok:W.Ok) {ea:Nat} {ys:List (Str×Nat)} {names:List (Str×Nat×Value)} (hd:dp<=500) (hu:un<=500) :
  ∀ (rst:List ((Str×Nat)×List KI)) (done:List KC) (dn:List (Str×Nat)) (ext:List (Str×Nat×Value)) (e1:Nat) (sl:Array (Option Value)),ys=dn++rst.map (·.1)->done.length=dn.length->done.length+rst.length<=500->(∀ y∈rst,KeyOf W y.1.1 y.2/\y.1.1.cps.size<=400/\y.2.length<=400)->Dx sao ext->(rst=[]->ext≠[])->(∀ k∈done,Reps k.vs k.ki) ->
  AK W (Ar dp un [AD W n]) (kvC W (kvE itx (kvS W) p1 p2 p3 p4 p5) it acc n D) G (c8 D (lo W ext)::lL acc (kcs done) e1::c8 it (lit (a+8) dn.length)::lS a ys ea::c8 n (fS W names sl)::(done.map KC.cell++L)) (kvQ W G L n acc D names (done.map KC.ki++rst.map (·.2))):=by
 intro rst
 induction rst with
 | nil=>
  intro done dn ext e1 sl hys hdl hl hk hx hne hr R hR h n0 tk0 hs D0
  refine Ee ?_
  refine Pc.go (p_nextE (it:=it) (l:=a) (i:=dn.length) (e:=ea) (xs:=sv ys) ok (by omega) (by omega) (by subst hys;simp [sv])) (fun _ _ h1 n1 tk1 hs1 D1=>?_) hs (A2 [[c8 D (lo W ext)],[lL acc (kcs done) e1],[c8 it (lit (a+8) dn.length)],[lS a ys ea]] [2,3,0,1] (tail:=c8 n (fS W names sl)::(done.map KC.cell++L))  D0)
  refine hR ⟨ext,done,e1,sl⟩ ⟨hx.resolve_left (hne rfl),hr,by simp⟩ h1 n1 tk1 hs1 D1
 | cons y rst ih=>
  intro done dn ext e1 sl hys hdl hl hk hx hne hr R hR h n0 tk0 hs D0
  obtain ⟨k1,k2,k3⟩:=hk y (List.mem_cons_self ..)
  refine Ee ?_
  refine Pc.go (p_nextI (it:=it) (l:=a) (i:=dn.length) (e:=ea) (xs:=sv ys) (v:= .str y.1.1 y.1.2) ok (by subst hys;simp [sv])) (fun _ _ h1 n1 tk1 hs1 D1=>?_) hs (A2 [[c8 D (lo W ext)],[lL acc (kcs done) e1],[c8 it (lit (a+8) dn.length)],[lS a ys ea]] [2,3,0,1] (tail:=c8 n (fS W names sl)::(done.map KC.cell++L))  D0)
  try dsimp only
  refine Pc.go (k_asg ok hx) (fun tp _ h2 n2 tk2 hs2 D2=>?_) hs1 (A2 [[c8 it (lit (a+8) (dn.length+1))],[lS a ys ea],[c8 D (lo W ext)]] [2,0,1] (tail:=lL acc (kcs done) e1::c8 n (fS W names sl)::(done.map KC.cell++L))  D1)
  refine PcC.go (k_elt (t:=y.1.2) (tp:=tp) (x:=y.1.1) (names:=names) (sl:=sl) (L:=c8 it (lit (a+8) (dn.length+1))::lS a ys ea::lL acc (kcs done) e1::(done.map KC.cell++L)) ok hd hu k2 k1 k3) (fun p hp h3 n3 tk3 hs3 D3=>?_) hs2 (A2 [[c8 D (lo W [(sao,tp,.str y.1.1 y.1.2)])],[c8 it (lit (a+8) (dn.length+1))],[lS a ys ea],[lL acc (kcs done) e1],[c8 n (fS W names sl)]] [4,0,1,2,3] (tail:=done.map KC.cell++L)  D2)
  obtain ⟨kc,sl'⟩:=p
  obtain ⟨r1,r2⟩:Reps kc.vs kc.ki/\kc.ki=y.2:=hp
  refine Pc.go (DI (A8 (l:=acc+8) (xs:=kcs done) (e:=e1) (x:= .ref (kc.a+8)) (L:=c8 D (lo W [(sao,tp,.str y.1.1 y.1.2)])::c8 it (lit (a+8) (dn.length+1))::lS a ys ea::c8 n (fS W names sl')::(done.map KC.cell++([kc.cell]++L))) (by simp [kcs];omega))) (fun e' _ h4 n4 tk4 hs4 D4=>?_) hs3 (A2 [[kc.cell],[c8 n (fS W names sl')],[c8 D (lo W [(sao,tp,.str y.1.1 y.1.2)])],[c8 it (lit (a+8) (dn.length+1))],[lS a ys ea],[lL acc (kcs done) e1],done.map KC.cell] [5,2,3,4,1,6,0] (tail:=L)  D3)
  have D5:=A2 [[(acc+8,A1 ((kcs done).push (.ref (kc.a+8))) e')],[c8 D (lo W [(sao,tp,.str y.1.1 y.1.2)])]] [1,0] (tail:=c8 it (lit (a+8) (dn.length+1))::lS a ys ea::c8 n (fS W names sl')::(done.map KC.cell++([kc.cell]++L)))  D4
  rw [kcs_push,← List.append_assoc,show done.map KC.cell++[kc.cell]=(done++[kc]).map KC.cell from by simp] at D5
  have z:=ih (done++[kc]) (dn++[y.1]) _ e' sl' (by rw [hys];simp) (by simp [hdl]) (by simp at hl ⊢;omega) (fun w hw=>hk w (List.mem_cons_of_mem _ hw)) (.inr ⟨tp,.str y.1.1 y.1.2,rfl⟩) (fun _=>List.cons_ne_nil _ _) (fun k hm=>by
   rcases List.mem_append.mp hm with hm | hm
   ·exact hr k hm
   ·rw [List.mem_singleton.mp hm];exact r1) R (fun p hp=>hR p (by
    refine ⟨hp.1,hp.2.1,hp.2.2.trans ?_⟩
    simp [r2])) h4 n4 tk4 hs4
  rw [List.length_append] at z
  exact z D5
theorem kv_start (ok:W.Ok) {α:Type} {Q:Post α} (spec:AK W A (kvC W (kvE itx (kvS W) p1 p2 p3 p4 p5) it acc n D) G (c8 it (lit (a+8) i)::L) Q):AK W A (kvSt W (kvE itx (kvS W) p1 p2 p3 p4 p5) it acc n D) G (c8 it (lit (a+8) i)::L) Q:=by
 obtain ⟨w₀,b2,b3,h₀,dd,os⟩:=W
 cases b2
 ·refine AK.of fun R n' tk hR=>?_
  exact Cq ok 11 266305 (kvC _ (kvE itx (kvS _) p1 p2 p3 p4 p5) it acc n D) _ [] 0 hR spec
 ·refine AK.of fun R n' tk hR=>?_
  exact Cq ok 1 0 (kvC _ (kvE itx (kvS _) p1 p2 p3 p4 p5) it acc n D) _ [] 0 hR spec
theorem AK.out {c:Code} {α:Type} {Q:Post α} {Lf:α->List Cell} (x:AK W A c G L Q) (h:∀ p h,Own W.h₀ 53 h (Q.L p)->Own W.h₀ 53 h (Lf p)):AK W A c G L ⟨Q.G,Q.P,Q.res,Lf⟩:=
 fun R hR hp n tk hs D=>x R (fun p hP h' n' tk' hs' D'=>hR p hP h' n' tk' hs' (h p h' D')) hp n tk hs D
theorem pcallp {A₁:Around} {r:GR} {c₀:Code} (hA:A.under c₀=A₁) (hb:Cp r=c₀) (f:Value) (vs:List Value) {β:Type} {Q:A3 Value β} (hx:(easy r&&(hdC (BD r)).isNone)=true) (hc:BO (BD r)=some (.call f ⟨vs,[]⟩))
  (hL:∀ h,Own W.h₀ 53 h (CX r)->Own W.h₀ 53 h L)
  (spec:Pc W (Cj A₁ (κOf r) (cOf r)) (PySem.call f vs) G L Q)
  (next:∀ p n' tk',Q.P p->AG (bs b W A R n' tk' (Q.G p)) (back r (.ok (.ret (Q.v p))) (Q.L p))):AG (bs b W A R n tk G) r:=
 gcallp f vs hx hc hL (by unfold Cp at hb;rw [BV,hb,hA];exact spec) next
theorem Dt {ys:List (Str×Nat)} (h:CRes (NO W) nw ys):∃ (rst:List ((Str×Nat)×List KI)) (pls:List (List Nat)),pls.length=6/\rst.map (·.1)=ys/\rst.map (·.2)=pls.map pk/\(∀ y∈rst,KeyOf W y.1.1 y.2/\y.1.1.cps.size<=400/\y.2.length<=400)/\(∀ p∈pls,(∀ r∈p,r<14)/\p.length<=6)/\∀ i p q,pls[i]?=some p->pls[i+1]?=some q->OR nw p q:=by
 obtain ⟨pls,h1,h2,h3,h4⟩:=h
 have hno:∀ p∈pls,(∀ r∈p,r<14)/\p.length<=6:=by
  intro p hp
  obtain ⟨i,hi,rfl⟩:=List.mem_iff_getElem.mp hp
  have z:=h3 i _ ys[i] (List.getElem?_eq_getElem hi) (List.getElem?_eq_getElem (by omega))
  exact ⟨z.1.1,z.2⟩
 refine ⟨ys.zip (pls.map pk),pls,h1,?_,?_,?_,hno,h4⟩
 ·exact List.map_fst_zip (by simp [h1,h2])
 ·exact List.map_snd_zip (by simp [h1,h2])
 ·intro y hy
  obtain ⟨i,hi,rfl⟩:=List.mem_iff_getElem.mp hy
  have hi':i<ys.length/\i<pls.length:=by simp at hi;omega
  have z:=h3 i _ ys[i] (List.getElem?_eq_getElem hi'.2) (List.getElem?_eq_getElem hi'.1)
  rw [List.getElem_zip,List.getElem_map]
  refine ⟨KL.key z.1.2.2,(no_law W).len _ _ z.1 z.2,?_⟩
  rw [Ei z.1.1]
  have:=z.2
  omega
structure SM where
 G:List GenState
 o:Obj
 least:Int
 t:Nat
 t2:Nat
 a:Nat
 ks:List KC
 e:Nat
 sl:Array (Option Value)
noncomputable def KOk (nw:Bool) (ks:List KC):Prop:=(∀ k∈ks,Reps k.vs k.ki)/\∃ pls:List (List Nat),pls.length=6/\ks.map KC.ki=pls.map pk/\(∀ p∈pls,(∀ r∈p,r<14)/\p.length<=6)/\∀ i p q,pls[i]?=some p->pls[i+1]?=some q->OR nw p q
theorem x_7 (ok:W.Ok) (hz:W.Low) {k ez ts tc:Nat} {xs:List (Int×Nat)} {cs:List (Int×Nat)} {z:Sr} {ns:List Nd} {sl:Array (Option Value)} (hd:dp<=400) (hu:un<=400) (hq:Needs qq) (inj:∀ i j,i<6->j<6->(cl i).1=(cl j).1->i=j) (hcs:cs.length=6) (hx:xs.length<=100) (I:CI cl qq ns rs [] [] []) (ho:Tb W o) :
  PcC W (Ar dp un [AD W n]) (execs [Bx W 7,Bx W 8] (AD W n)) G (c8 n (fS W [(sag,ts,.ref (l+8)),(sal,tc,.ref (c+8)),(san,tl,.ref (z.s+8))] sl)::cC (n+9) q::cC (n+10) k::(n+12,A7)::lI l xs e::z.all W r rs ez 0 0 ns 6 (lS k (cvl cl) ek::lL q (nlv (qv qq 6)) eq::(qc qq 6++((53,o)::lI c cs ec::L))))
  (⟨fun p=>p.G,fun p=>Tb W p.o/\((∀ y∈G,y.bare=true)->∀ y∈p.G,y.bare=true)/\KOk true p.ks,fun _=> .next,fun p=>c8 n (fS W [(sag,ts,.ref (l+8)),(sal,tc,.ref (c+8)),(san,tl,.ref (z.s+8)),(sbi,p.t,.int p.least p.t2)] p.sl)::cC (n+9) q::cC (n+10) k::cC (n+12) p.a::lI l xs e::lL p.a (kcs p.ks) p.e::(53,p.o)::lS k (cvl cl) ek::lL q (nlv (qv qq 6)) eq::(qc qq 6++(lI c cs ec::(p.ks.map KC.cell++L)))⟩:A3 Flow SM):=by
 refine PcC.of id Ai (PySem.W.ZFast.zw12563942051412417395 [Bx W 7,Bx W 8] (AD W n)) (by rw [Ao]) fun R n' tk' c₀ d f gg u hA hR=>?_
 refine gmore ok 7 4096 ⟨by kernel_rfl,?_⟩
 refine pcallp hA (by kernel_rfl) (.builtin "sum") [.ref (l+8)] (by kernel_rfl) (by kernel_rfl) (own1 [4] (lI l xs e) (by kernel_rfl)) (Pc.at (by kernel_rfl:_=Ar dp un [AD W n]) (sum_p ok hz)) fun s n₃ tk₃ _=>?_
 refine gmore ok 29 8936820834370 ⟨by kernel_rfl,?_⟩
 refine pcall hA (by kernel_rfl) (.call (.ref 202) ⟨[.ref (z.s+8),.ref (k+8),.ref (q+8),.ref (c+8),.int (s.1+9) (tk₃+1),.bool true],[]⟩) (by kernel_rfl) (by kernel_rfl) (L:=z.all W r rs ez 0 0 ns 6 (lS k (cvl cl) ek::lL q (nlv (qv qq 6)) eq::(qc qq 6++((53,o)::lI c cs ec::(c8 n (fS W [(sag,ts,.ref (l+8)),(sal,tc,.ref (c+8)),(san,tl,.ref (z.s+8)),(sbi,tk₃+2,.int (s.1+9) (tk₃+1))] sl)::cC (n+9) q::cC (n+10) k::(n+12,A7)::lI l xs e::L)))))
  (fun h D=>A2 [[lI l xs e],[c8 n (fS W [(sag,ts,.ref (l+8)),(sal,tc,.ref (c+8)),(san,tl,.ref (z.s+8)),(sbi,tk₃+2,.int (s.1+9) (tk₃+1))] sl)],[cC (n+9) q],[cC (n+10) k],[(n+12,A7)],z.cells W (.ref (r+8)) 0 0 ns 6,[lS r rs ez],A0 ns,[lS k (cvl cl) ek],[lL q (nlv (qv qq 6)) eq],qc qq 6,[(53,o)],[lI c cs ec]] [5,6,7,8,9,10,11,12,1,2,3,4,0] (tail:=L)  (A4 [] 0 (by kernel_rfl) h D))
  (AK.at (by kernel_rfl:BN (Ar dp un [AD W n]) _=Ar dp (un+0) [AD W n]) (DZ ok (Ab dp un rfl (by omega) (by omega)) hq inj (no_law W) (no_nil W) hcs I ho).up) fun p0 n₁ tk₁ hp0=>?_
 obtain ⟨rst,pls,hx⟩:=Dt hp0.1
 refine gmore ok 13 266305 ⟨by kernel_rfl,?_⟩
 have spec:AK W (Ar dp un [AD W n]) (kvC W (kvD (Bh (Bx W 8)) (kvS W)) n₁ (n₁+1) n (n₁+2)) p0.1 (c8 (n₁+2) (lo W [])::lL (n₁+1) (kcs []) 0::c8 n₁ (lit (p0.2.2.1+8) 0)::lS p0.2.2.1 p0.2.1 p0.2.2.2.1::c8 n (fS W [(sag,ts,.ref (l+8)),(sal,tc,.ref (c+8)),(san,tl,.ref (z.s+8)),(sbi,tk₃+2,.int (s.1+9) (tk₃+1))] sl)::(53,p0.2.2.2.2)::lS k (cvl cl) ek::lL q (nlv (qv qq 6)) eq::(qc qq 6++(lI c cs ec::cC (n+9) q::cC (n+10) k::(n+12,A7)::lI l xs e::([]++L)))) (_:Post SK):=
  AK.out (Lf:=fun p=>c8 (n₁+2) (lo W p.ext)::lL (n₁+1) (kcs p.ks) p.e::c8 n (fS W [(sag,ts,.ref (l+8)),(sal,tc,.ref (c+8)),(san,tl,.ref (z.s+8)),(sbi,tk₃+2,.int (s.1+9) (tk₃+1))] p.sl)::(53,p0.2.2.2.2)::lS k (cvl cl) ek::lL q (nlv (qv qq 6)) eq::(qc qq 6++(lI c cs ec::cC (n+9) q::cC (n+10) k::(n+12,A7)::lI l xs e::(p.ks.map KC.cell++L)))) (kv_loop (n:=n) (D:=n₁+2) (it:=n₁) (acc:=n₁+1) (a:=p0.2.2.1) (ea:=p0.2.2.2.1) (ys:=p0.2.1) (names:=[(sag,ts,.ref (l+8)),(sal,tc,.ref (c+8)),(san,tl,.ref (z.s+8)),(sbi,tk₃+2,.int (s.1+9) (tk₃+1))]) (L:=(53,p0.2.2.2.2)::lS k (cvl cl) ek::lL q (nlv (qv qq 6)) eq::(qc qq 6++(lI c cs ec::cC (n+9) q::cC (n+10) k::(n+12,A7)::lI l xs e::L))) ok (by omega) (by omega) rst [] [] [] 0 sl (by rw [hx.2.1];rfl) rfl (by have:=congrArg List.length hx.2.2.1;simp at this;simp;omega) hx.2.2.2.1 (.inl rfl) (fun e=>by have hr2:=hx.2.2.1;subst e;simp at hr2;have:=congrArg List.length hr2;simp [hx.1] at this) (fun _ h=>nomatch h))
   fun p h D=>A2 [[c8 (n₁+2) (lo W p.ext)],[lL (n₁+1) (kcs p.ks) p.e],[c8 n (fS W [(sag,ts,.ref (l+8)),(sal,tc,.ref (c+8)),(san,tl,.ref (z.s+8)),(sbi,tk₃+2,.int (s.1+9) (tk₃+1))] p.sl)],p.ks.map KC.cell,(53,p0.2.2.2.2)::lS k (cvl cl) ek::lL q (nlv (qv qq 6)) eq::(qc qq 6++(lI c cs ec::cC (n+9) q::cC (n+10) k::(n+12,A7)::lI l xs e::[]))] [0,1,2,4,3] (tail:=L)  D
 refine pcall hA (by kernel_rfl) (kvSt W (kvD (Bh (Bx W 8)) (kvS W)) n₁ (n₁+1) n (n₁+2)) (by kernel_rfl) (by kernel_rfl) (L:=c8 n₁ (lit (p0.2.2.1+8) 0)::c8 (n₁+2) (lo W [])::lL (n₁+1) (kcs []) 0::lS p0.2.2.1 p0.2.1 p0.2.2.2.1::c8 n (fS W [(sag,ts,.ref (l+8)),(sal,tc,.ref (c+8)),(san,tl,.ref (z.s+8)),(sbi,tk₃+2,.int (s.1+9) (tk₃+1))] sl)::(53,p0.2.2.2.2)::lS k (cvl cl) ek::lL q (nlv (qv qq 6)) eq::(qc qq 6++(lI c cs ec::cC (n+9) q::cC (n+10) k::(n+12,A7)::lI l xs e::L)))
  (A4 [2,0,1,3,14,4,5,6,7,8,9,10,11,12,13,15,16,17,18] 0 (by kernel_rfl)) (kv_start ok (AK.at (by kernel_rfl:BN (Ar dp un [AD W n]) _=Ar dp un [AD W n]) (AK.own spec (fun h D=>A4 [1,2,0] 0 (by kernel_rfl) h D)))) fun p2 n₂ tk₂ hp2=>?_
 obtain ⟨ext,ks,e1,sl'⟩:=p2
 obtain ⟨⟨tj,vj,rfl⟩,hrep,hks⟩:(∃ t v,ext=[(sao,t,v)])/\(∀ k∈ks,Reps k.vs k.ki)/\ks.map KC.ki=_:=hp2
 exact Aj ok 10 255852609 hR (SM.mk p0.1 p0.2.2.2.2 (s.1+9) (tk₃+2) (tk₃+1) (n₁+1) ks e1 sl') ⟨hp0.2.1,hp0.2.2,hrep,pls,hx.1,hks.trans hx.2.2.1,hx.2.2.2.2.1,hx.2.2.2.2.2⟩ .next rfl [0,2,13,14,15,16,1,3,4,5,6,7,8,9,10,11,12] 1
noncomputable def unA (e:PySem.Expr):PySem.Expr:=(Bp e).e
noncomputable def unP (e:PySem.Expr):Pos:=(Bp e).p
noncomputable def plE (elt tg iter lhs rhs:PySem.Expr) (sc:Scope) (p1 p2 p3:Pos):PySem.Expr:= .ListComp elt [⟨tg,iter,[.UnaryOp .Not (.Compare lhs [.Lt] [rhs] p1) p2],0⟩] sc p3
noncomputable def Cy (xs:Array Value) (i:Nat):Value:=(xs[i]?).getD .none
theorem DJ (h:i<xs.size):xs[i]?=some (Cy xs i):=by
 unfold Cy
 rw [Array.getElem?_eq_getElem h];rfl
theorem plc_loop (ok:W.Ok) {L:List Cell} {V:Env} {it:Nat} {elt tg iter lhs rhs:PySem.Expr} {sc:Scope} (hm:behindInMarks .Lt rhs=false) (ht:∀ it v,letOwnedTupleGo tg it v=pure ())
  (hasg:∀ {L:List Cell} (i t:Nat) (ext:List (Str×Nat×Value)),Dx sac ext->Pc W (Ar dp un F) (assign tg V (.int (i:Int) t)) G (c8 D (lo W ext)::L) (⟨fun _=>G,fun _=>True,fun _=>(),fun p=>c8 D (lo W [(sac,p,.int (i:Int) t)])::L⟩:A3 Unit Nat))
  (hl:∀ {L:List Cell} (i t tp:Nat),i<5->Pc W (Ar dp un F) (eval lhs V) G (c8 D (lo W [(sac,tp,.int (i:Int) t)])::(C++L)) (⟨fun _=>G,fun _=>True,fun _=>Cy xs i,fun _=>c8 D (lo W [(sac,tp,.int (i:Int) t)])::(C++L)⟩:A3 Value Unit))
  (hr:∀ {L:List Cell} (i t tp:Nat),i<5->Pc W (Ar dp un F) (eval rhs V) G (c8 D (lo W [(sac,tp,.int (i:Int) t)])::(C++L)) (⟨fun _=>G,fun _=>True,fun _=>Cy xs (i+1),fun _=>c8 D (lo W [(sac,tp,.int (i:Int) t)])::(C++L)⟩:A3 Value Unit))
  (hlt:∀ i,i<5->∀ h tk,(∀ p∈C,h.get? p.1=some p.2)->(C.map (·.1)).Nodup->Ck (Ar dp un F) ⟨h,⟨G⟩,W.d,tk,W.os⟩ (Cy xs i) (Cy xs (i+1))) :
  ∀ (k i:Nat) (ext:List (Str×Nat×Value)),i+k=5->Dx sac ext->(0<i->ext≠[]) ->
  Tri W (Ar dp un F) (.compLoop (plE elt tg iter lhs rhs sc p1 p2 p3) 0 (.ref (it+8)) (.ref (acc+8)) V) G (c8 D (lo W ext)::lL acc #[] e1::c8 it (rit i k)::(C++L))
   (Nx G (fun p=>c8 D (lo W p)::lL acc #[] e1::(C++L)) fun p=>∃ t v,p=[(sac,t,v)]):=by
 intro k
 induction k with
 | zero=>
  intro i ext hik hx hne R hR h n0 tk0 hs D0
  obtain rfl:i=5:=hik
  refine AX ?_ (ht _)
  refine Pc.go (r_end (it:=it) (i:=5) ok) (fun _ _ h1 n1 tk1 hs1 D1=>?_) hs (A2 [[c8 D (lo W ext)],[lL acc #[] e1],[c8 it (rit 5 0)]] [2,0,1] (tail:=C++L)  D0)
  exact hR ext (hx.resolve_left (hne (by decide))) h1 n1 tk1 hs1 D1
 | succ k ih=>
  intro i ext hik hx hne R hR h n0 tk0 hs D0
  refine AX ?_ (ht _)
  refine Pc.go (Cv (it:=it) (i:=i) (k:=k) ok) (fun t _ h1 n1 tk1 hs1 D1=>?_) hs (A2 [[c8 D (lo W ext)],[lL acc #[] e1],[c8 it (rit i (k+1))]] [2,0,1] (tail:=C++L)  D0)
  try dsimp only
  refine hasg i t ext hx _ (fun tj _ h2 n2 tk2 hs2 D2=>?_) _ h1 n1 tk1 hs1 (A2 [[c8 it (rit (i+1) k)],[c8 D (lo W ext)]] [1,0] (tail:=lL acc #[] e1::(C++L))  D1)
  simp only [List.forIn_cons,List.forIn_nil,if_true]
  refine wpAny_bind (wpAny_bind ?_)
  refine wpAny_isTrue_Not (wpAny_isTrue_Compare1 ?_ hm)
  refine hl (L:=c8 it (rit (i+1) k)::lL acc #[] e1::L) i t tj (by omega) _ (fun _ _ h3 n3 tk3 hs3 D3=>?_) _ h2 n2 tk2 hs2 (A2 [[c8 D (lo W [(sac,tj,.int (i:Int) t)])],[c8 it (rit (i+1) k)],[lL acc #[] e1],C] [0,3,1,2] (tail:=L)  D2)
  refine hr (L:=c8 it (rit (i+1) k)::lL acc #[] e1::L) i t tj (by omega) _ (fun _ _ h4 n4 tk4 hs4 D4=>?_) _ h3 n3 tk3 hs3 D3
  refine hlt i (by omega) h4 tk4 (fun p hp=>D4.own p (by simp [hp])) (D4.nd.sublist (((List.sublist_append_left C _).trans (List.sublist_cons_self ..)).map _)) _ _ _ _ ?_
  refine wpAny_truthy_bool (wpAny_pure (wpAny_pure ?_))
  rw [if_neg (by decide)]
  exact ih (i+1) _ (by omega) (.inr ⟨tj,.int (i:Int) t,rfl⟩) (fun _=>List.cons_ne_nil _ _) R hR h4 n4 tk4 hs4 (A2 [[c8 D (lo W [(sac,tj,.int (i:Int) t)])],C,[c8 it (rit (i+1) k)],[lL acc #[] e1]] [0,3,2,1] (tail:=L)  D4)
noncomputable def t9 (W:Wd):PySem.Expr:=ifT (Bx W 9)
noncomputable def t12 (W:Wd):PySem.Expr:=retE (Bx W 12)
noncomputable def e9 (W:Wd):PySem.Expr:=cmL (B6 (E5 (t9 W)) 1)
noncomputable def f9 (W:Wd):PySem.Expr:=B6 (lcF (e9 W)) 0
theorem e9_eq (W:Wd):e9 W=plE (lcE (e9 W)) (lcT (e9 W)) (lcI (e9 W)) (cmL (unA (f9 W))) (Ci (unA (f9 W))) (E8 (e9 W)) (cmP (unA (f9 W))) (unP (f9 W)) (lcP (e9 W)):=by kernel_rfl
noncomputable def v9 (W:Wd) (n D:Nat):Env:=Cm (AD W n) (e9 W) (D+8) [(S [107,101,121,115],n+12)]
theorem a9_asg (ok:W.Ok) (i t:Nat) (ext:List (Str×Nat×Value)) (hx:Dx sac ext) :
  Pc W (Ar dp un F) (assign (lcT (e9 W)) (v9 W n D) (.int (i:Int) t)) G (c8 D (lo W ext)::L)
  (⟨fun _=>G,fun _=>True,fun _=>(),fun p=>c8 D (lo W [(sac,p,.int (i:Int) t)])::L⟩:A3 Unit Nat):=by
 rcases hx with rfl | ⟨tj,v,rfl⟩<;>refine Pc.of Bo Ap _ (by rw [Ax]) fun R n' tk' c₀ d f gg u hA hR=>?_
 ·exact Aj ok 7 1 hR tk' trivial .next rfl [] 0
 ·exact Aj ok 7 1 hR tj trivial .next rfl [] 0
theorem a9_l (ok:W.Ok) (hxs:xs.size=6) (i t tj:Nat) (hi:i<5) :
  Pc W (Ar dp un F) (eval (cmL (unA (f9 W))) (v9 W n D)) G (c8 D (lo W [(sac,tj,.int (i:Int) t)])::(cC (n+12) a::lL a xs e::C++L))
  (⟨fun _=>G,fun _=>True,fun _=>Cy xs i,fun _=>c8 D (lo W [(sac,tj,.int (i:Int) t)])::(cC (n+12) a::lL a xs e::C++L)⟩:A3 Value Unit):=by
 refine Pc.of AL Ac _ (by rw [Ag]) fun R n' tk' c₀ d f gg u hA hR=>?_
 refine BB ok 8 51130434 hA (.call (.builtin "list.__getitem__") ⟨[.ref (a+8),.int (i:Int) t],[]⟩) [2] (lL a xs e) A6 (fun _ _ eA=>Aa (x:=Cy xs i) (by omega) (by omega) (by rw [Int.toNat_natCast];exact DJ (by omega))) fun _ n₁ tk₁ _=>?_
 exact Aj ok 0 0 hR () trivial (.ret (Cy xs i)) rfl [1,2,0] 0
theorem a9_r (ok:W.Ok) (hxs:xs.size=6) (i t tj:Nat) (hi:i<5) :
  Pc W (Ar dp un F) (eval (Ci (unA (f9 W))) (v9 W n D)) G (c8 D (lo W [(sac,tj,.int (i:Int) t)])::(cC (n+12) a::lL a xs e::C++L))
  (⟨fun _=>G,fun _=>True,fun _=>Cy xs (i+1),fun _=>c8 D (lo W [(sac,tj,.int (i:Int) t)])::(cC (n+12) a::lL a xs e::C++L)⟩:A3 Value Unit):=by
 refine Pc.of AL Ac _ (by rw [Ag]) fun R n' tk' c₀ d f gg u hA hR=>?_
 refine BB ok 14 51130434 hA (.call (.builtin "list.__getitem__") ⟨[.ref (a+8),.int ((i:Int)+1) (tk'+1)],[]⟩) [2] (lL a xs e) A6 (fun _ _ eA=>Aa (x:=Cy xs (i+1)) (by omega) (by omega) (by rw [show (i:Int)+1=((i+1:Nat):Int) from rfl,Int.toNat_natCast];exact DJ (by omega))) fun _ n₁ tk₁ _=>?_
 exact Aj ok 0 0 hR () trivial (.ret (Cy xs (i+1))) rfl [1,2,0] 0
noncomputable def a9C (W:Wd) (it acc n D:Nat):Code:= .compLoop (e9 W) 0 (.ref (it+8)) (.ref (acc+8)) (v9 W n D)
noncomputable def a9S (W:Wd) (it acc n D:Nat):Code:= .compStart (e9 W) 0 (.ref (it+8)) (.ref (acc+8)) (v9 W n D)
theorem a9_start (ok:W.Ok) {k:Nat} {α:Type} {Q:Post α} (spec:Tri W A (a9C W it acc n D) G (c8 it (rit i k)::L) Q):Tri W A (a9S W it acc n D) G (c8 it (rit i k)::L) Q:=by
 obtain ⟨w₀,b2,b3,h₀,dd,os⟩:=W
 cases b2
 ·refine Tri.of fun R n' tk hR=>?_
  exact Cq ok 11 266305 (a9C _ it acc n D) _ [] 0 hR spec
 ·refine Tri.of fun R n' tk hR=>?_
  exact Cq ok 1 0 (a9C _ it acc n D) _ [] 0 hR spec
theorem a9_in (W:Wd):behindInMarks .Lt (Ci (unA (f9 W)))=false:=by kernel_rfl
theorem a9_lot (W:Wd) (it v:Value):letOwnedTupleGo (lcT (e9 W)) it v=pure ():=by kernel_rfl
theorem a9_comp (ok:W.Ok) (hd:dp<=400) (hu:un<=400) (hxs:xs.size=6)
  (hlt:∀ i,i<5->∀ h tk,(∀ p∈C,h.get? p.1=some p.2)->(C.map (·.1)).Nodup->Ck (Ar dp un F) ⟨h,⟨G⟩,W.d,tk,W.os⟩ (Cy xs i) (Cy xs (i+1))) :
  Pc W (Ar dp un F) (eval (e9 W) (AD W n)) G (cC (n+12) a::lL a xs e::(C++L))
  (⟨fun _=>G,fun _=>True,fun p=> .ref (p+8),fun p=>lL p #[] 0::cC (n+12) a::lL a xs e::(C++L)⟩:A3 Value Nat):=by
 refine Pc.of AL Ac _ (by rw [Ag]) fun R n' tk' c₀ d f gg u hA hR=>?_
 refine gmore ok 38 4797324681010433232896 ⟨by kernel_rfl,?_⟩
 have spec:=plc_loop (W:=W) (dp:=dp) (un:=un) (F:=F) (G:=G) (L:=L) (C:=cC (n+12) a::lL a xs e::C) (V:=v9 W n (n'+3)) (it:=n'+1) (acc:=n'+2) (D:=n'+3) (e1:=0) (elt:=lcE (e9 W)) (tg:=lcT (e9 W)) (iter:=lcI (e9 W)) (sc:=E8 (e9 W)) (p1:=cmP (unA (f9 W))) (p2:=unP (f9 W)) (p3:=lcP (e9 W)) (xs:=xs) ok (a9_in W) (a9_lot W) (fun i t ext hx=>a9_asg ok i t ext hx) (fun i t tj hi=>a9_l ok hxs i t tj hi) (fun i t tj hi=>a9_r ok hxs i t tj hi) (fun i hi h tk hp hn=>hlt i hi h tk (fun p hm=>hp p (List.mem_cons_of_mem _ (List.mem_cons_of_mem _ hm))) (List.nodup_cons.mp (List.nodup_cons.mp hn).2).2) 5 0 [] rfl (.inl rfl) (fun h=>absurd h (Nat.lt_irrefl 0))
 rw [← e9_eq] at spec
 refine pcall hA (by kernel_rfl) (a9S W (n'+1) (n'+2) n (n'+3)) (by kernel_rfl) (by kernel_rfl) (L:=c8 (n'+1) (rit 0 5)::c8 (n'+3) (lo W [])::lL (n'+2) #[] 0::cC (n+12) a::lL a xs e::(C++L))
  (A4 [3,2,0,1] 1 (by kernel_rfl)) (a9_start ok (Tri.at (by kernel_rfl:BN (Ar dp un F) _=Ar dp un F) (Tri.own spec (fun h D=>A4 [1,2,0] 0 (by kernel_rfl) h D)))) fun p n₃ tk₃ hp=>?_
 obtain ⟨tj,vj,rfl⟩:∃ t v,p=[(sac,t,v)]:=hp
 exact Aj ok 5 65 hR (n'+2) trivial (.ret (.ref (n'+2+8))) rfl [0,1] 1
theorem if9_eq (W:Wd):Bx W 9= .If (t9 W) (ifB (Bx W 9)) [] (ifP (Bx W 9)):=by kernel_rfl
theorem t9_eq (W:Wd):t9 W= .BoolOp .Or [B6 (E5 (t9 W)) 0,B6 (E5 (t9 W)) 1] (boP (t9 W)):=by kernel_rfl
theorem t9_c (W:Wd):B6 (E5 (t9 W)) 1= .Compare (e9 W) [.NotEq] [Ci (B6 (E5 (t9 W)) 1)] (cmP (B6 (E5 (t9 W)) 1)):=by kernel_rfl
theorem t9_m (W:Wd):behindInMarks .NotEq (Ci (B6 (E5 (t9 W)) 1))=false:=by kernel_rfl
theorem b9_len (ok:W.Ok) (hxs:xs.size=6) :
  Pc W (Ar dp un F) (PySem.isTrue (B6 (E5 (t9 W)) 0) (AD W n) (eval (B6 (E5 (t9 W)) 0) (AD W n))) G (cC (n+12) a::lL a xs e::L)
  (⟨fun _=>G,fun _=>True,fun _=>false,fun _=>cC (n+12) a::lL a xs e::L⟩:A3 Bool Unit):=by
 refine Pc.of embB Bv _ (by rw [BA,Ag]) fun R n' tk' c₀ d f gg u hA hR=>?_
 have spec:∀ A L,Tri W A (.call (.builtin "len") ⟨[.ref (a+8)],[]⟩) G (lL a xs e::L) (Gives G (fun t:Nat=> .int ((6:Nat):Int) t) fun _=>lL a xs e::L):=fun A L=>by
  have z:=BW (W:=W) (A:=A) (G:=G) (L:=L) (l:=a+8) (xs:=xs) (e:=e) ok (by omega)
  rw [hxs] at z
  exact z
 refine BB ok 6 4096 hA (.call (.builtin "len") ⟨[.ref (a+8)],[]⟩) [1] (lL a xs e) A6 (fun _ _ eA=>spec _ _) fun t n₁ tk₁ _=>?_
 exact Aj ok 7 0 hR () trivial (.ret (.bool false)) rfl [1,0] 0
theorem b9_nil (ok:W.Ok) :
  Pc W (Ar dp un F) (eval (Ci (B6 (E5 (t9 W)) 1)) (AD W n)) G L
  (⟨fun _=>G,fun _=>True,fun p=> .ref (p+8),fun p=>lL p #[] 0::L⟩:A3 Value Nat):=by
 refine Pc.of AL Ac _ (by rw [Ag]) fun R n' tk' c₀ d f gg u hA hR=>?_
 exact Aj ok 2 0 hR n' trivial (.ret (.ref (n'+8))) rfl [] 0
theorem keys_lt {ks:List KC} (hu:A.units<9900) (h:KOk true ks):∀ i,i<5->∀ h tk,(∀ p∈ks.map KC.cell,h.get? p.1=some p.2)->((ks.map KC.cell).map (·.1)).Nodup->Ck A ⟨h,⟨G⟩,W.d,tk,W.os⟩ (Cy (kcs ks) i) (Cy (kcs ks) (i+1)):=by
 obtain ⟨hr,pls,hl,hk,h14,hch⟩:=h
 intro i hi hp tk hc _
 have hlen:ks.length=6:=by have:=congrArg List.length hk;simpa [hl] using this
 have va:∀ j (hj:j<ks.length),Cy (kcs ks) j= .ref (ks[j].a+8):=by
  intro j hj
  unfold Cy kcs
  simp [List.getElem?_eq_getElem hj]
 have ki:∀ j (hj:j<ks.length) (hj':j<pls.length),ks[j].ki=pk pls[j]:=by
  intro j hj hj'
  have:=congrArg (·[j]?) hk
  simpa [List.getElem?_eq_getElem hj,List.getElem?_eq_getElem hj'] using this
 rw [va i (by omega),va (i+1) (by omega)]
 have z:=or_true (h14 _ (List.getElem_mem (by omega:i<pls.length))).1 (h14 _ (List.getElem_mem (by omega:i+1<pls.length))).1 (hch i _ _ (List.getElem?_eq_getElem (by omega)) (List.getElem?_eq_getElem (by omega)))
 rw [← ki i (by omega),← ki (i+1) (by omega)] at z
 obtain ⟨m,hm⟩:=reps_ltl (A:=A.in1) (s:=⟨hp,⟨G⟩,W.d,tk,W.os⟩) z (hr _ (List.getElem_mem (by omega:i<ks.length))) (hr _ (List.getElem_mem (by omega:i+1<ks.length)))
 exact Eb (n:=ks[i].e) (n2:=ks[i+1].e) hu (hc _ (List.mem_map_of_mem (List.getElem_mem (by omega:i<ks.length)))) (hc _ (List.mem_map_of_mem (List.getElem_mem (by omega:i+1<ks.length)))) hm
theorem CA {ks:List KC} (h:KOk nw ks):(kcs ks).size=6:=by
 obtain ⟨_,pls,hl,hk,_⟩:=h
 have:=congrArg List.length hk
 simp at this
 simp [kcs];omega
theorem x_9 (ok:W.Ok) {ks:List KC} (hd:dp<=400) (hu:un<=400) (hk:KOk true ks) :
  Pc W (Ar dp un F) (exec (Bx W 9) (AD W n)) G (cC (n+12) a::lL a (kcs ks) e::(ks.map KC.cell++L))
  (⟨fun _=>G,fun _=>True,fun _=> .next,fun _=>cC (n+12) a::lL a (kcs ks) e::(ks.map KC.cell++L)⟩:A3 Flow Unit):=by
 intro K hK E h n0 tk0 hs D0
 rw [if9_eq]
 refine wpAny_If ?_
 rw [t9_eq]
 refine wpAny_isTrue_BoolOp (wpAny_allTrue_Or_cons ?_)
 refine Pc.go (b9_len ok (CA hk)) (fun _ _ h1 n1 tk1 hs1 D1=>?_) hs D0
 rw [if_neg Bool.false_ne_true]
 refine wpAny_allTrue_Or_cons ?_
 rw [t9_c]
 refine wpAny_isTrue_Compare1 ?_ (t9_m W)
 refine Pc.go (a9_comp ok hd hu (CA hk) (keys_lt (show un<9900 by omega) hk)) (fun p _ h2 n2 tk2 hs2 D2=>?_) hs1 D1
 refine Pc.go (b9_nil ok) (fun m _ h3 n3 tk3 hs3 D3=>?_) hs2 D2
 refine Pc.go (CD (xs:=#[]) (e:=0) (e2:=0) (L:=cC (n+12) a::lL a (kcs ks) e::(ks.map KC.cell++L)) (show un<=9000 by omega)) (fun _ _ h4 n4 tk4 hs4 D4=>?_) hs3 (A2 [[lL m #[] 0],[lL p #[] 0]] [1,0] (tail:=cC (n+12) a::lL a (kcs ks) e::(ks.map KC.cell++L))  D3)
 refine wpAny_truthy_bool ?_
 refine wpAny_allTrue_Or_nil ?_
 exact wpAny_execs_nil (hK () trivial h4 n4 tk4 hs4 (D4.sub (List.Sublist.trans (List.sublist_cons_self ..) (List.sublist_cons_self ..))))
structure ST where
 G:List GenState
 o:Obj
 t:Nat
 a:Nat
 ks:List KC
 e:Nat
 sl:Array (Option Value)
noncomputable abbrev nmR (ts l tc c tl zs tt tm:Nat) (least:Int) (ext:List (Str×Nat×Value)):List (Str×Nat×Value):=(sag,ts,.ref (l+8))::(sal,tc,.ref (c+8))::(san,tl,.ref (zs+8))::(sbi,tt,.int least tm)::ext
theorem x_10 (ok:W.Ok) {k ez ts tc zs:Nat} {cs:List (Int×Nat)} {y:Sr} {ns:List Nd} {sl:Array (Option Value)} (hd:dp<=400) (hu:un<=400) (hq:Needs qq) (inj:∀ i j,i<6->j<6->(cl i).1=(cl j).1->i=j) (hcs:cs.length=6) (I:CI cl qq ns rs [] [] []) (ho:Tb W o) :
  PcC W (Ar dp un [AD W n]) (execs [Bx W 10] (AD W n)) G (c8 n (fS W (nmR ts l tc c tl zs tt tm least []) sl)::cC (n+9) q::cC (n+10) k::cC (n+11) y.s::y.all W r rs ez 0 0 ns 6 (lS k (cvl cl) ek::lL q (nlv (qv qq 6)) eq::(qc qq 6++((53,o)::lI c cs ec::L))))
  (⟨fun p=>p.G,fun p=>Tb W p.o/\((∀ y∈G,y.bare=true)->∀ y∈p.G,y.bare=true)/\KOk false p.ks,fun _=> .next,fun p=>c8 n (fS W (nmR ts l tc c tl zs tt tm least [(sbt,p.t,.ref (p.a+8))]) p.sl)::lL p.a (kcs p.ks) p.e::(53,p.o)::(p.ks.map KC.cell++L)⟩:A3 Flow ST):=by
 refine PcC.of id Ai (PySem.W.ZFast.zw12563942051412417395 [Bx W 10] (AD W n)) (by rw [Ao]) fun R n' tk' c₀ d f gg u hA hR=>?_
 refine gmore ok 15 1091055872 ⟨by kernel_rfl,?_⟩
 refine pcall hA (by kernel_rfl) (.call (.ref 202) ⟨[.ref (y.s+8),.ref (k+8),.ref (q+8),.ref (c+8),.int least tm,.bool false],[]⟩) (by kernel_rfl) (by kernel_rfl) (L:=y.all W r rs ez 0 0 ns 6 (lS k (cvl cl) ek::lL q (nlv (qv qq 6)) eq::(qc qq 6++((53,o)::lI c cs ec::(c8 n (fS W (nmR ts l tc c tl zs tt tm least []) sl)::cC (n+9) q::cC (n+10) k::cC (n+11) y.s::L)))))
  (fun h D=>A2 [[c8 n (fS W (nmR ts l tc c tl zs tt tm least []) sl)],[cC (n+9) q],[cC (n+10) k],[cC (n+11) y.s],y.cells W (.ref (r+8)) 0 0 ns 6,[lS r rs ez],A0 ns,[lS k (cvl cl) ek],[lL q (nlv (qv qq 6)) eq],qc qq 6,[(53,o)],[lI c cs ec]] [4,5,6,7,8,9,10,11,0,1,2,3] (tail:=L)  (A4 [] 0 (by kernel_rfl) h D))
  (AK.at (by kernel_rfl:BN (Ar dp un [AD W n]) _=Ar dp (un+0) [AD W n]) (DZ ok (Ab dp un rfl (by omega) (by omega)) hq inj (no_law W) (no_nil W) hcs I ho).up) fun p0 n₁ tk₁ hp0=>?_
 obtain ⟨rst,pls,hx⟩:=Dt hp0.1
 refine gmore ok 14 266305 ⟨by kernel_rfl,?_⟩
 have spec:AK W (Ar dp un [AD W n]) (kvC W (kvD (Bh (Bx W 10)) (kvS W)) n₁ (n₁+1) n (n₁+2)) p0.1 (c8 (n₁+2) (lo W [])::lL (n₁+1) (kcs []) 0::c8 n₁ (lit (p0.2.2.1+8) 0)::lS p0.2.2.1 p0.2.1 p0.2.2.2.1::c8 n (fS W (nmR ts l tc c tl zs tt tm least []) sl)::(53,p0.2.2.2.2)::L) (_:Post SK):=
  AK.out (Lf:=fun p=>c8 (n₁+2) (lo W p.ext)::lL (n₁+1) (kcs p.ks) p.e::c8 n (fS W (nmR ts l tc c tl zs tt tm least []) p.sl)::(53,p0.2.2.2.2)::(p.ks.map KC.cell++L)) (kv_loop (n:=n) (D:=n₁+2) (it:=n₁) (acc:=n₁+1) (a:=p0.2.2.1) (ea:=p0.2.2.2.1) (ys:=p0.2.1) (names:=nmR ts l tc c tl zs tt tm least []) (L:=(53,p0.2.2.2.2)::L) ok (by omega) (by omega) rst [] [] [] 0 sl (by rw [hx.2.1];rfl) rfl (by have:=congrArg List.length hx.2.2.1;simp at this;simp;omega) hx.2.2.2.1 (.inl rfl) (fun e=>by have hr2:=hx.2.2.1;subst e;simp at hr2;have:=congrArg List.length hr2;simp [hx.1] at this) (fun _ h=>nomatch h))
   fun p h D=>A2 [[c8 (n₁+2) (lo W p.ext)],[lL (n₁+1) (kcs p.ks) p.e],[c8 n (fS W (nmR ts l tc c tl zs tt tm least []) p.sl)],p.ks.map KC.cell,[(53,p0.2.2.2.2)]] [0,1,2,4,3] (tail:=L)  D
 refine pcall hA (by kernel_rfl) (kvSt W (kvD (Bh (Bx W 10)) (kvS W)) n₁ (n₁+1) n (n₁+2)) (by kernel_rfl) (by kernel_rfl) (L:=c8 n₁ (lit (p0.2.2.1+8) 0)::c8 (n₁+2) (lo W [])::lL (n₁+1) (kcs []) 0::lS p0.2.2.1 p0.2.1 p0.2.2.2.1::c8 n (fS W (nmR ts l tc c tl zs tt tm least []) sl)::(53,p0.2.2.2.2)::L)
  (A4 [5,6,7,8,9,10,11,12,13,15,16,17,2,0,1,3,14,4] 12 (by kernel_rfl)) (kv_start ok (AK.at (by kernel_rfl:BN (Ar dp un [AD W n]) _=Ar dp un [AD W n]) (AK.own spec (fun h D=>A4 [1,2,0] 0 (by kernel_rfl) h D)))) fun p2 n₂ tk₂ hp2=>?_
 obtain ⟨ext,ks,e1,sl'⟩:=p2
 obtain ⟨⟨tj,vj,rfl⟩,hrep,hks⟩:(∃ t v,ext=[(sao,t,v)])/\(∀ k∈ks,Reps k.vs k.ki)/\ks.map KC.ki=_:=hp2
 exact Aj ok 13 266371 hR (ST.mk p0.1 p0.2.2.2.2 tk₂ (n₁+1) ks e1 sl') ⟨hp0.2.1,hp0.2.2,hrep,pls,hx.1,hks.trans hx.2.2.1,hx.2.2.2.2.1,hx.2.2.2.2.2⟩ .next rfl [0,2,1,3] 1
theorem Tri.out {c:Code} {α:Type} {Q:Post α} {Lf:α->List Cell} (x:Tri W A c G L Q) (h:∀ p h,Own W.h₀ 53 h (Q.L p)->Own W.h₀ 53 h (Lf p)):Tri W A c G L ⟨Q.G,Q.P,Q.res,Lf⟩:=
 fun R hR hp n tk hs D=>x R (fun p hP h' n' tk' hs' D'=>hR p hP h' n' tk' hs' (h p h' D')) hp n tk hs D
noncomputable def e11 (W:Wd):PySem.Expr:=Bh (Bx W 11)
theorem e11_eq (W:Wd):e11 W= .ListComp (lcE (e11 W)) [⟨lcT (e11 W),lcI (e11 W),[],0⟩] (E8 (e11 W)) (lcP (e11 W)):=by kernel_rfl
noncomputable def v11 (W:Wd) (n D:Nat):Env:=Cm (AD W n) (e11 W) (D+8) []
noncomputable def m11C (W:Wd) (it acc n D:Nat):Code:= .compLoop (e11 W) 0 (.ref (it+8)) (.ref (acc+8)) (v11 W n D)
noncomputable def m11S (W:Wd) (it acc n D:Nat):Code:= .compStart (e11 W) 0 (.ref (it+8)) (.ref (acc+8)) (v11 W n D)
theorem m11_lot (W:Wd) (it v:Value):letOwnedTupleGo (lcT (e11 W)) it v=pure ():=by kernel_rfl
theorem m_asg (ok:W.Ok) {b:Nat} (hx:Dx sbw ext) :
  Pc W (Ar dp un F) (assign (lcT (e11 W)) (v11 W n D) (.ref (b+8))) G (c8 D (lo W ext)::L)
  (⟨fun _=>G,fun _=>True,fun _=>(),fun p=>c8 D (lo W [(sbw,p,.ref (b+8))])::L⟩:A3 Unit Nat):=by
 rcases hx with rfl | ⟨tj,v,rfl⟩<;>refine Pc.of Bo Ap _ (by rw [Ax]) fun R n' tk' c₀ d f gg u hA hR=>?_
 ·exact Aj ok 7 1 hR tk' trivial .next rfl [] 0
 ·exact Aj ok 7 1 hR tj trivial .next rfl [] 0
theorem m_elt (ok:W.Ok) {b:Nat} (hx:xs.size<=1000) :
  Pc W (Ar dp un F) (eval (lcE (e11 W)) (v11 W n D)) G (c8 D (lo W [(sbw,tp,.ref (b+8))])::lL b xs e::L)
  (⟨fun _=>G,fun _=>True,fun p=> .ref (p.1+8),fun p=>c8 p.1 (Af #[.int xs.size p.2,.ref (b+8)])::c8 D (lo W [(sbw,tp,.ref (b+8))])::lL b xs e::L⟩:A3 Value (Nat×Nat)):=by
 refine Pc.of AL Ac _ (by rw [Ag]) fun R n' tk' c₀ d f gg u hA hR=>?_
 refine BB ok 7 4096 hA (.call (.builtin "len") ⟨[.ref (b+8)],[]⟩) [1] (lL b xs e) A6 (fun _ _ eA=>BW ok hx) fun t n₁ tk₁ _=>?_
 exact Aj ok 4 2 hR (n₁,t) trivial (.ret (.ref (n₁+8))) rfl [0,2,1] 0
structure MK where
 a:Nat
 t:Nat
 k:KC
noncomputable def MK.cell (m:MK):Cell:=(c8 m.a (Af #[.int m.k.vs.toArray.size m.t,.ref (m.k.a+8)]))
noncomputable def mks (l:List MK):Array Value:=(l.map fun m=>Value.ref (m.a+8)).toArray
theorem mks_push (l:List MK) (m:MK):(mks l).push (.ref (m.a+8))=mks (l++[m]):=by simp [mks]
structure SU where
 ext:List (Str×Nat×Value)
 ms:List MK
 e:Nat
theorem m_loop (ok:W.Ok) {ea:Nat} {ks:List KC} (hd:dp<=700) (hu:un<=700) (hk:∀ k∈ks,k.vs.length<=900) :
  ∀ (rst:List KC) (done:List MK) (ext:List (Str×Nat×Value)) (e1:Nat),ks=done.map MK.k++rst->done.length+rst.length<=500->Dx sbw ext->(rst=[]->ext≠[]) ->
  Tri W (Ar dp un F) (m11C W it acc n D) G (c8 D (lo W ext)::lL acc (mks done) e1::c8 it (lit (a+8) done.length)::lL a (kcs ks) ea::(ks.map KC.cell++(done.map MK.cell++L)))
  (Nx G (fun p:SU=>c8 D (lo W p.ext)::lL acc (mks p.ms) p.e::(ks.map KC.cell++(p.ms.map MK.cell++L))) fun p=>(∃ t v,p.ext=[(sbw,t,v)])/\p.ms.map MK.k=ks):=by
 intro rst
 induction rst with
 | nil=>
  intro done ext e1 hks hl hx hne R hR h n0 tk0 hs D0
  unfold m11C
  rw [e11_eq]
  refine AX ?_ (m11_lot W _)
  refine Pc.go (p_nextE (it:=it) (l:=a) (i:=done.length) (e:=ea) (xs:=kcs ks) ok (by omega) (by omega) (by subst hks;simp [kcs])) (fun _ _ h1 n1 tk1 hs1 D1=>?_) hs (A2 [[c8 D (lo W ext)],[lL acc (mks done) e1],[c8 it (lit (a+8) done.length)],[lL a (kcs ks) ea]] [2,3,0,1] (tail:=ks.map KC.cell++(done.map MK.cell++L))  D0)
  exact hR ⟨ext,done,e1⟩ ⟨hx.resolve_left (hne rfl),by rw [hks];simp⟩ h1 n1 tk1 hs1 D1
 | cons kc rst ih=>
  intro done ext e1 hks hl hx hne R hR h n0 tk0 hs D0
  have hc:ks.map KC.cell=(done.map MK.k).map KC.cell++([kc.cell]++rst.map KC.cell):=by rw [hks];simp
  rw [hc,List.append_assoc,List.append_assoc] at D0
  unfold m11C
  rw [e11_eq]
  refine AX ?_ (m11_lot W _)
  refine Pc.go (p_nextI (it:=it) (l:=a) (i:=done.length) (e:=ea) (xs:=kcs ks) (v:= .ref (kc.a+8)) ok (by subst hks;simp [kcs])) (fun _ _ h1 n1 tk1 hs1 D1=>?_) hs (A2 [[c8 D (lo W ext)],[lL acc (mks done) e1],[c8 it (lit (a+8) done.length)],[lL a (kcs ks) ea]] [2,3,0,1] (tail:=(done.map MK.k).map KC.cell++([kc.cell]++(rst.map KC.cell++(done.map MK.cell++L))))  D0)
  try dsimp only
  refine Pc.go (m_asg ok hx) (fun tp _ h2 n2 tk2 hs2 D2=>?_) hs1 (A2 [[c8 it (lit (a+8) (done.length+1))],[lL a (kcs ks) ea],[c8 D (lo W ext)]] [2,0,1] (tail:=lL acc (mks done) e1::((done.map MK.k).map KC.cell++([kc.cell]++(rst.map KC.cell++(done.map MK.cell++L)))))  D1)
  simp only [List.forIn_nil]
  refine wpAny_pure ?_
  rw [if_pos rfl]
  refine Pc.go (m_elt (b:=kc.a) (xs:=kc.vs.toArray) (e:=kc.e) (tp:=tp) (L:=c8 it (lit (a+8) (done.length+1))::lL a (kcs ks) ea::lL acc (mks done) e1::((done.map MK.k).map KC.cell++(rst.map KC.cell++(done.map MK.cell++L)))) ok (by have:=hk kc (by rw [hks];simp);simp;omega)) (fun p _ h3 n3 tk3 hs3 D3=>?_) hs2 (A2 [[c8 D (lo W [(sbw,tp,.ref (kc.a+8))])],[c8 it (lit (a+8) (done.length+1))],[lL a (kcs ks) ea],[lL acc (mks done) e1],(done.map MK.k).map KC.cell,[kc.cell]] [0,5,1,2,3,4] (tail:=rst.map KC.cell++(done.map MK.cell++L))  D2)
  refine Pc.go (DI (A8 (l:=acc+8) (xs:=mks done) (e:=e1) (x:= .ref (p.1+8)) (L:=c8 D (lo W [(sbw,tp,.ref (kc.a+8))])::c8 it (lit (a+8) (done.length+1))::lL a (kcs ks) ea::((done.map MK.k).map KC.cell++([kc.cell]++(rst.map KC.cell++(done.map MK.cell++([(MK.mk p.1 p.2 kc).cell]++L)))))) (by simp [mks];omega))) (fun e' _ h4 n4 tk4 hs4 D4=>?_) hs3 (A2 [[(MK.mk p.1 p.2 kc).cell],[c8 D (lo W [(sbw,tp,.ref (kc.a+8))])],[kc.cell],[c8 it (lit (a+8) (done.length+1))],[lL a (kcs ks) ea],[lL acc (mks done) e1],(done.map MK.k).map KC.cell,rst.map KC.cell,done.map MK.cell] [5,1,3,4,6,2,7,8,0] (tail:=L)  D3)
  have D5:=A2 [[(acc+8,A1 ((mks done).push (.ref (p.1+8))) e')],[c8 D (lo W [(sbw,tp,.ref (kc.a+8))])]] [1,0] (tail:=c8 it (lit (a+8) (done.length+1))::lL a (kcs ks) ea::((done.map MK.k).map KC.cell++([kc.cell]++(rst.map KC.cell++(done.map MK.cell++([(MK.mk p.1 p.2 kc).cell]++L))))))  D4
  rw [show (mks done).push (.ref (p.1+8))=mks (done++[MK.mk p.1 p.2 kc]) from mks_push done (MK.mk p.1 p.2 kc),← List.append_assoc (done.map MK.cell),show done.map MK.cell++[(MK.mk p.1 p.2 kc).cell]=(done++[MK.mk p.1 p.2 kc]).map MK.cell from by simp,← List.append_assoc [kc.cell],← List.append_assoc ((done.map MK.k).map KC.cell),← hc] at D5
  have z:=ih (done++[MK.mk p.1 p.2 kc]) _ e' (by rw [hks];simp) (by simp at hl ⊢;omega) (.inr ⟨tp,.ref (kc.a+8),rfl⟩) (fun _=>List.cons_ne_nil _ _) R hR h4 n4 tk4 hs4
  rw [List.length_append] at z
  unfold m11C at z
  rw [e11_eq] at z
  exact z D5
theorem m_start (ok:W.Ok) {α:Type} {Q:Post α} (spec:Tri W A (m11C W it acc n D) G (c8 it (lit (a+8) i)::L) Q):Tri W A (m11S W it acc n D) G (c8 it (lit (a+8) i)::L) Q:=by
 obtain ⟨w₀,b2,b3,h₀,dd,os⟩:=W
 cases b2
 ·refine Tri.of fun R n' tk hR=>?_
  exact Cq ok 11 266305 (m11C _ it acc n D) _ [] 0 hR spec
 ·refine Tri.of fun R n' tk hR=>?_
  exact Cq ok 1 0 (m11C _ it acc n D) _ [] 0 hR spec
theorem x_11 (ok:W.Ok) {ts tc zs tr:Nat} {ks:List KC} {sl:Array (Option Value)} (hd:dp<=400) (hu:un<=400) (hk:∀ k∈ks,k.vs.length<=900) (hl:ks.length=6) :
  Pc W (Ar dp un F) (execs [Bx W 11] (AD W n)) G (c8 n (fS W (nmR ts l tc c tl zs tt tm least [(sbt,tr,.ref (a+8))]) sl)::(n+13,A7)::lL a (kcs ks) e::(ks.map KC.cell++L))
  (⟨fun _=>G,fun p=>p.1.map MK.k=ks,fun _=> .next,fun p=>cC (n+13) p.2.1::lL p.2.1 (mks p.1) p.2.2::(ks.map KC.cell++(p.1.map MK.cell++L))⟩:A3 Flow (List MK×Nat×Nat)):=by
 refine Pc.of id Ai _ (by rw [Ao]) fun R n' tk' c₀ d f gg u hA hR=>?_
 refine gmore ok 15 17576129 ⟨by kernel_rfl,?_⟩
 have spec:Tri W (Ar dp un F) (m11C W n' (n'+1) n (n'+2)) G (c8 (n'+2) (lo W [])::lL (n'+1) (mks []) 0::c8 n' (lit (a+8) 0)::lL a (kcs ks) e::(ks.map KC.cell++([]++(c8 n (fS W (nmR ts l tc c tl zs tt tm least [(sbt,tr,.ref (a+8))]) sl)::(n+13,A7)::L)))) (_:Post SU):=
  Tri.out (Lf:=fun p=>c8 (n'+2) (lo W p.ext)::lL (n'+1) (mks p.ms) p.e::c8 n (fS W (nmR ts l tc c tl zs tt tm least [(sbt,tr,.ref (a+8))]) sl)::(n+13,A7)::(ks.map KC.cell++(p.ms.map MK.cell++L))) (m_loop (n:=n) (D:=n'+2) (it:=n') (acc:=n'+1) (a:=a) (ea:=e) (ks:=ks) (L:=c8 n (fS W (nmR ts l tc c tl zs tt tm least [(sbt,tr,.ref (a+8))]) sl)::(n+13,A7)::L) ok (by omega) (by omega) hk ks [] [] 0 rfl (by simp;omega) (.inl rfl) (fun e=>by subst e;simp at hl))
   fun p h D=>A2 [[c8 (n'+2) (lo W p.ext)],[lL (n'+1) (mks p.ms) p.e],ks.map KC.cell,p.ms.map MK.cell,[c8 n (fS W (nmR ts l tc c tl zs tt tm least [(sbt,tr,.ref (a+8))]) sl)],[(n+13,A7)]] [0,1,4,5,2,3] (tail:=L)  D
 refine pcall hA (by kernel_rfl) (m11S W n' (n'+1) n (n'+2)) (by kernel_rfl) (by kernel_rfl) (L:=c8 n' (lit (a+8) 0)::c8 (n'+2) (lo W [])::lL (n'+1) (mks []) 0::lL a (kcs ks) e::(ks.map KC.cell++(c8 n (fS W (nmR ts l tc c tl zs tt tm least [(sbt,tr,.ref (a+8))]) sl)::(n+13,A7)::L)))
  (fun h D=>A2 [[c8 (n'+2) (lo W [])],[lL (n'+1) (mks []) 0],[c8 n' (lit (a+8) 0)],[c8 n (fS W (nmR ts l tc c tl zs tt tm least [(sbt,tr,.ref (a+8))]) sl)],[(n+13,A7)],[lL a (kcs ks) e],ks.map KC.cell] [2,0,1,5,6,3,4] (tail:=L)  (A4 [] 0 (by kernel_rfl) h D)) (m_start ok (Tri.at (by kernel_rfl:BN (Ar dp un F) _=Ar dp un F) (Tri.own spec (fun h D=>A4 [1,2,0] 0 (by kernel_rfl) h D)))) fun p n₂ tk₂ hp=>?_
 obtain ⟨ext,ms,e1⟩:=p
 obtain ⟨⟨tj,vj,rfl⟩,hms⟩:(∃ t v,ext=[(sbw,t,v)])/\ms.map MK.k=ks:=hp
 exact Aj ok 10 51380289 hR (ms,n'+1,e1) hms .next rfl [0,2,3,1] 2
end
section
open PySem PySem.W PySem.W.X PySem.Calls PySem.Spec PyProof.Rows
open PySem.SeqAt
variable {W:Wd} {L C:List Cell} {G:List GenState} {n dp un e i it D a acc:Nat} {A:Around} {F:List Env} {xs:Array Value} {s:Shared}
noncomputable def e12 (W:Wd):PySem.Expr:=cmL (B6 (E5 (t12 W)) 1)
noncomputable def f12 (W:Wd):PySem.Expr:=B6 (lcF (e12 W)) 0
theorem e12_eq (W:Wd):e12 W=plE (lcE (e12 W)) (lcT (e12 W)) (lcI (e12 W)) (cmL (unA (f12 W))) (Ci (unA (f12 W))) (E8 (e12 W)) (cmP (unA (f12 W))) (unP (f12 W)) (lcP (e12 W)):=by kernel_rfl
noncomputable def v12 (W:Wd) (n D:Nat):Env:=Cm (AD W n) (e12 W) (D+8) [(S [109,97,114,107,115],n+13)]
theorem a12_asg (ok:W.Ok) (i t:Nat) (ext:List (Str×Nat×Value)) (hx:Dx sac ext) :
  Pc W (Ar dp un F) (assign (lcT (e12 W)) (v12 W n D) (.int (i:Int) t)) G (c8 D (lo W ext)::L)
  (⟨fun _=>G,fun _=>True,fun _=>(),fun p=>c8 D (lo W [(sac,p,.int (i:Int) t)])::L⟩:A3 Unit Nat):=by
 rcases hx with rfl | ⟨tj,v,rfl⟩<;>refine Pc.of Bo Ap _ (by rw [Ax]) fun R n' tk' c₀ d f gg u hA hR=>?_
 ·exact Aj ok 7 1 hR tk' trivial .next rfl [] 0
 ·exact Aj ok 7 1 hR tj trivial .next rfl [] 0
theorem a12_l (ok:W.Ok) (hxs:xs.size=6) (i t tj:Nat) (hi:i<5) :
  Pc W (Ar dp un F) (eval (cmL (unA (f12 W))) (v12 W n D)) G (c8 D (lo W [(sac,tj,.int (i:Int) t)])::(cC (n+13) a::lL a xs e::C++L))
  (⟨fun _=>G,fun _=>True,fun _=>Cy xs i,fun _=>c8 D (lo W [(sac,tj,.int (i:Int) t)])::(cC (n+13) a::lL a xs e::C++L)⟩:A3 Value Unit):=by
 refine Pc.of AL Ac _ (by rw [Ag]) fun R n' tk' c₀ d f gg u hA hR=>?_
 refine BB ok 8 51130434 hA (.call (.builtin "list.__getitem__") ⟨[.ref (a+8),.int (i:Int) t],[]⟩) [2] (lL a xs e) A6 (fun _ _ eA=>Aa (x:=Cy xs i) (by omega) (by omega) (by rw [Int.toNat_natCast];exact DJ (by omega))) fun _ n₁ tk₁ _=>?_
 exact Aj ok 0 0 hR () trivial (.ret (Cy xs i)) rfl [1,2,0] 0
theorem a12_r (ok:W.Ok) (hxs:xs.size=6) (i t tj:Nat) (hi:i<5) :
  Pc W (Ar dp un F) (eval (Ci (unA (f12 W))) (v12 W n D)) G (c8 D (lo W [(sac,tj,.int (i:Int) t)])::(cC (n+13) a::lL a xs e::C++L))
  (⟨fun _=>G,fun _=>True,fun _=>Cy xs (i+1),fun _=>c8 D (lo W [(sac,tj,.int (i:Int) t)])::(cC (n+13) a::lL a xs e::C++L)⟩:A3 Value Unit):=by
 refine Pc.of AL Ac _ (by rw [Ag]) fun R n' tk' c₀ d f gg u hA hR=>?_
 refine BB ok 14 51130434 hA (.call (.builtin "list.__getitem__") ⟨[.ref (a+8),.int ((i:Int)+1) (tk'+1)],[]⟩) [2] (lL a xs e) A6 (fun _ _ eA=>Aa (x:=Cy xs (i+1)) (by omega) (by omega) (by rw [show (i:Int)+1=((i+1:Nat):Int) from rfl,Int.toNat_natCast];exact DJ (by omega))) fun _ n₁ tk₁ _=>?_
 exact Aj ok 0 0 hR () trivial (.ret (Cy xs (i+1))) rfl [1,2,0] 0
noncomputable def a12C (W:Wd) (it acc n D:Nat):Code:= .compLoop (e12 W) 0 (.ref (it+8)) (.ref (acc+8)) (v12 W n D)
noncomputable def a12S (W:Wd) (it acc n D:Nat):Code:= .compStart (e12 W) 0 (.ref (it+8)) (.ref (acc+8)) (v12 W n D)
theorem a12_start (ok:W.Ok) {k:Nat} {α:Type} {Q:Post α} (spec:Tri W A (a12C W it acc n D) G (c8 it (rit i k)::L) Q):Tri W A (a12S W it acc n D) G (c8 it (rit i k)::L) Q:=by
 obtain ⟨w₀,b2,b3,h₀,dd,os⟩:=W
 cases b2
 ·refine Tri.of fun R n' tk hR=>?_
  exact Cq ok 11 266305 (a12C _ it acc n D) _ [] 0 hR spec
 ·refine Tri.of fun R n' tk hR=>?_
  exact Cq ok 1 0 (a12C _ it acc n D) _ [] 0 hR spec
theorem a12_in (W:Wd):behindInMarks .Lt (Ci (unA (f12 W)))=false:=by kernel_rfl
theorem a12_lot (W:Wd) (it v:Value):letOwnedTupleGo (lcT (e12 W)) it v=pure ():=by kernel_rfl
theorem a12_comp (ok:W.Ok) (hd:dp<=400) (hu:un<=400) (hxs:xs.size=6)
  (hlt:∀ i,i<5->∀ h tk,(∀ p∈C,h.get? p.1=some p.2)->(C.map (·.1)).Nodup->Ck (Ar dp un F) ⟨h,⟨G⟩,W.d,tk,W.os⟩ (Cy xs i) (Cy xs (i+1))) :
  Pc W (Ar dp un F) (eval (e12 W) (AD W n)) G (cC (n+13) a::lL a xs e::(C++L))
  (⟨fun _=>G,fun _=>True,fun p=> .ref (p+8),fun p=>lL p #[] 0::cC (n+13) a::lL a xs e::(C++L)⟩:A3 Value Nat):=by
 refine Pc.of AL Ac _ (by rw [Ag]) fun R n' tk' c₀ d f gg u hA hR=>?_
 refine gmore ok 38 4797324681010433232896 ⟨by kernel_rfl,?_⟩
 have spec:=plc_loop (W:=W) (dp:=dp) (un:=un) (F:=F) (G:=G) (L:=L) (C:=cC (n+13) a::lL a xs e::C) (V:=v12 W n (n'+3)) (it:=n'+1) (acc:=n'+2) (D:=n'+3) (e1:=0) (elt:=lcE (e12 W)) (tg:=lcT (e12 W)) (iter:=lcI (e12 W)) (sc:=E8 (e12 W)) (p1:=cmP (unA (f12 W))) (p2:=unP (f12 W)) (p3:=lcP (e12 W)) (xs:=xs) ok (a12_in W) (a12_lot W) (fun i t ext hx=>a12_asg ok i t ext hx) (fun i t tj hi=>a12_l ok hxs i t tj hi) (fun i t tj hi=>a12_r ok hxs i t tj hi) (fun i hi h tk hp hn=>hlt i hi h tk (fun p hm=>hp p (List.mem_cons_of_mem _ (List.mem_cons_of_mem _ hm))) (List.nodup_cons.mp (List.nodup_cons.mp hn).2).2) 5 0 [] rfl (.inl rfl) (fun h=>absurd h (Nat.lt_irrefl 0))
 rw [← e12_eq] at spec
 refine pcall hA (by kernel_rfl) (a12S W (n'+1) (n'+2) n (n'+3)) (by kernel_rfl) (by kernel_rfl) (L:=c8 (n'+1) (rit 0 5)::c8 (n'+3) (lo W [])::lL (n'+2) #[] 0::cC (n+13) a::lL a xs e::(C++L))
  (A4 [3,2,0,1] 1 (by kernel_rfl)) (a12_start ok (Tri.at (by kernel_rfl:BN (Ar dp un F) _=Ar dp un F) (Tri.own spec (fun h D=>A4 [1,2,0] 0 (by kernel_rfl) h D)))) fun p n₃ tk₃ hp=>?_
 obtain ⟨tj,vj,rfl⟩:∃ t v,p=[(sac,t,v)]:=hp
 exact Aj ok 5 65 hR (n'+2) trivial (.ret (.ref (n'+2+8))) rfl [0,1] 1
theorem r12_eq (W:Wd):Bx W 12= .Return (some (t12 W)) (retP (Bx W 12)):=by kernel_rfl
theorem t12_eq (W:Wd):t12 W= .BoolOp .And [B6 (E5 (t12 W)) 0,B6 (E5 (t12 W)) 1] (boP (t12 W)):=by kernel_rfl
theorem t12_c (W:Wd):B6 (E5 (t12 W)) 1= .Compare (e12 W) [.Eq] [Ci (B6 (E5 (t12 W)) 1)] (cmP (B6 (E5 (t12 W)) 1)):=by kernel_rfl
theorem t12_m (W:Wd):behindInMarks .Eq (Ci (B6 (E5 (t12 W)) 1))=false:=by kernel_rfl
theorem b12_len (ok:W.Ok) (hxs:xs.size=6) :
  Pc W (Ar dp un F) (eval (B6 (E5 (t12 W)) 0) (AD W n)) G (cC (n+13) a::lL a xs e::L)
  (⟨fun _=>G,fun _=>True,fun _=> .bool true,fun _=>cC (n+13) a::lL a xs e::L⟩:A3 Value Unit):=by
 refine Pc.of AL Ac _ (by rw [Ag]) fun R n' tk' c₀ d f gg u hA hR=>?_
 have spec:∀ A L,Tri W A (.call (.builtin "len") ⟨[.ref (a+8)],[]⟩) G (lL a xs e::L) (Gives G (fun t:Nat=> .int ((6:Nat):Int) t) fun _=>lL a xs e::L):=fun A L=>by
  have z:=BW (W:=W) (A:=A) (G:=G) (L:=L) (l:=a+8) (xs:=xs) (e:=e) ok (by omega)
  rw [hxs] at z
  exact z
 refine BB ok 6 4096 hA (.call (.builtin "len") ⟨[.ref (a+8)],[]⟩) [1] (lL a xs e) A6 (fun _ _ eA=>spec _ _) fun t n₁ tk₁ _=>?_
 exact Aj ok 7 0 hR () trivial (.ret (.bool true)) rfl [1,0] 0
theorem b12_nil (ok:W.Ok) :
  Pc W (Ar dp un F) (eval (Ci (B6 (E5 (t12 W)) 1)) (AD W n)) G L
  (⟨fun _=>G,fun _=>True,fun p=> .ref (p+8),fun p=>lL p #[] 0::L⟩:A3 Value Nat):=by
 refine Pc.of AL Ac _ (by rw [Ag]) fun R n' tk' c₀ d f gg u hA hR=>?_
 exact Aj ok 2 0 hR n' trivial (.ret (.ref (n'+8))) rfl [] 0
theorem lt_tuple_at {l b:Addr} {x1 x2 y1 y2:Value} (hu:A.units<9900) (h1:s.heap.get? l=some (Af #[x1,x2])) (h2:s.heap.get? b=some (Af #[y1,y2])) (h:(EqAt A.in1 s x1 y1 false/\Ck A.in1 s x1 y1)∨(EqAt A.in1 s x1 y1 true/\EqAt A.in1 s x2 y2 false/\Ck A.in1 s x2 y2)):Ck A s (.ref l) (.ref b):=fun prog w E Q hq=>
 richCompare_meets_room ⟨_,h1,rfl⟩ ⟨_,h2,rfl⟩ F.slot_tuple_lt F.entry_tuple_lt (F.args_tuple_lt_2 _ _) (tuple_ltAt l b x1 x2 y1 y2 0 0) ⟨h1,h2,h,Value.noConfusion,hq⟩ hu
theorem marks_lt {ks:List KC} {ms:List MK} (hu:A.units<9800) (hms:ms.map MK.k=ks) (h:KOk false ks):∀ i,i<5->∀ h tk,(∀ p∈ks.map KC.cell++ms.map MK.cell,h.get? p.1=some p.2)->((ks.map KC.cell++ms.map MK.cell).map (·.1)).Nodup->Ck A ⟨h,⟨G⟩,W.d,tk,W.os⟩ (Cy (mks ms) i) (Cy (mks ms) (i+1)):=by
 obtain ⟨hr,pls,hl,hk,h14,hch⟩:=h
 intro i hi hp tk hc hnd
 have hlen:ks.length=6:=by have:=congrArg List.length hk;simpa [hl] using this
 have hml:ms.length=6:=by have:=congrArg List.length hms;simpa [hlen] using this
 have va:∀ j (hj:j<ms.length),Cy (mks ms) j= .ref (ms[j].a+8):=by
  intro j hj
  unfold Cy mks
  simp [List.getElem?_eq_getElem hj]
 have mk:∀ j (hj:j<ms.length) (hj':j<ks.length),ms[j].k=ks[j]:=by
  intro j hj hj'
  have:=congrArg (·[j]?) hms
  simpa [List.getElem?_eq_getElem hj,List.getElem?_eq_getElem hj'] using this
 have ki:∀ j (hj:j<ks.length) (hj':j<pls.length),ks[j].ki=pk pls[j]:=by
  intro j hj hj'
  have:=congrArg (·[j]?) hk
  simpa [List.getElem?_eq_getElem hj,List.getElem?_eq_getElem hj'] using this
 rw [va i (by omega),va (i+1) (by omega)]
 have z:=or_false (h14 _ (List.getElem_mem (by omega:i<pls.length))).1 (h14 _ (List.getElem_mem (by omega:i+1<pls.length))).1 (hch i _ _ (List.getElem?_eq_getElem (by omega)) (List.getElem?_eq_getElem (by omega)))
 rw [← ki i (by omega),← ki (i+1) (by omega)] at z
 have r1:=hr _ (List.getElem_mem (by omega:i<ks.length))
 have r2:=hr _ (List.getElem_mem (by omega:i+1<ks.length))
 have l1:=r1.len
 have l2:=r2.len
 have g1:=hc _ (List.mem_append_left _ (List.mem_map_of_mem (List.getElem_mem (by omega:i<ks.length))))
 have g2:=hc _ (List.mem_append_left _ (List.mem_map_of_mem (List.getElem_mem (by omega:i+1<ks.length))))
 have c1:=hc _ (List.mem_append_right _ (List.mem_map_of_mem (List.getElem_mem (by omega:i<ms.length))))
 have c2:=hc _ (List.mem_append_right _ (List.mem_map_of_mem (List.getElem_mem (by omega:i+1<ms.length))))
 unfold MK.cell at c1 c2
 rw [mk i (by omega) (by omega)] at c1
 rw [mk (i+1) (by omega) (by omega)] at c2
 have hu1:A.in1.units<9900:=show A.units+_<9900 by omega
 refine lt_tuple_at (by omega) c1 c2 ?_
 rcases z with z | ⟨z1,z2⟩
 ·have e1:ks[i].vs.toArray.size<ks[i+1].vs.toArray.size:=by simp only [List.size_toArray];omega
  refine .inl ⟨?_,lt_int_at (by omega)⟩
  have e:=Em (A:=A.in1) (s:=⟨hp,⟨G⟩,W.d,tk,W.os⟩) (v:= .int ks[i].vs.toArray.size ms[i].t) (w:= .int ks[i+1].vs.toArray.size ms[i+1].t) (a:= .inl ks[i].vs.toArray.size) (b:= .inl ks[i+1].vs.toArray.size) rfl rfl
  rwa [klt_ne (a:= .inl _) (b:= .inl _) (show ((ks[i].vs.toArray.size:Nat):Int)<(ks[i+1].vs.toArray.size:Nat) by omega)] at e
 ·have e1:ks[i].vs.toArray.size=ks[i+1].vs.toArray.size:=by simp only [List.size_toArray];omega
  refine .inr ⟨?_,?_,?_⟩
  ·have e:=Em (A:=A.in1) (s:=⟨hp,⟨G⟩,W.d,tk,W.os⟩) (v:= .int ks[i].vs.toArray.size ms[i].t) (w:= .int ks[i+1].vs.toArray.size ms[i+1].t) (a:= .inl ks[i].vs.toArray.size) (b:= .inl ks[i+1].vs.toArray.size) rfl rfl
   rw [e1] at e ⊢
   rwa [keq_same] at e
  ·refine rows_ne (ks:=ks[i].ki) (ls:=ks[i+1].ki) ?_ g1 g2 r1 r2 z2 z1 hu1
   intro e
   rw [List.map_append,List.nodup_append] at hnd
   have hn:=hnd.1
   rw [List.map_map] at hn
   refine List.pairwise_iff_getElem.mp (List.nodup_iff_pairwise_ne.mp hn) i (i+1) (by simp;omega) (by simp;omega) (Nat.lt_succ_self i) ?_
   rw [List.getElem_map,List.getElem_map]
   exact e
  ·obtain ⟨m,hm⟩:=reps_ltl (A:=A.in1.in1) (s:=⟨hp,⟨G⟩,W.d,tk,W.os⟩) z2 r1 r2
   exact Eb (n:=ks[i].e) (n2:=ks[i+1].e) hu1 g1 g2 hm
theorem x_12 (ok:W.Ok) {ks:List KC} {ms:List MK} (hd:dp<=400) (hu:un<=400) (hms:ms.map MK.k=ks) (hk:KOk false ks) :
  Pc W (Ar dp un F) (execs [Bx W 12] (AD W n)) G (cC (n+13) a::lL a (mks ms) e::((ks.map KC.cell++ms.map MK.cell)++L))
  (⟨fun _=>G,fun _=>True,fun _=> .ret (.bool true),fun _=>L⟩:A3 Flow Unit):=by
 have hsz:(mks ms).size=6:=by
  have h6:=CA hk
  have:=congrArg List.length hms
  simp [kcs] at h6 this
  simp [mks];omega
 intro K hK E h n0 tk0 hs D0
 refine wpAny_execs_cons ?_
 rw [r12_eq]
 refine wpAny_Return_some ?_
 rw [t12_eq]
 refine wpAny_And2 ?_
 refine Pc.go (b12_len ok hsz) (fun _ _ h1 n1 tk1 hs1 D1=>?_) hs D0
 refine wpAny_truthy_bool ?_
 rw [if_pos rfl,t12_c]
 refine wpAny_Compare1 ?_ (t12_m W)
 refine Pc.go (a12_comp ok hd hu hsz (marks_lt (show un<9800 by omega) hms hk)) (fun p _ h2 n2 tk2 hs2 D2=>?_) hs1 D1
 refine Pc.go (b12_nil ok) (fun m _ h3 n3 tk3 hs3 D3=>?_) hs2 D2
 refine Pc.go (CV (xs:=#[]) (e:=0) (e2:=0) (L:=cC (n+13) a::lL a (mks ms) e::((ks.map KC.cell++ms.map MK.cell)++L)) (show un<=9000 by omega)) (fun _ _ h4 n4 tk4 hs4 D4=>?_) hs3 (A2 [[lL m #[] 0],[lL p #[] 0]] [1,0] (tail:=cC (n+13) a::lL a (mks ms) e::((ks.map KC.cell++ms.map MK.cell)++L))  D3)
 exact hK () trivial h4 n4 tk4 hs4 (D4.sub (List.Sublist.trans (List.sublist_append_right ..) (List.Sublist.trans (List.sublist_cons_self ..) (List.Sublist.trans (List.sublist_cons_self ..) (List.Sublist.trans (List.sublist_cons_self ..) (List.sublist_cons_self ..))))))
end
section
open PySem PySem.W PySem.W.X PySem.Calls PySem.Spec PyProof.Rows
variable {W:Wd} {L:List Cell} {G:List GenState} {n dp un e tk l:Nat} {nw:Bool} {o:Obj}
theorem body207 (W:Wd):Ak W.kt 207=(Ak W.kt 207).take 5++(Bx W 5::([Bx W 6]++([Bx W 7,Bx W 8]++(Bx W 9::([Bx W 10]++([Bx W 11]++[Bx W 12])))))):=by kernel_rfl
theorem kok_len {ks:List KC} (h:KOk nw ks):∀ k∈ks,k.vs.length<=900:=by
 obtain ⟨hr,pls,hl,hk,h14,_⟩:=h
 intro k hm
 have:k.ki∈pls.map pk:=hk▸List.mem_map_of_mem hm
 obtain ⟨p,hp,e⟩:=List.mem_map.mp this
 have z:=(hr k hm).len
 have:=Ei (h14 p hp).1
 have:=(h14 p hp).2
 rw [e] at *
 omega
theorem kok_six {ks:List KC} (h:KOk nw ks):ks.length=6:=by
 have:=CA h
 simpa [kcs] using this
theorem law_body (ok:W.Ok) (hz:W.Low) {xs:List (Int×Nat)} (hd:dp<=390) (hu:un<=390) (hx:xs.length<=63) (ho:Tb W o) :
  AK W (Ar dp un []) (entry W.kt 207 n 8) G (AF W n [(sag,tk,.ref (l+8))]::(n+9,A7)::(n+10,A7)::(n+11,A7)::(n+12,A7)::(n+13,A7)::lI l xs e::(53,o)::L)
  ⟨fun p:List GenState×Obj=>p.1,fun p=>Tb W p.2/\((∀ y∈G,y.bare=true)->∀ y∈p.1,y.bare=true),fun _=> .ok (.ret (.bool true)),fun p=>(53,p.2)::lI l xs e::L⟩:=by
 intro R hR h0 n0 tk0 hs D
 show Bb true (model AA W.w) (Ar dp un []) (.func (Ak W.kt 207) (AD W n)) R _
 refine func_tree ?_
 rw [show (Ar dp un []).deeper (AD W n)=Ar (dp+1) (un+3) [AD W n] from by kernel_rfl,body207]
 refine As.app (As.up (Pc.go (x_A ok hz (by omega) (by omega) hx) (fun p hp h1 n1 tk1 hs1 D1=>?_) hs D))
 obtain ⟨c,cs,ec,q,eq,qq,k,tc,z,d0,d1,d2,d3,d4,d5,y,t1,t2⟩:=p
 obtain ⟨hcs,hq,hv⟩:=hp
 try dsimp only at hcs hq hv
 have inj:=CO tc
 refine As.cons (As.up (Pc.go (x_5 (q:=q) (eq:=eq) (k:=k) (ek:=0) (qq:=qq) (cl:=CE tc) (y:=y) (L:=AF W n [(sag,tk,.ref (l+8)),(sal,t1,.ref (c+8)),(san,t2,.ref (z.s+8))]::(n+12,A7)::(n+13,A7)::lI l xs e::lI c cs ec::(z.cells W .none 0 0 [d0,d1,d2,d3,d4,d5] 6++(A0 [d0,d1,d2,d3,d4,d5]++((53,o)::L)))) ok (by omega) (by omega) hq inj) (fun ms hms h2 n2 tk2 hs2 D2=>?_) hs1 (A2 [[AF W n [(sag,tk,.ref (l+8)),(sal,t1,.ref (c+8)),(san,t2,.ref (z.s+8))]],[cC (n+9) q],[cC (n+10) k],[cC (n+11) y.s],[(n+12,A7)],[(n+13,A7)],[lI l xs e],[lI c cs ec],[lS k (cvl (CE tc)) 0],[lL q (nlv (qv qq 6)) eq],qc qq 6,z.cells W .none 0 0 [d0,d1,d2,d3,d4,d5] 6,y.cells W .none 0 0 [] 0,A0 [d0,d1,d2,d3,d4,d5]] [1,2,3,9,8,10,12,0,4,5,6,7,11,13] (tail:=(53,o)::L)  D1)))
 obtain ⟨m0,m1,m2,m3,m4,m5,rfl⟩:=six (hms.trans rfl)
 refine As.app (As.up (Pc.go (x_6 (n:=n) (ts:=tk) (tc:=t1) (tl:=t2) (l:=l) (c:=c) (z:=z) (y:=y) (L:=cC (n+9) q::cC (n+10) k::lL q (nlv (qv qq 6)) eq::lS k (cvl (CE tc)) 0::(qc qq 6++((n+12,A7)::(n+13,A7)::lI l xs e::lI c cs ec::(53,o)::L))) ok (by omega) (by omega) (gr_ok hq inj hv) (gr_ok hq inj hms)) (fun p6 hp6 h3 n3 tk3 hs3 D3=>?_) hs2 (A2 [[cC (n+9) q],[cC (n+10) k],[cC (n+11) y.s],[lL q (nlv (qv qq 6)) eq],[lS k (cvl (CE tc)) 0],qc qq 6,y.cells W .none 0 0 [m0,m1,m2,m3,m4,m5] 6,A0 [m0,m1,m2,m3,m4,m5],[AF W n [(sag,tk,.ref (l+8)),(sal,t1,.ref (c+8)),(san,t2,.ref (z.s+8))]],[(n+12,A7)],[(n+13,A7)],[lI l xs e],[lI c cs ec],z.cells W .none 0 0 [d0,d1,d2,d3,d4,d5] 6,A0 [d0,d1,d2,d3,d4,d5]] [8,2,13,14,6,7,0,1,3,4,5,9,10,11,12] (tail:=(53,o)::L)  D2)))
 obtain ⟨z',r,e1,y',r',e2,sl⟩:=p6
 obtain ⟨hz1,hy1⟩:z'.s=z.s/\y'.s=y.s:=hp6
 have D3:Own W.h₀ 53 h3 (c8 n (fS W [(sag,tk,.ref (l+8)),(sal,t1,.ref (c+8)),(san,t2,.ref (z.s+8))] sl)::cC (n+11) y.s::z'.all W r (zeros d0 d1 d2 d3 d4 d5) e1 0 0 [d0,d1,d2,d3,d4,d5] 6 (y'.all W r' (zeros m0 m1 m2 m3 m4 m5) e2 0 0 [m0,m1,m2,m3,m4,m5] 6 (cC (n+9) q::cC (n+10) k::lL q (nlv (qv qq 6)) eq::lS k (cvl (CE tc)) 0::(qc qq 6++((n+12,A7)::(n+13,A7)::lI l xs e::lI c cs ec::(53,o)::L))))):=D3
 unfold Sr.all at D3
 have x7:=x_7 (G:=G) (dp:=dp+1) (un:=un+3) (n:=n) (ts:=tk) (tc:=t1) (tl:=t2) (l:=l) (c:=c) (e:=e) (xs:=xs) (q:=q) (eq:=eq) (k:=k) (ek:=0) (ec:=ec) (r:=r) (ez:=e1) (qq:=qq) (cl:=CE tc) (cs:=cs) (z:=z') (o:=o) (sl:=sl) (L:=cC (n+11) y.s::(n+13,A7)::y'.all W r' (zeros m0 m1 m2 m3 m4 m5) e2 0 0 [m0,m1,m2,m3,m4,m5] 6 L) ok hz (by omega) (by omega) hq inj hcs (by omega) (ci_0 hv) ho
 rw [hz1] at x7
 refine As.app (x7 _ (fun p7 hp7 h4 n4 tk4 hs4 D4=>?_) _ h3 n3 tk3 hs3
  (A2 [[c8 n (fS W [(sag,tk,.ref (l+8)),(sal,t1,.ref (c+8)),(san,t2,.ref (z.s+8))] sl)],[cC (n+11) y.s],z'.cells W (.ref (r+8)) 0 0 [d0,d1,d2,d3,d4,d5] 6,[lS r (zeros d0 d1 d2 d3 d4 d5) e1],A0 [d0,d1,d2,d3,d4,d5],y'.cells W (.ref (r'+8)) 0 0 [m0,m1,m2,m3,m4,m5] 6,[lS r' (zeros m0 m1 m2 m3 m4 m5) e2],A0 [m0,m1,m2,m3,m4,m5],[cC (n+9) q],[cC (n+10) k],[lL q (nlv (qv qq 6)) eq],[lS k (cvl (CE tc)) 0],qc qq 6,[(n+12,A7)],[(n+13,A7)],[lI l xs e],[lI c cs ec],[(53,o)]] [0,8,9,13,15,2,3,4,11,10,12,17,16,1,14,5,6,7] (tail:=L)  D3))
 obtain ⟨G1,o1,least,t3,t4,a,ks,e3,sl1⟩:=p7
 obtain ⟨ho1,hb1,hk1⟩:Tb W o1/\_/\KOk true ks:=hp7
 refine As.cons (As.up (Pc.go (x_9 (n:=n) (a:=a) (e:=e3) (ks:=ks) (L:=c8 n (fS W (nmR tk l t1 c t2 z.s t3 t4 least []) sl1)::cC (n+9) q::cC (n+10) k::lI l xs e::(53,o1)::lS k (cvl (CE tc)) 0::lL q (nlv (qv qq 6)) eq::(qc qq 6++(lI c cs ec::cC (n+11) y.s::(n+13,A7)::y'.all W r' (zeros m0 m1 m2 m3 m4 m5) e2 0 0 [m0,m1,m2,m3,m4,m5] 6 L))) ok (by omega) (by omega) hk1) (fun _ _ h5 n5 tk5 hs5 D5=>?_) hs4 (A2 [[c8 n (fS W (nmR tk l t1 c t2 z.s t3 t4 least []) sl1)],[cC (n+9) q],[cC (n+10) k],[cC (n+12) a],[lI l xs e],[lL a (kcs ks) e3],[(53,o1)],[lS k (cvl (CE tc)) 0],[lL q (nlv (qv qq 6)) eq],qc qq 6,[lI c cs ec],ks.map KC.cell] [3,5,11,0,1,2,4,6,7,8,9,10] (tail:=cC (n+11) y.s::(n+13,A7)::y'.all W r' (zeros m0 m1 m2 m3 m4 m5) e2 0 0 [m0,m1,m2,m3,m4,m5] 6 L)  D4)))
 have x10:=x_10 (G:=G1) (dp:=dp+1) (un:=un+3) (n:=n) (ts:=tk) (tc:=t1) (tl:=t2) (zs:=z.s) (tt:=t3) (tm:=t4) (least:=least) (l:=l) (c:=c) (q:=q) (eq:=eq) (k:=k) (ek:=0) (ec:=ec) (r:=r') (ez:=e2) (qq:=qq) (cl:=CE tc) (cs:=cs) (y:=y') (o:=o1) (sl:=sl1) (L:=(n+13,A7)::lI l xs e::cC (n+12) a::lL a (kcs ks) e3::(ks.map KC.cell++L)) ok (by omega) (by omega) hq inj hcs (ci_0 hms) ho1
 rw [hy1] at x10
 refine As.app (x10 _ (fun p10 hp10 h6 n6 tk6 hs6 D6=>?_) _ h5 n5 tk5 hs5
  (A2 [[cC (n+12) a],[lL a (kcs ks) e3],ks.map KC.cell,[c8 n (fS W (nmR tk l t1 c t2 z.s t3 t4 least []) sl1)],[cC (n+9) q],[cC (n+10) k],[lI l xs e],[(53,o1)],[lS k (cvl (CE tc)) 0],[lL q (nlv (qv qq 6)) eq],qc qq 6,[lI c cs ec],[cC (n+11) y.s],[(n+13,A7)],y'.cells W (.ref (r'+8)) 0 0 [m0,m1,m2,m3,m4,m5] 6,[lS r' (zeros m0 m1 m2 m3 m4 m5) e2],A0 [m0,m1,m2,m3,m4,m5]] [3,4,5,12,14,15,16,8,9,10,7,11,13,6,0,1,2] (tail:=L)  D5))
 obtain ⟨G2,o2,t5,a2,ks2,e4,sl2⟩:=p10
 obtain ⟨ho2,hb2,hk2⟩:Tb W o2/\_/\KOk false ks2:=hp10
 refine As.app (As.up (Pc.go (x_11 (n:=n) (a:=a2) (e:=e4) (ks:=ks2) (ts:=tk) (tc:=t1) (tl:=t2) (zs:=z.s) (tt:=t3) (tm:=t4) (least:=least) (l:=l) (c:=c) (tr:=t5) (sl:=sl2) (L:=(53,o2)::lI l xs e::cC (n+12) a::lL a (kcs ks) e3::(ks.map KC.cell++L)) ok (by omega) (by omega) (kok_len hk2) (kok_six hk2)) (fun p11 hp11 h7 n7 tk7 hs7 D7=>?_) hs6 (A2 [[c8 n (fS W (nmR tk l t1 c t2 z.s t3 t4 least [(sbt,t5,.ref (a2+8))]) sl2)],[lL a2 (kcs ks2) e4],[(53,o2)],ks2.map KC.cell,[(n+13,A7)]] [0,4,1,3,2] (tail:=lI l xs e::cC (n+12) a::lL a (kcs ks) e3::(ks.map KC.cell++L))  D6)))
 obtain ⟨ms2,b,e5⟩:=p11
 refine As.up (Pc.go (x_12 (n:=n) (a:=b) (e:=e5) (ks:=ks2) (ms:=ms2) (L:=(53,o2)::lI l xs e::cC (n+12) a::lL a (kcs ks) e3::(ks.map KC.cell++L)) ok (by omega) (by omega) hp11 hk2) (fun _ _ h8 n8 tk8 hs8 D8=>?_) hs7 (by rw [List.append_assoc];exact D7))
 exact hR (G2,o2) ⟨ho2,fun hG=>hb2 (hb1 hG)⟩ h8 n8 tk8 hs8 (D8.sub (((List.sublist_append_right (ks.map KC.cell) L).trans ((List.sublist_cons_self ..).trans (List.sublist_cons_self ..))).cons_cons _ |> .cons_cons _))
theorem law207 (ok:W.Ok) (hz:W.Low) {xs:List (Int×Nat)} (hd:dp<=390) (hu:un<=390) (hx:xs.length<=63) (ho:Tb W o) :
  AK W (Ar dp un []) (.call (.ref 207) ⟨[.ref (l+8)],[]⟩) G (lI l xs e::(53,o)::L)
  ⟨fun p:List GenState×Obj=>p.1,fun p=>Tb W p.2/\((∀ y∈G,y.bare=true)->∀ y∈p.1,y.bare=true),fun _=> .ok (.ret (.bool true)),fun p=>(53,p.2)::lI l xs e::L⟩:=by
 refine AK.of fun R n tk hR=>?_
 refine gmore ok 12 1335296 ⟨by kernel_rfl,?_⟩
 refine gbody ok (entry W.kt 207 n 8) (by kernel_rfl) (by kernel_rfl) (dp+0) (by kernel_rfl) (by omega) hR (L:=AF W n [(sag,tk,.ref (l+8))]::(n+9,A7)::(n+10,A7)::(n+11,A7)::(n+12,A7)::(n+13,A7)::lI l xs e::(53,o)::L) (A4 [5,4,3,2,1,0,6,7] 0 (by kernel_rfl)) (law_body ok hz hd hu hx ho)
end
section
open PySem PySem.W PySem.W.X PySem.Spec PySem.Calls PyProof.Rows
variable {W:Wd} {e tk:Nat} {h h₀:Heap} {s:Shared} {R:Result->Shared->Prop} {o:Obj} {prog:Program}
noncomputable def Γ₀:PySem.Ctx:=⟨.builtin "claim.caller" {},none,none,[],none⟩
noncomputable def wpC {α:Type} (M:Model) (t:Sem α) (Q:α->Shared->Prop) (E:Value->Shared->Prop) (s:Shared):Prop:=∀ p,Sem.wp M Γ₀ t (fun a _ s'=>Q a s') (fun e _ s'=>E e s') p s
theorem wpC.mono {α:Type} {M:Model} {t:Sem α} {Q Q':α->Shared->Prop} {E E':Value->Shared->Prop} {s:Shared} (h:wpC M t Q E s) (hQ:∀ a s,Q a s->Q' a s) (hE:∀ e s,E e s->E' e s):wpC M t Q' E' s:=fun p=>Sem.wp_mono _ _ _ (fun a _ s=>hQ a s) (fun e _ s=>hE e s) _ _ (h p)
theorem wpC.bind {α β:Type} {M:Model} {m:Sem α} {f:α->Sem β} {Q:β->Shared->Prop} {E:Value->Shared->Prop} (h:wpC M m (fun a s'=>wpC M (f a) Q E s') E s):wpC M (m>>=f) Q E s:=fun p=>by
 rw [Sem.wp_bind']
 exact Sem.wp_mono _ _ _ (fun a p' s' h'=>h' p') (fun _ _ _ h'=>h') _ _ (h p)
theorem wpC.up {α:Type} {M:Model} {t:Sem α} {Q:α->Shared->Prop} {E:Value->Shared->Prop} (h:wpAny M callerA t Q E s):wpC M t Q E s:=fun p=>h Γ₀ p caller_in
theorem ends_at {w:World} {t:Sem Fin} {P:Prop} (hs:s.asleep)
  (h:wpC (model prog w) t (fun fin s'=>∃ f,fin= .done f/\R (.ok f) s'/\AllBare s'.gens) (fun e s'=>R (.error e) s'/\AllBare s'.gens) s)
  (f:∀ n r s' s'',runN (denote table) prog w n s ⟨t,.builtin "claim.caller" {},default,[]⟩= .halted (outcomeOf r) s'->schedN (denote table) prog w n (.single s ⟨t,.builtin "claim.caller" {},default,[]⟩)= .halted (outcomeOf r) s'->s'.forget=s''.forget->R r s''->P):P:=by
 have z:Sem.wp (model prog w) Γ₀ t (Sem.finPost (model prog w) Γ₀ fun r s'=>R r s'/\leftWithCleanup s'.gens=false) (fun e _ s'=>R (.error e) s'/\leftWithCleanup s'.gens=false) default s:=by
  refine Sem.wp_mono _ _ _ (fun fin p' s' h'=>?_) (fun e p' s' h'=>⟨h'.1,leftWithCleanup_false_of_bare h'.2⟩) _ _ (h default)
  obtain ⟨f,rfl,h1,h2⟩:=h'
  exact ⟨h1,leftWithCleanup_false_of_bare h2⟩
 obtain ⟨n,r,s₁,s₂,h1,h2,h3,h4⟩:=wp_halts_full (M:=model prog w) hs z
 exact f n r s₂ s₁ h2 h1 h3 h4
theorem callC {c:ClaimW} {tree:List Value->Sem Fin} {w:World} {free:Addr->Prop} {gens:Prop} {kept:Heap->Prop} (hz:s.asleep) (hg:s.gens=#[])
  (hspec:∀ args,c.pre args=true->WData.layableAll args=true->∀ ord:List DictEntry->List DictEntry,(∀ l,(ord l).Perm l) ->
   ∃ vs s₁,layAllW c.records (classAt s.heap) w.params ord args s=some (vs,s₁) /\
    wpC (model c.prog w) (tree vs) (fun fin s'=>∃ f,fin= .done f/\(c.Ends s args vs s₁ (.ok f) s'/\s'.os=s.os/\kept s'.heap)/\AllBare s'.gens)
     (fun e s'=>(c.Ends s args vs s₁ (.error e) s'/\s'.os=s.os/\kept s'.heap)/\AllBare s'.gens) s₁) :
  c.CallFrom (fun vs=>⟨tree vs,.builtin "claim.caller" {},default,[]⟩) w free gens kept s:=by
 intro args hpre hlay ord hord
 obtain ⟨vs,s₁,h1,h2⟩:=hspec args hpre hlay ord hord
 have rest:=layAllW_rest _ _ _ h1
 refine ends_at (R:=fun r s'=>c.Ends s args vs s₁ r s'/\s'.os=s.os/\kept s'.heap) (Shared.asleep_of_life rest.2.2.2 hz) h2 fun k r s' s'' hrun hsched hfo h3=>?_
 have eh:=(Shared.forget_eq hfo).1
 refine ⟨vs,s₁,h1,k,_,s',hsched,?_,(fun _ i x hx=>by rw [hg] at hx;simp at hx),eh▸h3.2.2,by rw [(runN_life _ _ _ hrun).trans rest.2.2.2],Shared.rest_eq ((Shared.forget_eq hfo).2.2.2.1▸h3.2.1)⟩
 exact (h3.1.congr eh).imp (fun h=>h.imp fun v h=>⟨congrArg outcomeOf h.1,h.2.1,h.2.2.1,h.2.2.2.1,fun b o y _=>h.2.2.2.2.1 b o y,h.2.2.2.2.2⟩) fun h=>h.imp fun e h=>h.imp fun ob h=>h.imp fun cls h=>⟨congrArg outcomeOf h.1,h.2.1,h.2.2.1,h.2.2.2.1,h.2.2.2.2.1,fun b o y _=>h.2.2.2.2.2 b o y⟩
noncomputable def CallC (q:Program) (loose:List Str) (XP:(Str->Option Value)->Heap->Prop) {α:Type} (Yf:Shared->α) (Ya:World->α) (r:RowW) (d:DefRec) (kwd:List (Str×PySem.Expr)):Prop:=
 ∀ (w:World) (s₀ s₁:Shared) (mg mb:Str->Option Value),Ground q loose r.records XP w s₀ mg mb s₁.heap->Yf s₀=Ya w->∀ (a:Addr) (o:Obj) (pm cd doc dV kV:Value),s₁.heap.get? a=some o ->
  o.data= .func { docDef d.name d.params d.body d.scope pm cd doc with defaults:=dV,kwdefaults:=kV }->s₁.heap.CodeRec cd d.name->Dflts mg s₁.heap d.params kwd dV kV->mg d.name=some (.ref a)->s₁.gens=#[] ->
  ∀ (args:List WData) (vals:List Value) (as:List Addr),Laid r.records w s₀ s₁ args vals as->r.claim.pre args=true->WData.layableAll args=true ->
   wpC (model r.prog w) (PySem.call (.ref a) vals) (fun v s'=>GoodWG r.claim (classAt s₀.heap) (ExcName.means s₀.heap) args s₁ (.ok (.ret v)) s')
    (fun e s'=>GoodWG r.claim (classAt s₀.heap) (ExcName.means s₀.heap) args s₁ (.error e) s') s₁
theorem openC {r:OpenRow} {q₀:Program} {loose:List Str} {Xt:Shared->Bool} {XP:(Str->Option Value)->Heap->Prop} {α:Type} {Yf:Shared->α} {Ya:World->α} {d:DefRec} {kwd:List (Str×PySem.Expr)} {N:Nat}
  (left:LeftO r.prog q₀ loose Xt Yf Ya N)
  (hX:∀ s,Xt s=true->XP (s.heap.nsMap mainGlobals) s.heap) (hXk:∀ mg h h',XP mg h->(∀ b o,h.get? b=some o->h'.get? b=some o)->XP mg h')
  (hdef:defOf q₀ r.name=some (d,kwd)) (hp:r.prog.theDef r.name=some (d.params,d.body,d.scope)) (hk:kwWritten? d.params.kwonlyargs d.params.kw_defaults=some kwd) (hRf:∀ s,Xt s=true->RecFacts r.records s.heap) (hwr:(!r.writes||r.records.isEmpty)=true)
  (k1:r.wellSaid=true) (ok:(chainsOk q₀&&opensWell r.prog&&(frees r.toRowW&&r.within.isEmpty))=true) (hb:r.prog.bare) (hw:r.toRowW.promised)
  (call:CallC q₀ loose XP Yf Ya r.toRowW d kwd):r.Holds:=by
 simp only [Bool.and_eq_true] at ok
 obtain ⟨⟨hch,o1⟩,k5,k6⟩:=ok
 obtain ⟨hsame,hu,ha,hap,hm⟩:=frees_parts k5
 refine ⟨k1,hw,⟨hb,o1,by show r.makers.map _=[];rw [hm];rfl⟩,hw.witness,fun w=>?_⟩
 have B:=left.behind (XP:=fun mg h=>XP mg h/\RecFacts r.records h) (fun s hs=>⟨hX s hs,hRf s hs⟩) hch w
 refine ⟨B.1,fun s' hs'=>?_⟩
 refine (B.2 s' hs').elim fun s₀ h=>h.2.2.elim fun s q=>?_
 have hf:=h.1
 have hg0:=h.2.1
 have hT:=q.1
 have hz:=q.2.1
 have hgens:=q.2.2.1
 have hg:=q.2.2.2.1
 have y:=q.2.2.2.2.2
 have G0:Ground q₀ loose [] XP w s (s.heap.nsMap mainGlobals) (s.heap.nsMap builtinsNs) s.heap:=have G:=q.2.2.2.2.1;⟨G.T,G.B,G.D,G.TE,G.TD,G.W,G.X.1,G.cls,G.has,G.apart,G.once,G.K⟩
 have RF:=q.2.2.2.2.1.X.2
 refine ⟨s₀,hf,hg0,s,hT,fun n hn=>?_,RF.1,RF.2.1,?_⟩
 ·obtain rfl:n=r.name:=by split at hn<;>simp_all
  exact pinned_of_view hg G0 hdef hp hk
 have GR:Ground q₀ loose r.records XP w s _ _ s.heap:=RF.ground G0
 refine callC hz (Array.eq_empty_of_size_eq_zero (beq_iff_eq.mp hgens)) fun args hpre hlay ord hord=>?_
 obtain ⟨⟨vs,s₁⟩,hl⟩:=Option.isSome_iff_exists.mp (layAllW_isSome (P:=w.params) (ord:=ord) GR.has args r.args s (pre_splitW hpre).1)
 have keeps:=layAllW_keeps _ _ _ hl
 have rest:=layAllW_rest _ _ _ hl
 obtain ⟨as,hrd,hin,hold⟩:=reads_layAllW hord _ _ _ hl hlay s₁.heap (fun _ _ e=>e)
 have L:Laid r.records w s s₁ args vs as:=⟨⟨ord,hord,hl⟩,hrd,hin,hold,keeps,rest.1.trans (Array.eq_empty_of_size_eq_zero (beq_iff_eq.mp hgens)),rest.2.2.1⟩
 have G₁:=GR.keeps hXk keeps
 obtain ⟨a,o,pm,cd,doc,dV,kV,h1,h2,h3,h4,h5⟩:=G₁.fn hdef
 have z:=call w s s₁ _ _ G₁ y a o pm cd doc dV kV h2 h3 h4 h5 (defOf_name hdef▸h1) L.gens args vs as L hpre hlay
 refine ⟨vs,s₁,hl,wpC.bind (wpC.up (wpAny_nsGet G₁.T.g ?_))⟩
 rw [h1]
 refine wpC.bind (z.mono (fun v t g p=>⟨_,rfl,?_⟩) fun e t g=>?_)
 all_goals
  have z:=g.laid (c:=r.toRowW.claim) hsame (List.isEmpty_iff.mp k6) (ident_freeW hu ha hap) L
  exact ⟨⟨z.1,z.2.1,fun q=>⟨namesKept_of hT hg _ keeps g.2.1.old,noTable hwr q⟩⟩,z.2.2⟩
theorem ints_iv {vs:List Value} {ns:List Int} (h:IntsAre vs ns):∃ xs:List (Int×Nat),vs.toArray=iv xs/\xs.length=ns.length:=by
 have:∃ xs:List (Int×Nat),vs=xs.map (fun p=>Value.int p.1 p.2)/\xs.length=ns.length:=by
  induction h with
  | nil=>exact ⟨[],rfl,rfl⟩
  | cons n t _ ih=>
   obtain ⟨xs,e,l⟩:=ih
   exact ⟨(n,t)::xs,by rw [e];rfl,by simp [l]⟩
 obtain ⟨xs,rfl,l⟩:=this
 exact ⟨xs,rfl,l⟩
theorem script_push {R:WRecords} {w:World} {s₀ s₁:Shared} {ns:List Int} {a:Addr} {as:List Addr} (L:Laid R w s₀ s₁ [ofPy (PyData.list (ns.map PyData.int))] [.ref a] as):∃ o,s₁.heap=s₀.heap.push o:=by
 obtain ⟨ord,_,e⟩:=L.laid
 simp only [ofPy,layAllW,layW] at e
 cases q:layAllW R (classAt s₀.heap) w.params ord (ofPys (List.map PyData.int ns)) s₀ with
 | none=>rw [q] at e;cases e
 | some r=>
  rw [q] at e
  have hh:=lay_ints ns s₀ r q
  simp only [Option.some.injEq,Prod.mk.injEq] at e
  exact ⟨_,by rw [← e.2,hh]⟩
structure Old (s₀ s₁:Shared):Prop where
 new:∃ o,s₁.heap=s₀.heap.push o
 n:s₀.heap.objs.size=208
theorem Old.back {s₀ s₁:Shared} (h:Old s₀ s₁) {b:Addr} (hb:b≠208):s₁.heap.get? b=s₀.heap.get? b:=by
 obtain ⟨o,e⟩:=h.new
 rw [e,Heap.get?_push_ne _ _ _ (by rw [h.n];exact hb)]
theorem Old.n₁ {s₀ s₁:Shared} (h:Old s₀ s₁):s₁.heap.objs.size=209:=by
 obtain ⟨o,e⟩:=h.new
 rw [e,Heap.size_push,h.n]
theorem k_parts {P:Params} (k:AllIn h (K0 P)):h.get? 2=some (o2 P)/\AllIn h (K1 P):=by
 unfold K0 at k
 unfold K1
 exact ⟨k.2.1,k.1,k.2.2⟩
theorem k_53 {P:Params} (k:AllIn h (K1 P)):h.get? 3=some (o3 P)/\h.get? 53=some (o53 P)/\h.get? 57=some (o57 P):=by
 exact ⟨k.2.1,k.2.2.2.2.2.2.2.2.1,k.2.2.2.2.2.2.2.2.2.1⟩
theorem tab57 (P:Params):(o57 P).cls= .type "code"/\∃ vs,(o57 P).data= .fields vs/\vs[11]?=some (.ref 53):=⟨by kernel_rfl,_,rfl,by kernel_rfl⟩
theorem law_name (P:Params):∃ es ep,(o3 P).data= .dict es ep/\nsFind es lawN=some (.ref 207):=⟨_,_,rfl,by kernel_rfl⟩
theorem own0 {xs:List (Int×Nat)} (hk:∀ b,b≠208->h.get? b=h₀.get? b) (hn:h₀.objs.size=208) (hn1:h.objs.size=209) (h53:h₀.get? 53=some o) (ho:h.get? 208=some (A1 (iv xs) e)):Own h₀ 53 h ((200+8,A1 (iv xs) e)::(53,o)::[]):=by
 have k:∀ b o,h₀.get? b=some o->h.get? b=some o:=fun b o q=>by
  have:=Heap.lt_size q
  rw [hk b (fun e=>absurd this (by rw [e,hn];exact Nat.lt_irrefl 208)),q]
 refine ⟨fun b o q _=>k b o q,fun p hp=>?_,by show [208,53].Nodup;decide,fun p hp=>?_,by rw [hn,hn1];decide⟩
 ·rcases List.mem_cons.mp hp with rfl | hp
  ·exact ho
  ·rw [List.mem_singleton.mp hp];exact k _ _ h53
 ·rcases List.mem_cons.mp hp with rfl | hp
  ·exact .inr (AY (by rw [hn];exact Nat.le_refl _))
  ·rw [List.mem_singleton.mp hp];exact .inl rfl
theorem cin0 (c:Code) (p:Pos):CIn (Γ₀.enter c none p):=rfl
theorem run207 (ok:W.Ok) (hl:W.Low) {xs:List (Int×Nat)} (hs:h.objs.size=209) (hx:xs.length<=63) (D:Own W.h₀ 53 h ((200+8,A1 (iv xs) e)::(53,o53 W.w₀.params)::[])) :
  wpC W.M (PySem.call (.ref 207) [.ref 208]) (fun v s'=>v= .bool true/\s'.os=W.os/\AllBare s'.gens/\∃ o,Tb W o/\Own W.h₀ 53 s'.heap ((53,o)::(200+8,A1 (iv xs) e)::[])) (fun _ _=>False) ⟨h,#[],W.d,tk,W.os⟩:=by
 intro p
 have hR:Takes W (fun r s'=>r= .ok (.ret (.bool true))/\s'.os=W.os/\AllBare s'.gens/\∃ o,Tb W o/\Own W.h₀ 53 s'.heap ((53,o)::(200+8,A1 (iv xs) e)::[])) ⟨fun p:List GenState×Obj=>p.1,fun p=>Tb W p.2/\((∀ y∈([]:List GenState),y.bare=true)->∀ y∈p.1,y.bare=true),fun _=> .ok (.ret (.bool true)),fun p=>(53,p.2)::(200+8,A1 (iv xs) e)::[]⟩:=by
  intro q hq h' n' tk' hs' D'
  refine ⟨rfl,rfl,fun y hy=>?_,q.2,hq.1,D'⟩
  exact hq.2 (fun _ h=>nomatch h) y (by simpa using hy)
 have z:=law207 (W:=W) (dp:=1+claimMargin) (un:=4) (G:=[]) (L:=[]) (l:=200) (e:=e) (xs:=xs) ok hl (by decide) (by decide) hx (.inl rfl) _ hR h 201 tk hs D (Γ₀.enter (.call (.ref 207) ⟨[.ref 208],[]⟩) none p) p rfl (caller_in.enter _ none p (by intro x;cases x)) (cin0 _ _)
 unfold PySem.call
 rw [Sem.wp_runValue]
 obtain ⟨r,s',hret,rfl,h1,h2,h3⟩:=z
 exact ⟨_,s',hret,rfl,h1,h2,h3⟩
theorem old_of {h':Heap} {xs:List (Int×Nat)} (hk:∀ b,b≠208->h.get? b=W.h₀.get? b) (ho:h.get? 208=some (A1 (iv xs) e)) (k:AllIn W.h₀ (K1 W.w₀.params)) (ht:Tb W o) (D:Own W.h₀ 53 h' ((53,o)::(200+8,A1 (iv xs) e)::[])):OldK h h':=by
 obtain ⟨_,k53,k57⟩:=k_53 k
 have at53:h'.get? 53=some o:=D.own _ (List.mem_cons_self ..)
 have at208:h'.get? 208=some (A1 (iv xs) e):=D.own _ (List.mem_cons_of_mem _ (List.mem_cons_self ..))
 have key:∀ b o',h.get? b=some o'->asItWas h h' b o':=by
  intro b o' q
  by_cases e1:b=208
  ·subst e1
   exact .inl (at208.trans (ho.symm.trans q))
  ·rw [hk b e1] at q
   by_cases e2:b=53
   ·subst e2
    rw [k53] at q
    cases q
    rcases ht with rfl | ⟨c,rfl⟩
    ·exact .inl at53
    ·obtain ⟨t1,vs,t2,t3⟩:=tab57 W.w₀.params
     exact .inr (.inl ⟨⟨57,_,vs,(hk 57 (by decide)).trans k57,t1,t2,t3⟩,rfl,#[],#[rawInt (geP (Cr W)).line,rawInt (geP (Cr W)).col,.ref (c+8)],rfl,at53⟩)
   ·exact .inl (D.keep b o' q e2)
 refine ⟨key,fun b o' q=>?_⟩
 rcases key b o' q with r | ⟨_,_,vs,more,_,r⟩ | ⟨_,_,⟨o2,_,_,r,_⟩,_⟩
 ·exact ⟨_,r⟩
 ·exact ⟨_,r⟩
 ·exact ⟨_,r⟩
theorem law_nm:(dOf (st 18)).name=lawN:=by kernel_rfl
theorem world_eq (w:World):(w.withFollow "comprehension-iter-twice" (w.params.followText "comprehension-iter-twice")).withFollow "set-order" (w.params.followText "set-order")=w:=by
 rw [World.withFollow_self,World.withFollow_self]
theorem fa_207 {P:Params} {mg:Str->Option Value} {fa:Addr} (hk:∀ b,b≠208->h.get? b=h₀.get? b) (k:AllIn h₀ (K1 P)) (g:h.Ns mainGlobals mg) (hm:mg (dOf (st 18)).name=some (.ref fa)):fa=207:=by
 obtain ⟨k3,_,_⟩:=k_53 k
 obtain ⟨o,es,ep,e1,e2,_,e3⟩:=g
 rw [hk _ (by decide)] at e1
 rw [show h₀.get? mainGlobals=some (o3 P) from k3] at e1
 cases e1
 obtain ⟨es',ep',f1,f2⟩:=law_name P
 rw [f1] at e2
 cases e2
 rw [law_nm,← e3,f2] at hm
 cases hm;rfl
theorem limit_of (hk:∀ b,b≠208->h.get? b=h₀.get? b) (hn:h.NoLimit):h₀.NoLimit:=by
 obtain ⟨mc,⟨o,es,ep,e1,r⟩,e2⟩:=hn
 exact ⟨mc,⟨o,es,ep,(hk _ (by decide)).symm.trans e1,r⟩,e2⟩
theorem kt_gen {K:Frag} {t:KT} (e:KT.of K=t) (z:AllIn h K):KT.Holds h 1 0 t:=by rw [← e];exact holds_of z
theorem kt_ok {P:Params} (k:AllIn h (K1 P)):KT.Holds h 1 0 (kt1 P):=kt_gen (kt1_eq P) k
theorem run_law {w:World} {s₀ s₁:Shared} {xs:List (Int×Nat)} (O:Old s₀ s₁) (hg:s₁.gens=#[]) (hn:s₁.heap.NoLimit) (k:AllIn s₀.heap (K1 w.params)) (hx:xs.length<=63) (ho:s₁.heap.get? 208=some (A1 (iv xs) 0)) :
  wpC (model PySem.Challenge.rw_mr0319_01.prog w) (PySem.call (.ref 207) [.ref 208]) (fun v s'=>v= .bool true/\OldK s₁.heap s'.heap/\s'.os=s₁.os/\AllBare s'.gens) (fun _ _=>False) s₁:=by
 obtain ⟨_,k53,_⟩:=k_53 k
 have hk:∀ b,b≠208->s₁.heap.get? b=s₀.heap.get? b:=fun b hb=>O.back hb
 have z:=run207 (W:=⟨w,w.params.followText "comprehension-iter-twice",w.params.followText "set-order",s₀.heap,s₁.drawn,s₁.os⟩) (h:=s₁.heap) (tk:=s₁.toks) ⟨kt_ok k,limit_of hk hn⟩ (show s₀.heap.objs.size<=208 by rw [O.n];exact Nat.le_refl _) O.n₁ hx (own0 hk O.n O.n₁ k53 ho)
 have e:Wd.M ⟨w,w.params.followText "comprehension-iter-twice",w.params.followText "set-order",s₀.heap,s₁.drawn,s₁.os⟩=model PySem.Challenge.rw_mr0319_01.prog w:=congrArg (model PySem.Challenge.rw_mr0319_01.prog) (world_eq w)
 rw [e] at z
 have es:s₁=⟨s₁.heap,#[],s₁.drawn,s₁.toks,s₁.os⟩:=by rw [← hg]
 rw [es]
 refine wpC.mono z (fun v s' g=>?_) fun _ _ x=>x
 obtain ⟨g1,g2,g3,o,g4,g5⟩:=g
 exact ⟨g1,old_of hk ho k g4 g5,g2,g3⟩
theorem call_law:CallC (qOf PySem.Challenge.pw_mr0319_01) loN (XL (qOf PySem.Challenge.pw_mr0319_01) []) (obsZ as0) (valZ K0 208 611) PySem.Challenge.rw_mr0319_01.row.toRowW (dOf (st 18)) []:=by
 intro w s₀ s₁ mg mb G y fa o pm cd doc dV kV ho hd hcd hD hmg hg args vals as L hpre hlay
 obtain ⟨ZA,ZI,ZN,ZT⟩:=z_facts as0_eq y
 have hrd:=L.reads
 have hwl:=L.well
 have hlo:=L.low (by rw [ZN];decide)
 refine Ground.open G ?_
 intro T B D TE TW
 clear hd hcd hD ho
 wrow_args hpre hlay hrd hwl hlo
 obtain ⟨hat,hsz⟩:=script_at L
 have hpush:=script_push L
 rw [ZN] at hat
 subst hat
 have hobj:=fun its=>script_obj (its:=its) L
 have O:Old s₀ s₁:=⟨hpush,ZN⟩
 have k:=(k_parts ZA).2
 obtain rfl:=fa_207 (fun b hb=>O.back hb) k T.g hmg
 obtain ⟨xs,exs,hxl⟩:=ints_iv ‹IntsAre _ _›
 have h208:=hobj _ ‹Heap.IsList s₁.heap 208 _›
 rw [exs] at h208
 refine (run_law (xs:=xs) O hg T.nolimit k (by omega) h208).mono (fun v s' g=>?_) fun _ _ x=>x.elim
 obtain ⟨rfl,g1,g2,g3⟩:=g
 exact ⟨.inl ⟨.bool true,.bool true,[],rfl,fun _=>rfl,.bool true,by kernel_rfl,fun _=>⟨List.nodup_nil,fun _ h=>nomatch h⟩⟩,g1,g2,g3⟩
end
end Mine
section
open PySem PySem.W PySem.W.X PyProof.Rows
theorem PySem.Challenge.cw_mr0319_01_holds : PySem.Challenge.rw_mr0319_01.Holds := by
 refine Mine.said fun said=>?_
 have h1:defOf (Mine.qOf PySem.Challenge.pw_mr0319_01) (Str.ofString "law")=some (Mine.dOf (Mine.st 18),[]):=by rw [Mine.pw_eq,Mine.law_eq];exact Mine.s1
 have h2:PySem.Challenge.pw_mr0319_01.theDef (Str.ofString "law")=some ((Mine.dOf (Mine.st 18)).params,(Mine.dOf (Mine.st 18)).body,(Mine.dOf (Mine.st 18)).scope):=by rw [Mine.pw_eq,Mine.law_eq];exact Mine.s2
 have h4:(chainsOk (Mine.qOf PySem.Challenge.pw_mr0319_01)&&opensWell PySem.Challenge.pw_mr0319_01)=true:=by rw [Mine.pw_eq];exact Mine.s4
 have h6:PySem.Challenge.pw_mr0319_01.bare:=by rw [Mine.pw_eq];exact Mine.s6
 exact Mine.openC (r:=PySem.Challenge.rw_mr0319_01.row) (q₀:=Mine.qOf PySem.Challenge.pw_mr0319_01) (loose:=Mine.loN) (Xt:=Mine.Xt0 PySem.Challenge.pw_mr0319_01) (XP:=XL (Mine.qOf PySem.Challenge.pw_mr0319_01) []) (Yf:=obsZ Mine.as0) (Ya:=valZ Mine.K0 208 611) (N:=3158) Mine.left (fun s e=>xl_of s (Bool.and_eq_true_iff.mp e).1) XL.keeps h1 h2 Mine.s3 (fun s e=>recFacts_of (Bool.and_eq_true_iff.mp e).2) rfl said (by rw [Bool.and_eq_true_iff];exact ⟨h4,Mine.s5⟩) h6 Mine.hw0 Mine.call_law
end
