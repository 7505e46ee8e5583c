import PyProof.Rows.All
import Wide.All
import OpenK.AllK
import Wide.FinOn
import Open.Tops
import KE.KIntText
import Lean
import PySem.Challenge.RW_in0263_01
set_option Elab.async false
set_option maxRecDepth 100000
set_option linter.all false
set_option rowWalk.seconds 0
set_option compiler.extract_closed false
set_option genSizeOfSpec false
open PySem PySem.W PyProof.Rows
local macro_rules | `(tactic| walk_at $s:str) => `(tactic| k_extra $s)
section HeadT_text
open PySem PySem.W PyProof.Rows
namespace Mine
noncomputable abbrev pR : Program := PySem.Challenge.rw_in0263_01.prog
@[reducible] noncomputable def litOf {α : Type} {a b : α} (_ : a = b) : α := a
noncomputable def fnFull (c : Value) (od : Option Addr) (i : Nat) (g : Addr) (cl : List (Str × Addr)) (dv kd doc pm : Value) (an : Option Addr) (cd ct : Value) (bi : Addr) : Obj :=
  match PySem.Challenge.pw_in0263_01.main.body.drop i with
  | .FunctionDef n a b _ _ _ sc _ _ _ :: _ => ⟨c, od, .func ⟨n, n, a, .stmts b, sc, g, cl, dv, kd, doc, pm, an, cd, ct, bi⟩, #[]⟩
  | _ => ⟨c, od, .fields #[], #[]⟩
noncomputable def bare (o : Obj) : Obj := match o.data with
  | .func f => ⟨.none, .none, .func ⟨f.name, f.qualname, f.params, f.body, f.scope, 0, [], .none, .none, .none, .none, .none, .none, .none, 0⟩, #[]⟩
  | _ => o
noncomputable def hB.env_41 : PySem.Env := { scope := pR.main.scope, locals := mainNs, globals := mainNs, cells := [], code := Value.ref 30, frame := some 31 }
noncomputable abbrev sA.env_1 : PySem.Env := hB.env_41
noncomputable def hB.o_83 : Params → Obj := fun _ => litOf (b := fnFull (.type "function") .none 1 3 [] .none .none .none (.str "__main__" 164) .none (.ref 37) .none 0) (by conv => rhs; whnf)
noncomputable def hB.o_109 : Params → Obj := fun _ => litOf (b := fnFull (.type "function") .none 7 3 [] .none .none .none (.str "cpy313.tomllib._parser" 296) .none (.ref 61) .none 0) (by conv => rhs; whnf)
noncomputable def hB.o_116 : Params → Obj := fun _ => litOf (b := fnFull (.type "function") .none 8 3 [] .none .none .none (.str "cpy313.tomllib._parser" 296) .none (.ref 68) .none 0) (by conv => rhs; whnf)
noncomputable def hB.o_123 : Params → Obj := fun _ => litOf (b := fnFull (.type "function") .none 9 3 [] .none .none .none (.str "cpy313.tomllib._parser" 296) .none (.ref 75) .none 0) (by conv => rhs; whnf)
noncomputable def hB.o_138 : Params → Obj := fun _ => litOf (b := fnFull (.type "function") .none 13 3 [] .none .none .none (.str "cpy313.base64" 389) .none (.ref 88) .none 0) (by conv => rhs; whnf)
noncomputable def hB.o_158 : Params → Obj := fun _ => litOf (b := fnFull (.type "function") .none 16 3 [] .none .none .none (.str "binascii" 429) .none (.ref 108) .none 0) (by conv => rhs; whnf)
noncomputable def hB.o_165 : Params → Obj := fun _ => litOf (b := fnFull (.type "function") .none 17 3 [] .none .none .none (.str "binascii" 429) .none (.ref 115) .none 0) (by conv => rhs; whnf)
noncomputable def hB.o_172 : Params → Obj := fun _ => litOf (b := fnFull (.type "function") .none 18 3 [] .none .none .none (.str "binascii" 429) .none (.ref 122) .none 0) (by conv => rhs; whnf)
noncomputable def hB.o_180 : Params → Obj := fun _ => litOf (b := fnFull (.type "function") .none 20 3 [] .none (.ref 124) .none (.str "binascii" 429) .none (.ref 130) .none 0) (by conv => rhs; whnf)
noncomputable def hB.o_191 : Params → Obj := fun _ => litOf (b := fnFull (.type "function") .none 22 3 [] (.ref 133) .none .none (.str "binascii" 429) .none (.ref 139) .none 0) (by conv => rhs; whnf)
noncomputable def hB.o_198 : Params → Obj := fun _ => litOf (b := fnFull (.type "function") .none 24 3 [] .none .none .none (.str "binascii" 429) .none (.ref 146) .none 0) (by conv => rhs; whnf)
noncomputable def hB.o_205 : Params → Obj := fun _ => litOf (b := fnFull (.type "function") .none 25 3 [] .none .none .none (.str "binascii" 429) .none (.ref 153) .none 0) (by conv => rhs; whnf)
noncomputable def hB.o_213 : Params → Obj := fun _ => litOf (b := fnFull (.type "function") .none 28 3 [] (.ref 155) .none .none (.str "cpy313.base64" 523) .none (.ref 161) .none 0) (by conv => rhs; whnf)
noncomputable def hB.o_220 : Params → Obj := fun _ => litOf (b := fnFull (.type "function") .none 29 3 [] .none .none .none (.str "cpy313.base64" 523) .none (.ref 168) .none 0) (by conv => rhs; whnf)
noncomputable def hB.o_228 : Params → Obj := fun _ => litOf (b := fnFull (.type "function") .none 30 3 [] (.ref 170) .none .none (.str "cpy313.base64" 523) .none (.ref 176) .none 0) (by conv => rhs; whnf)
noncomputable def hB.o_286 : Params → Obj := fun _ => litOf (b := fnFull (.type "function") .none 34 3 [] .none .none .none (.str "re" 587) .none (.ref 193) .none 0) (by conv => rhs; whnf)
noncomputable def hB.o_293 : Params → Obj := fun _ => litOf (b := fnFull (.type "function") .none 36 3 [] .none .none .none (.str "cpy313.fnmatch" 742) .none (.ref 200) .none 0) (by conv => rhs; whnf)
noncomputable def hB.o_300 : Params → Obj := fun _ => litOf (b := fnFull (.type "function") .none 38 3 [] .none .none .none (.str "law_in0263_01" 763) .none (.ref 207) .none 0) (by conv => rhs; whnf)
noncomputable def hB.o_307 : Params → Obj := fun _ => litOf (b := fnFull (.type "function") .none 39 3 [] .none .none .none (.str "law_in0263_01" 763) .none (.ref 214) .none 0) (by conv => rhs; whnf)
noncomputable def hB.o_314 : Params → Obj := fun _ => litOf (b := fnFull (.type "function") .none 40 3 [] .none .none .none (.str "law_in0263_01" 763) .none (.ref 221) .none 0) (by conv => rhs; whnf)
noncomputable def hB.o_319 : Params → Obj := fun _ => litOf (b := fnFull (.type "function") .none 41 3 [] .none .none .none (.str "law_in0263_01" 763) .none (.ref 226) .none 0) (by conv => rhs; whnf)
noncomputable def hB.o_326 : Params → Obj := fun _ => litOf (b := fnFull (.type "function") .none 42 3 [] .none .none .none (.str "law_in0263_01" 763) .none (.ref 233) .none 0) (by conv => rhs; whnf)
noncomputable def hB.o_331 : Params → Obj := fun _ => litOf (b := fnFull (.type "function") .none 43 3 [] .none .none .none (.str "law_in0263_01" 763) .none (.ref 238) .none 0) (by conv => rhs; whnf)
noncomputable def sA.o_41 : Params → Obj := fun _ => litOf (b := fnFull (.type "function") .none 1 3 [] .none .none .none (.str "__main__" 164) .none (.ref 37) .none 0) (by conv => rhs; whnf)
noncomputable def hB.o_41 : Params → Obj := fun P => ⟨.type SL.s14018661285674007319x4, .none, .dict #[⟨PyData.keyHash P ⟨#[95, 95, 110, 97, 109, 101, 95, 95]⟩, .str ⟨#[95, 95, 110, 97, 109, 101, 95, 95]⟩ 1, .str ⟨#[98, 117, 105, 108, 116, 105, 110, 115]⟩ 160⟩, ⟨PyData.keyHash P ⟨#[95, 95, 100, 111, 99, 95, 95]⟩, .str ⟨#[95, 95, 100, 111, 99, 95, 95]⟩ 2, .builtin "builtins.__doc__:str#\x6fpaque"⟩, ⟨PyData.keyHash P ⟨#[95, 95, 112, 97, 99, 107, 97, 103, 101, 95, 95]⟩, .str ⟨#[95, 95, 112, 97, 99, 107, 97, 103, 101, 95, 95]⟩ 3, .builtin "builtins.__package__:str#\x6fpaque"⟩, ⟨PyData.keyHash P ⟨#[95, 95, 108, 111, 97, 100, 101, 114, 95, 95]⟩, .str ⟨#[95, 95, 108, 111, 97, 100, 101, 114, 95, 95]⟩ 4, .builtin "builtins.__loader__:shared#\x6fpaque"⟩, ⟨PyData.keyHash P ⟨#[95, 95, 115, 112, 101, 99, 95, 95]⟩, .str ⟨#[95, 95, 115, 112, 101, 99, 95, 95]⟩ 5, .builtin SL.s11665532747177232413x24⟩, ⟨PyData.keyHash P ⟨#[95, 95, 98, 117, 105, 108, 100, 95, 99, 108, 97, 115, 115, 95, 95]⟩, .str ⟨#[95, 95, 98, 117, 105, 108, 100, 95, 99, 108, 97, 115, 115, 95, 95]⟩ 6, .builtin SL.s15183661809925369436x15⟩, ⟨PyData.keyHash P ⟨#[95, 95, 105, 109, 112, 111, 114, 116, 95, 95]⟩, .str ⟨#[95, 95, 105, 109, 112, 111, 114, 116, 95, 95]⟩ 7, .builtin SL.s13915890719876406383x10⟩, ⟨PyData.keyHash P ⟨#[97, 98, 115]⟩, .str ⟨#[97, 98, 115]⟩ 8, .builtin SL.s13459172003223722735x3⟩, ⟨PyData.keyHash P ⟨#[97, 108, 108]⟩, .str ⟨#[97, 108, 108]⟩ 9, .builtin SL.s10557405761357834076x3⟩, ⟨PyData.keyHash P ⟨#[97, 110, 121]⟩, .str ⟨#[97, 110, 121]⟩ 10, .builtin SL.s4233737765568776869x3⟩, ⟨PyData.keyHash P ⟨#[97, 115, 99, 105, 105]⟩, .str ⟨#[97, 115, 99, 105, 105]⟩ 11, .builtin SL.s2508922471967985374x5⟩, ⟨PyData.keyHash P ⟨#[98, 105, 110]⟩, .str ⟨#[98, 105, 110]⟩ 12, .builtin SL.s15574269061696679450x3⟩, ⟨PyData.keyHash P ⟨#[98, 114, 101, 97, 107, 112, 111, 105, 110, 116]⟩, .str ⟨#[98, 114, 101, 97, 107, 112, 111, 105, 110, 116]⟩ 13, .builtin SL.s6016482663378992977x10⟩, ⟨PyData.keyHash P ⟨#[99, 97, 108, 108, 97, 98, 108, 101]⟩, .str ⟨#[99, 97, 108, 108, 97, 98, 108, 101]⟩ 14, .builtin SL.s5596568736180474577x8⟩, ⟨PyData.keyHash P ⟨#[99, 104, 114]⟩, .str ⟨#[99, 104, 114]⟩ 15, .builtin SL.s2839554839881490554x3⟩, ⟨PyData.keyHash P ⟨#[99, 111, 109, 112, 105, 108, 101]⟩, .str ⟨#[99, 111, 109, 112, 105, 108, 101]⟩ 16, .builtin SL.s725004073602090463x7⟩, ⟨PyData.keyHash P ⟨#[100, 101, 108, 97, 116, 116, 114]⟩, .str ⟨#[100, 101, 108, 97, 116, 116, 114]⟩ 17, .builtin SL.s9436932552931045734x7⟩, ⟨PyData.keyHash P ⟨#[100, 105, 114]⟩, .str ⟨#[100, 105, 114]⟩ 18, .builtin SL.s2754603736356183583x3⟩, ⟨PyData.keyHash P ⟨#[100, 105, 118, 109, 111, 100]⟩, .str ⟨#[100, 105, 118, 109, 111, 100]⟩ 19, .builtin SL.s15185746759980889043x6⟩, ⟨PyData.keyHash P ⟨#[101, 118, 97, 108]⟩, .str ⟨#[101, 118, 97, 108]⟩ 20, .builtin SL.s8192189862530294059x4⟩, ⟨PyData.keyHash P ⟨#[101, 120, 101, 99]⟩, .str ⟨#[101, 120, 101, 99]⟩ 21, .builtin SL.s7038307821325472102x4⟩, ⟨PyData.keyHash P ⟨#[102, 111, 114, 109, 97, 116]⟩, .str ⟨#[102, 111, 114, 109, 97, 116]⟩ 22, .builtin SL.s5662562618415449548x6⟩, ⟨PyData.keyHash P ⟨#[103, 101, 116, 97, 116, 116, 114]⟩, .str ⟨#[103, 101, 116, 97, 116, 116, 114]⟩ 23, .builtin SL.s15281542589158584767x7⟩, ⟨PyData.keyHash P ⟨#[103, 108, 111, 98, 97, 108, 115]⟩, .str ⟨#[103, 108, 111, 98, 97, 108, 115]⟩ 24, .builtin SL.s17651547275483570877x7⟩, ⟨PyData.keyHash P ⟨#[104, 97, 115, 97, 116, 116, 114]⟩, .str ⟨#[104, 97, 115, 97, 116, 116, 114]⟩ 25, .builtin SL.s4036449017235975746x7⟩, ⟨PyData.keyHash P ⟨#[104, 97, 115, 104]⟩, .str ⟨#[104, 97, 115, 104]⟩ 26, .builtin SL.s8879979712987360175x4⟩, ⟨PyData.keyHash P ⟨#[104, 101, 120]⟩, .str ⟨#[104, 101, 120]⟩ 27, .builtin SL.s1801250619170735830x3⟩, ⟨PyData.keyHash P ⟨#[105, 100]⟩, .str ⟨#[105, 100]⟩ 28, .builtin SL.s17659931425627118568x2⟩, ⟨PyData.keyHash P ⟨#[105, 110, 112, 117, 116]⟩, .str ⟨#[105, 110, 112, 117, 116]⟩ 29, .builtin SL.s6063217899685152688x5⟩, ⟨PyData.keyHash P ⟨#[105, 115, 105, 110, 115, 116, 97, 110, 99, 101]⟩, .str ⟨#[105, 115, 105, 110, 115, 116, 97, 110, 99, 101]⟩ 30, .builtin SL.s8008927332132565319x10⟩, ⟨PyData.keyHash P ⟨#[105, 115, 115, 117, 98, 99, 108, 97, 115, 115]⟩, .str ⟨#[105, 115, 115, 117, 98, 99, 108, 97, 115, 115]⟩ 31, .builtin SL.s3544116645089599534x10⟩, ⟨PyData.keyHash P ⟨#[105, 116, 101, 114]⟩, .str ⟨#[105, 116, 101, 114]⟩ 32, .builtin SL.s13761710972054866084x4⟩, ⟨PyData.keyHash P ⟨#[97, 105, 116, 101, 114]⟩, .str ⟨#[97, 105, 116, 101, 114]⟩ 33, .builtin SL.s12896375587409280029x5⟩, ⟨PyData.keyHash P ⟨#[108, 101, 110]⟩, .str ⟨#[108, 101, 110]⟩ 34, .builtin SL.s13014049009108672802x3⟩, ⟨PyData.keyHash P ⟨#[108, 111, 99, 97, 108, 115]⟩, .str ⟨#[108, 111, 99, 97, 108, 115]⟩ 35, .builtin SL.s13935586738268321596x6⟩, ⟨PyData.keyHash P ⟨#[109, 97, 120]⟩, .str ⟨#[109, 97, 120]⟩ 36, .builtin SL.s8200498257699607233x3⟩, ⟨PyData.keyHash P ⟨#[109, 105, 110]⟩, .str ⟨#[109, 105, 110]⟩ 37, .builtin SL.s14114244577727609259x3⟩, ⟨PyData.keyHash P ⟨#[110, 101, 120, 116]⟩, .str ⟨#[110, 101, 120, 116]⟩ 38, .builtin SL.s1499430450269397089x4⟩, ⟨PyData.keyHash P ⟨#[97, 110, 101, 120, 116]⟩, .str ⟨#[97, 110, 101, 120, 116]⟩ 39, .builtin SL.s8755793994789770505x5⟩, ⟨PyData.keyHash P ⟨#[111, 99, 116]⟩, .str ⟨#[111, 99, 116]⟩ 40, .builtin SL.s15725212667919936108x3⟩, ⟨PyData.keyHash P ⟨#[111, 114, 100]⟩, .str ⟨#[111, 114, 100]⟩ 41, .builtin SL.s15791221867095933363x3⟩, ⟨PyData.keyHash P ⟨#[112, 111, 119]⟩, .str ⟨#[112, 111, 119]⟩ 42, .builtin SL.s81309575031448614x3⟩, ⟨PyData.keyHash P ⟨#[112, 114, 105, 110, 116]⟩, .str ⟨#[112, 114, 105, 110, 116]⟩ 43, .builtin SL.s8069831620301644142x5⟩, ⟨PyData.keyHash P ⟨#[114, 101, 112, 114]⟩, .str ⟨#[114, 101, 112, 114]⟩ 44, .builtin SL.s10061844253413749634x4⟩, ⟨PyData.keyHash P ⟨#[114, 111, 117, 110, 100]⟩, .str ⟨#[114, 111, 117, 110, 100]⟩ 45, .builtin SL.s9496514870978017513x5⟩, ⟨PyData.keyHash P ⟨#[115, 101, 116, 97, 116, 116, 114]⟩, .str ⟨#[115, 101, 116, 97, 116, 116, 114]⟩ 46, .builtin SL.s8899691144933366716x7⟩, ⟨PyData.keyHash P ⟨#[115, 111, 114, 116, 101, 100]⟩, .str ⟨#[115, 111, 114, 116, 101, 100]⟩ 47, .builtin SL.s15201008993051130160x6⟩, ⟨PyData.keyHash P ⟨#[115, 117, 109]⟩, .str ⟨#[115, 117, 109]⟩ 48, .builtin SL.s741896355592496720x3⟩, ⟨PyData.keyHash P ⟨#[118, 97, 114, 115]⟩, .str ⟨#[118, 97, 114, 115]⟩ 49, .builtin SL.s17925004256654032244x4⟩, ⟨PyData.keyHash P ⟨#[78, 111, 110, 101]⟩, .str ⟨#[78, 111, 110, 101]⟩ 50, .none⟩, ⟨PyData.keyHash P ⟨#[69, 108, 108, 105, 112, 115, 105, 115]⟩, .str ⟨#[69, 108, 108, 105, 112, 115, 105, 115]⟩ 51, .ellipsis⟩, ⟨PyData.keyHash P ⟨#[78, 111, 116, 73, 109, 112, 108, 101, 109, 101, 110, 116, 101, 100]⟩, .str ⟨#[78, 111, 116, 73, 109, 112, 108, 101, 109, 101, 110, 116, 101, 100]⟩ 52, .notImplemented⟩, ⟨PyData.keyHash P ⟨#[70, 97, 108, 115, 101]⟩, .str ⟨#[70, 97, 108, 115, 101]⟩ 53, .bool .false⟩, ⟨PyData.keyHash P ⟨#[84, 114, 117, 101]⟩, .str ⟨#[84, 114, 117, 101]⟩ 54, .bool .true⟩, ⟨PyData.keyHash P ⟨#[98, 111, 111, 108]⟩, .str ⟨#[98, 111, 111, 108]⟩ 55, .type SL.s11695548795398191787x4⟩, ⟨PyData.keyHash P ⟨#[109, 101, 109, 111, 114, 121, 118, 105, 101, 119]⟩, .str ⟨#[109, 101, 109, 111, 114, 121, 118, 105, 101, 119]⟩ 56, .type SL.s4156966113859768872x10⟩, ⟨PyData.keyHash P ⟨#[98, 121, 116, 101, 97, 114, 114, 97, 121]⟩, .str ⟨#[98, 121, 116, 101, 97, 114, 114, 97, 121]⟩ 57, .type SL.s9501651726347032510x9⟩, ⟨PyData.keyHash P ⟨#[98, 121, 116, 101, 115]⟩, .str ⟨#[98, 121, 116, 101, 115]⟩ 58, .type SL.s15722918466584999320x5⟩, ⟨PyData.keyHash P ⟨#[99, 108, 97, 115, 115, 109, 101, 116, 104, 111, 100]⟩, .str ⟨#[99, 108, 97, 115, 115, 109, 101, 116, 104, 111, 100]⟩ 59, .type SL.s591115383303110208x11⟩, ⟨PyData.keyHash P ⟨#[99, 111, 109, 112, 108, 101, 120]⟩, .str ⟨#[99, 111, 109, 112, 108, 101, 120]⟩ 60, .type SL.s15721156781594690315x7⟩, ⟨PyData.keyHash P ⟨#[100, 105, 99, 116]⟩, .str ⟨#[100, 105, 99, 116]⟩ 61, .type SL.s14018661285674007319x4⟩, ⟨PyData.keyHash P ⟨#[101, 110, 117, 109, 101, 114, 97, 116, 101]⟩, .str ⟨#[101, 110, 117, 109, 101, 114, 97, 116, 101]⟩ 62, .type SL.s14340494229221121180x9⟩, ⟨PyData.keyHash P ⟨#[102, 105, 108, 116, 101, 114]⟩, .str ⟨#[102, 105, 108, 116, 101, 114]⟩ 63, .type SL.s13429844117177748173x6⟩, ⟨PyData.keyHash P ⟨#[102, 108, 111, 97, 116]⟩, .str ⟨#[102, 108, 111, 97, 116]⟩ 64, .type SL.s16463266125957815391x5⟩, ⟨PyData.keyHash P ⟨#[102, 114, 111, 122, 101, 110, 115, 101, 116]⟩, .str ⟨#[102, 114, 111, 122, 101, 110, 115, 101, 116]⟩ 65, .type SL.s4922535414793169389x9⟩, ⟨PyData.keyHash P ⟨#[112, 114, 111, 112, 101, 114, 116, 121]⟩, .str ⟨#[112, 114, 111, 112, 101, 114, 116, 121]⟩ 66, .type SL.s8101838861749082086x8⟩, ⟨PyData.keyHash P ⟨#[105, 110, 116]⟩, .str ⟨#[105, 110, 116]⟩ 67, .type SL.s7066276694103001551x3⟩, ⟨PyData.keyHash P ⟨#[108, 105, 115, 116]⟩, .str ⟨#[108, 105, 115, 116]⟩ 68, .type SL.s9222952809800978799x4⟩, ⟨PyData.keyHash P ⟨#[109, 97, 112]⟩, .str ⟨#[109, 97, 112]⟩ 69, .type SL.s462964344163437139x3⟩, ⟨PyData.keyHash P ⟨#[111, 98, 106, 101, 99, 116]⟩, .str ⟨#[111, 98, 106, 101, 99, 116]⟩ 70, .type SL.s2742458400755230247x6⟩, ⟨PyData.keyHash P ⟨#[114, 97, 110, 103, 101]⟩, .str ⟨#[114, 97, 110, 103, 101]⟩ 71, .type SL.s1438033511350832697x5⟩, ⟨PyData.keyHash P ⟨#[114, 101, 118, 101, 114, 115, 101, 100]⟩, .str ⟨#[114, 101, 118, 101, 114, 115, 101, 100]⟩ 72, .type SL.s14365286008749172514x8⟩, ⟨PyData.keyHash P ⟨#[115, 101, 116]⟩, .str ⟨#[115, 101, 116]⟩ 73, .type SL.s3642769012341782148x3⟩, ⟨PyData.keyHash P ⟨#[115, 108, 105, 99, 101]⟩, .str ⟨#[115, 108, 105, 99, 101]⟩ 74, .type SL.s4674234679698826739x5⟩, ⟨PyData.keyHash P ⟨#[115, 116, 97, 116, 105, 99, 109, 101, 116, 104, 111, 100]⟩, .str ⟨#[115, 116, 97, 116, 105, 99, 109, 101, 116, 104, 111, 100]⟩ 75, .type SL.s16656946322747308186x12⟩, ⟨PyData.keyHash P ⟨#[115, 116, 114]⟩, .str ⟨#[115, 116, 114]⟩ 76, .type SL.s10796804682411823810x3⟩, ⟨PyData.keyHash P ⟨#[115, 117, 112, 101, 114]⟩, .str ⟨#[115, 117, 112, 101, 114]⟩ 77, .type SL.s4290257624100764138x5⟩, ⟨PyData.keyHash P ⟨#[116, 117, 112, 108, 101]⟩, .str ⟨#[116, 117, 112, 108, 101]⟩ 78, .type SL.s2766695959194262286x5⟩, ⟨PyData.keyHash P ⟨#[116, 121, 112, 101]⟩, .str ⟨#[116, 121, 112, 101]⟩ 79, .type SL.s17162191345867700912x4⟩, ⟨PyData.keyHash P ⟨#[122, 105, 112]⟩, .str ⟨#[122, 105, 112]⟩ 80, .type SL.s14339709457334898076x3⟩, ⟨PyData.keyHash P ⟨#[95, 95, 100, 101, 98, 117, 103, 95, 95]⟩, .str ⟨#[95, 95, 100, 101, 98, 117, 103, 95, 95]⟩ 81, .bool .true⟩, ⟨PyData.keyHash P ⟨#[66, 97, 115, 101, 69, 120, 99, 101, 112, 116, 105, 111, 110]⟩, .str ⟨#[66, 97, 115, 101, 69, 120, 99, 101, 112, 116, 105, 111, 110]⟩ 82, .type SL.s4278001404047624695x13⟩, ⟨PyData.keyHash P ⟨#[66, 97, 115, 101, 69, 120, 99, 101, 112, 116, 105, 111, 110, 71, 114, 111, 117, 112]⟩, .str ⟨#[66, 97, 115, 101, 69, 120, 99, 101, 112, 116, 105, 111, 110, 71, 114, 111, 117, 112]⟩ 83, .type SL.s6585700554429387442x18⟩, ⟨PyData.keyHash P ⟨#[69, 120, 99, 101, 112, 116, 105, 111, 110]⟩, .str ⟨#[69, 120, 99, 101, 112, 116, 105, 111, 110]⟩ 84, .type SL.s5946037652744460706x9⟩, ⟨PyData.keyHash P ⟨#[71, 101, 110, 101, 114, 97, 116, 111, 114, 69, 120, 105, 116]⟩, .str ⟨#[71, 101, 110, 101, 114, 97, 116, 111, 114, 69, 120, 105, 116]⟩ 85, .type SL.s7410770068591931388x13⟩, ⟨PyData.keyHash P ⟨#[75, 101, 121, 98, 111, 97, 114, 100, 73, 110, 116, 101, 114, 114, 117, 112, 116]⟩, .str ⟨#[75, 101, 121, 98, 111, 97, 114, 100, 73, 110, 116, 101, 114, 114, 117, 112, 116]⟩ 86, .type SL.s11817881795495490833x17⟩, ⟨PyData.keyHash P ⟨#[83, 121, 115, 116, 101, 109, 69, 120, 105, 116]⟩, .str ⟨#[83, 121, 115, 116, 101, 109, 69, 120, 105, 116]⟩ 87, .type SL.s15679963881808890155x10⟩, ⟨PyData.keyHash P ⟨#[65, 114, 105, 116, 104, 109, 101, 116, 105, 99, 69, 114, 114, 111, 114]⟩, .str ⟨#[65, 114, 105, 116, 104, 109, 101, 116, 105, 99, 69, 114, 114, 111, 114]⟩ 88, .type SL.s3871700062485845797x15⟩, ⟨PyData.keyHash P ⟨#[65, 115, 115, 101, 114, 116, 105, 111, 110, 69, 114, 114, 111, 114]⟩, .str ⟨#[65, 115, 115, 101, 114, 116, 105, 111, 110, 69, 114, 114, 111, 114]⟩ 89, .type SL.s7689518266570723881x14⟩, ⟨PyData.keyHash P ⟨#[65, 116, 116, 114, 105, 98, 117, 116, 101, 69, 114, 114, 111, 114]⟩, .str ⟨#[65, 116, 116, 114, 105, 98, 117, 116, 101, 69, 114, 114, 111, 114]⟩ 90, .type SL.s9001593270443806431x14⟩, ⟨PyData.keyHash P ⟨#[66, 117, 102, 102, 101, 114, 69, 114, 114, 111, 114]⟩, .str ⟨#[66, 117, 102, 102, 101, 114, 69, 114, 114, 111, 114]⟩ 91, .type SL.s6882542574934516792x11⟩, ⟨PyData.keyHash P ⟨#[69, 79, 70, 69, 114, 114, 111, 114]⟩, .str ⟨#[69, 79, 70, 69, 114, 114, 111, 114]⟩ 92, .type SL.s14403400214490484960x8⟩, ⟨PyData.keyHash P ⟨#[73, 109, 112, 111, 114, 116, 69, 114, 114, 111, 114]⟩, .str ⟨#[73, 109, 112, 111, 114, 116, 69, 114, 114, 111, 114]⟩ 93, .type SL.s14457978657717015782x11⟩, ⟨PyData.keyHash P ⟨#[76, 111, 111, 107, 117, 112, 69, 114, 114, 111, 114]⟩, .str ⟨#[76, 111, 111, 107, 117, 112, 69, 114, 114, 111, 114]⟩ 94, .type SL.s1753610191782819921x11⟩, ⟨PyData.keyHash P ⟨#[77, 101, 109, 111, 114, 121, 69, 114, 114, 111, 114]⟩, .str ⟨#[77, 101, 109, 111, 114, 121, 69, 114, 114, 111, 114]⟩ 95, .type SL.s14119380538032626715x11⟩, ⟨PyData.keyHash P ⟨#[78, 97, 109, 101, 69, 114, 114, 111, 114]⟩, .str ⟨#[78, 97, 109, 101, 69, 114, 114, 111, 114]⟩ 96, .type SL.s11437920000406562045x9⟩, ⟨PyData.keyHash P ⟨#[79, 83, 69, 114, 114, 111, 114]⟩, .str ⟨#[79, 83, 69, 114, 114, 111, 114]⟩ 97, .type SL.s10852414792293593619x7⟩, ⟨PyData.keyHash P ⟨#[82, 101, 102, 101, 114, 101, 110, 99, 101, 69, 114, 114, 111, 114]⟩, .str ⟨#[82, 101, 102, 101, 114, 101, 110, 99, 101, 69, 114, 114, 111, 114]⟩ 98, .type SL.s14816307405966870543x14⟩, ⟨PyData.keyHash P ⟨#[82, 117, 110, 116, 105, 109, 101, 69, 114, 114, 111, 114]⟩, .str ⟨#[82, 117, 110, 116, 105, 109, 101, 69, 114, 114, 111, 114]⟩ 99, .type SL.s8682627914449686677x12⟩, ⟨PyData.keyHash P ⟨#[83, 116, 111, 112, 65, 115, 121, 110, 99, 73, 116, 101, 114, 97, 116, 105, 111, 110]⟩, .str ⟨#[83, 116, 111, 112, 65, 115, 121, 110, 99, 73, 116, 101, 114, 97, 116, 105, 111, 110]⟩ 100, .type SL.s4428170145600203450x18⟩, ⟨PyData.keyHash P ⟨#[83, 116, 111, 112, 73, 116, 101, 114, 97, 116, 105, 111, 110]⟩, .str ⟨#[83, 116, 111, 112, 73, 116, 101, 114, 97, 116, 105, 111, 110]⟩ 101, .type SL.s5991306692159431302x13⟩, ⟨PyData.keyHash P ⟨#[83, 121, 110, 116, 97, 120, 69, 114, 114, 111, 114]⟩, .str ⟨#[83, 121, 110, 116, 97, 120, 69, 114, 114, 111, 114]⟩ 102, .type SL.s16067994140765818257x11⟩, ⟨PyData.keyHash P ⟨#[83, 121, 115, 116, 101, 109, 69, 114, 114, 111, 114]⟩, .str ⟨#[83, 121, 115, 116, 101, 109, 69, 114, 114, 111, 114]⟩ 103, .type SL.s2327743974964600596x11⟩, ⟨PyData.keyHash P ⟨#[84, 121, 112, 101, 69, 114, 114, 111, 114]⟩, .str ⟨#[84, 121, 112, 101, 69, 114, 114, 111, 114]⟩ 104, .type SL.s2804747833354056582x9⟩, ⟨PyData.keyHash P ⟨#[86, 97, 108, 117, 101, 69, 114, 114, 111, 114]⟩, .str ⟨#[86, 97, 108, 117, 101, 69, 114, 114, 111, 114]⟩ 105, .type SL.s6070975301684473832x10⟩, ⟨PyData.keyHash P ⟨#[87, 97, 114, 110, 105, 110, 103]⟩, .str ⟨#[87, 97, 114, 110, 105, 110, 103]⟩ 106, .type SL.s14270485950484850486x7⟩, ⟨PyData.keyHash P ⟨#[70, 108, 111, 97, 116, 105, 110, 103, 80, 111, 105, 110, 116, 69, 114, 114, 111, 114]⟩, .str ⟨#[70, 108, 111, 97, 116, 105, 110, 103, 80, 111, 105, 110, 116, 69, 114, 114, 111, 114]⟩ 107, .type SL.s12041534306414923332x18⟩, ⟨PyData.keyHash P ⟨#[79, 118, 101, 114, 102, 108, 111, 119, 69, 114, 114, 111, 114]⟩, .str ⟨#[79, 118, 101, 114, 102, 108, 111, 119, 69, 114, 114, 111, 114]⟩ 108, .type SL.s2531307568338490285x13⟩, ⟨PyData.keyHash P ⟨#[90, 101, 114, 111, 68, 105, 118, 105, 115, 105, 111, 110, 69, 114, 114, 111, 114]⟩, .str ⟨#[90, 101, 114, 111, 68, 105, 118, 105, 115, 105, 111, 110, 69, 114, 114, 111, 114]⟩ 109, .type SL.s631175304937289666x17⟩, ⟨PyData.keyHash P ⟨#[66, 121, 116, 101, 115, 87, 97, 114, 110, 105, 110, 103]⟩, .str ⟨#[66, 121, 116, 101, 115, 87, 97, 114, 110, 105, 110, 103]⟩ 110, .type SL.s5144983644357021410x12⟩, ⟨PyData.keyHash P ⟨#[68, 101, 112, 114, 101, 99, 97, 116, 105, 111, 110, 87, 97, 114, 110, 105, 110, 103]⟩, .str ⟨#[68, 101, 112, 114, 101, 99, 97, 116, 105, 111, 110, 87, 97, 114, 110, 105, 110, 103]⟩ 111, .type SL.s18039099521571816885x18⟩, ⟨PyData.keyHash P ⟨#[69, 110, 99, 111, 100, 105, 110, 103, 87, 97, 114, 110, 105, 110, 103]⟩, .str ⟨#[69, 110, 99, 111, 100, 105, 110, 103, 87, 97, 114, 110, 105, 110, 103]⟩ 112, .type SL.s6011586214260557989x15⟩, ⟨PyData.keyHash P ⟨#[70, 117, 116, 117, 114, 101, 87, 97, 114, 110, 105, 110, 103]⟩, .str ⟨#[70, 117, 116, 117, 114, 101, 87, 97, 114, 110, 105, 110, 103]⟩ 113, .type SL.s5430567037509283100x13⟩, ⟨PyData.keyHash P ⟨#[73, 109, 112, 111, 114, 116, 87, 97, 114, 110, 105, 110, 103]⟩, .str ⟨#[73, 109, 112, 111, 114, 116, 87, 97, 114, 110, 105, 110, 103]⟩ 114, .type SL.s8117915138073963741x13⟩, ⟨PyData.keyHash P ⟨#[80, 101, 110, 100, 105, 110, 103, 68, 101, 112, 114, 101, 99, 97, 116, 105, 111, 110, 87, 97, 114, 110, 105, 110, 103]⟩, .str ⟨#[80, 101, 110, 100, 105, 110, 103, 68, 101, 112, 114, 101, 99, 97, 116, 105, 111, 110, 87, 97, 114, 110, 105, 110, 103]⟩ 115, .type SL.s3423317712779056401x25⟩, ⟨PyData.keyHash P ⟨#[82, 101, 115, 111, 117, 114, 99, 101, 87, 97, 114, 110, 105, 110, 103]⟩, .str ⟨#[82, 101, 115, 111, 117, 114, 99, 101, 87, 97, 114, 110, 105, 110, 103]⟩ 116, .type SL.s2007317383269046180x15⟩, ⟨PyData.keyHash P ⟨#[82, 117, 110, 116, 105, 109, 101, 87, 97, 114, 110, 105, 110, 103]⟩, .str ⟨#[82, 117, 110, 116, 105, 109, 101, 87, 97, 114, 110, 105, 110, 103]⟩ 117, .type SL.s17481586968713580700x14⟩, ⟨PyData.keyHash P ⟨#[83, 121, 110, 116, 97, 120, 87, 97, 114, 110, 105, 110, 103]⟩, .str ⟨#[83, 121, 110, 116, 97, 120, 87, 97, 114, 110, 105, 110, 103]⟩ 118, .type SL.s2450899226349176912x13⟩, ⟨PyData.keyHash P ⟨#[85, 110, 105, 99, 111, 100, 101, 87, 97, 114, 110, 105, 110, 103]⟩, .str ⟨#[85, 110, 105, 99, 111, 100, 101, 87, 97, 114, 110, 105, 110, 103]⟩ 119, .type SL.s16626165730633575011x14⟩, ⟨PyData.keyHash P ⟨#[85, 115, 101, 114, 87, 97, 114, 110, 105, 110, 103]⟩, .str ⟨#[85, 115, 101, 114, 87, 97, 114, 110, 105, 110, 103]⟩ 120, .type SL.s14288496050688921416x11⟩, ⟨PyData.keyHash P ⟨#[66, 108, 111, 99, 107, 105, 110, 103, 73, 79, 69, 114, 114, 111, 114]⟩, .str ⟨#[66, 108, 111, 99, 107, 105, 110, 103, 73, 79, 69, 114, 114, 111, 114]⟩ 121, .type SL.s5735081916595925998x15⟩, ⟨PyData.keyHash P ⟨#[67, 104, 105, 108, 100, 80, 114, 111, 99, 101, 115, 115, 69, 114, 114, 111, 114]⟩, .str ⟨#[67, 104, 105, 108, 100, 80, 114, 111, 99, 101, 115, 115, 69, 114, 114, 111, 114]⟩ 122, .type SL.s3865607918536308442x17⟩, ⟨PyData.keyHash P ⟨#[67, 111, 110, 110, 101, 99, 116, 105, 111, 110, 69, 114, 114, 111, 114]⟩, .str ⟨#[67, 111, 110, 110, 101, 99, 116, 105, 111, 110, 69, 114, 114, 111, 114]⟩ 123, .type SL.s13337502604062700212x15⟩, ⟨PyData.keyHash P ⟨#[70, 105, 108, 101, 69, 120, 105, 115, 116, 115, 69, 114, 114, 111, 114]⟩, .str ⟨#[70, 105, 108, 101, 69, 120, 105, 115, 116, 115, 69, 114, 114, 111, 114]⟩ 124, .type SL.s13114017843053701147x15⟩, ⟨PyData.keyHash P ⟨#[70, 105, 108, 101, 78, 111, 116, 70, 111, 117, 110, 100, 69, 114, 114, 111, 114]⟩, .str ⟨#[70, 105, 108, 101, 78, 111, 116, 70, 111, 117, 110, 100, 69, 114, 114, 111, 114]⟩ 125, .type SL.s17467278006356818441x17⟩, ⟨PyData.keyHash P ⟨#[73, 110, 116, 101, 114, 114, 117, 112, 116, 101, 100, 69, 114, 114, 111, 114]⟩, .str ⟨#[73, 110, 116, 101, 114, 114, 117, 112, 116, 101, 100, 69, 114, 114, 111, 114]⟩ 126, .type SL.s17722149559621369488x16⟩, ⟨PyData.keyHash P ⟨#[73, 115, 65, 68, 105, 114, 101, 99, 116, 111, 114, 121, 69, 114, 114, 111, 114]⟩, .str ⟨#[73, 115, 65, 68, 105, 114, 101, 99, 116, 111, 114, 121, 69, 114, 114, 111, 114]⟩ 127, .type SL.s7855274175708717672x17⟩, ⟨PyData.keyHash P ⟨#[78, 111, 116, 65, 68, 105, 114, 101, 99, 116, 111, 114, 121, 69, 114, 114, 111, 114]⟩, .str ⟨#[78, 111, 116, 65, 68, 105, 114, 101, 99, 116, 111, 114, 121, 69, 114, 114, 111, 114]⟩ 128, .type SL.s13351283678309829046x18⟩, ⟨PyData.keyHash P ⟨#[80, 101, 114, 109, 105, 115, 115, 105, 111, 110, 69, 114, 114, 111, 114]⟩, .str ⟨#[80, 101, 114, 109, 105, 115, 115, 105, 111, 110, 69, 114, 114, 111, 114]⟩ 129, .type SL.s6668348653404991179x15⟩, ⟨PyData.keyHash P ⟨#[80, 114, 111, 99, 101, 115, 115, 76, 111, 111, 107, 117, 112, 69, 114, 114, 111, 114]⟩, .str ⟨#[80, 114, 111, 99, 101, 115, 115, 76, 111, 111, 107, 117, 112, 69, 114, 114, 111, 114]⟩ 130, .type SL.s12913350958174193794x18⟩, ⟨PyData.keyHash P ⟨#[84, 105, 109, 101, 111, 117, 116, 69, 114, 114, 111, 114]⟩, .str ⟨#[84, 105, 109, 101, 111, 117, 116, 69, 114, 114, 111, 114]⟩ 131, .type SL.s16115879512475548326x12⟩, ⟨PyData.keyHash P ⟨#[73, 110, 100, 101, 110, 116, 97, 116, 105, 111, 110, 69, 114, 114, 111, 114]⟩, .str ⟨#[73, 110, 100, 101, 110, 116, 97, 116, 105, 111, 110, 69, 114, 114, 111, 114]⟩ 132, .type SL.s15920661018069861047x16⟩, ⟨PyData.keyHash P ⟨#[95, 73, 110, 99, 111, 109, 112, 108, 101, 116, 101, 73, 110, 112, 117, 116, 69, 114, 114, 111, 114]⟩, .str ⟨#[95, 73, 110, 99, 111, 109, 112, 108, 101, 116, 101, 73, 110, 112, 117, 116, 69, 114, 114, 111, 114]⟩ 133, .type SL.s10779130036587390575x21⟩, ⟨PyData.keyHash P ⟨#[73, 110, 100, 101, 120, 69, 114, 114, 111, 114]⟩, .str ⟨#[73, 110, 100, 101, 120, 69, 114, 114, 111, 114]⟩ 134, .type SL.s7801419657504700863x10⟩, ⟨PyData.keyHash P ⟨#[75, 101, 121, 69, 114, 114, 111, 114]⟩, .str ⟨#[75, 101, 121, 69, 114, 114, 111, 114]⟩ 135, .type SL.s1688129525768580628x8⟩, ⟨PyData.keyHash P ⟨#[77, 111, 100, 117, 108, 101, 78, 111, 116, 70, 111, 117, 110, 100, 69, 114, 114, 111, 114]⟩, .str ⟨#[77, 111, 100, 117, 108, 101, 78, 111, 116, 70, 111, 117, 110, 100, 69, 114, 114, 111, 114]⟩ 136, .type SL.s1031832959479892071x19⟩, ⟨PyData.keyHash P ⟨#[78, 111, 116, 73, 109, 112, 108, 101, 109, 101, 110, 116, 101, 100, 69, 114, 114, 111, 114]⟩, .str ⟨#[78, 111, 116, 73, 109, 112, 108, 101, 109, 101, 110, 116, 101, 100, 69, 114, 114, 111, 114]⟩ 137, .type SL.s8991790508128307865x19⟩, ⟨PyData.keyHash P ⟨#[80, 121, 116, 104, 111, 110, 70, 105, 110, 97, 108, 105, 122, 97, 116, 105, 111, 110, 69, 114, 114, 111, 114]⟩, .str ⟨#[80, 121, 116, 104, 111, 110, 70, 105, 110, 97, 108, 105, 122, 97, 116, 105, 111, 110, 69, 114, 114, 111, 114]⟩ 138, .type SL.s14539662485746970245x23⟩, ⟨PyData.keyHash P ⟨#[82, 101, 99, 117, 114, 115, 105, 111, 110, 69, 114, 114, 111, 114]⟩, .str ⟨#[82, 101, 99, 117, 114, 115, 105, 111, 110, 69, 114, 114, 111, 114]⟩ 139, .type SL.s11643622729373238714x14⟩, ⟨PyData.keyHash P ⟨#[85, 110, 98, 111, 117, 110, 100, 76, 111, 99, 97, 108, 69, 114, 114, 111, 114]⟩, .str ⟨#[85, 110, 98, 111, 117, 110, 100, 76, 111, 99, 97, 108, 69, 114, 114, 111, 114]⟩ 140, .type SL.s3386828779285465597x17⟩, ⟨PyData.keyHash P ⟨#[85, 110, 105, 99, 111, 100, 101, 69, 114, 114, 111, 114]⟩, .str ⟨#[85, 110, 105, 99, 111, 100, 101, 69, 114, 114, 111, 114]⟩ 141, .type SL.s13042696260734638735x12⟩, ⟨PyData.keyHash P ⟨#[66, 114, 111, 107, 101, 110, 80, 105, 112, 101, 69, 114, 114, 111, 114]⟩, .str ⟨#[66, 114, 111, 107, 101, 110, 80, 105, 112, 101, 69, 114, 114, 111, 114]⟩ 142, .type SL.s18239426817015966623x15⟩, ⟨PyData.keyHash P ⟨#[67, 111, 110, 110, 101, 99, 116, 105, 111, 110, 65, 98, 111, 114, 116, 101, 100, 69, 114, 114, 111, 114]⟩, .str ⟨#[67, 111, 110, 110, 101, 99, 116, 105, 111, 110, 65, 98, 111, 114, 116, 101, 100, 69, 114, 114, 111, 114]⟩ 143, .type SL.s1270395311379034370x22⟩, ⟨PyData.keyHash P ⟨#[67, 111, 110, 110, 101, 99, 116, 105, 111, 110, 82, 101, 102, 117, 115, 101, 100, 69, 114, 114, 111, 114]⟩, .str ⟨#[67, 111, 110, 110, 101, 99, 116, 105, 111, 110, 82, 101, 102, 117, 115, 101, 100, 69, 114, 114, 111, 114]⟩ 144, .type SL.s10696252587037064777x22⟩, ⟨PyData.keyHash P ⟨#[67, 111, 110, 110, 101, 99, 116, 105, 111, 110, 82, 101, 115, 101, 116, 69, 114, 114, 111, 114]⟩, .str ⟨#[67, 111, 110, 110, 101, 99, 116, 105, 111, 110, 82, 101, 115, 101, 116, 69, 114, 114, 111, 114]⟩ 145, .type SL.s7852717498200857586x20⟩, ⟨PyData.keyHash P ⟨#[84, 97, 98, 69, 114, 114, 111, 114]⟩, .str ⟨#[84, 97, 98, 69, 114, 114, 111, 114]⟩ 146, .type SL.s6377248116197321094x8⟩, ⟨PyData.keyHash P ⟨#[85, 110, 105, 99, 111, 100, 101, 68, 101, 99, 111, 100, 101, 69, 114, 114, 111, 114]⟩, .str ⟨#[85, 110, 105, 99, 111, 100, 101, 68, 101, 99, 111, 100, 101, 69, 114, 114, 111, 114]⟩ 147, .type SL.s3834378056692298002x18⟩, ⟨PyData.keyHash P ⟨#[85, 110, 105, 99, 111, 100, 101, 69, 110, 99, 111, 100, 101, 69, 114, 114, 111, 114]⟩, .str ⟨#[85, 110, 105, 99, 111, 100, 101, 69, 110, 99, 111, 100, 101, 69, 114, 114, 111, 114]⟩ 148, .type SL.s17586630440231065808x18⟩, ⟨PyData.keyHash P ⟨#[85, 110, 105, 99, 111, 100, 101, 84, 114, 97, 110, 115, 108, 97, 116, 101, 69, 114, 114, 111, 114]⟩, .str ⟨#[85, 110, 105, 99, 111, 100, 101, 84, 114, 97, 110, 115, 108, 97, 116, 101, 69, 114, 114, 111, 114]⟩ 149, .type SL.s15234114252648025395x21⟩, ⟨PyData.keyHash P ⟨#[69, 120, 99, 101, 112, 116, 105, 111, 110, 71, 114, 111, 117, 112]⟩, .str ⟨#[69, 120, 99, 101, 112, 116, 105, 111, 110, 71, 114, 111, 117, 112]⟩ 150, .type SL.s8496462677383758984x14⟩, ⟨PyData.keyHash P ⟨#[69, 110, 118, 105, 114, 111, 110, 109, 101, 110, 116, 69, 114, 114, 111, 114]⟩, .str ⟨#[69, 110, 118, 105, 114, 111, 110, 109, 101, 110, 116, 69, 114, 114, 111, 114]⟩ 151, .type SL.s10852414792293593619x7⟩, ⟨PyData.keyHash P ⟨#[73, 79, 69, 114, 114, 111, 114]⟩, .str ⟨#[73, 79, 69, 114, 114, 111, 114]⟩ 152, .type SL.s10852414792293593619x7⟩, ⟨PyData.keyHash P ⟨#[111, 112, 101, 110]⟩, .str ⟨#[111, 112, 101, 110]⟩ 153, .builtin SL.s16789243406116112673x4⟩, ⟨PyData.keyHash P ⟨#[113, 117, 105, 116]⟩, .str ⟨#[113, 117, 105, 116]⟩ 154, .builtin SL.s14400166428656793546x20⟩, ⟨PyData.keyHash P ⟨#[101, 120, 105, 116]⟩, .str ⟨#[101, 120, 105, 116]⟩ 155, .builtin SL.s5857708277339239366x20⟩, ⟨PyData.keyHash P ⟨#[99, 111, 112, 121, 114, 105, 103, 104, 116]⟩, .str ⟨#[99, 111, 112, 121, 114, 105, 103, 104, 116]⟩ 156, .builtin "builtins.copyright#\x6fpaque"⟩, ⟨PyData.keyHash P ⟨#[99, 114, 101, 100, 105, 116, 115]⟩, .str ⟨#[99, 114, 101, 100, 105, 116, 115]⟩ 157, .builtin "builtins.credits#\x6fpaque"⟩, ⟨PyData.keyHash P ⟨#[108, 105, 99, 101, 110, 115, 101]⟩, .str ⟨#[108, 105, 99, 101, 110, 115, 101]⟩ 158, .builtin "builtins.license#\x6fpaque"⟩, ⟨PyData.keyHash P ⟨#[104, 101, 108, 112]⟩, .str ⟨#[104, 101, 108, 112]⟩ 159, .builtin SL.s7804999707787243718x20⟩] 159, #[]⟩
noncomputable def hB.o_42 : Params → Obj := fun P => ⟨.type SL.s14018661285674007319x4, .none, .dict #[⟨PyData.keyHash P ⟨#[98, 117, 105, 108, 116, 105, 110, 115]⟩, .str ⟨#[98, 117, 105, 108, 116, 105, 110, 115]⟩ 162, .ref 4⟩, ⟨PyData.keyHash P ⟨#[95, 95, 109, 97, 105, 110, 95, 95]⟩, .str ⟨#[95, 95, 109, 97, 105, 110, 95, 95]⟩ 163, .ref 5⟩, ⟨PyData.keyHash P ⟨#[95, 115, 114, 101]⟩, .str ⟨#[95, 115, 114, 101]⟩ 244, .ref 12⟩] 3, #[]⟩
noncomputable def hB.o_43 : Params → Obj := fun P => ⟨.none, .none, .dict #[⟨PyData.keyHash P "\x69mport.loaded._sre", .str "\x69mport.loaded._sre" 183, .bool .true⟩, ⟨PyData.keyHash P "class._frozen_importlib.BuiltinImporter", .str "class._frozen_importlib.BuiltinImporter" 185, .ref 14⟩, ⟨PyData.keyHash P "watched.\x69mport", .str "watched.\x69mport" 206, .ref 18⟩, ⟨PyData.keyHash P "class._frozen_importlib.ModuleSpec", .str "class._frozen_importlib.ModuleSpec" 216, .ref 22⟩, ⟨PyData.keyHash P "sys.modules.booked-epoch", .str "sys.modules.booked-epoch" 245, .int 3 0⟩, ⟨PyData.keyHash P "\x69mport.later-laid._sre", .str "\x69mport.later-laid._sre" 270, .bool .true⟩, ⟨PyData.keyHash P "watched.library", .str "watched.library" 272, .ref 27⟩, ⟨PyData.keyHash P "watched.library-objects", .str "watched.library-objects" 0, .str "\x0c" 0⟩, ⟨PyData.keyHash P "watched.library-deep._sre", .str "watched.library-deep._sre" 273, .str "\x04\x00\x00\x0b\x04\x00\x00\x0b\x04\x00\x00\x03\x04\x00\x00\x0b\x08\x04dict\x02" 0⟩] 9, #[]⟩
noncomputable def hB.o_44 : Params → Obj := fun P => ⟨.type SL.s14018661285674007319x4, .none, .dict #[⟨PyData.keyHash P ⟨#[95, 95, 110, 97, 109, 101, 95, 95]⟩, .str ⟨#[95, 95, 110, 97, 109, 101, 95, 95]⟩ 165, .str ⟨#[95, 95, 109, 97, 105, 110, 95, 95]⟩ 164⟩, ⟨PyData.keyHash P ⟨#[95, 95, 100, 111, 99, 95, 95]⟩, .str ⟨#[95, 95, 100, 111, 99, 95, 95]⟩ 166, .none⟩, ⟨PyData.keyHash P ⟨#[95, 95, 112, 97, 99, 107, 97, 103, 101, 95, 95]⟩, .str ⟨#[95, 95, 112, 97, 99, 107, 97, 103, 101, 95, 95]⟩ 167, .none⟩, ⟨PyData.keyHash P ⟨#[95, 95, 108, 111, 97, 100, 101, 114, 95, 95]⟩, .str ⟨#[95, 95, 108, 111, 97, 100, 101, 114, 95, 95]⟩ 168, .builtin SL.s7097527257260152453x26⟩, ⟨PyData.keyHash P ⟨#[95, 95, 115, 112, 101, 99, 95, 95]⟩, .str ⟨#[95, 95, 115, 112, 101, 99, 95, 95]⟩ 169, .none⟩, ⟨PyData.keyHash P ⟨#[95, 95, 97, 110, 110, 111, 116, 97, 116, 105, 111, 110, 115, 95, 95]⟩, .str ⟨#[95, 95, 97, 110, 110, 111, 116, 97, 116, 105, 111, 110, 115, 95, 95]⟩ 170, .ref 6⟩, ⟨PyData.keyHash P ⟨#[95, 95, 98, 117, 105, 108, 116, 105, 110, 115, 95, 95]⟩, .str ⟨#[95, 95, 98, 117, 105, 108, 116, 105, 110, 115, 95, 95]⟩ 171, .ref 4⟩, ⟨PyData.keyHash P ⟨#[95, 95, 102, 105, 108, 101, 95, 95]⟩, .str ⟨#[95, 95, 102, 105, 108, 101, 95, 95]⟩ 173, .str ⟨#[47, 99, 108, 97, 105, 109, 47, 99, 117, 116, 46, 112, 121]⟩ 172⟩, ⟨PyData.keyHash P ⟨#[95, 95, 99, 97, 99, 104, 101, 100, 95, 95]⟩, .str ⟨#[95, 95, 99, 97, 99, 104, 101, 100, 95, 95]⟩ 174, .none⟩, ⟨PyData.keyHash P ⟨#[95, 115, 114, 101]⟩, .str ⟨#[95, 115, 114, 101]⟩ 275, .ref 12⟩] 10, #[]⟩
noncomputable def hB.o_45 : Params → Obj := fun P => ⟨.type SL.s6658869562736209489x6, .some 0, .plain, #[]⟩
noncomputable def hB.o_46 : Params → Obj := fun P => ⟨.type SL.s6658869562736209489x6, .some 3, .plain, #[]⟩
noncomputable def hB.o_47 : Params → Obj := fun P => ⟨.type SL.s14018661285674007319x4, .none, .dict #[] 0, #[]⟩
noncomputable def hB.o_48 : Params → Obj := fun P => ⟨.type SL.s2766695959194262286x5, .none, .seq #[] 0, #[]⟩
noncomputable def hB.o_49 : Params → Obj := fun P => ⟨.none, .none, .fields #[], #[]⟩
noncomputable def hB.o_50 : Params → Obj := fun P => ⟨.type SL.s5856160107412720595x4, .none, .fields #[.str ⟨#[60, 109, 111, 100, 117, 108, 101, 62]⟩ 176, .str ⟨#[60, 109, 111, 100, 117, 108, 101, 62]⟩ 177, .str ⟨#[47, 99, 108, 97, 105, 109, 47, 99, 117, 116, 46, 112, 121]⟩ 178, .int 1 0, .int 0 0, .int 0 0, .int 0 0, .int 0 0, .ref 7, .bool .false, .int 175 0, .ref 8, .none, .none, .none, .none, .int 179 0, .int 1 0, .str ⟨#[47, 99, 108, 97, 105, 109, 47, 99, 117, 116, 46, 112, 121]⟩ 180], #[]⟩
noncomputable def hB.o_51 : Params → Obj := fun P => ⟨.type SL.s658472552662922059x5, .none, .plain, #[.some (.ref 9), .some (.ref 3), .some (.ref 3), .none, .some (.str ⟨#[95, 95, 109, 97, 105, 110, 95, 95]⟩ 164), .none, .some (.ref 0)]⟩
noncomputable def hB.o_52 : Params → Obj := fun P => ⟨.type "dict", .none, .dict #[⟨PyData.keyHash P "__name__", .str "__name__" 247, .str "_sre" 246⟩, ⟨PyData.keyHash P "__doc__", .str "__doc__" 248, .none⟩, ⟨PyData.keyHash P "__package__", .str "__package__" 250, .str "" 249⟩, ⟨PyData.keyHash P "__loader__", .str "__loader__" 251, .builtin "off-the-table:_sre.__loader__:shared#\x6fpaque"⟩, ⟨PyData.keyHash P "__spec__", .str "__spec__" 252, .builtin "off-the-table:_sre.__spec__:shared#\x6fpaque"⟩, ⟨PyData.keyHash P "compile", .str "compile" 253, .builtin "_sre.compile"⟩, ⟨PyData.keyHash P "template", .str "template" 254, .builtin "off-the-table:_sre.template:shared#\x6fpaque"⟩, ⟨PyData.keyHash P "getcodesize", .str "getcodesize" 255, .builtin "off-the-table:_sre.getcodesize:shared#\x6fpaque"⟩, ⟨PyData.keyHash P "ascii_iscased", .str "ascii_iscased" 256, .builtin "off-the-table:_sre.ascii_iscased:shared#\x6fpaque"⟩, ⟨PyData.keyHash P "unicode_iscased", .str "unicode_iscased" 257, .builtin "off-the-table:_sre.unicode_iscased:shared#\x6fpaque"⟩, ⟨PyData.keyHash P "ascii_tolower", .str "ascii_tolower" 258, .builtin "off-the-table:_sre.ascii_tolower:shared#\x6fpaque"⟩, ⟨PyData.keyHash P "unicode_tolower", .str "unicode_tolower" 259, .builtin "off-the-table:_sre.unicode_tolower:shared#\x6fpaque"⟩, ⟨PyData.keyHash P "MAGIC", .str "MAGIC" 261, .int 20230612 260⟩, ⟨PyData.keyHash P "CODESIZE", .str "CODESIZE" 263, .int 4 262⟩, ⟨PyData.keyHash P "MAXREPEAT", .str "MAXREPEAT" 265, .int 4294967295 264⟩, ⟨PyData.keyHash P "MAXGROUPS", .str "MAXGROUPS" 267, .int 1073741823 266⟩, ⟨PyData.keyHash P "copyright", .str "copyright" 269, .str " SRE 2.2.2 Copyright (c) 1997-2002 by Secret Labs AB " 268⟩] 17, #[]⟩
noncomputable def hB.o_53 : Params → Obj := fun P => ⟨.type SL.s6658869562736209489x6, .some 11, .plain, #[]⟩
noncomputable def hB.o_54 : Params → Obj := fun P => ⟨.type SL.s14018661285674007319x4, .none, .dict #[⟨PyData.keyHash P ⟨#[95, 95, 109, 111, 100, 117, 108, 101, 95, 95]⟩, .str ⟨#[95, 95, 109, 111, 100, 117, 108, 101, 95, 95]⟩ 189, .str ⟨#[95, 102, 114, 111, 122, 101, 110, 95, 105, 109, 112, 111, 114, 116, 108, 105, 98]⟩ 186⟩, ⟨PyData.keyHash P ⟨#[95, 95, 102, 105, 114, 115, 116, 108, 105, 110, 101, 110, 111, 95, 95]⟩, .str ⟨#[95, 95, 102, 105, 114, 115, 116, 108, 105, 110, 101, 110, 111, 95, 95]⟩ 190, .int 971 187⟩, ⟨PyData.keyHash P ⟨#[95, 95, 100, 111, 99, 95, 95]⟩, .str ⟨#[95, 95, 100, 111, 99, 95, 95]⟩ 191, .builtin "_frozen_importlib.BuiltinImporter.__doc__:str#\x6fpaque"⟩, ⟨PyData.keyHash P ⟨#[95, 79, 82, 73, 71, 73, 78]⟩, .str ⟨#[95, 79, 82, 73, 71, 73, 78]⟩ 192, .str ⟨#[98, 117, 105, 108, 116, 45, 105, 110]⟩ 188⟩, ⟨PyData.keyHash P ⟨#[102, 105, 110, 100, 95, 115, 112, 101, 99]⟩, .str ⟨#[102, 105, 110, 100, 95, 115, 112, 101, 99]⟩ 193, .builtin "_frozen_importlib.BuiltinImporter.find_spec#\x6fpaque"⟩, ⟨PyData.keyHash P ⟨#[99, 114, 101, 97, 116, 101, 95, 109, 111, 100, 117, 108, 101]⟩, .str ⟨#[99, 114, 101, 97, 116, 101, 95, 109, 111, 100, 117, 108, 101]⟩ 194, .builtin "_frozen_importlib.BuiltinImporter.create_module#\x6fpaque"⟩, ⟨PyData.keyHash P ⟨#[101, 120, 101, 99, 95, 109, 111, 100, 117, 108, 101]⟩, .str ⟨#[101, 120, 101, 99, 95, 109, 111, 100, 117, 108, 101]⟩ 195, .builtin "_frozen_importlib.BuiltinImporter.exec_module#\x6fpaque"⟩, ⟨PyData.keyHash P ⟨#[103, 101, 116, 95, 99, 111, 100, 101]⟩, .str ⟨#[103, 101, 116, 95, 99, 111, 100, 101]⟩ 196, .builtin "_frozen_importlib.BuiltinImporter.get_code#\x6fpaque"⟩, ⟨PyData.keyHash P ⟨#[103, 101, 116, 95, 115, 111, 117, 114, 99, 101]⟩, .str ⟨#[103, 101, 116, 95, 115, 111, 117, 114, 99, 101]⟩ 197, .builtin "_frozen_importlib.BuiltinImporter.get_source#\x6fpaque"⟩, ⟨PyData.keyHash P ⟨#[105, 115, 95, 112, 97, 99, 107, 97, 103, 101]⟩, .str ⟨#[105, 115, 95, 112, 97, 99, 107, 97, 103, 101]⟩ 198, .builtin "_frozen_importlib.BuiltinImporter.is_package#\x6fpaque"⟩, ⟨PyData.keyHash P ⟨#[108, 111, 97, 100, 95, 109, 111, 100, 117, 108, 101]⟩, .str ⟨#[108, 111, 97, 100, 95, 109, 111, 100, 117, 108, 101]⟩ 199, .builtin "_frozen_importlib.BuiltinImporter.load_module#\x6fpaque"⟩, ⟨PyData.keyHash P ⟨#[95, 95, 115, 116, 97, 116, 105, 99, 95, 97, 116, 116, 114, 105, 98, 117, 116, 101, 115, 95, 95]⟩, .str ⟨#[95, 95, 115, 116, 97, 116, 105, 99, 95, 97, 116, 116, 114, 105, 98, 117, 116, 101, 115, 95, 95]⟩ 200, .ref 15⟩, ⟨PyData.keyHash P ⟨#[95, 95, 100, 105, 99, 116, 95, 95]⟩, .str ⟨#[95, 95, 100, 105, 99, 116, 95, 95]⟩ 202, .ref 16⟩, ⟨PyData.keyHash P ⟨#[95, 95, 119, 101, 97, 107, 114, 101, 102, 95, 95]⟩, .str ⟨#[95, 95, 119, 101, 97, 107, 114, 101, 102, 95, 95]⟩ 204, .ref 17⟩] 14, #[]⟩
noncomputable def hB.o_55 : Params → Obj := fun P => ⟨.type SL.s17162191345867700912x4, .none, .cls ⟨⟨#[66, 117, 105, 108, 116, 105, 110, 73, 109, 112, 111, 114, 116, 101, 114]⟩, [.type SL.s2742458400755230247x6], [.ref 14, .type SL.s2742458400755230247x6], 13, ⟨#[66, 117, 105, 108, 116, 105, 110, 73, 109, 112, 111, 114, 116, 101, 114]⟩, .true, [], [], .false, .none, .false⟩, #[]⟩
noncomputable def hB.o_56 : Params → Obj := hB.o_48
noncomputable def hB.o_57 : Params → Obj := fun P => ⟨.type SL.s14755015743595814543x17, .none, .fields #[.str ⟨#[95, 95, 100, 105, 99, 116, 95, 95]⟩ 201, .ref 14, .builtin SL.s6511155373996960695x17, .builtin SL.s12411053484034534018x21], #[]⟩
noncomputable def hB.o_58 : Params → Obj := fun P => ⟨.type SL.s14755015743595814543x17, .none, .fields #[.str ⟨#[95, 95, 119, 101, 97, 107, 114, 101, 102, 95, 95]⟩ 203, .ref 14, .builtin SL.s10220274742760427390x26, .none], #[]⟩
noncomputable def hB.o_59 : Params → Obj := fun P => ⟨.none, .none, .seq #[.int 13 0, .str ⟨#[6, 189, 10, 95, 95, 109, 111, 100, 117, 108, 101, 95, 95, 6, 186, 17, 95, 102, 114, 111, 122, 101, 110, 95, 105, 109, 112, 111, 114, 116, 108, 105, 98, 6, 190, 15, 95, 95, 102, 105, 114, 115, 116, 108, 105, 110, 101, 110, 111, 95, 95, 4, 187, 0, 971, 6, 191, 7, 95, 95, 100, 111, 99, 95, 95, 9, 52, 95, 102, 114, 111, 122, 101, 110, 95, 105, 109, 112, 111, 114, 116, 108, 105, 98, 46, 66, 117, 105, 108, 116, 105, 110, 73, 109, 112, 111, 114, 116, 101, 114, 46, 95, 95, 100, 111, 99, 95, 95, 58, 115, 116, 114, 35, 111, 112, 97, 113, 117, 101, 6, 192, 7, 95, 79, 82, 73, 71, 73, 78, 6, 188, 8, 98, 117, 105, 108, 116, 45, 105, 110, 6, 193, 9, 102, 105, 110, 100, 95, 115, 112, 101, 99, 9, 50, 95, 102, 114, 111, 122, 101, 110, 95, 105, 109, 112, 111, 114, 116, 108, 105, 98, 46, 66, 117, 105, 108, 116, 105, 110, 73, 109, 112, 111, 114, 116, 101, 114, 46, 102, 105, 110, 100, 95, 115, 112, 101, 99, 35, 111, 112, 97, 113, 117, 101, 6, 194, 13, 99, 114, 101, 97, 116, 101, 95, 109, 111, 100, 117, 108, 101, 9, 54, 95, 102, 114, 111, 122, 101, 110, 95, 105, 109, 112, 111, 114, 116, 108, 105, 98, 46, 66, 117, 105, 108, 116, 105, 110, 73, 109, 112, 111, 114, 116, 101, 114, 46, 99, 114, 101, 97, 116, 101, 95, 109, 111, 100, 117, 108, 101, 35, 111, 112, 97, 113, 117, 101, 6, 195, 11, 101, 120, 101, 99, 95, 109, 111, 100, 117, 108, 101, 9, 52, 95, 102, 114, 111, 122, 101, 110, 95, 105, 109, 112, 111, 114, 116, 108, 105, 98, 46, 66, 117, 105, 108, 116, 105, 110, 73, 109, 112, 111, 114, 116, 101, 114, 46, 101, 120, 101, 99, 95, 109, 111, 100, 117, 108, 101, 35, 111, 112, 97, 113, 117, 101, 6, 196, 8, 103, 101, 116, 95, 99, 111, 100, 101, 9, 49, 95, 102, 114, 111, 122, 101, 110, 95, 105, 109, 112, 111, 114, 116, 108, 105, 98, 46, 66, 117, 105, 108, 116, 105, 110, 73, 109, 112, 111, 114, 116, 101, 114, 46, 103, 101, 116, 95, 99, 111, 100, 101, 35, 111, 112, 97, 113, 117, 101, 6, 197, 10, 103, 101, 116, 95, 115, 111, 117, 114, 99, 101, 9, 51, 95, 102, 114, 111, 122, 101, 110, 95, 105, 109, 112, 111, 114, 116, 108, 105, 98, 46, 66, 117, 105, 108, 116, 105, 110, 73, 109, 112, 111, 114, 116, 101, 114, 46, 103, 101, 116, 95, 115, 111, 117, 114, 99, 101, 35, 111, 112, 97, 113, 117, 101, 6, 198, 10, 105, 115, 95, 112, 97, 99, 107, 97, 103, 101, 9, 51, 95, 102, 114, 111, 122, 101, 110, 95, 105, 109, 112, 111, 114, 116, 108, 105, 98, 46, 66, 117, 105, 108, 116, 105, 110, 73, 109, 112, 111, 114, 116, 101, 114, 46, 105, 115, 95, 112, 97, 99, 107, 97, 103, 101, 35, 111, 112, 97, 113, 117, 101, 6, 199, 11, 108, 111, 97, 100, 95, 109, 111, 100, 117, 108, 101, 9, 52, 95, 102, 114, 111, 122, 101, 110, 95, 105, 109, 112, 111, 114, 116, 108, 105, 98, 46, 66, 117, 105, 108, 116, 105, 110, 73, 109, 112, 111, 114, 116, 101, 114, 46, 108, 111, 97, 100, 95, 109, 111, 100, 117, 108, 101, 35, 111, 112, 97, 113, 117, 101, 6, 200, 21, 95, 95, 115, 116, 97, 116, 105, 99, 95, 97, 116, 116, 114, 105, 98, 117, 116, 101, 115, 95, 95, 4, 0, 0, 15, 6, 202, 8, 95, 95, 100, 105, 99, 116, 95, 95, 4, 0, 0, 16, 6, 204, 11, 95, 95, 119, 101, 97, 107, 114, 101, 102, 95, 95, 4, 0, 0, 17]⟩ 0, .bool .true, .bool .true, .str ⟨#[]⟩ 205, .int 21 0, .str ⟨#[6, 227, 10, 95, 95, 109, 111, 100, 117, 108, 101, 95, 95, 6, 217, 17, 95, 102, 114, 111, 122, 101, 110, 95, 105, 109, 112, 111, 114, 116, 108, 105, 98, 6, 228, 15, 95, 95, 102, 105, 114, 115, 116, 108, 105, 110, 101, 110, 111, 95, 95, 4, 218, 0, 562, 6, 229, 7, 95, 95, 100, 111, 99, 95, 95, 9, 47, 95, 102, 114, 111, 122, 101, 110, 95, 105, 109, 112, 111, 114, 116, 108, 105, 98, 46, 77, 111, 100, 117, 108, 101, 83, 112, 101, 99, 46, 95, 95, 100, 111, 99, 95, 95, 58, 115, 116, 114, 35, 111, 112, 97, 113, 117, 101, 6, 230, 8, 95, 95, 105, 110, 105, 116, 95, 95, 9, 44, 95, 102, 114, 111, 122, 101, 110, 95, 105, 109, 112, 111, 114, 116, 108, 105, 98, 46, 77, 111, 100, 117, 108, 101, 83, 112, 101, 99, 46, 95, 95, 105, 110, 105, 116, 95, 95, 35, 111, 112, 97, 113, 117, 101, 6, 231, 8, 95, 95, 114, 101, 112, 114, 95, 95, 9, 44, 95, 102, 114, 111, 122, 101, 110, 95, 105, 109, 112, 111, 114, 116, 108, 105, 98, 46, 77, 111, 100, 117, 108, 101, 83, 112, 101, 99, 46, 95, 95, 114, 101, 112, 114, 95, 95, 35, 111, 112, 97, 113, 117, 101, 6, 232, 6, 95, 95, 101, 113, 95, 95, 9, 42, 95, 102, 114, 111, 122, 101, 110, 95, 105, 109, 112, 111, 114, 116, 108, 105, 98, 46, 77, 111, 100, 117, 108, 101, 83, 112, 101, 99, 46, 95, 95, 101, 113, 95, 95, 35, 111, 112, 97, 113, 117, 101, 6, 233, 6, 99, 97, 99, 104, 101, 100, 9, 42, 95, 102, 114, 111, 122, 101, 110, 95, 105, 109, 112, 111, 114, 116, 108, 105, 98, 46, 77, 111, 100, 117, 108, 101, 83, 112, 101, 99, 46, 99, 97, 99, 104, 101, 100, 35, 111, 112, 97, 113, 117, 101, 6, 234, 6, 112, 97, 114, 101, 110, 116, 9, 42, 95, 102, 114, 111, 122, 101, 110, 95, 105, 109, 112, 111, 114, 116, 108, 105, 98, 46, 77, 111, 100, 117, 108, 101, 83, 112, 101, 99, 46, 112, 97, 114, 101, 110, 116, 35, 111, 112, 97, 113, 117, 101, 6, 235, 12, 104, 97, 115, 95, 108, 111, 99, 97, 116, 105, 111, 110, 9, 48, 95, 102, 114, 111, 122, 101, 110, 95, 105, 109, 112, 111, 114, 116, 108, 105, 98, 46, 77, 111, 100, 117, 108, 101, 83, 112, 101, 99, 46, 104, 97, 115, 95, 108, 111, 99, 97, 116, 105, 111, 110, 35, 111, 112, 97, 113, 117, 101, 6, 236, 21, 95, 95, 115, 116, 97, 116, 105, 99, 95, 97, 116, 116, 114, 105, 98, 117, 116, 101, 115, 95, 95, 4, 0, 0, 23, 6, 238, 8, 95, 95, 100, 105, 99, 116, 95, 95, 4, 0, 0, 24, 6, 240, 11, 95, 95, 119, 101, 97, 107, 114, 101, 102, 95, 95, 4, 0, 0, 25, 6, 241, 8, 95, 95, 104, 97, 115, 104, 95, 95, 0]⟩ 0, .bool .true, .bool .true, .str ⟨#[]⟩ 242] 1, #[]⟩
noncomputable def hB.o_60 : Params → Obj := fun P => ⟨.type SL.s9222952809800978799x4, .none, .seq #[] 0, #[]⟩
noncomputable def hB.o_61 : Params → Obj := fun P => ⟨.type SL.s14018661285674007319x4, .none, .dict #[⟨PyData.keyHash P ⟨#[110, 97, 109, 101]⟩, .str ⟨#[110, 97, 109, 101]⟩ 208, .str ⟨#[95, 115, 114, 101]⟩ 207⟩, ⟨PyData.keyHash P ⟨#[108, 111, 97, 100, 101, 114]⟩, .str ⟨#[108, 111, 97, 100, 101, 114]⟩ 209, .ref 14⟩, ⟨PyData.keyHash P ⟨#[111, 114, 105, 103, 105, 110]⟩, .str ⟨#[111, 114, 105, 103, 105, 110]⟩ 210, .str ⟨#[98, 117, 105, 108, 116, 45, 105, 110]⟩ 184⟩, ⟨PyData.keyHash P ⟨#[108, 111, 97, 100, 101, 114, 95, 115, 116, 97, 116, 101]⟩, .str ⟨#[108, 111, 97, 100, 101, 114, 95, 115, 116, 97, 116, 101]⟩ 211, .none⟩, ⟨PyData.keyHash P ⟨#[115, 117, 98, 109, 111, 100, 117, 108, 101, 95, 115, 101, 97, 114, 99, 104, 95, 108, 111, 99, 97, 116, 105, 111, 110, 115]⟩, .str ⟨#[115, 117, 98, 109, 111, 100, 117, 108, 101, 95, 115, 101, 97, 114, 99, 104, 95, 108, 111, 99, 97, 116, 105, 111, 110, 115]⟩ 212, .none⟩, ⟨PyData.keyHash P ⟨#[95, 117, 110, 105, 110, 105, 116, 105, 97, 108, 105, 122, 101, 100, 95, 115, 117, 98, 109, 111, 100, 117, 108, 101, 115]⟩, .str ⟨#[95, 117, 110, 105, 110, 105, 116, 105, 97, 108, 105, 122, 101, 100, 95, 115, 117, 98, 109, 111, 100, 117, 108, 101, 115]⟩ 213, .ref 19⟩, ⟨PyData.keyHash P ⟨#[95, 115, 101, 116, 95, 102, 105, 108, 101, 97, 116, 116, 114]⟩, .str ⟨#[95, 115, 101, 116, 95, 102, 105, 108, 101, 97, 116, 116, 114]⟩ 214, .bool .false⟩, ⟨PyData.keyHash P ⟨#[95, 99, 97, 99, 104, 101, 100]⟩, .str ⟨#[95, 99, 97, 99, 104, 101, 100]⟩ 215, .none⟩, ⟨PyData.keyHash P ⟨#[95, 105, 110, 105, 116, 105, 97, 108, 105, 122, 105, 110, 103]⟩, .str ⟨#[95, 105, 110, 105, 116, 105, 97, 108, 105, 122, 105, 110, 103]⟩ 243, .bool .false⟩] 9, #[]⟩
noncomputable def hB.o_62 : Params → Obj := fun P => ⟨.type SL.s14018661285674007319x4, .none, .dict #[⟨PyData.keyHash P ⟨#[95, 95, 109, 111, 100, 117, 108, 101, 95, 95]⟩, .str ⟨#[95, 95, 109, 111, 100, 117, 108, 101, 95, 95]⟩ 227, .str ⟨#[95, 102, 114, 111, 122, 101, 110, 95, 105, 109, 112, 111, 114, 116, 108, 105, 98]⟩ 217⟩, ⟨PyData.keyHash P ⟨#[95, 95, 102, 105, 114, 115, 116, 108, 105, 110, 101, 110, 111, 95, 95]⟩, .str ⟨#[95, 95, 102, 105, 114, 115, 116, 108, 105, 110, 101, 110, 111, 95, 95]⟩ 228, .int 562 218⟩, ⟨PyData.keyHash P ⟨#[95, 95, 100, 111, 99, 95, 95]⟩, .str ⟨#[95, 95, 100, 111, 99, 95, 95]⟩ 229, .builtin "_frozen_importlib.ModuleSpec.__doc__:str#\x6fpaque"⟩, ⟨PyData.keyHash P ⟨#[95, 95, 105, 110, 105, 116, 95, 95]⟩, .str ⟨#[95, 95, 105, 110, 105, 116, 95, 95]⟩ 230, .builtin "_frozen_importlib.ModuleSpec.__init__#\x6fpaque"⟩, ⟨PyData.keyHash P ⟨#[95, 95, 114, 101, 112, 114, 95, 95]⟩, .str ⟨#[95, 95, 114, 101, 112, 114, 95, 95]⟩ 231, .builtin "_frozen_importlib.ModuleSpec.__repr__#\x6fpaque"⟩, ⟨PyData.keyHash P ⟨#[95, 95, 101, 113, 95, 95]⟩, .str ⟨#[95, 95, 101, 113, 95, 95]⟩ 232, .builtin "_frozen_importlib.ModuleSpec.__eq__#\x6fpaque"⟩, ⟨PyData.keyHash P ⟨#[99, 97, 99, 104, 101, 100]⟩, .str ⟨#[99, 97, 99, 104, 101, 100]⟩ 233, .builtin "_frozen_importlib.ModuleSpec.cached#\x6fpaque"⟩, ⟨PyData.keyHash P ⟨#[112, 97, 114, 101, 110, 116]⟩, .str ⟨#[112, 97, 114, 101, 110, 116]⟩ 234, .builtin "_frozen_importlib.ModuleSpec.parent#\x6fpaque"⟩, ⟨PyData.keyHash P ⟨#[104, 97, 115, 95, 108, 111, 99, 97, 116, 105, 111, 110]⟩, .str ⟨#[104, 97, 115, 95, 108, 111, 99, 97, 116, 105, 111, 110]⟩ 235, .builtin "_frozen_importlib.ModuleSpec.has_location#\x6fpaque"⟩, ⟨PyData.keyHash P ⟨#[95, 95, 115, 116, 97, 116, 105, 99, 95, 97, 116, 116, 114, 105, 98, 117, 116, 101, 115, 95, 95]⟩, .str ⟨#[95, 95, 115, 116, 97, 116, 105, 99, 95, 97, 116, 116, 114, 105, 98, 117, 116, 101, 115, 95, 95]⟩ 236, .ref 23⟩, ⟨PyData.keyHash P ⟨#[95, 95, 100, 105, 99, 116, 95, 95]⟩, .str ⟨#[95, 95, 100, 105, 99, 116, 95, 95]⟩ 238, .ref 24⟩, ⟨PyData.keyHash P ⟨#[95, 95, 119, 101, 97, 107, 114, 101, 102, 95, 95]⟩, .str ⟨#[95, 95, 119, 101, 97, 107, 114, 101, 102, 95, 95]⟩ 240, .ref 25⟩, ⟨PyData.keyHash P ⟨#[95, 95, 104, 97, 115, 104, 95, 95]⟩, .str ⟨#[95, 95, 104, 97, 115, 104, 95, 95]⟩ 241, .none⟩] 13, #[]⟩
noncomputable def hB.o_63 : Params → Obj := fun P => ⟨.type SL.s17162191345867700912x4, .none, .cls ⟨⟨#[77, 111, 100, 117, 108, 101, 83, 112, 101, 99]⟩, [.type SL.s2742458400755230247x6], [.ref 22, .type SL.s2742458400755230247x6], 21, ⟨#[77, 111, 100, 117, 108, 101, 83, 112, 101, 99]⟩, .true, [], [], .false, .none, .false⟩, #[]⟩
noncomputable def hB.o_64 : Params → Obj := fun P => ⟨.type SL.s2766695959194262286x5, .none, .seq #[.str ⟨#[95, 99, 97, 99, 104, 101, 100]⟩ 219, .str ⟨#[95, 115, 101, 116, 95, 102, 105, 108, 101, 97, 116, 116, 114]⟩ 220, .str ⟨#[95, 117, 110, 105, 110, 105, 116, 105, 97, 108, 105, 122, 101, 100, 95, 115, 117, 98, 109, 111, 100, 117, 108, 101, 115]⟩ 221, .str ⟨#[108, 111, 97, 100, 101, 114]⟩ 222, .str ⟨#[108, 111, 97, 100, 101, 114, 95, 115, 116, 97, 116, 101]⟩ 223, .str ⟨#[110, 97, 109, 101]⟩ 224, .str ⟨#[111, 114, 105, 103, 105, 110]⟩ 225, .str ⟨#[115, 117, 98, 109, 111, 100, 117, 108, 101, 95, 115, 101, 97, 114, 99, 104, 95, 108, 111, 99, 97, 116, 105, 111, 110, 115]⟩ 226] 0, #[]⟩
noncomputable def hB.o_65 : Params → Obj := fun P => ⟨.type SL.s14755015743595814543x17, .none, .fields #[.str ⟨#[95, 95, 100, 105, 99, 116, 95, 95]⟩ 237, .ref 22, .builtin SL.s6511155373996960695x17, .builtin SL.s12411053484034534018x21], #[]⟩
noncomputable def hB.o_66 : Params → Obj := fun P => ⟨.type SL.s14755015743595814543x17, .none, .fields #[.str ⟨#[95, 95, 119, 101, 97, 107, 114, 101, 102, 95, 95]⟩ 239, .ref 22, .builtin SL.s10220274742760427390x26, .none], #[]⟩
noncomputable def hB.o_67 : Params → Obj := fun P => ⟨.ref 22, .some 20, .plain, #[]⟩
noncomputable def hB.o_68 : Params → Obj := fun P => ⟨.none, .none, .seq #[.int 11 0, .str ⟨#[6, 247, 8, 95, 95, 110, 97, 109, 101, 95, 95, 6, 246, 4, 95, 115, 114, 101, 6, 248, 7, 95, 95, 100, 111, 99, 95, 95, 0, 6, 250, 11, 95, 95, 112, 97, 99, 107, 97, 103, 101, 95, 95, 6, 249, 0, 6, 251, 10, 95, 95, 108, 111, 97, 100, 101, 114, 95, 95, 4, 0, 0, 14, 6, 252, 8, 95, 95, 115, 112, 101, 99, 95, 95, 4, 0, 0, 26, 6, 253, 7, 99, 111, 109, 112, 105, 108, 101, 9, 12, 95, 115, 114, 101, 46, 99, 111, 109, 112, 105, 108, 101, 6, 254, 8, 116, 101, 109, 112, 108, 97, 116, 101, 9, 13, 95, 115, 114, 101, 46, 116, 101, 109, 112, 108, 97, 116, 101, 6, 255, 11, 103, 101, 116, 99, 111, 100, 101, 115, 105, 122, 101, 9, 16, 95, 115, 114, 101, 46, 103, 101, 116, 99, 111, 100, 101, 115, 105, 122, 101, 6, 256, 13, 97, 115, 99, 105, 105, 95, 105, 115, 99, 97, 115, 101, 100, 9, 18, 95, 115, 114, 101, 46, 97, 115, 99, 105, 105, 95, 105, 115, 99, 97, 115, 101, 100, 6, 257, 15, 117, 110, 105, 99, 111, 100, 101, 95, 105, 115, 99, 97, 115, 101, 100, 9, 20, 95, 115, 114, 101, 46, 117, 110, 105, 99, 111, 100, 101, 95, 105, 115, 99, 97, 115, 101, 100, 6, 258, 13, 97, 115, 99, 105, 105, 95, 116, 111, 108, 111, 119, 101, 114, 9, 18, 95, 115, 114, 101, 46, 97, 115, 99, 105, 105, 95, 116, 111, 108, 111, 119, 101, 114, 6, 259, 15, 117, 110, 105, 99, 111, 100, 101, 95, 116, 111, 108, 111, 119, 101, 114, 9, 20, 95, 115, 114, 101, 46, 117, 110, 105, 99, 111, 100, 101, 95, 116, 111, 108, 111, 119, 101, 114, 6, 261, 5, 77, 65, 71, 73, 67, 4, 260, 0, 20230612, 6, 263, 8, 67, 79, 68, 69, 83, 73, 90, 69, 4, 262, 0, 4, 6, 265, 9, 77, 65, 88, 82, 69, 80, 69, 65, 84, 4, 264, 0, 4294967295, 6, 267, 9, 77, 65, 88, 71, 82, 79, 85, 80, 83, 4, 266, 0, 1073741823, 6, 269, 9, 99, 111, 112, 121, 114, 105, 103, 104, 116, 6, 268, 53, 32, 83, 82, 69, 32, 50, 46, 50, 46, 50, 32, 67, 111, 112, 121, 114, 105, 103, 104, 116, 32, 40, 99, 41, 32, 49, 57, 57, 55, 45, 50, 48, 48, 50, 32, 98, 121, 32, 83, 101, 99, 114, 101, 116, 32, 76, 97, 98, 115, 32, 65, 66, 32]⟩ 0, .bool .true, .bool .false, .str ⟨#[95, 115, 114, 101]⟩ 271] 0, #[]⟩
noncomputable def hB.o_69 : Params → Obj := hB.o_48
noncomputable def hB.o_70 : Params → Obj := hB.o_49
noncomputable def hB.o_71 : Params → Obj := fun P => ⟨.type "code", .none, .fields #[.str "<module>" 277, .str "<module>" 278, .str "/claim/cut.py" 279, .int 1 0, .int 0 0, .int 0 0, .int 0 0, .int 0 0, .ref 28, .bool .false, .int 276 0, .ref 29, .none, .none, .none, .none, .int 280 0, .int 1 0, .str "/claim/cut.py" 281], #[]⟩
noncomputable def hB.o_72 : Params → Obj := fun P => ⟨.type "frame", .none, .plain, #[.some (.ref 30), .some (.ref 3), .some (.ref 3), .none, .some (.str "__main__" 164), .none, .some (.ref 0)]⟩
noncomputable def hB.o_75 : Params → Obj := fun P => ⟨.type "dict", .none, .dict #[⟨PyData.keyHash P "__name__", .str "__name__" 165, .str "cpy313.tomllib._parser" 296⟩, ⟨PyData.keyHash P "__doc__", .str "__doc__" 166, .none⟩, ⟨PyData.keyHash P "__package__", .str "__package__" 167, .none⟩, ⟨PyData.keyHash P "__loader__", .str "__loader__" 168, .builtin "__main__.__loader__#\x6fpaque"⟩, ⟨PyData.keyHash P "__spec__", .str "__spec__" 169, .none⟩, ⟨PyData.keyHash P "__annotations__", .str "__annotations__" 170, .ref 6⟩, ⟨PyData.keyHash P "__builtins__", .str "__builtins__" 171, .ref 4⟩, ⟨PyData.keyHash P "__file__", .str "__file__" 173, .str "/claim/cut.py" 172⟩, ⟨PyData.keyHash P "__cached__", .str "__cached__" 174, .none⟩, ⟨PyData.keyHash P "_sre", .str "_sre" 275, .ref 12⟩, ⟨PyData.keyHash P "_wall", .str "_wall" 288, .ref 38⟩, ⟨PyData.keyHash P "digits", .str "digits" 290, .str "0123456789" 289⟩, ⟨PyData.keyHash P "hexdigits", .str "hexdigits" 295, .str "0123456789abcdefABCDEF" 294⟩, ⟨PyData.keyHash P "HEXDIGIT_CHARS", .str "HEXDIGIT_CHARS" 342, .ref 39⟩] 14, #[]⟩
noncomputable def hB.o_76 : Params → Obj := fun P => ⟨.none, .none, .fields #[.int 2 0, .int 0 0, .ref 37], #[]⟩
noncomputable def hB.o_77 : Params → Obj := fun P => ⟨.type "tuple", .none, .seq #[] 0, #[]⟩
noncomputable def hB.o_78 : Params → Obj := hB.o_49
noncomputable def hB.o_79 : Params → Obj := fun P => ⟨.type "tuple", .none, .seq #[.str "k" 285] 0, #[]⟩
noncomputable def hB.o_80 : Params → Obj := fun P => ⟨.type "tuple", .none, .seq #[] 0, #[]⟩
noncomputable def hB.o_81 : Params → Obj := fun P => bare (sA.o_41 P)
noncomputable def hB.o_82 : Params → Obj := fun P => ⟨.type "code", .none, .fields #[.str "_wall" 282, .str "_wall" 283, .str "/claim/cut.py" 284, .int 2 0, .int 1 0, .int 0 0, .int 0 0, .int 3 0, .ref 32, .bool .true, .int 276 0, .ref 33, .none, .ref 34, .ref 35, .ref 36, .int 286 0, .int 2 0, .str "/claim/cut.py" 287], #[]⟩
noncomputable def hB.o_84 : Params → Obj := fun P => ⟨.type "object", .none, .plain, #[]⟩
noncomputable def hB.o_85 : Params → Obj := hB.o_84
noncomputable def hB.o_86 : Params → Obj := hB.o_84
noncomputable def hB.o_87 : Params → Obj := hB.o_84
noncomputable def hB.o_88 : Params → Obj := fun P => ⟨.type "dict", .none, .dict #[⟨PyData.keyHash P "__name__", .str "__name__" 165, .str "cpy313.base64" 389⟩, ⟨PyData.keyHash P "__doc__", .str "__doc__" 166, .none⟩, ⟨PyData.keyHash P "__package__", .str "__package__" 167, .none⟩, ⟨PyData.keyHash P "__loader__", .str "__loader__" 168, .builtin "__main__.__loader__#\x6fpaque"⟩, ⟨PyData.keyHash P "__spec__", .str "__spec__" 169, .none⟩, ⟨PyData.keyHash P "__annotations__", .str "__annotations__" 170, .ref 6⟩, ⟨PyData.keyHash P "__builtins__", .str "__builtins__" 171, .ref 4⟩, ⟨PyData.keyHash P "__file__", .str "__file__" 173, .str "/claim/cut.py" 172⟩, ⟨PyData.keyHash P "__cached__", .str "__cached__" 174, .none⟩, ⟨PyData.keyHash P "_sre", .str "_sre" 275, .ref 12⟩, ⟨PyData.keyHash P "_wall", .str "_wall" 288, .ref 38⟩, ⟨PyData.keyHash P "digits", .str "digits" 290, .str "0123456789" 289⟩, ⟨PyData.keyHash P "hexdigits", .str "hexdigits" 295, .str "0123456789abcdefABCDEF" 294⟩, ⟨PyData.keyHash P "HEXDIGIT_CHARS", .str "HEXDIGIT_CHARS" 342, .ref 39⟩, ⟨PyData.keyHash P "TOMLDecodeError", .str "TOMLDecodeError" 360, .ref 52⟩, ⟨PyData.keyHash P "parse_hex_char", .str "parse_hex_char" 371, .ref 62⟩, ⟨PyData.keyHash P "suffixed_err", .str "suffixed_err" 381, .ref 69⟩, ⟨PyData.keyHash P "is_unicode_scalar_value", .str "is_unicode_scalar_value" 388, .ref 76⟩, ⟨PyData.keyHash P "twin_re_1_base64", .str "twin_re_1_base64" 420, .ref 81⟩, ⟨PyData.keyHash P "bytes_types", .str "bytes_types" 421, .ref 82⟩] 20, #[]⟩
noncomputable def hB.o_89 : Params → Obj := fun P => ⟨.none, .none, .fields #[.int 2 0, .int 0 0, .ref 37, .int 9 0, .int 0 0, .ref 48, .int 11 0, .int 0 0, .ref 61, .int 20 0, .int 0 0, .ref 68, .int 32 0, .int 0 0, .ref 75], #[]⟩
noncomputable def hB.o_90 : Params → Obj := fun P => ⟨.type "tuple", .none, .seq #[.type "ValueError"] 0, #[]⟩
noncomputable def hB.o_91 : Params → Obj := fun P => ⟨.type "builtin_function_or_method", .none, .fields #[.builtin "type.__prepare__", .type "type"], #[]⟩
noncomputable def hB.o_92 : Params → Obj := fun P => ⟨.type "dict", .none, .dict #[⟨PyData.keyHash P "__module__", .str "__module__" 350, .str "cpy313.tomllib._parser" 296⟩, ⟨PyData.keyHash P "__qualname__", .str "__qualname__" 352, .str "TOMLDecodeError" 351⟩, ⟨PyData.keyHash P "__firstlineno__", .str "__firstlineno__" 354, .int 9 353⟩, ⟨PyData.keyHash P "__static_attributes__", .str "__static_attributes__" 355, .ref 50⟩] 4, #[]⟩
noncomputable def hB.o_93 : Params → Obj := hB.o_48
noncomputable def hB.o_94 : Params → Obj := hB.o_49
noncomputable def hB.o_95 : Params → Obj := fun P => ⟨.type "code", .none, .fields #[.str "TOMLDecodeError" 345, .str "TOMLDecodeError" 346, .str "/claim/cut.py" 347, .int 9 0, .int 0 0, .int 0 0, .int 0 0, .int 0 0, .ref 46, .bool .false, .int 276 0, .ref 47, .none, .none, .none, .none, .int 348 0, .int 9 0, .str "/claim/cut.py" 349], #[]⟩
noncomputable def hB.o_96 : Params → Obj := fun P => ⟨.type "frame", .none, .plain, #[.some (.ref 48), .some (.ref 3), .some (.ref 45), .none, .some (.str "cpy313.tomllib._parser" 296), .none, .some (.ref 0)]⟩
noncomputable def hB.o_97 : Params → Obj := fun P => ⟨.type "tuple", .none, .seq #[] 0, #[]⟩
noncomputable def hB.o_98 : Params → Obj := fun P => ⟨.type "dict", .none, .dict #[⟨PyData.keyHash P "__module__", .str "__module__" 350, .str "cpy313.tomllib._parser" 296⟩, ⟨PyData.keyHash P "__firstlineno__", .str "__firstlineno__" 354, .int 9 353⟩, ⟨PyData.keyHash P "__static_attributes__", .str "__static_attributes__" 355, .ref 50⟩, ⟨PyData.keyHash P "__weakref__", .str "__weakref__" 357, .ref 53⟩, ⟨PyData.keyHash P "__doc__", .str "__doc__" 358, .none⟩] 3, #[]⟩
noncomputable def hB.o_99 : Params → Obj := fun P => ⟨.type "type", .none, .cls ⟨"TOMLDecodeError", [.type "ValueError"], [.ref 52, .type "ValueError", .type "Exception", .type "BaseException", .type "object"], 51, "TOMLDecodeError", .true, [], [], .false, .none, .false⟩, #[.some (.ref 43), .none, .some (.str "TOMLDecodeError" 343), .some (.str "TOMLDecodeError" 351), .some (.builtin "ValueError.__new__"), .some (.bool .true)]⟩
noncomputable def hB.o_100 : Params → Obj := fun P => ⟨.type "getset_descriptor", .none, .fields #[.str "__weakref__" 356, .ref 52, .builtin "ExceptionGroup.__weakref__", .none], #[]⟩
noncomputable def hB.o_101 : Params → Obj := fun P => ⟨.type "super", .none, .fields #[.ref 52, .ref 52, .ref 52], #[]⟩
noncomputable def hB.o_102 : Params → Obj := fun P => ⟨.type "builtin_function_or_method", .none, .fields #[.builtin "object.__init_subclass__", .ref 52], #[]⟩
noncomputable def hB.o_103 : Params → Obj := fun P => ⟨.type "tuple", .none, .seq #[] 0, #[]⟩
noncomputable def hB.o_104 : Params → Obj := hB.o_49
noncomputable def hB.o_105 : Params → Obj := fun P => ⟨.type "tuple", .none, .seq #[.str "src" 364, .str "pos" 365, .str "hex_len" 366, .str "hex_str" 367, .str "hex_int" 368] 0, #[]⟩
noncomputable def hB.o_106 : Params → Obj := fun P => ⟨.type "tuple", .none, .seq #[] 0, #[]⟩
noncomputable def hB.o_107 : Params → Obj := fun P => bare (hB.o_109 P)
noncomputable def hB.o_108 : Params → Obj := fun P => ⟨.type "code", .none, .fields #[.str "parse_hex_char" 361, .str "parse_hex_char" 362, .str "/claim/cut.py" 363, .int 11 0, .int 3 0, .int 0 0, .int 0 0, .int 3 0, .ref 56, .bool .true, .int 276 0, .ref 57, .none, .ref 58, .ref 59, .ref 60, .int 369 0, .int 11 0, .str "/claim/cut.py" 370], #[]⟩
noncomputable def hB.o_110 : Params → Obj := fun P => ⟨.type "tuple", .none, .seq #[] 0, #[]⟩
noncomputable def hB.o_111 : Params → Obj := hB.o_49
noncomputable def hB.o_112 : Params → Obj := fun P => ⟨.type "tuple", .none, .seq #[.str "src" 375, .str "pos" 376, .str "msg" 377, .str "coord_repr" 378] 0, #[]⟩
noncomputable def hB.o_113 : Params → Obj := fun P => ⟨.type "tuple", .none, .seq #[] 0, #[]⟩
noncomputable def hB.o_114 : Params → Obj := fun P => bare (hB.o_116 P)
noncomputable def hB.o_115 : Params → Obj := fun P => ⟨.type "code", .none, .fields #[.str "suffixed_err" 372, .str "suffixed_err" 373, .str "/claim/cut.py" 374, .int 20 0, .int 3 0, .int 0 0, .int 0 0, .int 3 0, .ref 63, .bool .true, .int 276 0, .ref 64, .none, .ref 65, .ref 66, .ref 67, .int 379 0, .int 20 0, .str "/claim/cut.py" 380], #[]⟩
noncomputable def hB.o_117 : Params → Obj := fun P => ⟨.type "tuple", .none, .seq #[] 0, #[]⟩
noncomputable def hB.o_118 : Params → Obj := hB.o_49
noncomputable def hB.o_119 : Params → Obj := fun P => ⟨.type "tuple", .none, .seq #[.str "codepoint" 385] 0, #[]⟩
noncomputable def hB.o_120 : Params → Obj := fun P => ⟨.type "tuple", .none, .seq #[] 0, #[]⟩
noncomputable def hB.o_121 : Params → Obj := fun P => bare (hB.o_123 P)
noncomputable def hB.o_122 : Params → Obj := fun P => ⟨.type "code", .none, .fields #[.str "is_unicode_scalar_value" 382, .str "is_unicode_scalar_value" 383, .str "/claim/cut.py" 384, .int 32 0, .int 1 0, .int 0 0, .int 0 0, .int 3 0, .ref 70, .bool .true, .int 276 0, .ref 71, .none, .ref 72, .ref 73, .ref 74, .int 386 0, .int 32 0, .str "/claim/cut.py" 387], #[]⟩
noncomputable def hB.o_124 : Params → Obj := fun P => ⟨.type "list", .none, .seq #[.int 14 394, .int 12 395, .int 4 396, .int 1 397, .int 1 398, .int 21 399, .int 22 400, .int 48 401, .int 57 402, .int 22 403, .int 65 404, .int 70 405, .int 0 406, .int 13 407, .int 9 408, .int 21 409, .int 22 410, .int 48 411, .int 57 412, .int 22 413, .int 65 414, .int 70 415, .int 0 416, .int 1 417] 0, #[]⟩
noncomputable def hB.o_125 : Params → Obj := hB.o_47
noncomputable def hB.o_126 : Params → Obj := fun P => ⟨.type "tuple", .none, .seq #[.none] 0, #[]⟩
noncomputable def hB.o_127 : Params → Obj := fun P => ⟨.type "tuple", .none, .seq #[.int 14 0, .int 12 0, .int 4 0, .int 1 0, .int 1 0, .int 21 0, .int 22 0, .int 48 0, .int 57 0, .int 22 0, .int 65 0, .int 70 0, .int 0 0, .int 13 0, .int 9 0, .int 21 0, .int 22 0, .int 48 0, .int 57 0, .int 22 0, .int 65 0, .int 70 0, .int 0 0, .int 1 0] 0, #[]⟩
noncomputable def hB.o_128 : Params → Obj := fun P => ⟨.type "re.Pattern", .none, .fields #[.bytes #[91, 94, 48, 45, 57, 65, 45, 70, 93] 392, .int 0 419, .int 0 0, .none, .none, .ref 80, .int 1 0], #[]⟩
noncomputable def hB.o_129 : Params → Obj := fun P => ⟨.type "tuple", .none, .seq #[.type "bytes", .type "bytearray"] 0, #[]⟩
noncomputable def hB.o_130 : Params → Obj := fun P => ⟨.type "dict", .none, .dict #[⟨PyData.keyHash P "__name__", .str "__name__" 165, .str "binascii" 429⟩, ⟨PyData.keyHash P "__doc__", .str "__doc__" 166, .none⟩, ⟨PyData.keyHash P "__package__", .str "__package__" 167, .none⟩, ⟨PyData.keyHash P "__loader__", .str "__loader__" 168, .builtin "__main__.__loader__#\x6fpaque"⟩, ⟨PyData.keyHash P "__spec__", .str "__spec__" 169, .none⟩, ⟨PyData.keyHash P "__annotations__", .str "__annotations__" 170, .ref 6⟩, ⟨PyData.keyHash P "__builtins__", .str "__builtins__" 171, .ref 4⟩, ⟨PyData.keyHash P "__file__", .str "__file__" 173, .str "/claim/cut.py" 172⟩, ⟨PyData.keyHash P "__cached__", .str "__cached__" 174, .none⟩, ⟨PyData.keyHash P "_sre", .str "_sre" 275, .ref 12⟩, ⟨PyData.keyHash P "_wall", .str "_wall" 288, .ref 38⟩, ⟨PyData.keyHash P "digits", .str "digits" 290, .str "0123456789" 289⟩, ⟨PyData.keyHash P "hexdigits", .str "hexdigits" 295, .str "0123456789abcdefABCDEF" 294⟩, ⟨PyData.keyHash P "HEXDIGIT_CHARS", .str "HEXDIGIT_CHARS" 342, .ref 39⟩, ⟨PyData.keyHash P "TOMLDecodeError", .str "TOMLDecodeError" 360, .ref 52⟩, ⟨PyData.keyHash P "parse_hex_char", .str "parse_hex_char" 371, .ref 62⟩, ⟨PyData.keyHash P "suffixed_err", .str "suffixed_err" 381, .ref 69⟩, ⟨PyData.keyHash P "is_unicode_scalar_value", .str "is_unicode_scalar_value" 388, .ref 76⟩, ⟨PyData.keyHash P "twin_re_1_base64", .str "twin_re_1_base64" 420, .ref 81⟩, ⟨PyData.keyHash P "bytes_types", .str "bytes_types" 421, .ref 82⟩, ⟨PyData.keyHash P "_bytes_from_decode_data", .str "_bytes_from_decode_data" 428, .ref 89⟩, ⟨PyData.keyHash P "Error", .str "Error" 448, .ref 99⟩, ⟨PyData.keyHash P "_ascii_buffer", .str "_ascii_buffer" 456, .ref 109⟩, ⟨PyData.keyHash P "_buffer", .str "_buffer" 464, .ref 116⟩, ⟨PyData.keyHash P "_truth", .str "_truth" 472, .ref 123⟩, ⟨PyData.keyHash P "_B64", .str "_B64" 474, .bytes #[65, 66, 67, 68, 69, 70, 71, 72, 73, 74, 75, 76, 77, 78, 79, 80, 81, 82, 83, 84, 85, 86, 87, 88, 89, 90, 97, 98, 99, 100, 101, 102, 103, 104, 105, 106, 107, 108, 109, 110, 111, 112, 113, 114, 115, 116, 117, 118, 119, 120, 121, 122, 48, 49, 50, 51, 52, 53, 54, 55, 56, 57, 43, 47] 473⟩, ⟨PyData.keyHash P "b2a_base64", .str "b2a_base64" 488, .ref 131⟩, ⟨PyData.keyHash P "_NO_SEP", .str "_NO_SEP" 489, .ref 132⟩] 28, #[]⟩
noncomputable def hB.o_131 : Params → Obj := fun P => ⟨.none, .none, .fields #[.int 2 0, .int 0 0, .ref 37, .int 9 0, .int 0 0, .ref 48, .int 11 0, .int 0 0, .ref 61, .int 20 0, .int 0 0, .ref 68, .int 32 0, .int 0 0, .ref 75, .int 37 0, .int 0 0, .ref 88, .int 50 0, .int 0 0, .ref 95, .int 52 0, .int 0 0, .ref 108, .int 63 0, .int 0 0, .ref 115, .int 70 0, .int 0 0, .ref 122, .int 76 0, .int 0 0, .ref 130], #[]⟩
noncomputable def hB.o_132 : Params → Obj := fun P => ⟨.type "tuple", .none, .seq #[] 0, #[]⟩
noncomputable def hB.o_133 : Params → Obj := hB.o_49
noncomputable def hB.o_134 : Params → Obj := fun P => ⟨.type "tuple", .none, .seq #[.str "s" 425] 0, #[]⟩
noncomputable def hB.o_135 : Params → Obj := fun P => ⟨.type "tuple", .none, .seq #[] 0, #[]⟩
noncomputable def hB.o_136 : Params → Obj := fun P => bare (hB.o_138 P)
noncomputable def hB.o_137 : Params → Obj := fun P => ⟨.type "code", .none, .fields #[.str "_bytes_from_decode_data" 422, .str "_bytes_from_decode_data" 423, .str "/claim/cut.py" 424, .int 37 0, .int 1 0, .int 0 0, .int 0 0, .int 3 0, .ref 83, .bool .true, .int 276 0, .ref 84, .none, .ref 85, .ref 86, .ref 87, .int 426 0, .int 37 0, .str "/claim/cut.py" 427], #[]⟩
noncomputable def hB.o_139 : Params → Obj := fun P => ⟨.type "tuple", .none, .seq #[.type "ValueError"] 0, #[]⟩
noncomputable def hB.o_140 : Params → Obj := hB.o_91
noncomputable def hB.o_141 : Params → Obj := fun P => ⟨.type "dict", .none, .dict #[⟨PyData.keyHash P "__module__", .str "__module__" 438, .str "binascii" 429⟩, ⟨PyData.keyHash P "__qualname__", .str "__qualname__" 440, .str "Error" 439⟩, ⟨PyData.keyHash P "__firstlineno__", .str "__firstlineno__" 442, .int 50 441⟩, ⟨PyData.keyHash P "__static_attributes__", .str "__static_attributes__" 443, .ref 97⟩] 4, #[]⟩
noncomputable def hB.o_142 : Params → Obj := hB.o_48
noncomputable def hB.o_143 : Params → Obj := hB.o_49
noncomputable def hB.o_144 : Params → Obj := fun P => ⟨.type "code", .none, .fields #[.str "Error" 433, .str "Error" 434, .str "/claim/cut.py" 435, .int 50 0, .int 0 0, .int 0 0, .int 0 0, .int 0 0, .ref 93, .bool .false, .int 276 0, .ref 94, .none, .none, .none, .none, .int 436 0, .int 50 0, .str "/claim/cut.py" 437], #[]⟩
noncomputable def hB.o_145 : Params → Obj := fun P => ⟨.type "frame", .none, .plain, #[.some (.ref 95), .some (.ref 3), .some (.ref 92), .none, .some (.str "binascii" 429), .none, .some (.ref 0)]⟩
noncomputable def hB.o_146 : Params → Obj := fun P => ⟨.type "tuple", .none, .seq #[] 0, #[]⟩
noncomputable def hB.o_147 : Params → Obj := fun P => ⟨.type "dict", .none, .dict #[⟨PyData.keyHash P "__module__", .str "__module__" 438, .str "binascii" 429⟩, ⟨PyData.keyHash P "__firstlineno__", .str "__firstlineno__" 442, .int 50 441⟩, ⟨PyData.keyHash P "__static_attributes__", .str "__static_attributes__" 443, .ref 97⟩, ⟨PyData.keyHash P "__weakref__", .str "__weakref__" 445, .ref 100⟩, ⟨PyData.keyHash P "__doc__", .str "__doc__" 446, .none⟩] 3, #[]⟩
noncomputable def hB.o_148 : Params → Obj := fun P => ⟨.type "type", .none, .cls ⟨"Error", [.type "ValueError"], [.ref 99, .type "ValueError", .type "Exception", .type "BaseException", .type "object"], 98, "Error", .true, [], [], .false, .none, .false⟩, #[.some (.ref 90), .none, .some (.str "Error" 431), .some (.str "Error" 439), .some (.builtin "ValueError.__new__"), .some (.bool .true)]⟩
noncomputable def hB.o_149 : Params → Obj := fun P => ⟨.type "getset_descriptor", .none, .fields #[.str "__weakref__" 444, .ref 99, .builtin "ExceptionGroup.__weakref__", .none], #[]⟩
noncomputable def hB.o_150 : Params → Obj := fun P => ⟨.type "super", .none, .fields #[.ref 99, .ref 99, .ref 99], #[]⟩
noncomputable def hB.o_151 : Params → Obj := fun P => ⟨.type "builtin_function_or_method", .none, .fields #[.builtin "object.__init_subclass__", .ref 99], #[]⟩
noncomputable def hB.o_152 : Params → Obj := fun P => ⟨.type "tuple", .none, .seq #[] 0, #[]⟩
noncomputable def hB.o_153 : Params → Obj := hB.o_49
noncomputable def hB.o_154 : Params → Obj := fun P => ⟨.type "tuple", .none, .seq #[.str "data" 452, .str "t" 453] 0, #[]⟩
noncomputable def hB.o_155 : Params → Obj := fun P => ⟨.type "tuple", .none, .seq #[] 0, #[]⟩
noncomputable def hB.o_156 : Params → Obj := fun P => bare (hB.o_158 P)
noncomputable def hB.o_157 : Params → Obj := fun P => ⟨.type "code", .none, .fields #[.str "_ascii_buffer" 449, .str "_ascii_buffer" 450, .str "/claim/cut.py" 451, .int 52 0, .int 1 0, .int 0 0, .int 0 0, .int 3 0, .ref 103, .bool .true, .int 276 0, .ref 104, .none, .ref 105, .ref 106, .ref 107, .int 454 0, .int 52 0, .str "/claim/cut.py" 455], #[]⟩
noncomputable def hB.o_159 : Params → Obj := fun P => ⟨.type "tuple", .none, .seq #[] 0, #[]⟩
noncomputable def hB.o_160 : Params → Obj := hB.o_49
noncomputable def hB.o_161 : Params → Obj := fun P => ⟨.type "tuple", .none, .seq #[.str "data" 460, .str "t" 461] 0, #[]⟩
noncomputable def hB.o_162 : Params → Obj := fun P => ⟨.type "tuple", .none, .seq #[] 0, #[]⟩
noncomputable def hB.o_163 : Params → Obj := fun P => bare (hB.o_165 P)
noncomputable def hB.o_164 : Params → Obj := fun P => ⟨.type "code", .none, .fields #[.str "_buffer" 457, .str "_buffer" 458, .str "/claim/cut.py" 459, .int 63 0, .int 1 0, .int 0 0, .int 0 0, .int 3 0, .ref 110, .bool .true, .int 276 0, .ref 111, .none, .ref 112, .ref 113, .ref 114, .int 462 0, .int 63 0, .str "/claim/cut.py" 463], #[]⟩
noncomputable def hB.o_166 : Params → Obj := fun P => ⟨.type "tuple", .none, .seq #[] 0, #[]⟩
noncomputable def hB.o_167 : Params → Obj := hB.o_49
noncomputable def hB.o_168 : Params → Obj := fun P => ⟨.type "tuple", .none, .seq #[.str "x" 468, .str "t" 469] 0, #[]⟩
noncomputable def hB.o_169 : Params → Obj := fun P => ⟨.type "tuple", .none, .seq #[] 0, #[]⟩
noncomputable def hB.o_170 : Params → Obj := fun P => bare (hB.o_172 P)
noncomputable def hB.o_171 : Params → Obj := fun P => ⟨.type "code", .none, .fields #[.str "_truth" 465, .str "_truth" 466, .str "/claim/cut.py" 467, .int 70 0, .int 1 0, .int 0 0, .int 0 0, .int 3 0, .ref 117, .bool .true, .int 276 0, .ref 118, .none, .ref 119, .ref 120, .ref 121, .int 470 0, .int 70 0, .str "/claim/cut.py" 471], #[]⟩
noncomputable def hB.o_173 : Params → Obj := fun P => ⟨.type "dict", .none, .dict #[⟨PyData.keyHash P "newline", .str "newline" 475, .bool .true⟩] 1, #[]⟩
noncomputable def hB.o_174 : Params → Obj := fun P => ⟨.type "tuple", .none, .seq #[] 0, #[]⟩
noncomputable def hB.o_175 : Params → Obj := hB.o_49
noncomputable def hB.o_176 : Params → Obj := fun P => ⟨.type "tuple", .none, .seq #[.str "data" 479, .str "newline" 480, .str "bin_data" 481, .str "out" 482, .str "leftbits" 483, .str "leftchar" 484, .str "b" 485] 0, #[]⟩
noncomputable def hB.o_177 : Params → Obj := fun P => ⟨.type "tuple", .none, .seq #[] 0, #[]⟩
noncomputable def hB.o_178 : Params → Obj := fun P => bare (hB.o_180 P)
noncomputable def hB.o_179 : Params → Obj := fun P => ⟨.type "code", .none, .fields #[.str "b2a_base64" 476, .str "b2a_base64" 477, .str "/claim/cut.py" 478, .int 76 0, .int 1 0, .int 1 0, .int 1 0, .int 3 0, .ref 125, .bool .true, .int 276 0, .ref 126, .none, .ref 127, .ref 128, .ref 129, .int 486 0, .int 76 0, .str "/claim/cut.py" 487], #[]⟩
noncomputable def hB.o_181 : Params → Obj := fun P => ⟨.type "object", .none, .plain, #[]⟩
noncomputable def hB.o_182 : Params → Obj := fun P => ⟨.type "dict", .none, .dict #[⟨PyData.keyHash P "__name__", .str "__name__" 165, .str "re" 587⟩, ⟨PyData.keyHash P "__doc__", .str "__doc__" 166, .none⟩, ⟨PyData.keyHash P "__package__", .str "__package__" 167, .none⟩, ⟨PyData.keyHash P "__loader__", .str "__loader__" 168, .builtin "__main__.__loader__#\x6fpaque"⟩, ⟨PyData.keyHash P "__spec__", .str "__spec__" 169, .none⟩, ⟨PyData.keyHash P "__annotations__", .str "__annotations__" 170, .ref 6⟩, ⟨PyData.keyHash P "__builtins__", .str "__builtins__" 171, .ref 4⟩, ⟨PyData.keyHash P "__file__", .str "__file__" 173, .str "/claim/cut.py" 172⟩, ⟨PyData.keyHash P "__cached__", .str "__cached__" 174, .none⟩, ⟨PyData.keyHash P "_sre", .str "_sre" 275, .ref 12⟩, ⟨PyData.keyHash P "_wall", .str "_wall" 288, .ref 38⟩, ⟨PyData.keyHash P "digits", .str "digits" 290, .str "0123456789" 289⟩, ⟨PyData.keyHash P "hexdigits", .str "hexdigits" 295, .str "0123456789abcdefABCDEF" 294⟩, ⟨PyData.keyHash P "HEXDIGIT_CHARS", .str "HEXDIGIT_CHARS" 342, .ref 39⟩, ⟨PyData.keyHash P "TOMLDecodeError", .str "TOMLDecodeError" 360, .ref 52⟩, ⟨PyData.keyHash P "parse_hex_char", .str "parse_hex_char" 371, .ref 62⟩, ⟨PyData.keyHash P "suffixed_err", .str "suffixed_err" 381, .ref 69⟩, ⟨PyData.keyHash P "is_unicode_scalar_value", .str "is_unicode_scalar_value" 388, .ref 76⟩, ⟨PyData.keyHash P "twin_re_1_base64", .str "twin_re_1_base64" 420, .ref 81⟩, ⟨PyData.keyHash P "bytes_types", .str "bytes_types" 421, .ref 82⟩, ⟨PyData.keyHash P "_bytes_from_decode_data", .str "_bytes_from_decode_data" 428, .ref 89⟩, ⟨PyData.keyHash P "Error", .str "Error" 448, .ref 99⟩, ⟨PyData.keyHash P "_ascii_buffer", .str "_ascii_buffer" 456, .ref 109⟩, ⟨PyData.keyHash P "_buffer", .str "_buffer" 464, .ref 116⟩, ⟨PyData.keyHash P "_truth", .str "_truth" 472, .ref 123⟩, ⟨PyData.keyHash P "_B64", .str "_B64" 474, .bytes #[65, 66, 67, 68, 69, 70, 71, 72, 73, 74, 75, 76, 77, 78, 79, 80, 81, 82, 83, 84, 85, 86, 87, 88, 89, 90, 97, 98, 99, 100, 101, 102, 103, 104, 105, 106, 107, 108, 109, 110, 111, 112, 113, 114, 115, 116, 117, 118, 119, 120, 121, 122, 48, 49, 50, 51, 52, 53, 54, 55, 56, 57, 43, 47] 473⟩, ⟨PyData.keyHash P "b2a_base64", .str "b2a_base64" 488, .ref 131⟩, ⟨PyData.keyHash P "_NO_SEP", .str "_NO_SEP" 489, .ref 132⟩, ⟨PyData.keyHash P "b2a_hex", .str "b2a_hex" 500, .ref 140⟩, ⟨PyData.keyHash P "hexlify", .str "hexlify" 501, .ref 140⟩, ⟨PyData.keyHash P "_hex_value", .str "_hex_value" 508, .ref 147⟩, ⟨PyData.keyHash P "a2b_hex", .str "a2b_hex" 521, .ref 154⟩, ⟨PyData.keyHash P "unhexlify", .str "unhexlify" 522, .ref 154⟩, ⟨PyData.keyHash P "b64encode", .str "b64encode" 533, .ref 162⟩, ⟨PyData.keyHash P "b16encode", .str "b16encode" 540, .ref 169⟩, ⟨PyData.keyHash P "b16decode", .str "b16decode" 548, .ref 177⟩, ⟨PyData.keyHash P "twin_re_1_fnmatch", .str "twin_re_1_fnmatch" 586, .ref 182⟩] 37, #[]⟩
noncomputable def hB.o_183 : Params → Obj := fun P => ⟨.none, .none, .fields #[.int 2 0, .int 0 0, .ref 37, .int 9 0, .int 0 0, .ref 48, .int 11 0, .int 0 0, .ref 61, .int 20 0, .int 0 0, .ref 68, .int 32 0, .int 0 0, .ref 75, .int 37 0, .int 0 0, .ref 88, .int 50 0, .int 0 0, .ref 95, .int 52 0, .int 0 0, .ref 108, .int 63 0, .int 0 0, .ref 115, .int 70 0, .int 0 0, .ref 122, .int 76 0, .int 0 0, .ref 130, .int 99 0, .int 0 0, .ref 139, .int 116 0, .int 0 0, .ref 146, .int 124 0, .int 0 0, .ref 153, .int 141 0, .int 0 0, .ref 161, .int 147 0, .int 0 0, .ref 168, .int 149 0, .int 0 0, .ref 176], #[]⟩
noncomputable def hB.o_184 : Params → Obj := fun P => ⟨.type "tuple", .none, .seq #[.ref 132, .int 1 490] 0, #[]⟩
noncomputable def hB.o_185 : Params → Obj := fun P => ⟨.type "tuple", .none, .seq #[] 0, #[]⟩
noncomputable def hB.o_186 : Params → Obj := hB.o_49
noncomputable def hB.o_187 : Params → Obj := fun P => ⟨.type "tuple", .none, .seq #[.str "data" 494, .str "sep" 495, .str "bytes_per_sep" 496, .str "t" 497] 0, #[]⟩
noncomputable def hB.o_188 : Params → Obj := fun P => ⟨.type "tuple", .none, .seq #[] 0, #[]⟩
noncomputable def hB.o_189 : Params → Obj := fun P => bare (hB.o_191 P)
noncomputable def hB.o_190 : Params → Obj := fun P => ⟨.type "code", .none, .fields #[.str "b2a_hex" 491, .str "b2a_hex" 492, .str "/claim/cut.py" 493, .int 99 0, .int 3 0, .int 0 0, .int 0 0, .int 3 0, .ref 134, .bool .true, .int 276 0, .ref 135, .none, .ref 136, .ref 137, .ref 138, .int 498 0, .int 99 0, .str "/claim/cut.py" 499], #[]⟩
noncomputable def hB.o_192 : Params → Obj := fun P => ⟨.type "tuple", .none, .seq #[] 0, #[]⟩
noncomputable def hB.o_193 : Params → Obj := hB.o_49
noncomputable def hB.o_194 : Params → Obj := fun P => ⟨.type "tuple", .none, .seq #[.str "c" 505] 0, #[]⟩
noncomputable def hB.o_195 : Params → Obj := fun P => ⟨.type "tuple", .none, .seq #[] 0, #[]⟩
noncomputable def hB.o_196 : Params → Obj := fun P => bare (hB.o_198 P)
noncomputable def hB.o_197 : Params → Obj := fun P => ⟨.type "code", .none, .fields #[.str "_hex_value" 502, .str "_hex_value" 503, .str "/claim/cut.py" 504, .int 116 0, .int 1 0, .int 0 0, .int 0 0, .int 3 0, .ref 141, .bool .true, .int 276 0, .ref 142, .none, .ref 143, .ref 144, .ref 145, .int 506 0, .int 116 0, .str "/claim/cut.py" 507], #[]⟩
noncomputable def hB.o_199 : Params → Obj := fun P => ⟨.type "tuple", .none, .seq #[] 0, #[]⟩
noncomputable def hB.o_200 : Params → Obj := hB.o_49
noncomputable def hB.o_201 : Params → Obj := fun P => ⟨.type "tuple", .none, .seq #[.str "hexstr" 512, .str "argbuf" 513, .str "arglen" 514, .str "out" 515, .str "i" 516, .str "top" 517, .str "bot" 518] 0, #[]⟩
noncomputable def hB.o_202 : Params → Obj := fun P => ⟨.type "tuple", .none, .seq #[] 0, #[]⟩
noncomputable def hB.o_203 : Params → Obj := fun P => bare (hB.o_205 P)
noncomputable def hB.o_204 : Params → Obj := fun P => ⟨.type "code", .none, .fields #[.str "a2b_hex" 509, .str "a2b_hex" 510, .str "/claim/cut.py" 511, .int 124 0, .int 1 0, .int 1 0, .int 0 0, .int 3 0, .ref 148, .bool .true, .int 276 0, .ref 149, .none, .ref 150, .ref 151, .ref 152, .int 519 0, .int 124 0, .str "/claim/cut.py" 520], #[]⟩
noncomputable def hB.o_206 : Params → Obj := fun P => ⟨.type "tuple", .none, .seq #[.none] 0, #[]⟩
noncomputable def hB.o_207 : Params → Obj := fun P => ⟨.type "tuple", .none, .seq #[] 0, #[]⟩
noncomputable def hB.o_208 : Params → Obj := hB.o_49
noncomputable def hB.o_209 : Params → Obj := fun P => ⟨.type "tuple", .none, .seq #[.str "s" 528, .str "altchars" 529, .str "encoded" 530] 0, #[]⟩
noncomputable def hB.o_210 : Params → Obj := fun P => ⟨.type "tuple", .none, .seq #[] 0, #[]⟩
noncomputable def hB.o_211 : Params → Obj := fun P => bare (hB.o_213 P)
noncomputable def hB.o_212 : Params → Obj := fun P => ⟨.type "code", .none, .fields #[.str "b64encode" 525, .str "b64encode" 526, .str "/claim/cut.py" 527, .int 141 0, .int 2 0, .int 0 0, .int 0 0, .int 3 0, .ref 156, .bool .true, .int 276 0, .ref 157, .none, .ref 158, .ref 159, .ref 160, .int 531 0, .int 141 0, .str "/claim/cut.py" 532], #[]⟩
noncomputable def hB.o_214 : Params → Obj := fun P => ⟨.type "tuple", .none, .seq #[] 0, #[]⟩
noncomputable def hB.o_215 : Params → Obj := hB.o_49
noncomputable def hB.o_216 : Params → Obj := fun P => ⟨.type "tuple", .none, .seq #[.str "s" 537] 0, #[]⟩
noncomputable def hB.o_217 : Params → Obj := fun P => ⟨.type "tuple", .none, .seq #[] 0, #[]⟩
noncomputable def hB.o_218 : Params → Obj := fun P => bare (hB.o_220 P)
noncomputable def hB.o_219 : Params → Obj := fun P => ⟨.type "code", .none, .fields #[.str "b16encode" 534, .str "b16encode" 535, .str "/claim/cut.py" 536, .int 147 0, .int 1 0, .int 0 0, .int 0 0, .int 3 0, .ref 163, .bool .true, .int 276 0, .ref 164, .none, .ref 165, .ref 166, .ref 167, .int 538 0, .int 147 0, .str "/claim/cut.py" 539], #[]⟩
noncomputable def hB.o_221 : Params → Obj := fun P => ⟨.type "tuple", .none, .seq #[.bool .false] 0, #[]⟩
noncomputable def hB.o_222 : Params → Obj := fun P => ⟨.type "tuple", .none, .seq #[] 0, #[]⟩
noncomputable def hB.o_223 : Params → Obj := hB.o_49
noncomputable def hB.o_224 : Params → Obj := fun P => ⟨.type "tuple", .none, .seq #[.str "s" 544, .str "casefold" 545] 0, #[]⟩
noncomputable def hB.o_225 : Params → Obj := fun P => ⟨.type "tuple", .none, .seq #[] 0, #[]⟩
noncomputable def hB.o_226 : Params → Obj := fun P => bare (hB.o_228 P)
noncomputable def hB.o_227 : Params → Obj := fun P => ⟨.type "code", .none, .fields #[.str "b16decode" 541, .str "b16decode" 542, .str "/claim/cut.py" 543, .int 149 0, .int 2 0, .int 0 0, .int 0 0, .int 3 0, .ref 171, .bool .true, .int 276 0, .ref 172, .none, .ref 173, .ref 174, .ref 175, .int 546 0, .int 149 0, .str "/claim/cut.py" 547], #[]⟩
noncomputable def hB.o_229 : Params → Obj := fun P => ⟨.type "list", .none, .seq #[.int 14 552, .int 14 553, .int 4 554, .int 1 555, .int 1 556, .int 9 557, .int 0 558, .int 64 559, .int 0 560, .int 1342177280 561, .int 0 562, .int 0 563, .int 0 564, .int 0 565, .int 0 566, .int 17 567, .int 0 568, .int 13 569, .int 11 570, .int 9 571, .int 0 572, .int 64 573, .int 0 574, .int 1342177280 575, .int 0 576, .int 0 577, .int 0 578, .int 0 579, .int 0 580, .int 17 581, .int 1 582, .int 1 583] 0, #[]⟩
noncomputable def hB.o_230 : Params → Obj := hB.o_47
noncomputable def hB.o_231 : Params → Obj := fun P => ⟨.type "tuple", .none, .seq #[.none, .none] 0, #[]⟩
noncomputable def hB.o_232 : Params → Obj := fun P => ⟨.type "tuple", .none, .seq #[.int 14 0, .int 14 0, .int 4 0, .int 1 0, .int 1 0, .int 9 0, .int 0 0, .int 64 0, .int 0 0, .int 1342177280 0, .int 0 0, .int 0 0, .int 0 0, .int 0 0, .int 0 0, .int 17 0, .int 0 0, .int 13 0, .int 11 0, .int 9 0, .int 0 0, .int 64 0, .int 0 0, .int 1342177280 0, .int 0 0, .int 0 0, .int 0 0, .int 0 0, .int 0 0, .int 17 0, .int 1 0, .int 1 0] 0, #[]⟩
noncomputable def hB.o_233 : Params → Obj := fun P => ⟨.type "re.Pattern", .none, .fields #[.str "([&~|])" 550, .int 32 585, .int 1 0, .none, .none, .ref 181, .int 0 0], #[]⟩
noncomputable def hB.o_234 : Params → Obj := fun P => ⟨.type "dict", .none, .dict #[⟨PyData.keyHash P "__name__", .str "__name__" 165, .str "re" 587⟩, ⟨PyData.keyHash P "__doc__", .str "__doc__" 166, .none⟩, ⟨PyData.keyHash P "__package__", .str "__package__" 167, .none⟩, ⟨PyData.keyHash P "__loader__", .str "__loader__" 168, .builtin "__main__.__loader__#\x6fpaque"⟩, ⟨PyData.keyHash P "__spec__", .str "__spec__" 169, .none⟩, ⟨PyData.keyHash P "__annotations__", .str "__annotations__" 170, .ref 6⟩, ⟨PyData.keyHash P "__builtins__", .str "__builtins__" 171, .ref 4⟩, ⟨PyData.keyHash P "__file__", .str "__file__" 173, .str "/claim/cut.py" 172⟩, ⟨PyData.keyHash P "__cached__", .str "__cached__" 174, .none⟩, ⟨PyData.keyHash P "_sre", .str "_sre" 275, .ref 12⟩, ⟨PyData.keyHash P "_wall", .str "_wall" 288, .ref 38⟩, ⟨PyData.keyHash P "digits", .str "digits" 290, .str "0123456789" 289⟩, ⟨PyData.keyHash P "hexdigits", .str "hexdigits" 295, .str "0123456789abcdefABCDEF" 294⟩, ⟨PyData.keyHash P "HEXDIGIT_CHARS", .str "HEXDIGIT_CHARS" 342, .ref 39⟩, ⟨PyData.keyHash P "TOMLDecodeError", .str "TOMLDecodeError" 360, .ref 52⟩, ⟨PyData.keyHash P "parse_hex_char", .str "parse_hex_char" 371, .ref 62⟩, ⟨PyData.keyHash P "suffixed_err", .str "suffixed_err" 381, .ref 69⟩, ⟨PyData.keyHash P "is_unicode_scalar_value", .str "is_unicode_scalar_value" 388, .ref 76⟩, ⟨PyData.keyHash P "twin_re_1_base64", .str "twin_re_1_base64" 420, .ref 81⟩, ⟨PyData.keyHash P "bytes_types", .str "bytes_types" 421, .ref 82⟩, ⟨PyData.keyHash P "_bytes_from_decode_data", .str "_bytes_from_decode_data" 428, .ref 89⟩, ⟨PyData.keyHash P "Error", .str "Error" 448, .ref 99⟩, ⟨PyData.keyHash P "_ascii_buffer", .str "_ascii_buffer" 456, .ref 109⟩, ⟨PyData.keyHash P "_buffer", .str "_buffer" 464, .ref 116⟩, ⟨PyData.keyHash P "_truth", .str "_truth" 472, .ref 123⟩, ⟨PyData.keyHash P "_B64", .str "_B64" 474, .bytes #[65, 66, 67, 68, 69, 70, 71, 72, 73, 74, 75, 76, 77, 78, 79, 80, 81, 82, 83, 84, 85, 86, 87, 88, 89, 90, 97, 98, 99, 100, 101, 102, 103, 104, 105, 106, 107, 108, 109, 110, 111, 112, 113, 114, 115, 116, 117, 118, 119, 120, 121, 122, 48, 49, 50, 51, 52, 53, 54, 55, 56, 57, 43, 47] 473⟩, ⟨PyData.keyHash P "b2a_base64", .str "b2a_base64" 488, .ref 131⟩, ⟨PyData.keyHash P "_NO_SEP", .str "_NO_SEP" 489, .ref 132⟩, ⟨PyData.keyHash P "b2a_hex", .str "b2a_hex" 500, .ref 140⟩, ⟨PyData.keyHash P "hexlify", .str "hexlify" 501, .ref 140⟩, ⟨PyData.keyHash P "_hex_value", .str "_hex_value" 508, .ref 147⟩, ⟨PyData.keyHash P "a2b_hex", .str "a2b_hex" 521, .ref 154⟩, ⟨PyData.keyHash P "unhexlify", .str "unhexlify" 522, .ref 154⟩, ⟨PyData.keyHash P "b64encode", .str "b64encode" 533, .ref 162⟩, ⟨PyData.keyHash P "b16encode", .str "b16encode" 540, .ref 169⟩, ⟨PyData.keyHash P "b16decode", .str "b16decode" 548, .ref 177⟩, ⟨PyData.keyHash P "twin_re_1_fnmatch", .str "twin_re_1_fnmatch" 586, .ref 182⟩, ⟨PyData.keyHash P "_special_chars_map", .str "_special_chars_map" 734, .ref 184⟩] 38, #[]⟩
noncomputable def hB.o_235 : Params → Obj := fun P => ⟨.type "bytes_iterator", .none, .fields #[.none, .int 24 0], #[]⟩
noncomputable def hB.o_236 : Params → Obj := fun P => ⟨.type "dict", .none, .dict #[⟨40, .int 40 590, .str "\\(" 594⟩, ⟨41, .int 41 596, .str "\\)" 600⟩, ⟨91, .int 91 602, .str "\\[" 606⟩, ⟨93, .int 93 608, .str "\\]" 612⟩, ⟨123, .int 123 614, .str "\\{" 618⟩, ⟨125, .int 125 620, .str "\\}" 624⟩, ⟨63, .int 63 626, .str "\\?" 630⟩, ⟨42, .int 42 632, .str "\\*" 636⟩, ⟨43, .int 43 638, .str "\\+" 642⟩, ⟨45, .int 45 644, .str "\\-" 648⟩, ⟨124, .int 124 650, .str "\\|" 654⟩, ⟨94, .int 94 656, .str "\\^" 660⟩, ⟨36, .int 36 662, .str "\\$" 666⟩, ⟨92, .int 92 668, .str "\\\\" 672⟩, ⟨46, .int 46 674, .str "\\." 678⟩, ⟨38, .int 38 680, .str "\\&" 684⟩, ⟨126, .int 126 686, .str "\\~" 690⟩, ⟨35, .int 35 692, .str "\\#" 696⟩, ⟨32, .int 32 698, .str "\\ " 702⟩, ⟨9, .int 9 704, .str "\\\t" 708⟩, ⟨10, .int 10 710, .str "\\\n" 714⟩, ⟨13, .int 13 716, .str "\\\x0d" 720⟩, ⟨11, .int 11 722, .str "\\\x0b" 726⟩, ⟨12, .int 12 728, .str "\\\x0c" 732⟩] 24, #[]⟩
noncomputable def hB.o_237 : Params → Obj := fun P => ⟨.type "dict", .none, .dict #[] 2, #[]⟩
noncomputable def hB.o_238 : Params → Obj := hB.o_48
noncomputable def hB.o_239 : Params → Obj := fun P => ⟨.type "StopIteration", .none, .fields #[.ref 186, .none, .none, .none, .bool .false, .none], #[]⟩
noncomputable def hB.o_278 : Params → Obj := fun P => ⟨.type "dict", .none, .dict #[⟨PyData.keyHash P "__name__", .str "__name__" 165, .str "law_in0263_01" 763⟩, ⟨PyData.keyHash P "__doc__", .str "__doc__" 166, .none⟩, ⟨PyData.keyHash P "__package__", .str "__package__" 167, .none⟩, ⟨PyData.keyHash P "__loader__", .str "__loader__" 168, .builtin "__main__.__loader__#\x6fpaque"⟩, ⟨PyData.keyHash P "__spec__", .str "__spec__" 169, .none⟩, ⟨PyData.keyHash P "__annotations__", .str "__annotations__" 170, .ref 6⟩, ⟨PyData.keyHash P "__builtins__", .str "__builtins__" 171, .ref 4⟩, ⟨PyData.keyHash P "__file__", .str "__file__" 173, .str "/claim/cut.py" 172⟩, ⟨PyData.keyHash P "__cached__", .str "__cached__" 174, .none⟩, ⟨PyData.keyHash P "_sre", .str "_sre" 275, .ref 12⟩, ⟨PyData.keyHash P "_wall", .str "_wall" 288, .ref 38⟩, ⟨PyData.keyHash P "digits", .str "digits" 290, .str "0123456789" 289⟩, ⟨PyData.keyHash P "hexdigits", .str "hexdigits" 295, .str "0123456789abcdefABCDEF" 294⟩, ⟨PyData.keyHash P "HEXDIGIT_CHARS", .str "HEXDIGIT_CHARS" 342, .ref 39⟩, ⟨PyData.keyHash P "TOMLDecodeError", .str "TOMLDecodeError" 360, .ref 52⟩, ⟨PyData.keyHash P "parse_hex_char", .str "parse_hex_char" 371, .ref 62⟩, ⟨PyData.keyHash P "suffixed_err", .str "suffixed_err" 381, .ref 69⟩, ⟨PyData.keyHash P "is_unicode_scalar_value", .str "is_unicode_scalar_value" 388, .ref 76⟩, ⟨PyData.keyHash P "twin_re_1_base64", .str "twin_re_1_base64" 420, .ref 81⟩, ⟨PyData.keyHash P "bytes_types", .str "bytes_types" 421, .ref 82⟩, ⟨PyData.keyHash P "_bytes_from_decode_data", .str "_bytes_from_decode_data" 428, .ref 89⟩, ⟨PyData.keyHash P "Error", .str "Error" 448, .ref 99⟩, ⟨PyData.keyHash P "_ascii_buffer", .str "_ascii_buffer" 456, .ref 109⟩, ⟨PyData.keyHash P "_buffer", .str "_buffer" 464, .ref 116⟩, ⟨PyData.keyHash P "_truth", .str "_truth" 472, .ref 123⟩, ⟨PyData.keyHash P "_B64", .str "_B64" 474, .bytes #[65, 66, 67, 68, 69, 70, 71, 72, 73, 74, 75, 76, 77, 78, 79, 80, 81, 82, 83, 84, 85, 86, 87, 88, 89, 90, 97, 98, 99, 100, 101, 102, 103, 104, 105, 106, 107, 108, 109, 110, 111, 112, 113, 114, 115, 116, 117, 118, 119, 120, 121, 122, 48, 49, 50, 51, 52, 53, 54, 55, 56, 57, 43, 47] 473⟩, ⟨PyData.keyHash P "b2a_base64", .str "b2a_base64" 488, .ref 131⟩, ⟨PyData.keyHash P "_NO_SEP", .str "_NO_SEP" 489, .ref 132⟩, ⟨PyData.keyHash P "b2a_hex", .str "b2a_hex" 500, .ref 140⟩, ⟨PyData.keyHash P "hexlify", .str "hexlify" 501, .ref 140⟩, ⟨PyData.keyHash P "_hex_value", .str "_hex_value" 508, .ref 147⟩, ⟨PyData.keyHash P "a2b_hex", .str "a2b_hex" 521, .ref 154⟩, ⟨PyData.keyHash P "unhexlify", .str "unhexlify" 522, .ref 154⟩, ⟨PyData.keyHash P "b64encode", .str "b64encode" 533, .ref 162⟩, ⟨PyData.keyHash P "b16encode", .str "b16encode" 540, .ref 169⟩, ⟨PyData.keyHash P "b16decode", .str "b16decode" 548, .ref 177⟩, ⟨PyData.keyHash P "twin_re_1_fnmatch", .str "twin_re_1_fnmatch" 586, .ref 182⟩, ⟨PyData.keyHash P "_special_chars_map", .str "_special_chars_map" 734, .ref 184⟩, ⟨PyData.keyHash P "escape", .str "escape" 741, .ref 194⟩, ⟨PyData.keyHash P "_translate", .str "_translate" 762, .ref 201⟩, ⟨PyData.keyHash P "_law_patterns", .str "_law_patterns" 771, .ref 208⟩, ⟨PyData.keyHash P "_law_takes", .str "_law_takes" 783, .ref 215⟩, ⟨PyData.keyHash P "_law_fits", .str "_law_fits" 792, .ref 222⟩, ⟨PyData.keyHash P "_law_text", .str "_law_text" 798, .ref 227⟩, ⟨PyData.keyHash P "_law_found", .str "_law_found" 807, .ref 234⟩, ⟨PyData.keyHash P "law", .str "law" 813, .ref 239⟩] 46, #[]⟩
noncomputable def hB.o_279 : Params → Obj := fun P => ⟨.none, .none, .fields #[.int 2 0, .int 0 0, .ref 37, .int 9 0, .int 0 0, .ref 48, .int 11 0, .int 0 0, .ref 61, .int 20 0, .int 0 0, .ref 68, .int 32 0, .int 0 0, .ref 75, .int 37 0, .int 0 0, .ref 88, .int 50 0, .int 0 0, .ref 95, .int 52 0, .int 0 0, .ref 108, .int 63 0, .int 0 0, .ref 115, .int 70 0, .int 0 0, .ref 122, .int 76 0, .int 0 0, .ref 130, .int 99 0, .int 0 0, .ref 139, .int 116 0, .int 0 0, .ref 146, .int 124 0, .int 0 0, .ref 153, .int 141 0, .int 0 0, .ref 161, .int 147 0, .int 0 0, .ref 168, .int 149 0, .int 0 0, .ref 176, .int 159 0, .int 0 0, .ref 193, .int 166 0, .int 0 0, .ref 200, .int 229 0, .int 0 0, .ref 207, .int 235 0, .int 0 0, .ref 214, .int 250 0, .int 0 0, .ref 221, .int 255 0, .int 0 0, .ref 226, .int 257 0, .int 0 0, .ref 233, .int 262 0, .int 0 0, .ref 238], #[]⟩
noncomputable def hB.o_280 : Params → Obj := fun P => ⟨.type "tuple", .none, .seq #[] 0, #[]⟩
noncomputable def hB.o_281 : Params → Obj := hB.o_49
noncomputable def hB.o_282 : Params → Obj := fun P => ⟨.type "tuple", .none, .seq #[.str "pattern" 738] 0, #[]⟩
noncomputable def hB.o_283 : Params → Obj := fun P => ⟨.type "tuple", .none, .seq #[] 0, #[]⟩
noncomputable def hB.o_284 : Params → Obj := fun P => bare (hB.o_286 P)
noncomputable def hB.o_285 : Params → Obj := fun P => ⟨.type "code", .none, .fields #[.str "escape" 735, .str "escape" 736, .str "/claim/cut.py" 737, .int 159 0, .int 1 0, .int 0 0, .int 0 0, .int 3 0, .ref 188, .bool .true, .int 276 0, .ref 189, .none, .ref 190, .ref 191, .ref 192, .int 739 0, .int 159 0, .str "/claim/cut.py" 740], #[]⟩
noncomputable def hB.o_287 : Params → Obj := fun P => ⟨.type "tuple", .none, .seq #[] 0, #[]⟩
noncomputable def hB.o_288 : Params → Obj := hB.o_49
noncomputable def hB.o_289 : Params → Obj := fun P => ⟨.type "tuple", .none, .seq #[.str "pat" 747, .str "STAR" 748, .str "QUESTION_MARK" 749, .str "res" 750, .str "add" 751, .str "i" 752, .str "n" 753, .str "c" 754, .str "j" 755, .str "stuff" 756, .str "chunks" 757, .str "k" 758, .str "chunk" 759] 0, #[]⟩
noncomputable def hB.o_290 : Params → Obj := fun P => ⟨.type "tuple", .none, .seq #[] 0, #[]⟩
noncomputable def hB.o_291 : Params → Obj := fun P => bare (hB.o_293 P)
noncomputable def hB.o_292 : Params → Obj := fun P => ⟨.type "code", .none, .fields #[.str "_translate" 744, .str "_translate" 745, .str "/claim/cut.py" 746, .int 166 0, .int 3 0, .int 0 0, .int 0 0, .int 3 0, .ref 195, .bool .true, .int 276 0, .ref 196, .none, .ref 197, .ref 198, .ref 199, .int 760 0, .int 166 0, .str "/claim/cut.py" 761], #[]⟩
noncomputable def hB.o_294 : Params → Obj := fun P => ⟨.type "tuple", .none, .seq #[] 0, #[]⟩
noncomputable def hB.o_295 : Params → Obj := hB.o_49
noncomputable def hB.o_296 : Params → Obj := fun P => ⟨.type "tuple", .none, .seq #[.str "dress" 768] 0, #[]⟩
noncomputable def hB.o_297 : Params → Obj := fun P => ⟨.type "tuple", .none, .seq #[] 0, #[]⟩
noncomputable def hB.o_298 : Params → Obj := fun P => bare (hB.o_300 P)
noncomputable def hB.o_299 : Params → Obj := fun P => ⟨.type "code", .none, .fields #[.str "_law_patterns" 765, .str "_law_patterns" 766, .str "/claim/cut.py" 767, .int 229 0, .int 1 0, .int 0 0, .int 0 0, .int 3 0, .ref 202, .bool .true, .int 276 0, .ref 203, .none, .ref 204, .ref 205, .ref 206, .int 769 0, .int 229 0, .str "/claim/cut.py" 770], #[]⟩
noncomputable def hB.o_301 : Params → Obj := fun P => ⟨.type "tuple", .none, .seq #[] 0, #[]⟩
noncomputable def hB.o_302 : Params → Obj := hB.o_49
noncomputable def hB.o_303 : Params → Obj := fun P => ⟨.type "tuple", .none, .seq #[.str "part" 775, .str "sign" 776, .str "barred" 777, .str "inner" 778, .str "held" 779, .str "k" 780] 0, #[]⟩
noncomputable def hB.o_304 : Params → Obj := fun P => ⟨.type "tuple", .none, .seq #[] 0, #[]⟩
noncomputable def hB.o_305 : Params → Obj := fun P => bare (hB.o_307 P)
noncomputable def hB.o_306 : Params → Obj := fun P => ⟨.type "code", .none, .fields #[.str "_law_takes" 772, .str "_law_takes" 773, .str "/claim/cut.py" 774, .int 235 0, .int 2 0, .int 0 0, .int 0 0, .int 3 0, .ref 209, .bool .true, .int 276 0, .ref 210, .none, .ref 211, .ref 212, .ref 213, .int 781 0, .int 235 0, .str "/claim/cut.py" 782], #[]⟩
noncomputable def hB.o_308 : Params → Obj := fun P => ⟨.type "tuple", .none, .seq #[] 0, #[]⟩
noncomputable def hB.o_309 : Params → Obj := hB.o_49
noncomputable def hB.o_310 : Params → Obj := fun P => ⟨.type "tuple", .none, .seq #[.str "parts" 787, .str "signs" 788, .str "k" 789] 0, #[]⟩
noncomputable def hB.o_311 : Params → Obj := fun P => ⟨.type "tuple", .none, .seq #[] 0, #[]⟩
noncomputable def hB.o_312 : Params → Obj := fun P => bare (hB.o_314 P)
noncomputable def hB.o_313 : Params → Obj := fun P => ⟨.type "code", .none, .fields #[.str "_law_fits" 784, .str "_law_fits" 785, .str "/claim/cut.py" 786, .int 250 0, .int 2 0, .int 0 0, .int 0 0, .int 3 0, .ref 216, .bool .true, .int 276 0, .ref 217, .none, .ref 218, .ref 219, .ref 220, .int 790 0, .int 250 0, .str "/claim/cut.py" 791], #[]⟩
noncomputable def hB.o_315 : Params → Obj := fun P => ⟨.type "tuple", .none, .seq #[] 0, #[]⟩
noncomputable def hB.o_316 : Params → Obj := hB.o_49
noncomputable def hB.o_317 : Params → Obj := fun P => bare (hB.o_319 P)
noncomputable def hB.o_318 : Params → Obj := fun P => ⟨.type "code", .none, .fields #[.str "_law_text" 793, .str "_law_text" 794, .str "/claim/cut.py" 795, .int 255 0, .int 1 0, .int 0 0, .int 0 0, .int 3 0, .ref 223, .bool .true, .int 276 0, .ref 224, .none, .none, .none, .ref 225, .int 796 0, .int 255 0, .str "/claim/cut.py" 797], #[]⟩
noncomputable def hB.o_320 : Params → Obj := fun P => ⟨.type "tuple", .none, .seq #[] 0, #[]⟩
noncomputable def hB.o_321 : Params → Obj := hB.o_49
noncomputable def hB.o_322 : Params → Obj := fun P => ⟨.type "tuple", .none, .seq #[.str "text" 802, .str "place" 803, .str "size" 804] 0, #[]⟩
noncomputable def hB.o_323 : Params → Obj := fun P => ⟨.type "tuple", .none, .seq #[] 0, #[]⟩
noncomputable def hB.o_324 : Params → Obj := fun P => bare (hB.o_326 P)
noncomputable def hB.o_325 : Params → Obj := fun P => ⟨.type "code", .none, .fields #[.str "_law_found" 799, .str "_law_found" 800, .str "/claim/cut.py" 801, .int 257 0, .int 3 0, .int 0 0, .int 0 0, .int 3 0, .ref 228, .bool .true, .int 276 0, .ref 229, .none, .ref 230, .ref 231, .ref 232, .int 805 0, .int 257 0, .str "/claim/cut.py" 806], #[]⟩
noncomputable def hB.o_327 : Params → Obj := fun P => ⟨.type "tuple", .none, .seq #[] 0, #[]⟩
noncomputable def hB.o_328 : Params → Obj := hB.o_49
noncomputable def hB.o_329 : Params → Obj := fun P => bare (hB.o_331 P)
noncomputable def hB.o_330 : Params → Obj := fun P => ⟨.type "code", .none, .fields #[.str "law" 808, .str "law" 809, .str "/claim/cut.py" 810, .int 262 0, .int 1 0, .int 0 0, .int 0 0, .int 3 0, .ref 235, .bool .true, .int 276 0, .ref 236, .none, .none, .none, .ref 237, .int 811 0, .int 262 0, .str "/claim/cut.py" 812], #[]⟩
noncomputable def hB.o_352 : Params → Obj := hB.o_41
noncomputable def hB.o_355 : Params → Obj := hB.o_45
noncomputable def hB.o_356 : Params → Obj := hB.o_46
noncomputable def hB.o_357 : Params → Obj := hB.o_47
noncomputable def hB.o_359 : Params → Obj := hB.o_48
noncomputable def hB.o_360 : Params → Obj := hB.o_49
noncomputable def hB.o_361 : Params → Obj := hB.o_50
noncomputable def hB.o_362 : Params → Obj := hB.o_51
noncomputable def hB.o_365 : Params → Obj := hB.o_53
noncomputable def hB.o_367 : Params → Obj := hB.o_55
noncomputable def hB.o_370 : Params → Obj := hB.o_48
noncomputable def hB.o_372 : Params → Obj := hB.o_54
noncomputable def hB.o_373 : Params → Obj := hB.o_57
noncomputable def hB.o_374 : Params → Obj := hB.o_58
noncomputable def hB.o_376 : Params → Obj := hB.o_60
noncomputable def hB.o_379 : Params → Obj := hB.o_63
noncomputable def hB.o_382 : Params → Obj := hB.o_64
noncomputable def hB.o_383 : Params → Obj := hB.o_59
noncomputable def hB.o_384 : Params → Obj := hB.o_62
noncomputable def hB.o_385 : Params → Obj := hB.o_65
noncomputable def hB.o_386 : Params → Obj := hB.o_66
noncomputable def hB.o_387 : Params → Obj := hB.o_67
noncomputable def hB.o_388 : Params → Obj := hB.o_42
noncomputable def hB.o_393 : Params → Obj := fun P => ⟨.none, .none, .dict #[⟨PyData.keyHash P ⟨#[105, 109, 112, 111, 114, 116, 46, 108, 111, 97, 100, 101, 100, 46, 95, 115, 114, 101]⟩, .str ⟨#[105, 109, 112, 111, 114, 116, 46, 108, 111, 97, 100, 101, 100, 46, 95, 115, 114, 101]⟩ 183, .bool .true⟩, ⟨PyData.keyHash P ⟨#[99, 108, 97, 115, 115, 46, 95, 102, 114, 111, 122, 101, 110, 95, 105, 109, 112, 111, 114, 116, 108, 105, 98, 46, 66, 117, 105, 108, 116, 105, 110, 73, 109, 112, 111, 114, 116, 101, 114]⟩, .str ⟨#[99, 108, 97, 115, 115, 46, 95, 102, 114, 111, 122, 101, 110, 95, 105, 109, 112, 111, 114, 116, 108, 105, 98, 46, 66, 117, 105, 108, 116, 105, 110, 73, 109, 112, 111, 114, 116, 101, 114]⟩ 185, .ref 14⟩, ⟨PyData.keyHash P ⟨#[119, 97, 116, 99, 104, 101, 100, 46, 105, 109, 112, 111, 114, 116]⟩, .str ⟨#[119, 97, 116, 99, 104, 101, 100, 46, 105, 109, 112, 111, 114, 116]⟩ 206, .ref 18⟩, ⟨PyData.keyHash P ⟨#[99, 108, 97, 115, 115, 46, 95, 102, 114, 111, 122, 101, 110, 95, 105, 109, 112, 111, 114, 116, 108, 105, 98, 46, 77, 111, 100, 117, 108, 101, 83, 112, 101, 99]⟩, .str ⟨#[99, 108, 97, 115, 115, 46, 95, 102, 114, 111, 122, 101, 110, 95, 105, 109, 112, 111, 114, 116, 108, 105, 98, 46, 77, 111, 100, 117, 108, 101, 83, 112, 101, 99]⟩ 216, .ref 22⟩, ⟨PyData.keyHash P ⟨#[115, 121, 115, 46, 109, 111, 100, 117, 108, 101, 115, 46, 98, 111, 111, 107, 101, 100, 45, 101, 112, 111, 99, 104]⟩, .str ⟨#[115, 121, 115, 46, 109, 111, 100, 117, 108, 101, 115, 46, 98, 111, 111, 107, 101, 100, 45, 101, 112, 111, 99, 104]⟩ 245, .int 3 0⟩, ⟨PyData.keyHash P ⟨#[105, 109, 112, 111, 114, 116, 46, 108, 97, 116, 101, 114, 45, 108, 97, 105, 100, 46, 95, 115, 114, 101]⟩, .str ⟨#[105, 109, 112, 111, 114, 116, 46, 108, 97, 116, 101, 114, 45, 108, 97, 105, 100, 46, 95, 115, 114, 101]⟩ 270, .bool .true⟩, ⟨PyData.keyHash P ⟨#[119, 97, 116, 99, 104, 101, 100, 46, 108, 105, 98, 114, 97, 114, 121]⟩, .str ⟨#[119, 97, 116, 99, 104, 101, 100, 46, 108, 105, 98, 114, 97, 114, 121]⟩ 272, .ref 27⟩, ⟨PyData.keyHash P ⟨#[119, 97, 116, 99, 104, 101, 100, 46, 108, 105, 98, 114, 97, 114, 121, 45, 111, 98, 106, 101, 99, 116, 115]⟩, .str ⟨#[119, 97, 116, 99, 104, 101, 100, 46, 108, 105, 98, 114, 97, 114, 121, 45, 111, 98, 106, 101, 99, 116, 115]⟩ 0, .str ⟨#[12]⟩ 0⟩, ⟨PyData.keyHash P ⟨#[119, 97, 116, 99, 104, 101, 100, 46, 108, 105, 98, 114, 97, 114, 121, 45, 100, 101, 101, 112, 46, 95, 115, 114, 101]⟩, .str ⟨#[119, 97, 116, 99, 104, 101, 100, 46, 108, 105, 98, 114, 97, 114, 121, 45, 100, 101, 101, 112, 46, 95, 115, 114, 101]⟩ 273, .str ⟨#[4, 0, 0, 11, 4, 0, 0, 11, 4, 0, 0, 3, 4, 0, 0, 11, 8, 4, 100, 105, 99, 116, 2]⟩ 0⟩] 9, #[]⟩
noncomputable def hB.o_394 : Params → Obj := fun P => ⟨.type SL.s14018661285674007319x4, .none, .dict #[⟨PyData.keyHash P ⟨#[95, 95, 110, 97, 109, 101, 95, 95]⟩, .str ⟨#[95, 95, 110, 97, 109, 101, 95, 95]⟩ 247, .str ⟨#[95, 115, 114, 101]⟩ 246⟩, ⟨PyData.keyHash P ⟨#[95, 95, 100, 111, 99, 95, 95]⟩, .str ⟨#[95, 95, 100, 111, 99, 95, 95]⟩ 248, .none⟩, ⟨PyData.keyHash P ⟨#[95, 95, 112, 97, 99, 107, 97, 103, 101, 95, 95]⟩, .str ⟨#[95, 95, 112, 97, 99, 107, 97, 103, 101, 95, 95]⟩ 250, .str ⟨#[]⟩ 249⟩, ⟨PyData.keyHash P ⟨#[95, 95, 108, 111, 97, 100, 101, 114, 95, 95]⟩, .str ⟨#[95, 95, 108, 111, 97, 100, 101, 114, 95, 95]⟩ 251, .ref 14⟩, ⟨PyData.keyHash P ⟨#[95, 95, 115, 112, 101, 99, 95, 95]⟩, .str ⟨#[95, 95, 115, 112, 101, 99, 95, 95]⟩ 252, .ref 26⟩, ⟨PyData.keyHash P ⟨#[99, 111, 109, 112, 105, 108, 101]⟩, .str ⟨#[99, 111, 109, 112, 105, 108, 101]⟩ 253, .builtin SL.s492968859115322481x12⟩, ⟨PyData.keyHash P ⟨#[116, 101, 109, 112, 108, 97, 116, 101]⟩, .str ⟨#[116, 101, 109, 112, 108, 97, 116, 101]⟩ 254, .builtin SL.s4732307381456220424x13⟩, ⟨PyData.keyHash P ⟨#[103, 101, 116, 99, 111, 100, 101, 115, 105, 122, 101]⟩, .str ⟨#[103, 101, 116, 99, 111, 100, 101, 115, 105, 122, 101]⟩ 255, .builtin SL.s3100639726926479615x16⟩, ⟨PyData.keyHash P ⟨#[97, 115, 99, 105, 105, 95, 105, 115, 99, 97, 115, 101, 100]⟩, .str ⟨#[97, 115, 99, 105, 105, 95, 105, 115, 99, 97, 115, 101, 100]⟩ 256, .builtin SL.s1824190863884607803x18⟩, ⟨PyData.keyHash P ⟨#[117, 110, 105, 99, 111, 100, 101, 95, 105, 115, 99, 97, 115, 101, 100]⟩, .str ⟨#[117, 110, 105, 99, 111, 100, 101, 95, 105, 115, 99, 97, 115, 101, 100]⟩ 257, .builtin SL.s15517275503517908518x20⟩, ⟨PyData.keyHash P ⟨#[97, 115, 99, 105, 105, 95, 116, 111, 108, 111, 119, 101, 114]⟩, .str ⟨#[97, 115, 99, 105, 105, 95, 116, 111, 108, 111, 119, 101, 114]⟩ 258, .builtin SL.s13462958993096105742x18⟩, ⟨PyData.keyHash P ⟨#[117, 110, 105, 99, 111, 100, 101, 95, 116, 111, 108, 111, 119, 101, 114]⟩, .str ⟨#[117, 110, 105, 99, 111, 100, 101, 95, 116, 111, 108, 111, 119, 101, 114]⟩ 259, .builtin SL.s7205697838950415266x20⟩, ⟨PyData.keyHash P ⟨#[77, 65, 71, 73, 67]⟩, .str ⟨#[77, 65, 71, 73, 67]⟩ 261, .int 20230612 260⟩, ⟨PyData.keyHash P ⟨#[67, 79, 68, 69, 83, 73, 90, 69]⟩, .str ⟨#[67, 79, 68, 69, 83, 73, 90, 69]⟩ 263, .int 4 262⟩, ⟨PyData.keyHash P ⟨#[77, 65, 88, 82, 69, 80, 69, 65, 84]⟩, .str ⟨#[77, 65, 88, 82, 69, 80, 69, 65, 84]⟩ 265, .int 4294967295 264⟩, ⟨PyData.keyHash P ⟨#[77, 65, 88, 71, 82, 79, 85, 80, 83]⟩, .str ⟨#[77, 65, 88, 71, 82, 79, 85, 80, 83]⟩ 267, .int 1073741823 266⟩, ⟨PyData.keyHash P ⟨#[99, 111, 112, 121, 114, 105, 103, 104, 116]⟩, .str ⟨#[99, 111, 112, 121, 114, 105, 103, 104, 116]⟩ 269, .str ⟨#[32, 83, 82, 69, 32, 50, 46, 50, 46, 50, 32, 67, 111, 112, 121, 114, 105, 103, 104, 116, 32, 40, 99, 41, 32, 49, 57, 57, 55, 45, 50, 48, 48, 50, 32, 98, 121, 32, 83, 101, 99, 114, 101, 116, 32, 76, 97, 98, 115, 32, 65, 66, 32]⟩ 268⟩] 17, #[]⟩
noncomputable def hB.o_395 : Params → Obj := hB.o_61
noncomputable def hB.o_396 : Params → Obj := hB.o_68
noncomputable def hB.o_397 : Params → Obj := hB.o_44
noncomputable def sA.o_1 : Params → Obj := hB.o_41
noncomputable def sA.o_2 : Params → Obj := hB.o_42
noncomputable def sA.o_3 : Params → Obj := hB.o_43
noncomputable def sA.o_5 : Params → Obj := hB.o_45
noncomputable def sA.o_6 : Params → Obj := hB.o_46
noncomputable def sA.o_7 : Params → Obj := hB.o_47
noncomputable def sA.o_8 : Params → Obj := hB.o_48
noncomputable def sA.o_9 : Params → Obj := hB.o_49
noncomputable def sA.o_10 : Params → Obj := hB.o_50
noncomputable def sA.o_11 : Params → Obj := hB.o_51
noncomputable def sA.o_12 : Params → Obj := hB.o_52
noncomputable def sA.o_13 : Params → Obj := hB.o_53
noncomputable def sA.o_14 : Params → Obj := hB.o_54
noncomputable def sA.o_15 : Params → Obj := hB.o_55
noncomputable def sA.o_16 : Params → Obj := hB.o_48
noncomputable def sA.o_17 : Params → Obj := hB.o_57
noncomputable def sA.o_18 : Params → Obj := hB.o_58
noncomputable def sA.o_19 : Params → Obj := hB.o_59
noncomputable def sA.o_20 : Params → Obj := hB.o_60
noncomputable def sA.o_21 : Params → Obj := hB.o_61
noncomputable def sA.o_22 : Params → Obj := hB.o_62
noncomputable def sA.o_23 : Params → Obj := hB.o_63
noncomputable def sA.o_24 : Params → Obj := hB.o_64
noncomputable def sA.o_25 : Params → Obj := hB.o_65
noncomputable def sA.o_26 : Params → Obj := hB.o_66
noncomputable def sA.o_27 : Params → Obj := hB.o_67
noncomputable def sA.o_28 : Params → Obj := hB.o_68
noncomputable def sA.o_29 : Params → Obj := hB.o_48
noncomputable def sA.o_31 : Params → Obj := hB.o_71
noncomputable def sA.o_32 : Params → Obj := hB.o_72
noncomputable def sA.o_33 : Params → Obj := fun P => ⟨.type "dict", .none, .dict #[⟨PyData.keyHash P "__name__", .str "__name__" 165, .str "cpy313.tomllib._parser" 296⟩, ⟨PyData.keyHash P "__doc__", .str "__doc__" 166, .none⟩, ⟨PyData.keyHash P "__package__", .str "__package__" 167, .none⟩, ⟨PyData.keyHash P "__loader__", .str "__loader__" 168, .builtin "__main__.__loader__#\x6fpaque"⟩, ⟨PyData.keyHash P "__spec__", .str "__spec__" 169, .none⟩, ⟨PyData.keyHash P "__annotations__", .str "__annotations__" 170, .ref 6⟩, ⟨PyData.keyHash P "__builtins__", .str "__builtins__" 171, .ref 4⟩, ⟨PyData.keyHash P "__file__", .str "__file__" 173, .str "/claim/cut.py" 172⟩, ⟨PyData.keyHash P "__cached__", .str "__cached__" 174, .none⟩, ⟨PyData.keyHash P "_sre", .str "_sre" 275, .ref 12⟩, ⟨PyData.keyHash P "_wall", .str "_wall" 288, .ref 38⟩, ⟨PyData.keyHash P "digits", .str "digits" 290, .str "0123456789" 289⟩, ⟨PyData.keyHash P "hexdigits", .str "hexdigits" 295, .str "0123456789abcdefABCDEF" 294⟩] 13, #[]⟩
noncomputable def sA.o_34 : Params → Obj := hB.o_76
noncomputable def sA.o_35 : Params → Obj := hB.o_48
noncomputable def sA.o_36 : Params → Obj := hB.o_49
noncomputable def sA.o_37 : Params → Obj := hB.o_79
noncomputable def sA.o_38 : Params → Obj := hB.o_48
noncomputable def sA.o_39 : Params → Obj := hB.o_81
noncomputable def sA.o_40 : Params → Obj := hB.o_82
noncomputable def hB.tree_73 : Params → BT := fun P => .node (hB.o_41 P) (.node (hB.o_42 P) (.node (hB.o_44 P) (.node (hB.o_48 P) (.node (hB.o_56 P) (.node (hB.o_72 P) .nil .nil) .nil) (.node (hB.o_64 P) .nil .nil)) (.node (hB.o_52 P) (.node (hB.o_60 P) .nil .nil) (.node (hB.o_68 P) .nil .nil))) (.node (hB.o_46 P) (.node (hB.o_50 P) (.node (hB.o_58 P) .nil .nil) (.node (hB.o_66 P) .nil .nil)) (.node (hB.o_54 P) (.node (hB.o_62 P) .nil .nil) (.node (hB.o_70 P) .nil .nil)))) (.node (hB.o_43 P) (.node (hB.o_45 P) (.node (hB.o_49 P) (.node (hB.o_57 P) .nil .nil) (.node (hB.o_65 P) .nil .nil)) (.node (hB.o_53 P) (.node (hB.o_61 P) .nil .nil) (.node (hB.o_69 P) .nil .nil))) (.node (hB.o_47 P) (.node (hB.o_51 P) (.node (hB.o_59 P) .nil .nil) (.node (hB.o_67 P) .nil .nil)) (.node (hB.o_55 P) (.node (hB.o_63 P) .nil .nil) (.node (hB.o_71 P) .nil .nil))))
noncomputable def hB.tree_87 : Params → BT := fun P => .node (hB.o_41 P) (.node (hB.o_42 P) (.node (hB.o_75 P) (.node (hB.o_48 P) (.node (hB.o_56 P) (.node (hB.o_72 P) .nil .nil) .nil) (.node (hB.o_64 P) (.node (hB.o_84 P) .nil .nil) .nil)) (.node (hB.o_52 P) (.node (hB.o_60 P) (.node (hB.o_80 P) .nil .nil) .nil) (.node (hB.o_68 P) .nil .nil))) (.node (hB.o_46 P) (.node (hB.o_50 P) (.node (hB.o_58 P) (.node (hB.o_78 P) .nil .nil) .nil) (.node (hB.o_66 P) (.node (hB.o_86 P) .nil .nil) .nil)) (.node (hB.o_54 P) (.node (hB.o_62 P) (.node (hB.o_82 P) .nil .nil) .nil) (.node (hB.o_76 P) .nil .nil)))) (.node (hB.o_43 P) (.node (hB.o_45 P) (.node (hB.o_49 P) (.node (hB.o_57 P) (.node (hB.o_77 P) .nil .nil) .nil) (.node (hB.o_65 P) (.node (hB.o_85 P) .nil .nil) .nil)) (.node (hB.o_53 P) (.node (hB.o_61 P) (.node (hB.o_81 P) .nil .nil) .nil) (.node (hB.o_69 P) .nil .nil))) (.node (hB.o_47 P) (.node (hB.o_51 P) (.node (hB.o_59 P) (.node (hB.o_79 P) .nil .nil) .nil) (.node (hB.o_67 P) (.node (hB.o_87 P) .nil .nil) .nil)) (.node (hB.o_55 P) (.node (hB.o_63 P) (.node (hB.o_83 P) .nil .nil) .nil) (.node (hB.o_71 P) .nil .nil))))
noncomputable def hB.tree_129 : Params → BT := fun P => .node (hB.o_41 P) (.node (hB.o_42 P) (.node (hB.o_88 P) (.node (hB.o_48 P) (.node (hB.o_56 P) (.node (hB.o_72 P) (.node (hB.o_110 P) .nil .nil) .nil) (.node (hB.o_94 P) (.node (hB.o_126 P) .nil .nil) .nil)) (.node (hB.o_64 P) (.node (hB.o_84 P) (.node (hB.o_118 P) .nil .nil) .nil) (.node (hB.o_102 P) .nil .nil))) (.node (hB.o_52 P) (.node (hB.o_60 P) (.node (hB.o_80 P) (.node (hB.o_114 P) .nil .nil) .nil) (.node (hB.o_98 P) .nil .nil)) (.node (hB.o_68 P) (.node (hB.o_90 P) (.node (hB.o_122 P) .nil .nil) .nil) (.node (hB.o_106 P) .nil .nil)))) (.node (hB.o_46 P) (.node (hB.o_50 P) (.node (hB.o_58 P) (.node (hB.o_78 P) (.node (hB.o_112 P) .nil .nil) .nil) (.node (hB.o_96 P) (.node (hB.o_128 P) .nil .nil) .nil)) (.node (hB.o_66 P) (.node (hB.o_86 P) (.node (hB.o_120 P) .nil .nil) .nil) (.node (hB.o_104 P) .nil .nil))) (.node (hB.o_54 P) (.node (hB.o_62 P) (.node (hB.o_82 P) (.node (hB.o_116 P) .nil .nil) .nil) (.node (hB.o_100 P) .nil .nil)) (.node (hB.o_89 P) (.node (hB.o_92 P) (.node (hB.o_124 P) .nil .nil) .nil) (.node (hB.o_108 P) .nil .nil))))) (.node (hB.o_43 P) (.node (hB.o_45 P) (.node (hB.o_49 P) (.node (hB.o_57 P) (.node (hB.o_77 P) (.node (hB.o_111 P) .nil .nil) .nil) (.node (hB.o_95 P) (.node (hB.o_127 P) .nil .nil) .nil)) (.node (hB.o_65 P) (.node (hB.o_85 P) (.node (hB.o_119 P) .nil .nil) .nil) (.node (hB.o_103 P) .nil .nil))) (.node (hB.o_53 P) (.node (hB.o_61 P) (.node (hB.o_81 P) (.node (hB.o_115 P) .nil .nil) .nil) (.node (hB.o_99 P) .nil .nil)) (.node (hB.o_69 P) (.node (hB.o_91 P) (.node (hB.o_123 P) .nil .nil) .nil) (.node (hB.o_107 P) .nil .nil)))) (.node (hB.o_47 P) (.node (hB.o_51 P) (.node (hB.o_59 P) (.node (hB.o_79 P) (.node (hB.o_113 P) .nil .nil) .nil) (.node (hB.o_97 P) (.node (hB.o_129 P) .nil .nil) .nil)) (.node (hB.o_67 P) (.node (hB.o_87 P) (.node (hB.o_121 P) .nil .nil) .nil) (.node (hB.o_105 P) .nil .nil))) (.node (hB.o_55 P) (.node (hB.o_63 P) (.node (hB.o_83 P) (.node (hB.o_117 P) .nil .nil) .nil) (.node (hB.o_101 P) .nil .nil)) (.node (hB.o_71 P) (.node (hB.o_93 P) (.node (hB.o_125 P) .nil .nil) .nil) (.node (hB.o_109 P) .nil .nil)))))
noncomputable def hB.tree_181 : Params → BT := fun P => .node (hB.o_41 P) (.node (hB.o_42 P) (.node (hB.o_130 P) (.node (hB.o_48 P) (.node (hB.o_56 P) (.node (hB.o_72 P) (.node (hB.o_110 P) (.node (hB.o_176 P) .nil .nil) .nil) (.node (hB.o_144 P) .nil .nil)) (.node (hB.o_94 P) (.node (hB.o_126 P) .nil .nil) (.node (hB.o_160 P) .nil .nil))) (.node (hB.o_64 P) (.node (hB.o_84 P) (.node (hB.o_118 P) .nil .nil) (.node (hB.o_152 P) .nil .nil)) (.node (hB.o_102 P) (.node (hB.o_136 P) .nil .nil) (.node (hB.o_168 P) .nil .nil)))) (.node (hB.o_52 P) (.node (hB.o_60 P) (.node (hB.o_80 P) (.node (hB.o_114 P) (.node (hB.o_180 P) .nil .nil) .nil) (.node (hB.o_148 P) .nil .nil)) (.node (hB.o_98 P) (.node (hB.o_132 P) .nil .nil) (.node (hB.o_164 P) .nil .nil))) (.node (hB.o_68 P) (.node (hB.o_90 P) (.node (hB.o_122 P) .nil .nil) (.node (hB.o_156 P) .nil .nil)) (.node (hB.o_106 P) (.node (hB.o_140 P) .nil .nil) (.node (hB.o_172 P) .nil .nil))))) (.node (hB.o_46 P) (.node (hB.o_50 P) (.node (hB.o_58 P) (.node (hB.o_78 P) (.node (hB.o_112 P) (.node (hB.o_178 P) .nil .nil) .nil) (.node (hB.o_146 P) .nil .nil)) (.node (hB.o_96 P) (.node (hB.o_128 P) .nil .nil) (.node (hB.o_162 P) .nil .nil))) (.node (hB.o_66 P) (.node (hB.o_86 P) (.node (hB.o_120 P) .nil .nil) (.node (hB.o_154 P) .nil .nil)) (.node (hB.o_104 P) (.node (hB.o_138 P) .nil .nil) (.node (hB.o_170 P) .nil .nil)))) (.node (hB.o_54 P) (.node (hB.o_62 P) (.node (hB.o_82 P) (.node (hB.o_116 P) .nil .nil) (.node (hB.o_150 P) .nil .nil)) (.node (hB.o_100 P) (.node (hB.o_134 P) .nil .nil) (.node (hB.o_166 P) .nil .nil))) (.node (hB.o_131 P) (.node (hB.o_92 P) (.node (hB.o_124 P) .nil .nil) (.node (hB.o_158 P) .nil .nil)) (.node (hB.o_108 P) (.node (hB.o_142 P) .nil .nil) (.node (hB.o_174 P) .nil .nil)))))) (.node (hB.o_43 P) (.node (hB.o_45 P) (.node (hB.o_49 P) (.node (hB.o_57 P) (.node (hB.o_77 P) (.node (hB.o_111 P) (.node (hB.o_177 P) .nil .nil) .nil) (.node (hB.o_145 P) .nil .nil)) (.node (hB.o_95 P) (.node (hB.o_127 P) .nil .nil) (.node (hB.o_161 P) .nil .nil))) (.node (hB.o_65 P) (.node (hB.o_85 P) (.node (hB.o_119 P) .nil .nil) (.node (hB.o_153 P) .nil .nil)) (.node (hB.o_103 P) (.node (hB.o_137 P) .nil .nil) (.node (hB.o_169 P) .nil .nil)))) (.node (hB.o_53 P) (.node (hB.o_61 P) (.node (hB.o_81 P) (.node (hB.o_115 P) (.node (hB.o_181 P) .nil .nil) .nil) (.node (hB.o_149 P) .nil .nil)) (.node (hB.o_99 P) (.node (hB.o_133 P) .nil .nil) (.node (hB.o_165 P) .nil .nil))) (.node (hB.o_69 P) (.node (hB.o_91 P) (.node (hB.o_123 P) .nil .nil) (.node (hB.o_157 P) .nil .nil)) (.node (hB.o_107 P) (.node (hB.o_141 P) .nil .nil) (.node (hB.o_173 P) .nil .nil))))) (.node (hB.o_47 P) (.node (hB.o_51 P) (.node (hB.o_59 P) (.node (hB.o_79 P) (.node (hB.o_113 P) (.node (hB.o_179 P) .nil .nil) .nil) (.node (hB.o_147 P) .nil .nil)) (.node (hB.o_97 P) (.node (hB.o_129 P) .nil .nil) (.node (hB.o_163 P) .nil .nil))) (.node (hB.o_67 P) (.node (hB.o_87 P) (.node (hB.o_121 P) .nil .nil) (.node (hB.o_155 P) .nil .nil)) (.node (hB.o_105 P) (.node (hB.o_139 P) .nil .nil) (.node (hB.o_171 P) .nil .nil)))) (.node (hB.o_55 P) (.node (hB.o_63 P) (.node (hB.o_83 P) (.node (hB.o_117 P) .nil .nil) (.node (hB.o_151 P) .nil .nil)) (.node (hB.o_101 P) (.node (hB.o_135 P) .nil .nil) (.node (hB.o_167 P) .nil .nil))) (.node (hB.o_71 P) (.node (hB.o_93 P) (.node (hB.o_125 P) .nil .nil) (.node (hB.o_159 P) .nil .nil)) (.node (hB.o_109 P) (.node (hB.o_143 P) .nil .nil) (.node (hB.o_175 P) .nil .nil))))))
noncomputable def hB.tree_233 : Params → BT := fun P => .node (hB.o_41 P) (.node (hB.o_42 P) (.node (hB.o_182 P) (.node (hB.o_48 P) (.node (hB.o_56 P) (.node (hB.o_72 P) (.node (hB.o_110 P) (.node (hB.o_176 P) .nil .nil) .nil) (.node (hB.o_144 P) (.node (hB.o_210 P) .nil .nil) .nil)) (.node (hB.o_94 P) (.node (hB.o_126 P) (.node (hB.o_194 P) .nil .nil) .nil) (.node (hB.o_160 P) (.node (hB.o_226 P) .nil .nil) .nil))) (.node (hB.o_64 P) (.node (hB.o_84 P) (.node (hB.o_118 P) (.node (hB.o_186 P) .nil .nil) .nil) (.node (hB.o_152 P) (.node (hB.o_218 P) .nil .nil) .nil)) (.node (hB.o_102 P) (.node (hB.o_136 P) (.node (hB.o_202 P) .nil .nil) .nil) (.node (hB.o_168 P) .nil .nil)))) (.node (hB.o_52 P) (.node (hB.o_60 P) (.node (hB.o_80 P) (.node (hB.o_114 P) (.node (hB.o_180 P) .nil .nil) .nil) (.node (hB.o_148 P) (.node (hB.o_214 P) .nil .nil) .nil)) (.node (hB.o_98 P) (.node (hB.o_132 P) (.node (hB.o_198 P) .nil .nil) .nil) (.node (hB.o_164 P) (.node (hB.o_230 P) .nil .nil) .nil))) (.node (hB.o_68 P) (.node (hB.o_90 P) (.node (hB.o_122 P) (.node (hB.o_190 P) .nil .nil) .nil) (.node (hB.o_156 P) (.node (hB.o_222 P) .nil .nil) .nil)) (.node (hB.o_106 P) (.node (hB.o_140 P) (.node (hB.o_206 P) .nil .nil) .nil) (.node (hB.o_172 P) .nil .nil))))) (.node (hB.o_46 P) (.node (hB.o_50 P) (.node (hB.o_58 P) (.node (hB.o_78 P) (.node (hB.o_112 P) (.node (hB.o_178 P) .nil .nil) .nil) (.node (hB.o_146 P) (.node (hB.o_212 P) .nil .nil) .nil)) (.node (hB.o_96 P) (.node (hB.o_128 P) (.node (hB.o_196 P) .nil .nil) .nil) (.node (hB.o_162 P) (.node (hB.o_228 P) .nil .nil) .nil))) (.node (hB.o_66 P) (.node (hB.o_86 P) (.node (hB.o_120 P) (.node (hB.o_188 P) .nil .nil) .nil) (.node (hB.o_154 P) (.node (hB.o_220 P) .nil .nil) .nil)) (.node (hB.o_104 P) (.node (hB.o_138 P) (.node (hB.o_204 P) .nil .nil) .nil) (.node (hB.o_170 P) .nil .nil)))) (.node (hB.o_54 P) (.node (hB.o_62 P) (.node (hB.o_82 P) (.node (hB.o_116 P) (.node (hB.o_184 P) .nil .nil) .nil) (.node (hB.o_150 P) (.node (hB.o_216 P) .nil .nil) .nil)) (.node (hB.o_100 P) (.node (hB.o_134 P) (.node (hB.o_200 P) .nil .nil) .nil) (.node (hB.o_166 P) (.node (hB.o_232 P) .nil .nil) .nil))) (.node (hB.o_183 P) (.node (hB.o_92 P) (.node (hB.o_124 P) (.node (hB.o_192 P) .nil .nil) .nil) (.node (hB.o_158 P) (.node (hB.o_224 P) .nil .nil) .nil)) (.node (hB.o_108 P) (.node (hB.o_142 P) (.node (hB.o_208 P) .nil .nil) .nil) (.node (hB.o_174 P) .nil .nil)))))) (.node (hB.o_43 P) (.node (hB.o_45 P) (.node (hB.o_49 P) (.node (hB.o_57 P) (.node (hB.o_77 P) (.node (hB.o_111 P) (.node (hB.o_177 P) .nil .nil) .nil) (.node (hB.o_145 P) (.node (hB.o_211 P) .nil .nil) .nil)) (.node (hB.o_95 P) (.node (hB.o_127 P) (.node (hB.o_195 P) .nil .nil) .nil) (.node (hB.o_161 P) (.node (hB.o_227 P) .nil .nil) .nil))) (.node (hB.o_65 P) (.node (hB.o_85 P) (.node (hB.o_119 P) (.node (hB.o_187 P) .nil .nil) .nil) (.node (hB.o_153 P) (.node (hB.o_219 P) .nil .nil) .nil)) (.node (hB.o_103 P) (.node (hB.o_137 P) (.node (hB.o_203 P) .nil .nil) .nil) (.node (hB.o_169 P) .nil .nil)))) (.node (hB.o_53 P) (.node (hB.o_61 P) (.node (hB.o_81 P) (.node (hB.o_115 P) (.node (hB.o_181 P) .nil .nil) .nil) (.node (hB.o_149 P) (.node (hB.o_215 P) .nil .nil) .nil)) (.node (hB.o_99 P) (.node (hB.o_133 P) (.node (hB.o_199 P) .nil .nil) .nil) (.node (hB.o_165 P) (.node (hB.o_231 P) .nil .nil) .nil))) (.node (hB.o_69 P) (.node (hB.o_91 P) (.node (hB.o_123 P) (.node (hB.o_191 P) .nil .nil) .nil) (.node (hB.o_157 P) (.node (hB.o_223 P) .nil .nil) .nil)) (.node (hB.o_107 P) (.node (hB.o_141 P) (.node (hB.o_207 P) .nil .nil) .nil) (.node (hB.o_173 P) .nil .nil))))) (.node (hB.o_47 P) (.node (hB.o_51 P) (.node (hB.o_59 P) (.node (hB.o_79 P) (.node (hB.o_113 P) (.node (hB.o_179 P) .nil .nil) .nil) (.node (hB.o_147 P) (.node (hB.o_213 P) .nil .nil) .nil)) (.node (hB.o_97 P) (.node (hB.o_129 P) (.node (hB.o_197 P) .nil .nil) .nil) (.node (hB.o_163 P) (.node (hB.o_229 P) .nil .nil) .nil))) (.node (hB.o_67 P) (.node (hB.o_87 P) (.node (hB.o_121 P) (.node (hB.o_189 P) .nil .nil) .nil) (.node (hB.o_155 P) (.node (hB.o_221 P) .nil .nil) .nil)) (.node (hB.o_105 P) (.node (hB.o_139 P) (.node (hB.o_205 P) .nil .nil) .nil) (.node (hB.o_171 P) .nil .nil)))) (.node (hB.o_55 P) (.node (hB.o_63 P) (.node (hB.o_83 P) (.node (hB.o_117 P) (.node (hB.o_185 P) .nil .nil) .nil) (.node (hB.o_151 P) (.node (hB.o_217 P) .nil .nil) .nil)) (.node (hB.o_101 P) (.node (hB.o_135 P) (.node (hB.o_201 P) .nil .nil) .nil) (.node (hB.o_167 P) (.node (hB.o_233 P) .nil .nil) .nil))) (.node (hB.o_71 P) (.node (hB.o_93 P) (.node (hB.o_125 P) (.node (hB.o_193 P) .nil .nil) .nil) (.node (hB.o_159 P) (.node (hB.o_225 P) .nil .nil) .nil)) (.node (hB.o_109 P) (.node (hB.o_143 P) (.node (hB.o_209 P) .nil .nil) .nil) (.node (hB.o_175 P) .nil .nil))))))
noncomputable def hB.tree_239 : Params → BT := fun P => .node (hB.o_41 P) (.node (hB.o_42 P) (.node (hB.o_234 P) (.node (hB.o_48 P) (.node (hB.o_56 P) (.node (hB.o_72 P) (.node (hB.o_110 P) (.node (hB.o_176 P) .nil .nil) .nil) (.node (hB.o_144 P) (.node (hB.o_210 P) .nil .nil) .nil)) (.node (hB.o_94 P) (.node (hB.o_126 P) (.node (hB.o_194 P) .nil .nil) .nil) (.node (hB.o_160 P) (.node (hB.o_226 P) .nil .nil) .nil))) (.node (hB.o_64 P) (.node (hB.o_84 P) (.node (hB.o_118 P) (.node (hB.o_186 P) .nil .nil) .nil) (.node (hB.o_152 P) (.node (hB.o_218 P) .nil .nil) .nil)) (.node (hB.o_102 P) (.node (hB.o_136 P) (.node (hB.o_202 P) .nil .nil) .nil) (.node (hB.o_168 P) (.node (hB.o_235 P) .nil .nil) .nil)))) (.node (hB.o_52 P) (.node (hB.o_60 P) (.node (hB.o_80 P) (.node (hB.o_114 P) (.node (hB.o_180 P) .nil .nil) .nil) (.node (hB.o_148 P) (.node (hB.o_214 P) .nil .nil) .nil)) (.node (hB.o_98 P) (.node (hB.o_132 P) (.node (hB.o_198 P) .nil .nil) .nil) (.node (hB.o_164 P) (.node (hB.o_230 P) .nil .nil) .nil))) (.node (hB.o_68 P) (.node (hB.o_90 P) (.node (hB.o_122 P) (.node (hB.o_190 P) .nil .nil) .nil) (.node (hB.o_156 P) (.node (hB.o_222 P) .nil .nil) .nil)) (.node (hB.o_106 P) (.node (hB.o_140 P) (.node (hB.o_206 P) .nil .nil) .nil) (.node (hB.o_172 P) (.node (hB.o_239 P) .nil .nil) .nil))))) (.node (hB.o_46 P) (.node (hB.o_50 P) (.node (hB.o_58 P) (.node (hB.o_78 P) (.node (hB.o_112 P) (.node (hB.o_178 P) .nil .nil) .nil) (.node (hB.o_146 P) (.node (hB.o_212 P) .nil .nil) .nil)) (.node (hB.o_96 P) (.node (hB.o_128 P) (.node (hB.o_196 P) .nil .nil) .nil) (.node (hB.o_162 P) (.node (hB.o_228 P) .nil .nil) .nil))) (.node (hB.o_66 P) (.node (hB.o_86 P) (.node (hB.o_120 P) (.node (hB.o_188 P) .nil .nil) .nil) (.node (hB.o_154 P) (.node (hB.o_220 P) .nil .nil) .nil)) (.node (hB.o_104 P) (.node (hB.o_138 P) (.node (hB.o_204 P) .nil .nil) .nil) (.node (hB.o_170 P) (.node (hB.o_237 P) .nil .nil) .nil)))) (.node (hB.o_54 P) (.node (hB.o_62 P) (.node (hB.o_82 P) (.node (hB.o_116 P) (.node (hB.o_184 P) .nil .nil) .nil) (.node (hB.o_150 P) (.node (hB.o_216 P) .nil .nil) .nil)) (.node (hB.o_100 P) (.node (hB.o_134 P) (.node (hB.o_200 P) .nil .nil) .nil) (.node (hB.o_166 P) (.node (hB.o_232 P) .nil .nil) .nil))) (.node (hB.o_183 P) (.node (hB.o_92 P) (.node (hB.o_124 P) (.node (hB.o_192 P) .nil .nil) .nil) (.node (hB.o_158 P) (.node (hB.o_224 P) .nil .nil) .nil)) (.node (hB.o_108 P) (.node (hB.o_142 P) (.node (hB.o_208 P) .nil .nil) .nil) (.node (hB.o_174 P) .nil .nil)))))) (.node (hB.o_43 P) (.node (hB.o_45 P) (.node (hB.o_49 P) (.node (hB.o_57 P) (.node (hB.o_77 P) (.node (hB.o_111 P) (.node (hB.o_177 P) .nil .nil) .nil) (.node (hB.o_145 P) (.node (hB.o_211 P) .nil .nil) .nil)) (.node (hB.o_95 P) (.node (hB.o_127 P) (.node (hB.o_195 P) .nil .nil) .nil) (.node (hB.o_161 P) (.node (hB.o_227 P) .nil .nil) .nil))) (.node (hB.o_65 P) (.node (hB.o_85 P) (.node (hB.o_119 P) (.node (hB.o_187 P) .nil .nil) .nil) (.node (hB.o_153 P) (.node (hB.o_219 P) .nil .nil) .nil)) (.node (hB.o_103 P) (.node (hB.o_137 P) (.node (hB.o_203 P) .nil .nil) .nil) (.node (hB.o_169 P) (.node (hB.o_236 P) .nil .nil) .nil)))) (.node (hB.o_53 P) (.node (hB.o_61 P) (.node (hB.o_81 P) (.node (hB.o_115 P) (.node (hB.o_181 P) .nil .nil) .nil) (.node (hB.o_149 P) (.node (hB.o_215 P) .nil .nil) .nil)) (.node (hB.o_99 P) (.node (hB.o_133 P) (.node (hB.o_199 P) .nil .nil) .nil) (.node (hB.o_165 P) (.node (hB.o_231 P) .nil .nil) .nil))) (.node (hB.o_69 P) (.node (hB.o_91 P) (.node (hB.o_123 P) (.node (hB.o_191 P) .nil .nil) .nil) (.node (hB.o_157 P) (.node (hB.o_223 P) .nil .nil) .nil)) (.node (hB.o_107 P) (.node (hB.o_141 P) (.node (hB.o_207 P) .nil .nil) .nil) (.node (hB.o_173 P) .nil .nil))))) (.node (hB.o_47 P) (.node (hB.o_51 P) (.node (hB.o_59 P) (.node (hB.o_79 P) (.node (hB.o_113 P) (.node (hB.o_179 P) .nil .nil) .nil) (.node (hB.o_147 P) (.node (hB.o_213 P) .nil .nil) .nil)) (.node (hB.o_97 P) (.node (hB.o_129 P) (.node (hB.o_197 P) .nil .nil) .nil) (.node (hB.o_163 P) (.node (hB.o_229 P) .nil .nil) .nil))) (.node (hB.o_67 P) (.node (hB.o_87 P) (.node (hB.o_121 P) (.node (hB.o_189 P) .nil .nil) .nil) (.node (hB.o_155 P) (.node (hB.o_221 P) .nil .nil) .nil)) (.node (hB.o_105 P) (.node (hB.o_139 P) (.node (hB.o_205 P) .nil .nil) .nil) (.node (hB.o_171 P) (.node (hB.o_238 P) .nil .nil) .nil)))) (.node (hB.o_55 P) (.node (hB.o_63 P) (.node (hB.o_83 P) (.node (hB.o_117 P) (.node (hB.o_185 P) .nil .nil) .nil) (.node (hB.o_151 P) (.node (hB.o_217 P) .nil .nil) .nil)) (.node (hB.o_101 P) (.node (hB.o_135 P) (.node (hB.o_201 P) .nil .nil) .nil) (.node (hB.o_167 P) (.node (hB.o_233 P) .nil .nil) .nil))) (.node (hB.o_71 P) (.node (hB.o_93 P) (.node (hB.o_125 P) (.node (hB.o_193 P) .nil .nil) .nil) (.node (hB.o_159 P) (.node (hB.o_225 P) .nil .nil) .nil)) (.node (hB.o_109 P) (.node (hB.o_143 P) (.node (hB.o_209 P) .nil .nil) .nil) (.node (hB.o_175 P) .nil .nil))))))
noncomputable def hB.tree_331 : Params → BT := fun P => .node (hB.o_41 P) (.node (hB.o_42 P) (.node (hB.o_278 P) (.node (hB.o_48 P) (.node (hB.o_56 P) (.node (hB.o_72 P) (.node (hB.o_110 P) (.node (hB.o_176 P) .nil .nil) (.node (hB.o_283 P) .nil .nil)) (.node (hB.o_144 P) (.node (hB.o_210 P) .nil .nil) (.node (hB.o_315 P) .nil .nil))) (.node (hB.o_94 P) (.node (hB.o_126 P) (.node (hB.o_194 P) .nil .nil) (.node (hB.o_299 P) .nil .nil)) (.node (hB.o_160 P) (.node (hB.o_226 P) .nil .nil) (.node (hB.o_331 P) .nil .nil)))) (.node (hB.o_64 P) (.node (hB.o_84 P) (.node (hB.o_118 P) (.node (hB.o_186 P) .nil .nil) (.node (hB.o_291 P) .nil .nil)) (.node (hB.o_152 P) (.node (hB.o_218 P) .nil .nil) (.node (hB.o_323 P) .nil .nil))) (.node (hB.o_102 P) (.node (hB.o_136 P) (.node (hB.o_202 P) .nil .nil) (.node (hB.o_307 P) .nil .nil)) (.node (hB.o_168 P) (.node (hB.o_235 P) .nil .nil) .nil)))) (.node (hB.o_52 P) (.node (hB.o_60 P) (.node (hB.o_80 P) (.node (hB.o_114 P) (.node (hB.o_180 P) .nil .nil) (.node (hB.o_287 P) .nil .nil)) (.node (hB.o_148 P) (.node (hB.o_214 P) .nil .nil) (.node (hB.o_319 P) .nil .nil))) (.node (hB.o_98 P) (.node (hB.o_132 P) (.node (hB.o_198 P) .nil .nil) (.node (hB.o_303 P) .nil .nil)) (.node (hB.o_164 P) (.node (hB.o_230 P) .nil .nil) .nil))) (.node (hB.o_68 P) (.node (hB.o_90 P) (.node (hB.o_122 P) (.node (hB.o_190 P) .nil .nil) (.node (hB.o_295 P) .nil .nil)) (.node (hB.o_156 P) (.node (hB.o_222 P) .nil .nil) (.node (hB.o_327 P) .nil .nil))) (.node (hB.o_106 P) (.node (hB.o_140 P) (.node (hB.o_206 P) .nil .nil) (.node (hB.o_311 P) .nil .nil)) (.node (hB.o_172 P) (.node (hB.o_239 P) .nil .nil) .nil))))) (.node (hB.o_46 P) (.node (hB.o_50 P) (.node (hB.o_58 P) (.node (hB.o_78 P) (.node (hB.o_112 P) (.node (hB.o_178 P) .nil .nil) (.node (hB.o_285 P) .nil .nil)) (.node (hB.o_146 P) (.node (hB.o_212 P) .nil .nil) (.node (hB.o_317 P) .nil .nil))) (.node (hB.o_96 P) (.node (hB.o_128 P) (.node (hB.o_196 P) .nil .nil) (.node (hB.o_301 P) .nil .nil)) (.node (hB.o_162 P) (.node (hB.o_228 P) .nil .nil) .nil))) (.node (hB.o_66 P) (.node (hB.o_86 P) (.node (hB.o_120 P) (.node (hB.o_188 P) .nil .nil) (.node (hB.o_293 P) .nil .nil)) (.node (hB.o_154 P) (.node (hB.o_220 P) .nil .nil) (.node (hB.o_325 P) .nil .nil))) (.node (hB.o_104 P) (.node (hB.o_138 P) (.node (hB.o_204 P) .nil .nil) (.node (hB.o_309 P) .nil .nil)) (.node (hB.o_170 P) (.node (hB.o_237 P) .nil .nil) .nil)))) (.node (hB.o_54 P) (.node (hB.o_62 P) (.node (hB.o_82 P) (.node (hB.o_116 P) (.node (hB.o_184 P) .nil .nil) (.node (hB.o_289 P) .nil .nil)) (.node (hB.o_150 P) (.node (hB.o_216 P) .nil .nil) (.node (hB.o_321 P) .nil .nil))) (.node (hB.o_100 P) (.node (hB.o_134 P) (.node (hB.o_200 P) .nil .nil) (.node (hB.o_305 P) .nil .nil)) (.node (hB.o_166 P) (.node (hB.o_232 P) .nil .nil) .nil))) (.node (hB.o_279 P) (.node (hB.o_92 P) (.node (hB.o_124 P) (.node (hB.o_192 P) .nil .nil) (.node (hB.o_297 P) .nil .nil)) (.node (hB.o_158 P) (.node (hB.o_224 P) .nil .nil) (.node (hB.o_329 P) .nil .nil))) (.node (hB.o_108 P) (.node (hB.o_142 P) (.node (hB.o_208 P) .nil .nil) (.node (hB.o_313 P) .nil .nil)) (.node (hB.o_174 P) (.node (hB.o_281 P) .nil .nil) .nil)))))) (.node (hB.o_43 P) (.node (hB.o_45 P) (.node (hB.o_49 P) (.node (hB.o_57 P) (.node (hB.o_77 P) (.node (hB.o_111 P) (.node (hB.o_177 P) .nil .nil) (.node (hB.o_284 P) .nil .nil)) (.node (hB.o_145 P) (.node (hB.o_211 P) .nil .nil) (.node (hB.o_316 P) .nil .nil))) (.node (hB.o_95 P) (.node (hB.o_127 P) (.node (hB.o_195 P) .nil .nil) (.node (hB.o_300 P) .nil .nil)) (.node (hB.o_161 P) (.node (hB.o_227 P) .nil .nil) .nil))) (.node (hB.o_65 P) (.node (hB.o_85 P) (.node (hB.o_119 P) (.node (hB.o_187 P) .nil .nil) (.node (hB.o_292 P) .nil .nil)) (.node (hB.o_153 P) (.node (hB.o_219 P) .nil .nil) (.node (hB.o_324 P) .nil .nil))) (.node (hB.o_103 P) (.node (hB.o_137 P) (.node (hB.o_203 P) .nil .nil) (.node (hB.o_308 P) .nil .nil)) (.node (hB.o_169 P) (.node (hB.o_236 P) .nil .nil) .nil)))) (.node (hB.o_53 P) (.node (hB.o_61 P) (.node (hB.o_81 P) (.node (hB.o_115 P) (.node (hB.o_181 P) .nil .nil) (.node (hB.o_288 P) .nil .nil)) (.node (hB.o_149 P) (.node (hB.o_215 P) .nil .nil) (.node (hB.o_320 P) .nil .nil))) (.node (hB.o_99 P) (.node (hB.o_133 P) (.node (hB.o_199 P) .nil .nil) (.node (hB.o_304 P) .nil .nil)) (.node (hB.o_165 P) (.node (hB.o_231 P) .nil .nil) .nil))) (.node (hB.o_69 P) (.node (hB.o_91 P) (.node (hB.o_123 P) (.node (hB.o_191 P) .nil .nil) (.node (hB.o_296 P) .nil .nil)) (.node (hB.o_157 P) (.node (hB.o_223 P) .nil .nil) (.node (hB.o_328 P) .nil .nil))) (.node (hB.o_107 P) (.node (hB.o_141 P) (.node (hB.o_207 P) .nil .nil) (.node (hB.o_312 P) .nil .nil)) (.node (hB.o_173 P) (.node (hB.o_280 P) .nil .nil) .nil))))) (.node (hB.o_47 P) (.node (hB.o_51 P) (.node (hB.o_59 P) (.node (hB.o_79 P) (.node (hB.o_113 P) (.node (hB.o_179 P) .nil .nil) (.node (hB.o_286 P) .nil .nil)) (.node (hB.o_147 P) (.node (hB.o_213 P) .nil .nil) (.node (hB.o_318 P) .nil .nil))) (.node (hB.o_97 P) (.node (hB.o_129 P) (.node (hB.o_197 P) .nil .nil) (.node (hB.o_302 P) .nil .nil)) (.node (hB.o_163 P) (.node (hB.o_229 P) .nil .nil) .nil))) (.node (hB.o_67 P) (.node (hB.o_87 P) (.node (hB.o_121 P) (.node (hB.o_189 P) .nil .nil) (.node (hB.o_294 P) .nil .nil)) (.node (hB.o_155 P) (.node (hB.o_221 P) .nil .nil) (.node (hB.o_326 P) .nil .nil))) (.node (hB.o_105 P) (.node (hB.o_139 P) (.node (hB.o_205 P) .nil .nil) (.node (hB.o_310 P) .nil .nil)) (.node (hB.o_171 P) (.node (hB.o_238 P) .nil .nil) .nil)))) (.node (hB.o_55 P) (.node (hB.o_63 P) (.node (hB.o_83 P) (.node (hB.o_117 P) (.node (hB.o_185 P) .nil .nil) (.node (hB.o_290 P) .nil .nil)) (.node (hB.o_151 P) (.node (hB.o_217 P) .nil .nil) (.node (hB.o_322 P) .nil .nil))) (.node (hB.o_101 P) (.node (hB.o_135 P) (.node (hB.o_201 P) .nil .nil) (.node (hB.o_306 P) .nil .nil)) (.node (hB.o_167 P) (.node (hB.o_233 P) .nil .nil) .nil))) (.node (hB.o_71 P) (.node (hB.o_93 P) (.node (hB.o_125 P) (.node (hB.o_193 P) .nil .nil) (.node (hB.o_298 P) .nil .nil)) (.node (hB.o_159 P) (.node (hB.o_225 P) .nil .nil) (.node (hB.o_330 P) .nil .nil))) (.node (hB.o_109 P) (.node (hB.o_143 P) (.node (hB.o_209 P) .nil .nil) (.node (hB.o_314 P) .nil .nil)) (.node (hB.o_175 P) (.node (hB.o_282 P) .nil .nil) .nil))))))
noncomputable def hB.tree_335 : Params → BT := fun P => .nil
noncomputable def hB.tree_397 : Params → BT := fun P => .node (hB.o_352 P) (.node (hB.o_388 P) (.node (hB.o_397 P) (.node (hB.o_359 P) (.node (hB.o_370 P) .nil .nil) (.node (hB.o_382 P) .nil .nil)) (.node (hB.o_394 P) (.node (hB.o_376 P) .nil .nil) (.node (hB.o_396 P) .nil .nil))) (.node (hB.o_356 P) (.node (hB.o_361 P) (.node (hB.o_374 P) .nil .nil) (.node (hB.o_386 P) .nil .nil)) (.node (hB.o_372 P) (.node (hB.o_384 P) .nil .nil) .nil))) (.node (hB.o_393 P) (.node (hB.o_355 P) (.node (hB.o_360 P) (.node (hB.o_373 P) .nil .nil) (.node (hB.o_385 P) .nil .nil)) (.node (hB.o_365 P) (.node (hB.o_395 P) .nil .nil) .nil)) (.node (hB.o_357 P) (.node (hB.o_362 P) (.node (hB.o_383 P) .nil .nil) (.node (hB.o_387 P) .nil .nil)) (.node (hB.o_367 P) (.node (hB.o_379 P) .nil .nil) .nil)))
noncomputable def sA.tree_41 : Params → BT := fun P => .node (sA.o_1 P) (.node (sA.o_2 P) (.node (sA.o_33 P) (.node (sA.o_8 P) (.node (sA.o_16 P) (.node (sA.o_32 P) .nil .nil) .nil) (.node (sA.o_24 P) .nil .nil)) (.node (sA.o_12 P) (.node (sA.o_20 P) (.node (sA.o_38 P) .nil .nil) .nil) (.node (sA.o_28 P) .nil .nil))) (.node (sA.o_6 P) (.node (sA.o_10 P) (.node (sA.o_18 P) (.node (sA.o_36 P) .nil .nil) .nil) (.node (sA.o_26 P) .nil .nil)) (.node (sA.o_14 P) (.node (sA.o_22 P) (.node (sA.o_40 P) .nil .nil) .nil) (.node (sA.o_34 P) .nil .nil)))) (.node (sA.o_3 P) (.node (sA.o_5 P) (.node (sA.o_9 P) (.node (sA.o_17 P) (.node (sA.o_35 P) .nil .nil) .nil) (.node (sA.o_25 P) .nil .nil)) (.node (sA.o_13 P) (.node (sA.o_21 P) (.node (sA.o_39 P) .nil .nil) .nil) (.node (sA.o_29 P) .nil .nil))) (.node (sA.o_7 P) (.node (sA.o_11 P) (.node (sA.o_19 P) (.node (sA.o_37 P) .nil .nil) .nil) (.node (sA.o_27 P) .nil .nil)) (.node (sA.o_15 P) (.node (sA.o_23 P) (.node (sA.o_41 P) .nil .nil) .nil) (.node (sA.o_31 P) .nil .nil))))
noncomputable def hB.heap_68 : Params → Heap := fun P => ⟨⟨[hB.o_41 P, hB.o_42 P, hB.o_43 P, hB.o_44 P, hB.o_45 P, hB.o_46 P, hB.o_47 P, hB.o_48 P, hB.o_49 P, hB.o_50 P, hB.o_51 P, hB.o_52 P, hB.o_53 P, hB.o_54 P, hB.o_55 P, hB.o_56 P, hB.o_57 P, hB.o_58 P, hB.o_59 P, hB.o_60 P, hB.o_61 P, hB.o_62 P, hB.o_63 P, hB.o_64 P, hB.o_65 P, hB.o_66 P, hB.o_67 P, hB.o_68 P]⟩, ⟨[], [], [], 0, [], [], .false, #[], [], 0, .false, .false, .false, 0, [2000, 10, 10], .false, 0, .true, [], [], 0, .false⟩⟩
noncomputable def hB.heap_72 : Params → Heap := fun P => ⟨⟨[hB.o_41 P, hB.o_42 P, hB.o_43 P, hB.o_44 P, hB.o_45 P, hB.o_46 P, hB.o_47 P, hB.o_48 P, hB.o_49 P, hB.o_50 P, hB.o_51 P, hB.o_52 P, hB.o_53 P, hB.o_54 P, hB.o_55 P, hB.o_56 P, hB.o_57 P, hB.o_58 P, hB.o_59 P, hB.o_60 P, hB.o_61 P, hB.o_62 P, hB.o_63 P, hB.o_64 P, hB.o_65 P, hB.o_66 P, hB.o_67 P, hB.o_68 P, hB.o_69 P, hB.o_70 P, hB.o_71 P, hB.o_72 P]⟩, ⟨[], [], [], 0, [], [], .false, #[], [], 0, .false, .false, .false, 0, [2000, 10, 10], .false, 0, .true, [], [], 0, .false⟩⟩
noncomputable def hB.heap_332 : Params → Heap := fun P => ⟨⟨[hB.o_41 P, hB.o_42 P, hB.o_43 P, hB.o_278 P, hB.o_45 P, hB.o_46 P, hB.o_47 P, hB.o_48 P, hB.o_49 P, hB.o_50 P, hB.o_51 P, hB.o_52 P, hB.o_53 P, hB.o_54 P, hB.o_55 P, hB.o_56 P, hB.o_57 P, hB.o_58 P, hB.o_59 P, hB.o_60 P, hB.o_61 P, hB.o_62 P, hB.o_63 P, hB.o_64 P, hB.o_65 P, hB.o_66 P, hB.o_67 P, hB.o_68 P, hB.o_69 P, hB.o_279 P, hB.o_71 P, hB.o_72 P, hB.o_77 P, hB.o_78 P, hB.o_79 P, hB.o_80 P, hB.o_81 P, hB.o_82 P, hB.o_83 P, hB.o_84 P, hB.o_85 P, hB.o_86 P, hB.o_87 P, hB.o_90 P, hB.o_91 P, hB.o_92 P, hB.o_93 P, hB.o_94 P, hB.o_95 P, hB.o_96 P, hB.o_97 P, hB.o_98 P, hB.o_99 P, hB.o_100 P, hB.o_101 P, hB.o_102 P, hB.o_103 P, hB.o_104 P, hB.o_105 P, hB.o_106 P, hB.o_107 P, hB.o_108 P, hB.o_109 P, hB.o_110 P, hB.o_111 P, hB.o_112 P, hB.o_113 P, hB.o_114 P, hB.o_115 P, hB.o_116 P, hB.o_117 P, hB.o_118 P, hB.o_119 P, hB.o_120 P, hB.o_121 P, hB.o_122 P, hB.o_123 P, hB.o_124 P, hB.o_125 P, hB.o_126 P, hB.o_127 P, hB.o_128 P, hB.o_129 P, hB.o_132 P, hB.o_133 P, hB.o_134 P, hB.o_135 P, hB.o_136 P, hB.o_137 P, hB.o_138 P, hB.o_139 P, hB.o_140 P, hB.o_141 P, hB.o_142 P, hB.o_143 P, hB.o_144 P, hB.o_145 P, hB.o_146 P, hB.o_147 P, hB.o_148 P, hB.o_149 P, hB.o_150 P, hB.o_151 P, hB.o_152 P, hB.o_153 P, hB.o_154 P, hB.o_155 P, hB.o_156 P, hB.o_157 P, hB.o_158 P, hB.o_159 P, hB.o_160 P, hB.o_161 P, hB.o_162 P, hB.o_163 P, hB.o_164 P, hB.o_165 P, hB.o_166 P, hB.o_167 P, hB.o_168 P, hB.o_169 P, hB.o_170 P, hB.o_171 P, hB.o_172 P, hB.o_173 P, hB.o_174 P, hB.o_175 P, hB.o_176 P, hB.o_177 P, hB.o_178 P, hB.o_179 P, hB.o_180 P, hB.o_181 P, hB.o_184 P, hB.o_185 P, hB.o_186 P, hB.o_187 P, hB.o_188 P, hB.o_189 P, hB.o_190 P, hB.o_191 P, hB.o_192 P, hB.o_193 P, hB.o_194 P, hB.o_195 P, hB.o_196 P, hB.o_197 P, hB.o_198 P, hB.o_199 P, hB.o_200 P, hB.o_201 P, hB.o_202 P, hB.o_203 P, hB.o_204 P, hB.o_205 P, hB.o_206 P, hB.o_207 P, hB.o_208 P, hB.o_209 P, hB.o_210 P, hB.o_211 P, hB.o_212 P, hB.o_213 P, hB.o_214 P, hB.o_215 P, hB.o_216 P, hB.o_217 P, hB.o_218 P, hB.o_219 P, hB.o_220 P, hB.o_221 P, hB.o_222 P, hB.o_223 P, hB.o_224 P, hB.o_225 P, hB.o_226 P, hB.o_227 P, hB.o_228 P, hB.o_229 P, hB.o_230 P, hB.o_231 P, hB.o_232 P, hB.o_233 P, hB.o_235 P, hB.o_236 P, hB.o_237 P, hB.o_238 P, hB.o_239 P, hB.o_280 P, hB.o_281 P, hB.o_282 P, hB.o_283 P, hB.o_284 P, hB.o_285 P, hB.o_286 P, hB.o_287 P, hB.o_288 P, hB.o_289 P, hB.o_290 P, hB.o_291 P, hB.o_292 P, hB.o_293 P, hB.o_294 P, hB.o_295 P, hB.o_296 P, hB.o_297 P, hB.o_298 P, hB.o_299 P, hB.o_300 P, hB.o_301 P, hB.o_302 P, hB.o_303 P, hB.o_304 P, hB.o_305 P, hB.o_306 P, hB.o_307 P, hB.o_308 P, hB.o_309 P, hB.o_310 P, hB.o_311 P, hB.o_312 P, hB.o_313 P, hB.o_314 P, hB.o_315 P, hB.o_316 P, hB.o_317 P, hB.o_318 P, hB.o_319 P, hB.o_320 P, hB.o_321 P, hB.o_322 P, hB.o_323 P, hB.o_324 P, hB.o_325 P, hB.o_326 P, hB.o_327 P, hB.o_328 P, hB.o_329 P, hB.o_330 P, hB.o_331 P]⟩, ⟨[], [], [], 0, [], [], .false, #[], [], 0, .false, .false, .false, 0, [2000, 10, 10], .false, 0, .true, [], [], 0, .false⟩⟩
noncomputable def hB.sts_88 : List Stmt := ((behindTheImports pR).drop 5).take 7
noncomputable def hB.sts_130 : List Stmt := ((behindTheImports pR).drop 12).take 9
noncomputable def hB.sts_182 : List Stmt := ((behindTheImports pR).drop 21).take 11
noncomputable def hB.sts_234 : List Stmt := ((behindTheImports pR).drop 32).take 1
noncomputable def hB.sts_278 : List Stmt := ((behindTheImports pR).drop 33).take 10
noncomputable def sA.sts_32 : List Stmt := (behindTheImports pR).take 4
noncomputable abbrev sA.tree_32 : Params → BT := hB.tree_73
noncomputable def pick : List Bool → List Stmt → List Stmt
  | true :: bs, x :: xs => x :: pick bs xs
  | false :: bs, _ :: xs => pick bs xs
  | _, _ => []
noncomputable def stays : List Bool := [true, true, true, true, false, true, true, true, false, true, false, true, true, true, false, true, true, true, true, true, false, true, false, true, true, true, true, false, false, true, false, true, false, true, true, false, false, false, true, true, true, true, true, true]
noncomputable def vR : Program := { pR with main := { pR.main with body := pick stays pR.main.body } }
end Mine
end HeadT_text
section SetM_text
open PySem PySem.W PyProof.Rows
namespace Mine
noncomputable def digs : List Nat := [48, 49, 50, 51, 52, 53, 54, 55, 56, 57, 97, 98, 99, 100, 101, 102, 65, 66, 67, 68, 69, 70]
noncomputable def dg (i : Nat) : Nat := digs.getD i 0
noncomputable def dgV (i : Nat) : Value := .str ⟨#[dg i]⟩ (298 + 2 * i)
structure SInv (i : Nat) (es : Array (Int × Value)) (t : SetTable) : Prop where
  size : es.size = i
  fits : t.fits i = true
  only : ∀ e ∈ es.toList, ∃ j, j < i ∧ e.2 = dgV j
  all : ∀ j, j < i → ∃ e ∈ es.toList, e.2 = dgV j
theorem insertAt_list {α : Type} (xs : Array α) (p : Nat) (x : α) : (SetTable.insertAt xs p x).toList = xs.toList.take p ++ x :: xs.toList.drop p := by
  unfold SetTable.insertAt
  simp
  exact List.take_of_length_le (by simp)
theorem fits_standIn (t : SetTable) (n : Nat) : (t.standIn n).fits n = true := by
  simp [SetTable.fits, SetTable.standIn, SetTable.fill]; omega
theorem fits_orStandIn (t : SetTable) (n : Nat) : (t.orStandIn n).fits n = true := by
  unfold SetTable.orStandIn
  split
  · assumption
  · exact fits_standIn t n
theorem SInv.more {i : Nat} {es es' : Array (Int × Value)} {t t' : SetTable} {h : Int} (I : SInv i es t) (hs : es'.size = i + 1) (hf : t'.fits (i + 1) = true) (hm : ∀ e, e ∈ es'.toList ↔ e ∈ es.toList ∨ e = (h, dgV i)) : SInv (i + 1) es' t' := by
  refine ⟨hs, hf, fun e he => ?_, fun j hj => ?_⟩
  · rcases (hm e).mp he with h1 | rfl
    · obtain ⟨j, h2, h3⟩ := I.only e h1
      exact ⟨j, by omega, h3⟩
    · exact ⟨i, by omega, rfl⟩
  · by_cases hji : j = i
    · subst hji
      exact ⟨_, (hm _).mpr (.inr rfl), rfl⟩
    · obtain ⟨e, h1, h2⟩ := I.all j (by omega)
      exact ⟨e, (hm e).mpr (.inl h1), h2⟩
theorem layNew_inv {i : Nat} {es : Array (Int × Value)} {t : SetTable} (h : Int) (I : SInv i es t) : SInv (i + 1) (layNew t es h (dgV i)).1 (layNew t es h (dgV i)).2.1 := by
  unfold layNew
  split
  · rename_i slot wasDummy _
    cases hp : t.put slot with
    | mk t' p =>
      dsimp only
      have hsz : (SetTable.insertAt es p (h, dgV i)).size = i + 1 := by
        rw [← Array.length_toList, insertAt_list]
        have := I.size
        simp
        omega
      refine I.more (h := h) hsz (by rw [hsz]; exact fits_orStandIn _ _) fun e => ?_
      rw [insertAt_list, List.mem_append, List.mem_cons]
      have : e ∈ es.toList ↔ e ∈ es.toList.take p ∨ e ∈ es.toList.drop p := by
        rw [← List.mem_append, List.take_append_drop]
      rw [this]
      constructor
      · rintro (h | h | h)
        · exact .inl (.inl h)
        · exact .inr h
        · exact .inl (.inr h)
      · rintro ((h | h) | h)
        · exact .inl h
        · exact .inr (.inr h)
        · exact .inr (.inl h)
  · refine I.more (h := h) (by simp [I.size]) (by rw [I.size]; exact fits_standIn _ _) fun e => ?_
    simp
theorem SInv.perm {i : Nat} {es es' : Array (Int × Value)} {t t' : SetTable} (I : SInv i es t) (hp : es'.toList.Perm es.toList) (hf : t'.fits i = true) : SInv i es' t' := by
  refine ⟨?_, hf, fun e he => I.only e (hp.mem_iff.mp he), fun j hj => ?_⟩
  · rw [← Array.length_toList, hp.length_eq, Array.length_toList]; exact I.size
  · obtain ⟨e, h1, h2⟩ := I.all j hj
    exact ⟨e, hp.mem_iff.mpr h1, h2⟩
theorem range_all {α : Type} (l : List α) : (List.range l.length).filterMap (fun i => l[i]?) = l := by
  have h : ∀ (l pre : List α), (List.range' pre.length l.length).filterMap (fun i => (pre ++ l)[i]?) = l := by
    intro l
    induction l with
    | nil => intro pre; simp
    | cons a l ih =>
      intro pre
      rw [List.length_cons, List.range'_succ, List.filterMap_cons]
      have : (pre ++ a :: l)[pre.length]? = some a := by simp
      rw [this]
      have := ih (pre ++ [a])
      simp only [List.length_append, List.length_cons, List.length_nil, Nat.zero_add, List.append_assoc, List.cons_append, List.nil_append] at this
      simp only [this]
  have := h l []
  simpa [List.range_eq_range'] using this
theorem relayAll_inv {i wanted : Nat} {es : Array (Int × Value)} {t : SetTable} (I : SInv i es t) : SInv i (relayAll t es wanted).1 (relayAll t es wanted).2.1 := by
  unfold relayAll
  split
  · rename_i t' order _
    dsimp only
    split
    · rename_i hc
      obtain ⟨h1, h2⟩ := Bool.and_eq_true_iff.mp hc
      have hp : order.toList.Perm (List.range es.size) := List.isPerm_iff.mp h1
      have hq : (order.filterMap (fun x => es[x]?)).toList.Perm es.toList := by
        have e : (order.filterMap (fun x => es[x]?)).toList = order.toList.filterMap (fun x => es.toList[x]?) := by simp
        rw [e]
        have := hp.filterMap (fun x => es.toList[x]?)
        refine this.trans ?_
        rw [← Array.length_toList, range_all]
      refine I.perm hq ?_
      have hs : (order.filterMap (fun x => es[x]?)).size = i := by
        rw [← Array.length_toList, hq.length_eq, Array.length_toList]; exact I.size
      rw [hs] at h2
      exact h2
    · exact ⟨I.size, by rw [I.size]; exact fits_standIn _ _, I.only, I.all⟩
  · exact ⟨I.size, by rw [I.size]; exact fits_standIn _ _, I.only, I.all⟩
theorem SInv.plain {i : Nat} {es : Array (Int × Value)} {t : SetTable} (I : SInv i es t) (b : Bool) : SInv i es { t with plain := b } := ⟨I.size, I.fits, I.only, I.all⟩
theorem dg_inj {i j : Nat} (hi : i < 22) (hj : j < 22) (h : dg i = dg j) : i = j := by
  have : ∀ a : Fin 22, ∀ b : Fin 22, dg a.val = dg b.val → a.val = b.val := by decide
  exact this ⟨i, hi⟩ ⟨j, hj⟩ h
theorem SInv.state {i : Nat} {es : Array (Int × Value)} {t : SetTable} (I : SInv i es t) : (t.place.size != es.size || decide (t.fill > t.mask)) = false := by
  have := I.fits
  unfold SetTable.fits at this
  obtain ⟨h1, h2⟩ := Bool.and_eq_true_iff.mp this
  rw [I.size]
  simp at h1 h2
  simp [h1]; omega
theorem SInv.scan {i : Nat} {es : Array (Int × Value)} {t : SetTable} (I : SInv i es t) (hi : i < 22) {x : Value} (hx : x.scannable = true) : byScan x es = true := by
  unfold byScan
  have hs := I.size
  have : es.all (fun e => e.2.scannable) = true := by
    rw [← Array.all_toList, List.all_eq_true]
    intro e he
    obtain ⟨j, _, h2⟩ := I.only e he
    rw [h2]; rfl
  have hb : es.size < scanBound := by rw [hs]; exact Nat.lt_trans hi (by decide)
  rw [this, hx, decide_eq_true hb]
  rfl
theorem SInv.strs {i : Nat} {es : Array (Int × Value)} {t : SetTable} (I : SInv i es t) : es.all (fun e => isExactStrKey e.2) = true := by
  rw [← Array.all_toList, List.all_eq_true]
  intro e he
  obtain ⟨j, _, h2⟩ := I.only e he
  rw [h2]; rfl
theorem SInv.absent {i : Nat} {es : Array (Int × Value)} {t : SetTable} (I : SInv i es t) (hi : i < 22) : es.findIdx? (fun e => e.2.isStr ⟨#[dg i]⟩) = none := by
  rw [Array.findIdx?_eq_none_iff]
  intro e he
  obtain ⟨j, h1, h2⟩ := I.only e (Array.mem_toList_iff.mpr he)
  rw [h2]
  show ((⟨#[dg j]⟩ : Str) == ⟨#[dg i]⟩) = false
  rw [beq_eq_false_iff_ne]
  intro e
  have : dg j = dg i := by simpa using e
  exact absurd (dg_inj (by omega) hi this) (by omega)
end Mine
end SetM_text
section H6a_text
open PySem PySem.W PyProof.Rows
namespace Mine
theorem suf32 : ∀ (w : World) (p : Program) (b : List Stmt) (os : OsState),
  Fast.tw10110043849684766642 Fast.tw14364793385576792824 p w 28 (some (Value.ref 6)) 1 72 { tree := sA.tree_32 w.params, n := 32, life := {}, gens := ⟨[]⟩, drawn := {}, toks := 282, os := os }
   (piecesOf sA.sts_32 sA.env_1 (Code.body b sA.env_1) ⟨0,0,0,0⟩ [topFrame ⟨0,0,0,0⟩])
  = some (Flow.next, { tree := sA.tree_41 w.params, n := 39, life := {}, gens := ⟨[]⟩, drawn := {}, toks := 298, os := os }, Code.body b sA.env_1, ⟨7,0,7,8⟩) := by
  intro w p b os; kernel_rfl
theorem suU32 (w : World) (p : Program) (b : List Stmt) (os : OsState) :
  segRun treeTable p w 28 (some (Value.ref 6)) 1 72 (SharedT.abs { tree := sA.tree_32 w.params, n := 32, life := {}, gens := ⟨[]⟩, drawn := {}, toks := 282, os := os })
   (piecesOf sA.sts_32 sA.env_1 (Code.body b sA.env_1) ⟨0,0,0,0⟩ [topFrame ⟨0,0,0,0⟩])
  = some (Flow.next, SharedT.abs { tree := sA.tree_41 w.params, n := 39, life := {}, gens := ⟨[]⟩, drawn := {}, toks := 298, os := os }, Code.body b sA.env_1, ⟨7,0,7,8⟩) := by
  refine segRun_of ?_
  rw [Fast.te10110043849684766642, Fast.te14364793385576792824]
  exact suf32 w p b os
end Mine
end H6a_text
section H6b_text
open PySem PySem.W PyProof.Rows
namespace Mine
noncomputable def itO (i : Int) : Obj := { cls := .type SL.s13500813778147066322x18, data := .fields #[.str (⟨#[48, 49, 50, 51, 52, 53, 54, 55, 56, 57, 97, 98, 99, 100, 101, 102, 65, 66, 67, 68, 69, 70]⟩) 294, .int i 0] }
noncomputable def setO (es : Array (Int × Value)) (n : Nat) (t : SetTable) : Obj := { cls := .type SL.s4922535414793169389x9, data := .set es n t }
noncomputable def loopC : Code := .builtin SL.s10534883147002075979x15 ⟨[.ref 39, .ref 40], []⟩
noncomputable abbrev loopP : Pos := ⟨8, 17, 8, 37⟩
noncomputable def pt2 (T : BT) (a b : Obj) : BT := (T.ins 39 a).ins 40 b
noncomputable abbrev goT (p : Program) (w : World) := Fast.tw10295753902157049106 Fast.tw14364793385576792824 p w 28 (some (Value.ref 6)) 1
theorem segN_0 : ∀ (w : World) (p : Program) (os : OsState) (X : Obj) (stk : List Frame) (f g : Frame) (K : Option Value → Sem Fin),
  goT p w 10 { tree := pt2 (sA.tree_41 w.params) X (itO 0), n := 41, life := {}, gens := ⟨[]⟩, drawn := {}, toks := 298, os := os } ⟨R.bindR (Fast.tw9404975358583537561 (.ref 40)) K, loopC, loopP, f :: g :: stk⟩
  = some ({ tree := pt2 (sA.tree_41 w.params) X (itO 1), n := 41, life := {}, gens := ⟨[]⟩, drawn := {}, toks := 299, os := os }, ⟨K (some (.str ⟨#[48]⟩ 298)), loopC, loopP, f :: g :: stk⟩) := by
  intro w p os X stk f g K; kernel_rfl
theorem segP_0 : ∀ (w : World) (p : Program) (os : OsState) (X : Obj) (stk : List Frame) (f g : Frame) (K : Int → Sem Fin),
  goT p w 7 { tree := pt2 (sA.tree_41 w.params) X (itO 1), n := 41, life := {}, gens := ⟨[]⟩, drawn := {}, toks := 299, os := os } ⟨R.bindR (Fast.tw10540108854288196387 (.str ⟨#[48]⟩ 298)) K, loopC, loopP, f :: g :: stk⟩
  = some ({ tree := pt2 (sA.tree_41 w.params) X (itO 1), n := 41, life := {}, gens := ⟨[]⟩, drawn := {}, toks := 300, os := os }, ⟨K (reduceHash (w.params.strHash #[48])), loopC, loopP, f :: g :: stk⟩) := by
  refine byRow2 "special-get-raises" ?_ ?_ <;> (intro w p os X stk f g K; kernel_rfl)
theorem segN_1 : ∀ (w : World) (p : Program) (os : OsState) (X : Obj) (stk : List Frame) (f g : Frame) (K : Option Value → Sem Fin),
  goT p w 10 { tree := pt2 (sA.tree_41 w.params) X (itO 1), n := 41, life := {}, gens := ⟨[]⟩, drawn := {}, toks := 300, os := os } ⟨R.bindR (Fast.tw9404975358583537561 (.ref 40)) K, loopC, loopP, f :: g :: stk⟩
  = some ({ tree := pt2 (sA.tree_41 w.params) X (itO 2), n := 41, life := {}, gens := ⟨[]⟩, drawn := {}, toks := 301, os := os }, ⟨K (some (.str ⟨#[49]⟩ 300)), loopC, loopP, f :: g :: stk⟩) := by
  intro w p os X stk f g K; kernel_rfl
theorem segP_1 : ∀ (w : World) (p : Program) (os : OsState) (X : Obj) (stk : List Frame) (f g : Frame) (K : Int → Sem Fin),
  goT p w 7 { tree := pt2 (sA.tree_41 w.params) X (itO 2), n := 41, life := {}, gens := ⟨[]⟩, drawn := {}, toks := 301, os := os } ⟨R.bindR (Fast.tw10540108854288196387 (.str ⟨#[49]⟩ 300)) K, loopC, loopP, f :: g :: stk⟩
  = some ({ tree := pt2 (sA.tree_41 w.params) X (itO 2), n := 41, life := {}, gens := ⟨[]⟩, drawn := {}, toks := 302, os := os }, ⟨K (reduceHash (w.params.strHash #[49])), loopC, loopP, f :: g :: stk⟩) := by
  refine byRow2 "special-get-raises" ?_ ?_ <;> (intro w p os X stk f g K; kernel_rfl)
theorem segN_2 : ∀ (w : World) (p : Program) (os : OsState) (X : Obj) (stk : List Frame) (f g : Frame) (K : Option Value → Sem Fin),
  goT p w 10 { tree := pt2 (sA.tree_41 w.params) X (itO 2), n := 41, life := {}, gens := ⟨[]⟩, drawn := {}, toks := 302, os := os } ⟨R.bindR (Fast.tw9404975358583537561 (.ref 40)) K, loopC, loopP, f :: g :: stk⟩
  = some ({ tree := pt2 (sA.tree_41 w.params) X (itO 3), n := 41, life := {}, gens := ⟨[]⟩, drawn := {}, toks := 303, os := os }, ⟨K (some (.str ⟨#[50]⟩ 302)), loopC, loopP, f :: g :: stk⟩) := by
  intro w p os X stk f g K; kernel_rfl
theorem segP_2 : ∀ (w : World) (p : Program) (os : OsState) (X : Obj) (stk : List Frame) (f g : Frame) (K : Int → Sem Fin),
  goT p w 7 { tree := pt2 (sA.tree_41 w.params) X (itO 3), n := 41, life := {}, gens := ⟨[]⟩, drawn := {}, toks := 303, os := os } ⟨R.bindR (Fast.tw10540108854288196387 (.str ⟨#[50]⟩ 302)) K, loopC, loopP, f :: g :: stk⟩
  = some ({ tree := pt2 (sA.tree_41 w.params) X (itO 3), n := 41, life := {}, gens := ⟨[]⟩, drawn := {}, toks := 304, os := os }, ⟨K (reduceHash (w.params.strHash #[50])), loopC, loopP, f :: g :: stk⟩) := by
  refine byRow2 "special-get-raises" ?_ ?_ <;> (intro w p os X stk f g K; kernel_rfl)
theorem segN_3 : ∀ (w : World) (p : Program) (os : OsState) (X : Obj) (stk : List Frame) (f g : Frame) (K : Option Value → Sem Fin),
  goT p w 10 { tree := pt2 (sA.tree_41 w.params) X (itO 3), n := 41, life := {}, gens := ⟨[]⟩, drawn := {}, toks := 304, os := os } ⟨R.bindR (Fast.tw9404975358583537561 (.ref 40)) K, loopC, loopP, f :: g :: stk⟩
  = some ({ tree := pt2 (sA.tree_41 w.params) X (itO 4), n := 41, life := {}, gens := ⟨[]⟩, drawn := {}, toks := 305, os := os }, ⟨K (some (.str ⟨#[51]⟩ 304)), loopC, loopP, f :: g :: stk⟩) := by
  intro w p os X stk f g K; kernel_rfl
theorem segP_3 : ∀ (w : World) (p : Program) (os : OsState) (X : Obj) (stk : List Frame) (f g : Frame) (K : Int → Sem Fin),
  goT p w 7 { tree := pt2 (sA.tree_41 w.params) X (itO 4), n := 41, life := {}, gens := ⟨[]⟩, drawn := {}, toks := 305, os := os } ⟨R.bindR (Fast.tw10540108854288196387 (.str ⟨#[51]⟩ 304)) K, loopC, loopP, f :: g :: stk⟩
  = some ({ tree := pt2 (sA.tree_41 w.params) X (itO 4), n := 41, life := {}, gens := ⟨[]⟩, drawn := {}, toks := 306, os := os }, ⟨K (reduceHash (w.params.strHash #[51])), loopC, loopP, f :: g :: stk⟩) := by
  refine byRow2 "special-get-raises" ?_ ?_ <;> (intro w p os X stk f g K; kernel_rfl)
theorem segN_4 : ∀ (w : World) (p : Program) (os : OsState) (X : Obj) (stk : List Frame) (f g : Frame) (K : Option Value → Sem Fin),
  goT p w 10 { tree := pt2 (sA.tree_41 w.params) X (itO 4), n := 41, life := {}, gens := ⟨[]⟩, drawn := {}, toks := 306, os := os } ⟨R.bindR (Fast.tw9404975358583537561 (.ref 40)) K, loopC, loopP, f :: g :: stk⟩
  = some ({ tree := pt2 (sA.tree_41 w.params) X (itO 5), n := 41, life := {}, gens := ⟨[]⟩, drawn := {}, toks := 307, os := os }, ⟨K (some (.str ⟨#[52]⟩ 306)), loopC, loopP, f :: g :: stk⟩) := by
  intro w p os X stk f g K; kernel_rfl
theorem segP_4 : ∀ (w : World) (p : Program) (os : OsState) (X : Obj) (stk : List Frame) (f g : Frame) (K : Int → Sem Fin),
  goT p w 7 { tree := pt2 (sA.tree_41 w.params) X (itO 5), n := 41, life := {}, gens := ⟨[]⟩, drawn := {}, toks := 307, os := os } ⟨R.bindR (Fast.tw10540108854288196387 (.str ⟨#[52]⟩ 306)) K, loopC, loopP, f :: g :: stk⟩
  = some ({ tree := pt2 (sA.tree_41 w.params) X (itO 5), n := 41, life := {}, gens := ⟨[]⟩, drawn := {}, toks := 308, os := os }, ⟨K (reduceHash (w.params.strHash #[52])), loopC, loopP, f :: g :: stk⟩) := by
  refine byRow2 "special-get-raises" ?_ ?_ <;> (intro w p os X stk f g K; kernel_rfl)
theorem segN_5 : ∀ (w : World) (p : Program) (os : OsState) (X : Obj) (stk : List Frame) (f g : Frame) (K : Option Value → Sem Fin),
  goT p w 10 { tree := pt2 (sA.tree_41 w.params) X (itO 5), n := 41, life := {}, gens := ⟨[]⟩, drawn := {}, toks := 308, os := os } ⟨R.bindR (Fast.tw9404975358583537561 (.ref 40)) K, loopC, loopP, f :: g :: stk⟩
  = some ({ tree := pt2 (sA.tree_41 w.params) X (itO 6), n := 41, life := {}, gens := ⟨[]⟩, drawn := {}, toks := 309, os := os }, ⟨K (some (.str ⟨#[53]⟩ 308)), loopC, loopP, f :: g :: stk⟩) := by
  intro w p os X stk f g K; kernel_rfl
theorem segP_5 : ∀ (w : World) (p : Program) (os : OsState) (X : Obj) (stk : List Frame) (f g : Frame) (K : Int → Sem Fin),
  goT p w 7 { tree := pt2 (sA.tree_41 w.params) X (itO 6), n := 41, life := {}, gens := ⟨[]⟩, drawn := {}, toks := 309, os := os } ⟨R.bindR (Fast.tw10540108854288196387 (.str ⟨#[53]⟩ 308)) K, loopC, loopP, f :: g :: stk⟩
  = some ({ tree := pt2 (sA.tree_41 w.params) X (itO 6), n := 41, life := {}, gens := ⟨[]⟩, drawn := {}, toks := 310, os := os }, ⟨K (reduceHash (w.params.strHash #[53])), loopC, loopP, f :: g :: stk⟩) := by
  refine byRow2 "special-get-raises" ?_ ?_ <;> (intro w p os X stk f g K; kernel_rfl)
theorem segN_6 : ∀ (w : World) (p : Program) (os : OsState) (X : Obj) (stk : List Frame) (f g : Frame) (K : Option Value → Sem Fin),
  goT p w 10 { tree := pt2 (sA.tree_41 w.params) X (itO 6), n := 41, life := {}, gens := ⟨[]⟩, drawn := {}, toks := 310, os := os } ⟨R.bindR (Fast.tw9404975358583537561 (.ref 40)) K, loopC, loopP, f :: g :: stk⟩
  = some ({ tree := pt2 (sA.tree_41 w.params) X (itO 7), n := 41, life := {}, gens := ⟨[]⟩, drawn := {}, toks := 311, os := os }, ⟨K (some (.str ⟨#[54]⟩ 310)), loopC, loopP, f :: g :: stk⟩) := by
  intro w p os X stk f g K; kernel_rfl
theorem segP_6 : ∀ (w : World) (p : Program) (os : OsState) (X : Obj) (stk : List Frame) (f g : Frame) (K : Int → Sem Fin),
  goT p w 7 { tree := pt2 (sA.tree_41 w.params) X (itO 7), n := 41, life := {}, gens := ⟨[]⟩, drawn := {}, toks := 311, os := os } ⟨R.bindR (Fast.tw10540108854288196387 (.str ⟨#[54]⟩ 310)) K, loopC, loopP, f :: g :: stk⟩
  = some ({ tree := pt2 (sA.tree_41 w.params) X (itO 7), n := 41, life := {}, gens := ⟨[]⟩, drawn := {}, toks := 312, os := os }, ⟨K (reduceHash (w.params.strHash #[54])), loopC, loopP, f :: g :: stk⟩) := by
  refine byRow2 "special-get-raises" ?_ ?_ <;> (intro w p os X stk f g K; kernel_rfl)
theorem segN_7 : ∀ (w : World) (p : Program) (os : OsState) (X : Obj) (stk : List Frame) (f g : Frame) (K : Option Value → Sem Fin),
  goT p w 10 { tree := pt2 (sA.tree_41 w.params) X (itO 7), n := 41, life := {}, gens := ⟨[]⟩, drawn := {}, toks := 312, os := os } ⟨R.bindR (Fast.tw9404975358583537561 (.ref 40)) K, loopC, loopP, f :: g :: stk⟩
  = some ({ tree := pt2 (sA.tree_41 w.params) X (itO 8), n := 41, life := {}, gens := ⟨[]⟩, drawn := {}, toks := 313, os := os }, ⟨K (some (.str ⟨#[55]⟩ 312)), loopC, loopP, f :: g :: stk⟩) := by
  intro w p os X stk f g K; kernel_rfl
theorem segP_7 : ∀ (w : World) (p : Program) (os : OsState) (X : Obj) (stk : List Frame) (f g : Frame) (K : Int → Sem Fin),
  goT p w 7 { tree := pt2 (sA.tree_41 w.params) X (itO 8), n := 41, life := {}, gens := ⟨[]⟩, drawn := {}, toks := 313, os := os } ⟨R.bindR (Fast.tw10540108854288196387 (.str ⟨#[55]⟩ 312)) K, loopC, loopP, f :: g :: stk⟩
  = some ({ tree := pt2 (sA.tree_41 w.params) X (itO 8), n := 41, life := {}, gens := ⟨[]⟩, drawn := {}, toks := 314, os := os }, ⟨K (reduceHash (w.params.strHash #[55])), loopC, loopP, f :: g :: stk⟩) := by
  refine byRow2 "special-get-raises" ?_ ?_ <;> (intro w p os X stk f g K; kernel_rfl)
theorem segN_8 : ∀ (w : World) (p : Program) (os : OsState) (X : Obj) (stk : List Frame) (f g : Frame) (K : Option Value → Sem Fin),
  goT p w 10 { tree := pt2 (sA.tree_41 w.params) X (itO 8), n := 41, life := {}, gens := ⟨[]⟩, drawn := {}, toks := 314, os := os } ⟨R.bindR (Fast.tw9404975358583537561 (.ref 40)) K, loopC, loopP, f :: g :: stk⟩
  = some ({ tree := pt2 (sA.tree_41 w.params) X (itO 9), n := 41, life := {}, gens := ⟨[]⟩, drawn := {}, toks := 315, os := os }, ⟨K (some (.str ⟨#[56]⟩ 314)), loopC, loopP, f :: g :: stk⟩) := by
  intro w p os X stk f g K; kernel_rfl
theorem segP_8 : ∀ (w : World) (p : Program) (os : OsState) (X : Obj) (stk : List Frame) (f g : Frame) (K : Int → Sem Fin),
  goT p w 7 { tree := pt2 (sA.tree_41 w.params) X (itO 9), n := 41, life := {}, gens := ⟨[]⟩, drawn := {}, toks := 315, os := os } ⟨R.bindR (Fast.tw10540108854288196387 (.str ⟨#[56]⟩ 314)) K, loopC, loopP, f :: g :: stk⟩
  = some ({ tree := pt2 (sA.tree_41 w.params) X (itO 9), n := 41, life := {}, gens := ⟨[]⟩, drawn := {}, toks := 316, os := os }, ⟨K (reduceHash (w.params.strHash #[56])), loopC, loopP, f :: g :: stk⟩) := by
  refine byRow2 "special-get-raises" ?_ ?_ <;> (intro w p os X stk f g K; kernel_rfl)
theorem segN_9 : ∀ (w : World) (p : Program) (os : OsState) (X : Obj) (stk : List Frame) (f g : Frame) (K : Option Value → Sem Fin),
  goT p w 10 { tree := pt2 (sA.tree_41 w.params) X (itO 9), n := 41, life := {}, gens := ⟨[]⟩, drawn := {}, toks := 316, os := os } ⟨R.bindR (Fast.tw9404975358583537561 (.ref 40)) K, loopC, loopP, f :: g :: stk⟩
  = some ({ tree := pt2 (sA.tree_41 w.params) X (itO 10), n := 41, life := {}, gens := ⟨[]⟩, drawn := {}, toks := 317, os := os }, ⟨K (some (.str ⟨#[57]⟩ 316)), loopC, loopP, f :: g :: stk⟩) := by
  intro w p os X stk f g K; kernel_rfl
theorem segP_9 : ∀ (w : World) (p : Program) (os : OsState) (X : Obj) (stk : List Frame) (f g : Frame) (K : Int → Sem Fin),
  goT p w 7 { tree := pt2 (sA.tree_41 w.params) X (itO 10), n := 41, life := {}, gens := ⟨[]⟩, drawn := {}, toks := 317, os := os } ⟨R.bindR (Fast.tw10540108854288196387 (.str ⟨#[57]⟩ 316)) K, loopC, loopP, f :: g :: stk⟩
  = some ({ tree := pt2 (sA.tree_41 w.params) X (itO 10), n := 41, life := {}, gens := ⟨[]⟩, drawn := {}, toks := 318, os := os }, ⟨K (reduceHash (w.params.strHash #[57])), loopC, loopP, f :: g :: stk⟩) := by
  refine byRow2 "special-get-raises" ?_ ?_ <;> (intro w p os X stk f g K; kernel_rfl)
theorem segN_10 : ∀ (w : World) (p : Program) (os : OsState) (X : Obj) (stk : List Frame) (f g : Frame) (K : Option Value → Sem Fin),
  goT p w 10 { tree := pt2 (sA.tree_41 w.params) X (itO 10), n := 41, life := {}, gens := ⟨[]⟩, drawn := {}, toks := 318, os := os } ⟨R.bindR (Fast.tw9404975358583537561 (.ref 40)) K, loopC, loopP, f :: g :: stk⟩
  = some ({ tree := pt2 (sA.tree_41 w.params) X (itO 11), n := 41, life := {}, gens := ⟨[]⟩, drawn := {}, toks := 319, os := os }, ⟨K (some (.str ⟨#[97]⟩ 318)), loopC, loopP, f :: g :: stk⟩) := by
  intro w p os X stk f g K; kernel_rfl
theorem segP_10 : ∀ (w : World) (p : Program) (os : OsState) (X : Obj) (stk : List Frame) (f g : Frame) (K : Int → Sem Fin),
  goT p w 7 { tree := pt2 (sA.tree_41 w.params) X (itO 11), n := 41, life := {}, gens := ⟨[]⟩, drawn := {}, toks := 319, os := os } ⟨R.bindR (Fast.tw10540108854288196387 (.str ⟨#[97]⟩ 318)) K, loopC, loopP, f :: g :: stk⟩
  = some ({ tree := pt2 (sA.tree_41 w.params) X (itO 11), n := 41, life := {}, gens := ⟨[]⟩, drawn := {}, toks := 320, os := os }, ⟨K (reduceHash (w.params.strHash #[97])), loopC, loopP, f :: g :: stk⟩) := by
  refine byRow2 "special-get-raises" ?_ ?_ <;> (intro w p os X stk f g K; kernel_rfl)
theorem segN_11 : ∀ (w : World) (p : Program) (os : OsState) (X : Obj) (stk : List Frame) (f g : Frame) (K : Option Value → Sem Fin),
  goT p w 10 { tree := pt2 (sA.tree_41 w.params) X (itO 11), n := 41, life := {}, gens := ⟨[]⟩, drawn := {}, toks := 320, os := os } ⟨R.bindR (Fast.tw9404975358583537561 (.ref 40)) K, loopC, loopP, f :: g :: stk⟩
  = some ({ tree := pt2 (sA.tree_41 w.params) X (itO 12), n := 41, life := {}, gens := ⟨[]⟩, drawn := {}, toks := 321, os := os }, ⟨K (some (.str ⟨#[98]⟩ 320)), loopC, loopP, f :: g :: stk⟩) := by
  intro w p os X stk f g K; kernel_rfl
theorem segP_11 : ∀ (w : World) (p : Program) (os : OsState) (X : Obj) (stk : List Frame) (f g : Frame) (K : Int → Sem Fin),
  goT p w 7 { tree := pt2 (sA.tree_41 w.params) X (itO 12), n := 41, life := {}, gens := ⟨[]⟩, drawn := {}, toks := 321, os := os } ⟨R.bindR (Fast.tw10540108854288196387 (.str ⟨#[98]⟩ 320)) K, loopC, loopP, f :: g :: stk⟩
  = some ({ tree := pt2 (sA.tree_41 w.params) X (itO 12), n := 41, life := {}, gens := ⟨[]⟩, drawn := {}, toks := 322, os := os }, ⟨K (reduceHash (w.params.strHash #[98])), loopC, loopP, f :: g :: stk⟩) := by
  refine byRow2 "special-get-raises" ?_ ?_ <;> (intro w p os X stk f g K; kernel_rfl)
theorem segN_12 : ∀ (w : World) (p : Program) (os : OsState) (X : Obj) (stk : List Frame) (f g : Frame) (K : Option Value → Sem Fin),
  goT p w 10 { tree := pt2 (sA.tree_41 w.params) X (itO 12), n := 41, life := {}, gens := ⟨[]⟩, drawn := {}, toks := 322, os := os } ⟨R.bindR (Fast.tw9404975358583537561 (.ref 40)) K, loopC, loopP, f :: g :: stk⟩
  = some ({ tree := pt2 (sA.tree_41 w.params) X (itO 13), n := 41, life := {}, gens := ⟨[]⟩, drawn := {}, toks := 323, os := os }, ⟨K (some (.str ⟨#[99]⟩ 322)), loopC, loopP, f :: g :: stk⟩) := by
  intro w p os X stk f g K; kernel_rfl
theorem segP_12 : ∀ (w : World) (p : Program) (os : OsState) (X : Obj) (stk : List Frame) (f g : Frame) (K : Int → Sem Fin),
  goT p w 7 { tree := pt2 (sA.tree_41 w.params) X (itO 13), n := 41, life := {}, gens := ⟨[]⟩, drawn := {}, toks := 323, os := os } ⟨R.bindR (Fast.tw10540108854288196387 (.str ⟨#[99]⟩ 322)) K, loopC, loopP, f :: g :: stk⟩
  = some ({ tree := pt2 (sA.tree_41 w.params) X (itO 13), n := 41, life := {}, gens := ⟨[]⟩, drawn := {}, toks := 324, os := os }, ⟨K (reduceHash (w.params.strHash #[99])), loopC, loopP, f :: g :: stk⟩) := by
  refine byRow2 "special-get-raises" ?_ ?_ <;> (intro w p os X stk f g K; kernel_rfl)
theorem segN_13 : ∀ (w : World) (p : Program) (os : OsState) (X : Obj) (stk : List Frame) (f g : Frame) (K : Option Value → Sem Fin),
  goT p w 10 { tree := pt2 (sA.tree_41 w.params) X (itO 13), n := 41, life := {}, gens := ⟨[]⟩, drawn := {}, toks := 324, os := os } ⟨R.bindR (Fast.tw9404975358583537561 (.ref 40)) K, loopC, loopP, f :: g :: stk⟩
  = some ({ tree := pt2 (sA.tree_41 w.params) X (itO 14), n := 41, life := {}, gens := ⟨[]⟩, drawn := {}, toks := 325, os := os }, ⟨K (some (.str ⟨#[100]⟩ 324)), loopC, loopP, f :: g :: stk⟩) := by
  intro w p os X stk f g K; kernel_rfl
theorem segP_13 : ∀ (w : World) (p : Program) (os : OsState) (X : Obj) (stk : List Frame) (f g : Frame) (K : Int → Sem Fin),
  goT p w 7 { tree := pt2 (sA.tree_41 w.params) X (itO 14), n := 41, life := {}, gens := ⟨[]⟩, drawn := {}, toks := 325, os := os } ⟨R.bindR (Fast.tw10540108854288196387 (.str ⟨#[100]⟩ 324)) K, loopC, loopP, f :: g :: stk⟩
  = some ({ tree := pt2 (sA.tree_41 w.params) X (itO 14), n := 41, life := {}, gens := ⟨[]⟩, drawn := {}, toks := 326, os := os }, ⟨K (reduceHash (w.params.strHash #[100])), loopC, loopP, f :: g :: stk⟩) := by
  refine byRow2 "special-get-raises" ?_ ?_ <;> (intro w p os X stk f g K; kernel_rfl)
theorem segN_14 : ∀ (w : World) (p : Program) (os : OsState) (X : Obj) (stk : List Frame) (f g : Frame) (K : Option Value → Sem Fin),
  goT p w 10 { tree := pt2 (sA.tree_41 w.params) X (itO 14), n := 41, life := {}, gens := ⟨[]⟩, drawn := {}, toks := 326, os := os } ⟨R.bindR (Fast.tw9404975358583537561 (.ref 40)) K, loopC, loopP, f :: g :: stk⟩
  = some ({ tree := pt2 (sA.tree_41 w.params) X (itO 15), n := 41, life := {}, gens := ⟨[]⟩, drawn := {}, toks := 327, os := os }, ⟨K (some (.str ⟨#[101]⟩ 326)), loopC, loopP, f :: g :: stk⟩) := by
  intro w p os X stk f g K; kernel_rfl
theorem segP_14 : ∀ (w : World) (p : Program) (os : OsState) (X : Obj) (stk : List Frame) (f g : Frame) (K : Int → Sem Fin),
  goT p w 7 { tree := pt2 (sA.tree_41 w.params) X (itO 15), n := 41, life := {}, gens := ⟨[]⟩, drawn := {}, toks := 327, os := os } ⟨R.bindR (Fast.tw10540108854288196387 (.str ⟨#[101]⟩ 326)) K, loopC, loopP, f :: g :: stk⟩
  = some ({ tree := pt2 (sA.tree_41 w.params) X (itO 15), n := 41, life := {}, gens := ⟨[]⟩, drawn := {}, toks := 328, os := os }, ⟨K (reduceHash (w.params.strHash #[101])), loopC, loopP, f :: g :: stk⟩) := by
  refine byRow2 "special-get-raises" ?_ ?_ <;> (intro w p os X stk f g K; kernel_rfl)
theorem segN_15 : ∀ (w : World) (p : Program) (os : OsState) (X : Obj) (stk : List Frame) (f g : Frame) (K : Option Value → Sem Fin),
  goT p w 10 { tree := pt2 (sA.tree_41 w.params) X (itO 15), n := 41, life := {}, gens := ⟨[]⟩, drawn := {}, toks := 328, os := os } ⟨R.bindR (Fast.tw9404975358583537561 (.ref 40)) K, loopC, loopP, f :: g :: stk⟩
  = some ({ tree := pt2 (sA.tree_41 w.params) X (itO 16), n := 41, life := {}, gens := ⟨[]⟩, drawn := {}, toks := 329, os := os }, ⟨K (some (.str ⟨#[102]⟩ 328)), loopC, loopP, f :: g :: stk⟩) := by
  intro w p os X stk f g K; kernel_rfl
theorem segP_15 : ∀ (w : World) (p : Program) (os : OsState) (X : Obj) (stk : List Frame) (f g : Frame) (K : Int → Sem Fin),
  goT p w 7 { tree := pt2 (sA.tree_41 w.params) X (itO 16), n := 41, life := {}, gens := ⟨[]⟩, drawn := {}, toks := 329, os := os } ⟨R.bindR (Fast.tw10540108854288196387 (.str ⟨#[102]⟩ 328)) K, loopC, loopP, f :: g :: stk⟩
  = some ({ tree := pt2 (sA.tree_41 w.params) X (itO 16), n := 41, life := {}, gens := ⟨[]⟩, drawn := {}, toks := 330, os := os }, ⟨K (reduceHash (w.params.strHash #[102])), loopC, loopP, f :: g :: stk⟩) := by
  refine byRow2 "special-get-raises" ?_ ?_ <;> (intro w p os X stk f g K; kernel_rfl)
theorem segN_16 : ∀ (w : World) (p : Program) (os : OsState) (X : Obj) (stk : List Frame) (f g : Frame) (K : Option Value → Sem Fin),
  goT p w 10 { tree := pt2 (sA.tree_41 w.params) X (itO 16), n := 41, life := {}, gens := ⟨[]⟩, drawn := {}, toks := 330, os := os } ⟨R.bindR (Fast.tw9404975358583537561 (.ref 40)) K, loopC, loopP, f :: g :: stk⟩
  = some ({ tree := pt2 (sA.tree_41 w.params) X (itO 17), n := 41, life := {}, gens := ⟨[]⟩, drawn := {}, toks := 331, os := os }, ⟨K (some (.str ⟨#[65]⟩ 330)), loopC, loopP, f :: g :: stk⟩) := by
  intro w p os X stk f g K; kernel_rfl
theorem segP_16 : ∀ (w : World) (p : Program) (os : OsState) (X : Obj) (stk : List Frame) (f g : Frame) (K : Int → Sem Fin),
  goT p w 7 { tree := pt2 (sA.tree_41 w.params) X (itO 17), n := 41, life := {}, gens := ⟨[]⟩, drawn := {}, toks := 331, os := os } ⟨R.bindR (Fast.tw10540108854288196387 (.str ⟨#[65]⟩ 330)) K, loopC, loopP, f :: g :: stk⟩
  = some ({ tree := pt2 (sA.tree_41 w.params) X (itO 17), n := 41, life := {}, gens := ⟨[]⟩, drawn := {}, toks := 332, os := os }, ⟨K (reduceHash (w.params.strHash #[65])), loopC, loopP, f :: g :: stk⟩) := by
  refine byRow2 "special-get-raises" ?_ ?_ <;> (intro w p os X stk f g K; kernel_rfl)
theorem segN_17 : ∀ (w : World) (p : Program) (os : OsState) (X : Obj) (stk : List Frame) (f g : Frame) (K : Option Value → Sem Fin),
  goT p w 10 { tree := pt2 (sA.tree_41 w.params) X (itO 17), n := 41, life := {}, gens := ⟨[]⟩, drawn := {}, toks := 332, os := os } ⟨R.bindR (Fast.tw9404975358583537561 (.ref 40)) K, loopC, loopP, f :: g :: stk⟩
  = some ({ tree := pt2 (sA.tree_41 w.params) X (itO 18), n := 41, life := {}, gens := ⟨[]⟩, drawn := {}, toks := 333, os := os }, ⟨K (some (.str ⟨#[66]⟩ 332)), loopC, loopP, f :: g :: stk⟩) := by
  intro w p os X stk f g K; kernel_rfl
theorem segP_17 : ∀ (w : World) (p : Program) (os : OsState) (X : Obj) (stk : List Frame) (f g : Frame) (K : Int → Sem Fin),
  goT p w 7 { tree := pt2 (sA.tree_41 w.params) X (itO 18), n := 41, life := {}, gens := ⟨[]⟩, drawn := {}, toks := 333, os := os } ⟨R.bindR (Fast.tw10540108854288196387 (.str ⟨#[66]⟩ 332)) K, loopC, loopP, f :: g :: stk⟩
  = some ({ tree := pt2 (sA.tree_41 w.params) X (itO 18), n := 41, life := {}, gens := ⟨[]⟩, drawn := {}, toks := 334, os := os }, ⟨K (reduceHash (w.params.strHash #[66])), loopC, loopP, f :: g :: stk⟩) := by
  refine byRow2 "special-get-raises" ?_ ?_ <;> (intro w p os X stk f g K; kernel_rfl)
theorem segN_18 : ∀ (w : World) (p : Program) (os : OsState) (X : Obj) (stk : List Frame) (f g : Frame) (K : Option Value → Sem Fin),
  goT p w 10 { tree := pt2 (sA.tree_41 w.params) X (itO 18), n := 41, life := {}, gens := ⟨[]⟩, drawn := {}, toks := 334, os := os } ⟨R.bindR (Fast.tw9404975358583537561 (.ref 40)) K, loopC, loopP, f :: g :: stk⟩
  = some ({ tree := pt2 (sA.tree_41 w.params) X (itO 19), n := 41, life := {}, gens := ⟨[]⟩, drawn := {}, toks := 335, os := os }, ⟨K (some (.str ⟨#[67]⟩ 334)), loopC, loopP, f :: g :: stk⟩) := by
  intro w p os X stk f g K; kernel_rfl
theorem segP_18 : ∀ (w : World) (p : Program) (os : OsState) (X : Obj) (stk : List Frame) (f g : Frame) (K : Int → Sem Fin),
  goT p w 7 { tree := pt2 (sA.tree_41 w.params) X (itO 19), n := 41, life := {}, gens := ⟨[]⟩, drawn := {}, toks := 335, os := os } ⟨R.bindR (Fast.tw10540108854288196387 (.str ⟨#[67]⟩ 334)) K, loopC, loopP, f :: g :: stk⟩
  = some ({ tree := pt2 (sA.tree_41 w.params) X (itO 19), n := 41, life := {}, gens := ⟨[]⟩, drawn := {}, toks := 336, os := os }, ⟨K (reduceHash (w.params.strHash #[67])), loopC, loopP, f :: g :: stk⟩) := by
  refine byRow2 "special-get-raises" ?_ ?_ <;> (intro w p os X stk f g K; kernel_rfl)
theorem segN_19 : ∀ (w : World) (p : Program) (os : OsState) (X : Obj) (stk : List Frame) (f g : Frame) (K : Option Value → Sem Fin),
  goT p w 10 { tree := pt2 (sA.tree_41 w.params) X (itO 19), n := 41, life := {}, gens := ⟨[]⟩, drawn := {}, toks := 336, os := os } ⟨R.bindR (Fast.tw9404975358583537561 (.ref 40)) K, loopC, loopP, f :: g :: stk⟩
  = some ({ tree := pt2 (sA.tree_41 w.params) X (itO 20), n := 41, life := {}, gens := ⟨[]⟩, drawn := {}, toks := 337, os := os }, ⟨K (some (.str ⟨#[68]⟩ 336)), loopC, loopP, f :: g :: stk⟩) := by
  intro w p os X stk f g K; kernel_rfl
theorem segP_19 : ∀ (w : World) (p : Program) (os : OsState) (X : Obj) (stk : List Frame) (f g : Frame) (K : Int → Sem Fin),
  goT p w 7 { tree := pt2 (sA.tree_41 w.params) X (itO 20), n := 41, life := {}, gens := ⟨[]⟩, drawn := {}, toks := 337, os := os } ⟨R.bindR (Fast.tw10540108854288196387 (.str ⟨#[68]⟩ 336)) K, loopC, loopP, f :: g :: stk⟩
  = some ({ tree := pt2 (sA.tree_41 w.params) X (itO 20), n := 41, life := {}, gens := ⟨[]⟩, drawn := {}, toks := 338, os := os }, ⟨K (reduceHash (w.params.strHash #[68])), loopC, loopP, f :: g :: stk⟩) := by
  refine byRow2 "special-get-raises" ?_ ?_ <;> (intro w p os X stk f g K; kernel_rfl)
theorem segN_20 : ∀ (w : World) (p : Program) (os : OsState) (X : Obj) (stk : List Frame) (f g : Frame) (K : Option Value → Sem Fin),
  goT p w 10 { tree := pt2 (sA.tree_41 w.params) X (itO 20), n := 41, life := {}, gens := ⟨[]⟩, drawn := {}, toks := 338, os := os } ⟨R.bindR (Fast.tw9404975358583537561 (.ref 40)) K, loopC, loopP, f :: g :: stk⟩
  = some ({ tree := pt2 (sA.tree_41 w.params) X (itO 21), n := 41, life := {}, gens := ⟨[]⟩, drawn := {}, toks := 339, os := os }, ⟨K (some (.str ⟨#[69]⟩ 338)), loopC, loopP, f :: g :: stk⟩) := by
  intro w p os X stk f g K; kernel_rfl
theorem segP_20 : ∀ (w : World) (p : Program) (os : OsState) (X : Obj) (stk : List Frame) (f g : Frame) (K : Int → Sem Fin),
  goT p w 7 { tree := pt2 (sA.tree_41 w.params) X (itO 21), n := 41, life := {}, gens := ⟨[]⟩, drawn := {}, toks := 339, os := os } ⟨R.bindR (Fast.tw10540108854288196387 (.str ⟨#[69]⟩ 338)) K, loopC, loopP, f :: g :: stk⟩
  = some ({ tree := pt2 (sA.tree_41 w.params) X (itO 21), n := 41, life := {}, gens := ⟨[]⟩, drawn := {}, toks := 340, os := os }, ⟨K (reduceHash (w.params.strHash #[69])), loopC, loopP, f :: g :: stk⟩) := by
  refine byRow2 "special-get-raises" ?_ ?_ <;> (intro w p os X stk f g K; kernel_rfl)
theorem segN_21 : ∀ (w : World) (p : Program) (os : OsState) (X : Obj) (stk : List Frame) (f g : Frame) (K : Option Value → Sem Fin),
  goT p w 10 { tree := pt2 (sA.tree_41 w.params) X (itO 21), n := 41, life := {}, gens := ⟨[]⟩, drawn := {}, toks := 340, os := os } ⟨R.bindR (Fast.tw9404975358583537561 (.ref 40)) K, loopC, loopP, f :: g :: stk⟩
  = some ({ tree := pt2 (sA.tree_41 w.params) X (itO 22), n := 41, life := {}, gens := ⟨[]⟩, drawn := {}, toks := 341, os := os }, ⟨K (some (.str ⟨#[70]⟩ 340)), loopC, loopP, f :: g :: stk⟩) := by
  intro w p os X stk f g K; kernel_rfl
theorem segP_21 : ∀ (w : World) (p : Program) (os : OsState) (X : Obj) (stk : List Frame) (f g : Frame) (K : Int → Sem Fin),
  goT p w 7 { tree := pt2 (sA.tree_41 w.params) X (itO 22), n := 41, life := {}, gens := ⟨[]⟩, drawn := {}, toks := 341, os := os } ⟨R.bindR (Fast.tw10540108854288196387 (.str ⟨#[70]⟩ 340)) K, loopC, loopP, f :: g :: stk⟩
  = some ({ tree := pt2 (sA.tree_41 w.params) X (itO 22), n := 41, life := {}, gens := ⟨[]⟩, drawn := {}, toks := 342, os := os }, ⟨K (reduceHash (w.params.strHash #[70])), loopC, loopP, f :: g :: stk⟩) := by
  refine byRow2 "special-get-raises" ?_ ?_ <;> (intro w p os X stk f g K; kernel_rfl)
end Mine
end H6b_text
section H6c_text
open PySem PySem.W PyProof.Rows
namespace Mine
section
variable {p : Program} {w : World}
noncomputable def Rch (p : Program) (w : World) (N : Nat) (s : SharedT) (t : Thread) (Φ : SharedT → Thread → Prop) : Prop := ∃ n s' t', n ≤ N ∧ segGoT treeTable p w 28 (some (Value.ref 6)) 1 n s t = some (s', t') ∧ Φ s' t'
theorem goT_add {tb : String → Option Builtin} {n₀ b : Nat} {ann : Option Value} : ∀ {n m : Nat} {s s' : SharedT} {t t' : Thread} {r : SharedT × Thread}, segGoT tb p w n₀ ann b n s t = some (s', t') → segGoT tb p w n₀ ann b m s' t' = some r → segGoT tb p w n₀ ann b (n + m) s t = some r
  | 0, m, s, s', t, t', r, h, k => by
    obtain ⟨rfl, rfl⟩ : s = s' ∧ t = t' := by simpa [segGoT] using h
    rw [Nat.zero_add]; exact k
  | n + 1, m, s, s', t, t', r, h, k => by
    rw [show n + 1 + m = n + m + 1 by omega]
    unfold segGoT at h ⊢
    cases he : endAt b t with
    | some f => rw [he] at h; cases h
    | none =>
      rw [he] at h
      cases hk : stepOk n₀ ann t with
      | false => rw [hk] at h; cases h
      | true =>
        rw [hk] at h
        cases hs : stepT (denote tb) p w s t with
        | none => rw [hs] at h; cases h
        | some x => obtain ⟨s₂, t₂⟩ := x; rw [hs] at h; exact goT_add h k
variable {Φ : SharedT → Thread → Prop}
theorem Rch.refl {N : Nat} {s : SharedT} {t : Thread} (h : Φ s t) : Rch p w N s t Φ := ⟨0, s, t, Nat.zero_le _, rfl, h⟩
theorem Rch.bind {N M : Nat} {s : SharedT} {t : Thread} (h : Rch p w N s t fun s₁ t₁ => Rch p w M s₁ t₁ Φ) : Rch p w (N + M) s t Φ := by
  obtain ⟨n, s₁, t₁, h1, h2, m, s₂, t₂, k1, k2, k3⟩ := h
  exact ⟨n + m, s₂, t₂, by omega, goT_add h2 k2, k3⟩
theorem Rch.go {n M : Nat} {s s₁ : SharedT} {t t₁ : Thread} (h : segGoT treeTable p w 28 (some (Value.ref 6)) 1 n s t = some (s₁, t₁)) (k : Rch p w M s₁ t₁ Φ) : Rch p w (n + M) s t Φ := by
  obtain ⟨m, s₂, t₂, k1, k2, k3⟩ := k
  exact ⟨n + m, s₂, t₂, by omega, goT_add h k2, k3⟩
theorem Rch.mono {N M : Nat} {s : SharedT} {t : Thread} (h : Rch p w N s t Φ) (hm : N ≤ M) : Rch p w M s t Φ := by
  obtain ⟨n, s₁, t₁, h1, h2⟩ := h
  exact ⟨n, s₁, t₁, by omega, h2⟩
variable {N : Nat} {T : BT} {n : Nat} {life : Life} {gens : Array GenState} {drawn : Drawn} {toks : Nat} {os : OsState} {c : Code} {q : Pos} {f g : Frame} {stk : List Frame}
theorem r_step {cur : Sem Fin} {s₁ : SharedT} {t₁ : Thread} (he : endAt 1 ⟨cur, c, q, f :: g :: stk⟩ = none) (hk : stepOk 28 (some (Value.ref 6)) ⟨cur, c, q, f :: g :: stk⟩ = true)
    (hs : stepT (denote treeTable) p w ⟨T, n, life, gens, drawn, toks, os⟩ ⟨cur, c, q, f :: g :: stk⟩ = some (s₁, t₁)) (k : Rch p w N s₁ t₁ Φ) : Rch p w (N + 1) ⟨T, n, life, gens, drawn, toks, os⟩ ⟨cur, c, q, f :: g :: stk⟩ Φ := by
  obtain ⟨m, s₂, t₂, h1, h2, h3⟩ := k
  refine ⟨m + 1, s₂, t₂, by omega, ?_, h3⟩
  unfold segGoT
  rw [he, hk, hs]
  exact h2
theorem end_none {cur : Sem Fin} : endAt 1 ⟨cur, c, q, f :: g :: stk⟩ = none := by
  unfold endAt
  have : ((f :: g :: stk).length == 1) = false := by simp
  simp only [this]
theorem r_load {a : Addr} {pt : Option Value} {k : Obj → Sem Fin} {o : Obj} (hn : Nat.blt a n = true) (ho : T.get a = some o) (ha : alive o = some o)
    (h : Rch p w N ⟨T, n, life, gens, drawn, toks, os⟩ ⟨k o, c, q, f :: g :: stk⟩ Φ) : Rch p w (N + 1) ⟨T, n, life, gens, drawn, toks, os⟩ ⟨.load a pt k, c, q, f :: g :: stk⟩ Φ :=
  r_step end_none rfl (by simp only [stepT, hn, ho, ha]) h
theorem r_update {a : Addr} {pt : Option Value} {F : Obj → Obj} {k : Unit → Sem Fin} {o : Obj} (hn : Nat.blt a n = true) (ho : T.get a = some o) (ha : alive o = some o) (hm : Nat.ble 28 a = true)
    (h : Rch p w N ⟨T.set a F, n, life, gens, drawn, toks, os⟩ ⟨k (), c, q, f :: g :: stk⟩ Φ) : Rch p w (N + 1) ⟨T, n, life, gens, drawn, toks, os⟩ ⟨.update a pt F k, c, q, f :: g :: stk⟩ Φ := by
  refine r_step end_none ?_ (by simp only [stepT, hn, ho, ha]) h
  unfold stepOk
  simp only [hm, Bool.true_or, Bool.and_true]
  rfl
theorem r_rule {tag : String} {k : Unit → Sem Fin}
    (h : Rch p w N ⟨T, n, life, gens, drawn, toks, os⟩ ⟨k (), c, q, f :: g :: stk⟩ Φ) : Rch p w (N + 1) ⟨T, n, life, gens, drawn, toks, os⟩ ⟨.rule tag k, c, q, f :: g :: stk⟩ Φ :=
  r_step end_none rfl rfl h
noncomputable def lpC : Code := .builtin "set.update.loop" ⟨[.ref 39, .ref 40], []⟩
theorem r_again (h : Rch p w N ⟨T, n, life, gens, drawn, toks, os⟩ ⟨denote treeTable lpC, lpC, q, f :: g :: stk⟩ Φ) : Rch p w (N + 1) ⟨T, n, life, gens, drawn, toks, os⟩ ⟨.pure (.again lpC), lpC, q, f :: g :: stk⟩ Φ :=
  r_step end_none (by kernel_rfl) rfl h
end
noncomputable def stK (o : Obj) : Sem (Array (Int × Value) × Nat × SetTable) := match o.data with
  | .set es n t => do
    if t.place.size != es.size || t.fill > t.mask then unsupported "internal:set-table-does-not-fit-its-elements"
    pure (es, n, t)
  | _ => unsupported "internal:not-a-set"
theorem setState_eq (a : Addr) : setState a = Sem.load a none stK := rfl
noncomputable def sO (es : Array (Int × Value)) (n : Nat) (t : SetTable) : Obj := { cls := .type "frozenset", data := .set es n t }
theorem stK_set {es : Array (Int × Value)} {n : Nat} {t : SetTable} (h : (t.place.size != es.size || decide (t.fill > t.mask)) = false) : stK (sO es n t) = Sem.pure (es, n, t) := by
  unfold stK sO
  dsimp only
  rw [if_neg (by rw [h]; decide)]
  rfl
noncomputable def ssK (es : Array (Int × Value)) (t : SetTable) (a : Addr) (o : Obj) : Sem Unit := match o.data with
  | .set .. => do
    if es.size > sizeLine then unsupported "set:memory"
    update a (Obj.putSet es t)
  | _ => unsupported "internal:write-to-non-set"
theorem storeSet_eq (a : Addr) (es : Array (Int × Value)) (t : SetTable) : storeSet a es t = Sem.load a none (ssK es t a) := rfl
theorem ssK_set {es es' : Array (Int × Value)} {n : Nat} {t t' : SetTable} {a : Addr} (h : ¬ es'.size > sizeLine) : ssK es' t' a (sO es n t) = Sem.update a none (Obj.putSet es' t') .pure := by
  unfold ssK sO
  dsimp only
  rw [if_neg h]
  rfl
end Mine
end H6c_text
section H6d_text
open PySem PySem.W PyProof.Rows
namespace Mine
noncomputable def gw : Bool → Sem Unit
  | true => rule "set.scan.the-table-gave-way"
  | false => Sem.pure ()
noncomputable def restS (a : Addr) (x : Value) (h : Int) (es : Array (Int × Value)) (t : SetTable) : Sem (Option Bool) :=
  Sem.bind (gw (layNew t es h x).2.2.2) fun _ =>
  Sem.bind (if (layNew t es h x).2.1.plain then hashByValue 8 x else pure true) fun bv =>
  Sem.bind (storeSet a (layNew t es h x).1 (if bv then (layNew t es h x).2.1 else { (layNew t es h x).2.1 with plain := false })) fun _ =>
  if !(layNew t es h x).2.2.1 && (if bv then (layNew t es h x).2.1 else { (layNew t es h x).2.1 with plain := false }).tooFull then
    Sem.bind (gw (relayAll (if bv then (layNew t es h x).2.1 else { (layNew t es h x).2.1 with plain := false }) (layNew t es h x).1 (SetTable.grown (layNew t es h x).1.size)).2.2) fun _ =>
    Sem.bind (storeSet a (relayAll (if bv then (layNew t es h x).2.1 else { (layNew t es h x).2.1 with plain := false }) (layNew t es h x).1 (SetTable.grown (layNew t es h x).1.size)).1
      (relayAll (if bv then (layNew t es h x).2.1 else { (layNew t es h x).2.1 with plain := false }) (layNew t es h x).1 (SetTable.grown (layNew t es h x).1.size)).2.1) fun _ => Sem.pure (some true)
  else Sem.pure (some true)
theorem scan_form (a : Addr) (x : Value) (h : Int) (es : Array (Int × Value)) (t : SetTable) : ∃ G : ScanMet → Sem (Option Bool), setAddByScan a x h es t = Sem.rule "set.add.by-scan" (fun _ => Sem.bind (setScan a x h true es) G) ∧ G .absent = restS a x h es t := by
  refine ⟨_, rfl, ?_⟩
  unfold restS
  cases layNew t es h x with
  | mk es1 r =>
    obtain ⟨t1, wd, gv⟩ := r
    have key : ∀ (bv : Bool) (X Y : Bool → Sem (Option Bool)), (∀ b, X b = Y b) → (if bv = true then Sem.bind (hashByValue 8 x) X else Sem.bind (pure true) X) = Sem.bind (if bv = true then hashByValue 8 x else pure true) Y := by
      intro bv X Y e
      rw [funext e]
      cases bv <;> rfl
    have key2 : ∀ (A B : Sem Unit) (X Y : Unit → Sem (Option Bool)), A = B → (∀ b, X b = Y b) → Sem.bind A X = Sem.bind B Y := by
      intro A B X Y e e'
      rw [e, funext e']
    refine key2 _ _ _ _ (by cases gv <;> rfl) fun _ => ?_
    refine key _ _ _ fun b => ?_
    refine key2 _ _ _ _ rfl fun _ => ?_
    dsimp only
    generalize (if b = true then t1 else { t1 with plain := false }) = t2
    generalize hr : relayAll t2 es1 (SetTable.grown es1.size) = rr
    obtain ⟨e3, t3, g3⟩ := rr
    cases (!wd && t2.tooFull)
    · rfl
    · refine key2 _ _ _ _ (by cases g3 <;> rfl) fun _ => ?_
      rfl
theorem sahi_form (a : Addr) (x : Value) (h : Int) (fuel : Nat) : ∃ B : Array (Int × Value) × Nat × SetTable → Sem Bool, setAddHashedIn a x h (fuel + 1) = Sem.bind (setState a) B ∧
    ∀ es n t, byScan x es = true → B (es, n, t) = Sem.bind (setAddByScan a x h es t) (fun r => match r with | some b => Sem.pure b | none => setAddHashedIn a x h fuel) := by
  refine ⟨_, by rw [setAddHashedIn]; rfl, fun es n t hb => ?_⟩
  dsimp only
  rw [if_pos hb]
  congr 1
theorem scan_absent {i : Nat} {es : Array (Int × Value)} {t : SetTable} (I : SInv i es t) (hi : i < 22) (a : Addr) (h : Int) : setScan a (dgV i) h true es = Sem.pure .absent := by
  unfold setScan dgV
  dsimp only
  rw [if_pos I.strs]
  unfold setScanStrs
  rw [I.absent hi]
  rfl
end Mine
end H6d_text
section H6e_text
open PySem PySem.W PyProof.Rows
namespace Mine
theorem tr_get (P : Params) (X I : Obj) : (pt2 (sA.tree_41 P) X I).get 39 = some X := rfl
theorem tr_set (P : Params) (X I : Obj) (F : Obj → Obj) : (pt2 (sA.tree_41 P) X I).set 39 F = pt2 (sA.tree_41 P) (F X) I := rfl
section
variable {p : Program} {w : World} {N : Nat} {P : Params} {I : Obj} {life : Life} {gens : Array GenState} {drawn : Drawn} {toks : Nat} {os : OsState} {c : Code} {q : Pos} {f g : Frame} {stk : List Frame} {Φ : SharedT → Thread → Prop}
theorem r_store {es es' : Array (Int × Value)} {n : Nat} {t u : SetTable} {K : Unit → Sem Fin} (hs : ¬ es'.size > sizeLine)
    (h : Rch p w N ⟨pt2 (sA.tree_41 P) (sO es' (n + 1) u) I, 41, life, gens, drawn, toks, os⟩ ⟨K (), c, q, f :: g :: stk⟩ Φ) :
    Rch p w (N + 2) ⟨pt2 (sA.tree_41 P) (sO es n t) I, 41, life, gens, drawn, toks, os⟩ ⟨Sem.bind (storeSet 39 es' u) K, c, q, f :: g :: stk⟩ Φ := by
  rw [storeSet_eq]
  refine r_load (k := fun o => Sem.bind (ssK es' u 39 o) K) rfl (tr_get _ _ _) rfl ?_
  rw [ssK_set hs]
  refine r_update (k := fun _ => K ()) rfl (tr_get _ _ _) rfl rfl ?_
  rw [tr_set]
  exact h
theorem r_gw {b : Bool} {K : Unit → Sem Fin} {T : BT} {n : Nat}
    (h : Rch p w N ⟨T, n, life, gens, drawn, toks, os⟩ ⟨K (), c, q, f :: g :: stk⟩ Φ) : Rch p w (N + 1) ⟨T, n, life, gens, drawn, toks, os⟩ ⟨Sem.bind (gw b) K, c, q, f :: g :: stk⟩ Φ := by
  cases b
  · exact h.mono (by omega)
  · exact r_rule (k := fun _ => K ()) h
theorem hbv {x : Value} {i : Nat} (hx : x = dgV i) (b : Bool) : ∃ bv : Bool, (if b = true then hashByValue 8 x else (pure true : Sem Bool)) = Sem.pure bv := by
  subst hx
  cases b
  · exact ⟨true, rfl⟩
  · exact ⟨false, rfl⟩
theorem add_run {i : Nat} {es : Array (Int × Value)} {n : Nat} {t : SetTable} (I0 : SInv i es t) (hi : i < 22) (h : Int) (fuel : Nat) (K : Bool → Sem Fin)
    (fin : ∀ es' n' t₁, SInv (i + 1) es' t₁ → Rch p w N ⟨pt2 (sA.tree_41 P) (sO es' n' t₁) I, 41, life, gens, drawn, toks, os⟩ ⟨K true, c, q, f :: g :: stk⟩ Φ) :
    Rch p w (N + 8) ⟨pt2 (sA.tree_41 P) (sO es n t) I, 41, life, gens, drawn, toks, os⟩ ⟨Sem.bind (setAddHashedIn 39 (dgV i) h (fuel + 1)) K, c, q, f :: g :: stk⟩ Φ := by
  obtain ⟨B, e1, e2⟩ := sahi_form 39 (dgV i) h fuel
  rw [e1, setState_eq]
  refine r_load (k := fun o => Sem.bind (Sem.bind (stK o) B) K) rfl (tr_get _ _ _) rfl ?_
  rw [stK_set I0.state]
  show Rch p w (N + 7) _ ⟨Sem.bind (B (es, n, t)) K, c, q, f :: g :: stk⟩ Φ
  rw [e2 es n t (I0.scan hi rfl)]
  obtain ⟨G, g1, g2⟩ := scan_form 39 (dgV i) h es t
  rw [g1]
  refine r_rule (k := fun _ => Sem.bind (Sem.bind (Sem.bind (setScan 39 (dgV i) h true es) G) _) K) ?_
  rw [scan_absent I0 hi]
  show Rch p w (N + 6) _ ⟨Sem.bind (Sem.bind (G .absent) _) K, c, q, f :: g :: stk⟩ Φ
  rw [g2]
  unfold restS
  have I1 := layNew_inv h I0
  generalize layNew t es h (dgV i) = r at I1
  obtain ⟨es1, t1, wd, gv⟩ := r
  dsimp only at I1 ⊢
  have hsz : ∀ {e : Array (Int × Value)} {u : SetTable}, SInv (i + 1) e u → ¬ e.size > sizeLine := fun I => by
    rw [I.size]
    have : sizeLine = 16777216 := rfl
    omega
  simp only [Sem.bind_assoc]
  refine r_gw (K := fun u => _) ?_
  obtain ⟨bv, hb⟩ := hbv (rfl : dgV i = dgV i) t1.plain
  rw [hb]
  show Rch p w (N + 5) _ ⟨Sem.bind (storeSet 39 es1 (if bv = true then t1 else { t1 with plain := false })) _, c, q, f :: g :: stk⟩ Φ
  have I2 : SInv (i + 1) es1 (if bv = true then t1 else { t1 with plain := false }) := by
    cases bv
    · exact I1.plain false
    · exact I1
  generalize (if bv = true then t1 else { t1 with plain := false }) = t2 at I2
  refine r_store (hsz I2) ?_
  cases (!wd && t2.tooFull)
  · exact (fin _ _ _ I2).mono (by omega)
  · rw [if_pos rfl]
    have I3 := relayAll_inv (wanted := SetTable.grown es1.size) I2
    generalize relayAll t2 es1 (SetTable.grown es1.size) = r2 at I3
    obtain ⟨es3, t3, g3⟩ := r2
    simp only [Sem.bind_assoc]
    refine r_gw (K := fun u => _) ?_
    refine r_store (hsz I3) ?_
    exact fin _ _ _ I3
end
end Mine
end H6e_text
section H6f_text
open PySem PySem.W PyProof.Rows
namespace Mine
theorem loopC_eq : loopC = lpC := by unfold loopC lpC; rw [← SL.e10534883147002075979x15]
noncomputable abbrev St6 (P : Params) (os : OsState) (X : Obj) (i : Int) (k : Nat) : SharedT := { tree := pt2 (sA.tree_41 P) X (itO i), n := 41, life := {}, gens := ⟨[]⟩, drawn := {}, toks := k, os := os }
theorem unN {w : World} {p : Program} {os : OsState} {X : Obj} {stk : List Frame} {f g : Frame} {K : Option Value → Sem Fin} {i j : Int} {a b : Nat} {v : Value}
  (h : goT p w 10 { tree := pt2 (sA.tree_41 w.params) X (itO i), n := 41, life := {}, gens := ⟨[]⟩, drawn := {}, toks := a, os := os } ⟨R.bindR (Fast.tw9404975358583537561 (.ref 40)) K, loopC, loopP, f :: g :: stk⟩
    = some ({ tree := pt2 (sA.tree_41 w.params) X (itO j), n := 41, life := {}, gens := ⟨[]⟩, drawn := {}, toks := b, os := os }, ⟨K (some v), loopC, loopP, f :: g :: stk⟩)) :
  segGoT treeTable p w 28 (some (Value.ref 6)) 1 10 (St6 w.params os X i a) ⟨Sem.bind (pyNext (.ref 40)) K, lpC, loopP, f :: g :: stk⟩ = some (St6 w.params os X j b, ⟨K (some v), lpC, loopP, f :: g :: stk⟩) := by
  rw [loopC_eq, ← Fast.te9404975358583537561, ← R.bindR_eq] at h
  unfold goT at h
  rw [← Fast.te10295753902157049106, ← Fast.te14364793385576792824] at h
  exact h
theorem unP {w : World} {p : Program} {os : OsState} {X : Obj} {stk : List Frame} {f g : Frame} {K : Int → Sem Fin} {j : Int} {a b : Nat} {v : Value} {h0 : Int}
  (h : goT p w 7 { tree := pt2 (sA.tree_41 w.params) X (itO j), n := 41, life := {}, gens := ⟨[]⟩, drawn := {}, toks := a, os := os } ⟨R.bindR (Fast.tw10540108854288196387 v) K, loopC, loopP, f :: g :: stk⟩
    = some ({ tree := pt2 (sA.tree_41 w.params) X (itO j), n := 41, life := {}, gens := ⟨[]⟩, drawn := {}, toks := b, os := os }, ⟨K h0, loopC, loopP, f :: g :: stk⟩)) :
  segGoT treeTable p w 28 (some (Value.ref 6)) 1 7 (St6 w.params os X j a) ⟨Sem.bind (pyHash v) K, lpC, loopP, f :: g :: stk⟩ = some (St6 w.params os X j b, ⟨K h0, lpC, loopP, f :: g :: stk⟩) := by
  rw [loopC_eq, ← Fast.te10540108854288196387, ← R.bindR_eq] at h
  unfold goT at h
  rw [← Fast.te10295753902157049106, ← Fast.te14364793385576792824] at h
  exact h
noncomputable def lpK : Option Value → Sem Fin
  | some x => Sem.bind (holding [x] (setAdd 39 x)) fun _ => again lpC
  | none => ret .none
theorem den_b {id : String} {args : Args} {b : Builtin} (h : entryFor table id = some b) : denote table (.builtin id args) = b args := by simp only [denote, h]
theorem lp_eq : denote treeTable lpC = Sem.bind (pyNext (.ref 40)) lpK := by
  rw [← table_eq_tree]
  unfold lpC
  rw [den_b F.entry_set_update_loop]
  unfold Builtin.«set.update.loop»
  dsimp only
  show Sem.bind (pyNext (.ref 40)) _ = _
  congr 1
  funext o
  cases o <;> rfl
theorem lpK_eq (x : Str) (u : Tok) : lpK (some (.str x u)) = Sem.bind (pyHash (.str x u)) fun h => Sem.bind (setAddHashedIn 39 (.str x u) h 100000) fun _ => again lpC := by
  show Sem.bind (Sem.bind (pyHash (.str x u)) fun h => setAddHashedIn 39 (.str x u) h 100000) _ = _
  rw [Sem.bind_assoc]
theorem round {w : World} {p : Program} {N : Nat} {os : OsState} {stk : List Frame} {f g : Frame} {Φ : SharedT → Thread → Prop} {i : Nat} {ii jj : Int} {es : Array (Int × Value)} {n a b d : Nat} {t : SetTable} {h0 : Int} (I : SInv i es t) (hi : i < 22)
    (A : ∀ (X : Obj) (K : Option Value → Sem Fin), segGoT treeTable p w 28 (some (Value.ref 6)) 1 10 (St6 w.params os X ii a) ⟨Sem.bind (pyNext (.ref 40)) K, lpC, loopP, f :: g :: stk⟩ = some (St6 w.params os X jj b, ⟨K (some (dgV i)), lpC, loopP, f :: g :: stk⟩))
    (B : ∀ (X : Obj) (K : Int → Sem Fin), segGoT treeTable p w 28 (some (Value.ref 6)) 1 7 (St6 w.params os X jj b) ⟨Sem.bind (pyHash (dgV i)) K, lpC, loopP, f :: g :: stk⟩ = some (St6 w.params os X jj d, ⟨K h0, lpC, loopP, f :: g :: stk⟩))
    (fin : ∀ es' n' t₁, SInv (i + 1) es' t₁ → Rch p w N (St6 w.params os (sO es' n' t₁) jj d) ⟨denote treeTable lpC, lpC, loopP, f :: g :: stk⟩ Φ) :
    Rch p w (N + 26) (St6 w.params os (sO es n t) ii a) ⟨denote treeTable lpC, lpC, loopP, f :: g :: stk⟩ Φ := by
  rw [lp_eq]
  refine (Rch.go (A _ _) ?_ : Rch p w (10 + (N + 16)) _ _ _).mono (by omega)
  unfold dgV
  rw [lpK_eq]
  refine (Rch.go (B _ _) ?_ : Rch p w (7 + (N + 9)) _ _ _).mono (by omega)
  exact add_run I hi _ 99999 _ fun es' n' t₁ I' => r_again (fin es' n' t₁ I')

theorem round_0 {w : World} {p : Program} {N : Nat} {os : OsState} {stk : List Frame} {f g : Frame} {Φ : SharedT → Thread → Prop} {es : Array (Int × Value)} {n : Nat} {t : SetTable} (I : SInv 0 es t)
    (fin : ∀ es' n' t₁, SInv 1 es' t₁ → Rch p w N (St6 w.params os (sO es' n' t₁) 1 300) ⟨denote treeTable lpC, lpC, loopP, f :: g :: stk⟩ Φ) : Rch p w (N + 26) (St6 w.params os (sO es n t) 0 298) ⟨denote treeTable lpC, lpC, loopP, f :: g :: stk⟩ Φ :=
  round I (by decide) (fun X K => unN (segN_0 w p os X stk f g K)) (fun X K => unP (segP_0 w p os X stk f g K)) fin
theorem round_1 {w : World} {p : Program} {N : Nat} {os : OsState} {stk : List Frame} {f g : Frame} {Φ : SharedT → Thread → Prop} {es : Array (Int × Value)} {n : Nat} {t : SetTable} (I : SInv 1 es t)
    (fin : ∀ es' n' t₁, SInv 2 es' t₁ → Rch p w N (St6 w.params os (sO es' n' t₁) 2 302) ⟨denote treeTable lpC, lpC, loopP, f :: g :: stk⟩ Φ) : Rch p w (N + 26) (St6 w.params os (sO es n t) 1 300) ⟨denote treeTable lpC, lpC, loopP, f :: g :: stk⟩ Φ :=
  round I (by decide) (fun X K => unN (segN_1 w p os X stk f g K)) (fun X K => unP (segP_1 w p os X stk f g K)) fin
theorem round_2 {w : World} {p : Program} {N : Nat} {os : OsState} {stk : List Frame} {f g : Frame} {Φ : SharedT → Thread → Prop} {es : Array (Int × Value)} {n : Nat} {t : SetTable} (I : SInv 2 es t)
    (fin : ∀ es' n' t₁, SInv 3 es' t₁ → Rch p w N (St6 w.params os (sO es' n' t₁) 3 304) ⟨denote treeTable lpC, lpC, loopP, f :: g :: stk⟩ Φ) : Rch p w (N + 26) (St6 w.params os (sO es n t) 2 302) ⟨denote treeTable lpC, lpC, loopP, f :: g :: stk⟩ Φ :=
  round I (by decide) (fun X K => unN (segN_2 w p os X stk f g K)) (fun X K => unP (segP_2 w p os X stk f g K)) fin
theorem round_3 {w : World} {p : Program} {N : Nat} {os : OsState} {stk : List Frame} {f g : Frame} {Φ : SharedT → Thread → Prop} {es : Array (Int × Value)} {n : Nat} {t : SetTable} (I : SInv 3 es t)
    (fin : ∀ es' n' t₁, SInv 4 es' t₁ → Rch p w N (St6 w.params os (sO es' n' t₁) 4 306) ⟨denote treeTable lpC, lpC, loopP, f :: g :: stk⟩ Φ) : Rch p w (N + 26) (St6 w.params os (sO es n t) 3 304) ⟨denote treeTable lpC, lpC, loopP, f :: g :: stk⟩ Φ :=
  round I (by decide) (fun X K => unN (segN_3 w p os X stk f g K)) (fun X K => unP (segP_3 w p os X stk f g K)) fin
theorem round_4 {w : World} {p : Program} {N : Nat} {os : OsState} {stk : List Frame} {f g : Frame} {Φ : SharedT → Thread → Prop} {es : Array (Int × Value)} {n : Nat} {t : SetTable} (I : SInv 4 es t)
    (fin : ∀ es' n' t₁, SInv 5 es' t₁ → Rch p w N (St6 w.params os (sO es' n' t₁) 5 308) ⟨denote treeTable lpC, lpC, loopP, f :: g :: stk⟩ Φ) : Rch p w (N + 26) (St6 w.params os (sO es n t) 4 306) ⟨denote treeTable lpC, lpC, loopP, f :: g :: stk⟩ Φ :=
  round I (by decide) (fun X K => unN (segN_4 w p os X stk f g K)) (fun X K => unP (segP_4 w p os X stk f g K)) fin
theorem round_5 {w : World} {p : Program} {N : Nat} {os : OsState} {stk : List Frame} {f g : Frame} {Φ : SharedT → Thread → Prop} {es : Array (Int × Value)} {n : Nat} {t : SetTable} (I : SInv 5 es t)
    (fin : ∀ es' n' t₁, SInv 6 es' t₁ → Rch p w N (St6 w.params os (sO es' n' t₁) 6 310) ⟨denote treeTable lpC, lpC, loopP, f :: g :: stk⟩ Φ) : Rch p w (N + 26) (St6 w.params os (sO es n t) 5 308) ⟨denote treeTable lpC, lpC, loopP, f :: g :: stk⟩ Φ :=
  round I (by decide) (fun X K => unN (segN_5 w p os X stk f g K)) (fun X K => unP (segP_5 w p os X stk f g K)) fin
theorem round_6 {w : World} {p : Program} {N : Nat} {os : OsState} {stk : List Frame} {f g : Frame} {Φ : SharedT → Thread → Prop} {es : Array (Int × Value)} {n : Nat} {t : SetTable} (I : SInv 6 es t)
    (fin : ∀ es' n' t₁, SInv 7 es' t₁ → Rch p w N (St6 w.params os (sO es' n' t₁) 7 312) ⟨denote treeTable lpC, lpC, loopP, f :: g :: stk⟩ Φ) : Rch p w (N + 26) (St6 w.params os (sO es n t) 6 310) ⟨denote treeTable lpC, lpC, loopP, f :: g :: stk⟩ Φ :=
  round I (by decide) (fun X K => unN (segN_6 w p os X stk f g K)) (fun X K => unP (segP_6 w p os X stk f g K)) fin
theorem round_7 {w : World} {p : Program} {N : Nat} {os : OsState} {stk : List Frame} {f g : Frame} {Φ : SharedT → Thread → Prop} {es : Array (Int × Value)} {n : Nat} {t : SetTable} (I : SInv 7 es t)
    (fin : ∀ es' n' t₁, SInv 8 es' t₁ → Rch p w N (St6 w.params os (sO es' n' t₁) 8 314) ⟨denote treeTable lpC, lpC, loopP, f :: g :: stk⟩ Φ) : Rch p w (N + 26) (St6 w.params os (sO es n t) 7 312) ⟨denote treeTable lpC, lpC, loopP, f :: g :: stk⟩ Φ :=
  round I (by decide) (fun X K => unN (segN_7 w p os X stk f g K)) (fun X K => unP (segP_7 w p os X stk f g K)) fin
theorem round_8 {w : World} {p : Program} {N : Nat} {os : OsState} {stk : List Frame} {f g : Frame} {Φ : SharedT → Thread → Prop} {es : Array (Int × Value)} {n : Nat} {t : SetTable} (I : SInv 8 es t)
    (fin : ∀ es' n' t₁, SInv 9 es' t₁ → Rch p w N (St6 w.params os (sO es' n' t₁) 9 316) ⟨denote treeTable lpC, lpC, loopP, f :: g :: stk⟩ Φ) : Rch p w (N + 26) (St6 w.params os (sO es n t) 8 314) ⟨denote treeTable lpC, lpC, loopP, f :: g :: stk⟩ Φ :=
  round I (by decide) (fun X K => unN (segN_8 w p os X stk f g K)) (fun X K => unP (segP_8 w p os X stk f g K)) fin
theorem round_9 {w : World} {p : Program} {N : Nat} {os : OsState} {stk : List Frame} {f g : Frame} {Φ : SharedT → Thread → Prop} {es : Array (Int × Value)} {n : Nat} {t : SetTable} (I : SInv 9 es t)
    (fin : ∀ es' n' t₁, SInv 10 es' t₁ → Rch p w N (St6 w.params os (sO es' n' t₁) 10 318) ⟨denote treeTable lpC, lpC, loopP, f :: g :: stk⟩ Φ) : Rch p w (N + 26) (St6 w.params os (sO es n t) 9 316) ⟨denote treeTable lpC, lpC, loopP, f :: g :: stk⟩ Φ :=
  round I (by decide) (fun X K => unN (segN_9 w p os X stk f g K)) (fun X K => unP (segP_9 w p os X stk f g K)) fin
theorem round_10 {w : World} {p : Program} {N : Nat} {os : OsState} {stk : List Frame} {f g : Frame} {Φ : SharedT → Thread → Prop} {es : Array (Int × Value)} {n : Nat} {t : SetTable} (I : SInv 10 es t)
    (fin : ∀ es' n' t₁, SInv 11 es' t₁ → Rch p w N (St6 w.params os (sO es' n' t₁) 11 320) ⟨denote treeTable lpC, lpC, loopP, f :: g :: stk⟩ Φ) : Rch p w (N + 26) (St6 w.params os (sO es n t) 10 318) ⟨denote treeTable lpC, lpC, loopP, f :: g :: stk⟩ Φ :=
  round I (by decide) (fun X K => unN (segN_10 w p os X stk f g K)) (fun X K => unP (segP_10 w p os X stk f g K)) fin
theorem round_11 {w : World} {p : Program} {N : Nat} {os : OsState} {stk : List Frame} {f g : Frame} {Φ : SharedT → Thread → Prop} {es : Array (Int × Value)} {n : Nat} {t : SetTable} (I : SInv 11 es t)
    (fin : ∀ es' n' t₁, SInv 12 es' t₁ → Rch p w N (St6 w.params os (sO es' n' t₁) 12 322) ⟨denote treeTable lpC, lpC, loopP, f :: g :: stk⟩ Φ) : Rch p w (N + 26) (St6 w.params os (sO es n t) 11 320) ⟨denote treeTable lpC, lpC, loopP, f :: g :: stk⟩ Φ :=
  round I (by decide) (fun X K => unN (segN_11 w p os X stk f g K)) (fun X K => unP (segP_11 w p os X stk f g K)) fin
theorem round_12 {w : World} {p : Program} {N : Nat} {os : OsState} {stk : List Frame} {f g : Frame} {Φ : SharedT → Thread → Prop} {es : Array (Int × Value)} {n : Nat} {t : SetTable} (I : SInv 12 es t)
    (fin : ∀ es' n' t₁, SInv 13 es' t₁ → Rch p w N (St6 w.params os (sO es' n' t₁) 13 324) ⟨denote treeTable lpC, lpC, loopP, f :: g :: stk⟩ Φ) : Rch p w (N + 26) (St6 w.params os (sO es n t) 12 322) ⟨denote treeTable lpC, lpC, loopP, f :: g :: stk⟩ Φ :=
  round I (by decide) (fun X K => unN (segN_12 w p os X stk f g K)) (fun X K => unP (segP_12 w p os X stk f g K)) fin
theorem round_13 {w : World} {p : Program} {N : Nat} {os : OsState} {stk : List Frame} {f g : Frame} {Φ : SharedT → Thread → Prop} {es : Array (Int × Value)} {n : Nat} {t : SetTable} (I : SInv 13 es t)
    (fin : ∀ es' n' t₁, SInv 14 es' t₁ → Rch p w N (St6 w.params os (sO es' n' t₁) 14 326) ⟨denote treeTable lpC, lpC, loopP, f :: g :: stk⟩ Φ) : Rch p w (N + 26) (St6 w.params os (sO es n t) 13 324) ⟨denote treeTable lpC, lpC, loopP, f :: g :: stk⟩ Φ :=
  round I (by decide) (fun X K => unN (segN_13 w p os X stk f g K)) (fun X K => unP (segP_13 w p os X stk f g K)) fin
theorem round_14 {w : World} {p : Program} {N : Nat} {os : OsState} {stk : List Frame} {f g : Frame} {Φ : SharedT → Thread → Prop} {es : Array (Int × Value)} {n : Nat} {t : SetTable} (I : SInv 14 es t)
    (fin : ∀ es' n' t₁, SInv 15 es' t₁ → Rch p w N (St6 w.params os (sO es' n' t₁) 15 328) ⟨denote treeTable lpC, lpC, loopP, f :: g :: stk⟩ Φ) : Rch p w (N + 26) (St6 w.params os (sO es n t) 14 326) ⟨denote treeTable lpC, lpC, loopP, f :: g :: stk⟩ Φ :=
  round I (by decide) (fun X K => unN (segN_14 w p os X stk f g K)) (fun X K => unP (segP_14 w p os X stk f g K)) fin
theorem round_15 {w : World} {p : Program} {N : Nat} {os : OsState} {stk : List Frame} {f g : Frame} {Φ : SharedT → Thread → Prop} {es : Array (Int × Value)} {n : Nat} {t : SetTable} (I : SInv 15 es t)
    (fin : ∀ es' n' t₁, SInv 16 es' t₁ → Rch p w N (St6 w.params os (sO es' n' t₁) 16 330) ⟨denote treeTable lpC, lpC, loopP, f :: g :: stk⟩ Φ) : Rch p w (N + 26) (St6 w.params os (sO es n t) 15 328) ⟨denote treeTable lpC, lpC, loopP, f :: g :: stk⟩ Φ :=
  round I (by decide) (fun X K => unN (segN_15 w p os X stk f g K)) (fun X K => unP (segP_15 w p os X stk f g K)) fin
theorem round_16 {w : World} {p : Program} {N : Nat} {os : OsState} {stk : List Frame} {f g : Frame} {Φ : SharedT → Thread → Prop} {es : Array (Int × Value)} {n : Nat} {t : SetTable} (I : SInv 16 es t)
    (fin : ∀ es' n' t₁, SInv 17 es' t₁ → Rch p w N (St6 w.params os (sO es' n' t₁) 17 332) ⟨denote treeTable lpC, lpC, loopP, f :: g :: stk⟩ Φ) : Rch p w (N + 26) (St6 w.params os (sO es n t) 16 330) ⟨denote treeTable lpC, lpC, loopP, f :: g :: stk⟩ Φ :=
  round I (by decide) (fun X K => unN (segN_16 w p os X stk f g K)) (fun X K => unP (segP_16 w p os X stk f g K)) fin
theorem round_17 {w : World} {p : Program} {N : Nat} {os : OsState} {stk : List Frame} {f g : Frame} {Φ : SharedT → Thread → Prop} {es : Array (Int × Value)} {n : Nat} {t : SetTable} (I : SInv 17 es t)
    (fin : ∀ es' n' t₁, SInv 18 es' t₁ → Rch p w N (St6 w.params os (sO es' n' t₁) 18 334) ⟨denote treeTable lpC, lpC, loopP, f :: g :: stk⟩ Φ) : Rch p w (N + 26) (St6 w.params os (sO es n t) 17 332) ⟨denote treeTable lpC, lpC, loopP, f :: g :: stk⟩ Φ :=
  round I (by decide) (fun X K => unN (segN_17 w p os X stk f g K)) (fun X K => unP (segP_17 w p os X stk f g K)) fin
theorem round_18 {w : World} {p : Program} {N : Nat} {os : OsState} {stk : List Frame} {f g : Frame} {Φ : SharedT → Thread → Prop} {es : Array (Int × Value)} {n : Nat} {t : SetTable} (I : SInv 18 es t)
    (fin : ∀ es' n' t₁, SInv 19 es' t₁ → Rch p w N (St6 w.params os (sO es' n' t₁) 19 336) ⟨denote treeTable lpC, lpC, loopP, f :: g :: stk⟩ Φ) : Rch p w (N + 26) (St6 w.params os (sO es n t) 18 334) ⟨denote treeTable lpC, lpC, loopP, f :: g :: stk⟩ Φ :=
  round I (by decide) (fun X K => unN (segN_18 w p os X stk f g K)) (fun X K => unP (segP_18 w p os X stk f g K)) fin
theorem round_19 {w : World} {p : Program} {N : Nat} {os : OsState} {stk : List Frame} {f g : Frame} {Φ : SharedT → Thread → Prop} {es : Array (Int × Value)} {n : Nat} {t : SetTable} (I : SInv 19 es t)
    (fin : ∀ es' n' t₁, SInv 20 es' t₁ → Rch p w N (St6 w.params os (sO es' n' t₁) 20 338) ⟨denote treeTable lpC, lpC, loopP, f :: g :: stk⟩ Φ) : Rch p w (N + 26) (St6 w.params os (sO es n t) 19 336) ⟨denote treeTable lpC, lpC, loopP, f :: g :: stk⟩ Φ :=
  round I (by decide) (fun X K => unN (segN_19 w p os X stk f g K)) (fun X K => unP (segP_19 w p os X stk f g K)) fin
theorem round_20 {w : World} {p : Program} {N : Nat} {os : OsState} {stk : List Frame} {f g : Frame} {Φ : SharedT → Thread → Prop} {es : Array (Int × Value)} {n : Nat} {t : SetTable} (I : SInv 20 es t)
    (fin : ∀ es' n' t₁, SInv 21 es' t₁ → Rch p w N (St6 w.params os (sO es' n' t₁) 21 340) ⟨denote treeTable lpC, lpC, loopP, f :: g :: stk⟩ Φ) : Rch p w (N + 26) (St6 w.params os (sO es n t) 20 338) ⟨denote treeTable lpC, lpC, loopP, f :: g :: stk⟩ Φ :=
  round I (by decide) (fun X K => unN (segN_20 w p os X stk f g K)) (fun X K => unP (segP_20 w p os X stk f g K)) fin
theorem round_21 {w : World} {p : Program} {N : Nat} {os : OsState} {stk : List Frame} {f g : Frame} {Φ : SharedT → Thread → Prop} {es : Array (Int × Value)} {n : Nat} {t : SetTable} (I : SInv 21 es t)
    (fin : ∀ es' n' t₁, SInv 22 es' t₁ → Rch p w N (St6 w.params os (sO es' n' t₁) 22 342) ⟨denote treeTable lpC, lpC, loopP, f :: g :: stk⟩ Φ) : Rch p w (N + 26) (St6 w.params os (sO es n t) 21 340) ⟨denote treeTable lpC, lpC, loopP, f :: g :: stk⟩ Φ :=
  round I (by decide) (fun X K => unN (segN_21 w p os X stk f g K)) (fun X K => unP (segP_21 w p os X stk f g K)) fin
theorem rounds {w : World} {p : Program} {N : Nat} {os : OsState} {stk : List Frame} {f g : Frame} {Φ : SharedT → Thread → Prop} {es : Array (Int × Value)} {n : Nat} {t : SetTable} (I0 : SInv 0 es t)
    (fin : ∀ es' n' t₁, SInv 22 es' t₁ → Rch p w N (St6 w.params os (sO es' n' t₁) 22 342) ⟨denote treeTable lpC, lpC, loopP, f :: g :: stk⟩ Φ) : Rch p w (N + 572) (St6 w.params os (sO es n t) 0 298) ⟨denote treeTable lpC, lpC, loopP, f :: g :: stk⟩ Φ :=
  (round_0 I0 (fun es1 n1 t1 I1 => round_1 I1 (fun es2 n2 t2 I2 => round_2 I2 (fun es3 n3 t3 I3 => round_3 I3 (fun es4 n4 t4 I4 => round_4 I4 (fun es5 n5 t5 I5 => round_5 I5 (fun es6 n6 t6 I6 => round_6 I6 (fun es7 n7 t7 I7 => round_7 I7 (fun es8 n8 t8 I8 => round_8 I8 (fun es9 n9 t9 I9 => round_9 I9 (fun es10 n10 t10 I10 => round_10 I10 (fun es11 n11 t11 I11 => round_11 I11 (fun es12 n12 t12 I12 => round_12 I12 (fun es13 n13 t13 I13 => round_13 I13 (fun es14 n14 t14 I14 => round_14 I14 (fun es15 n15 t15 I15 => round_15 I15 (fun es16 n16 t16 I16 => round_16 I16 (fun es17 n17 t17 I17 => round_17 I17 (fun es18 n18 t18 I18 => round_18 I18 (fun es19 n19 t19 I19 => round_19 I19 (fun es20 n20 t20 I20 => round_20 I20 (fun es21 n21 t21 I21 => round_21 I21 (fun es22 n22 t22 I22 => fin es22 n22 t22 I22)))))))))))))))))))))) : Rch p w (N + 26 + 26 + 26 + 26 + 26 + 26 + 26 + 26 + 26 + 26 + 26 + 26 + 26 + 26 + 26 + 26 + 26 + 26 + 26 + 26 + 26 + 26) _ _ _).mono (by omega)
end Mine
end H6f_text
section H6g_text
open PySem PySem.W PyProof.Rows
namespace Mine
noncomputable def pt (T : BT) (a b c d : Obj) : BT := (((T.set 39 fun _ => a).set 40 fun _ => b).set 41 fun _ => c).set 42 fun _ => d
noncomputable abbrev q0 : Pos := ⟨0, 0, 0, 0⟩
noncomputable def st6T : Stmt := .Assign [.Name ⟨#[72, 69, 88, 68, 73, 71, 73, 84, 95, 67, 72, 65, 82, 83]⟩ ⟨8, 0, 8, 14⟩]
  (.Call (.Name ⟨#[102, 114, 111, 122, 101, 110, 115, 101, 116]⟩ ⟨8, 17, 8, 26⟩) [.Name ⟨#[104, 101, 120, 100, 105, 103, 105, 116, 115]⟩ ⟨8, 27, 8, 36⟩] [] ⟨8, 17, 8, 37⟩) ⟨8, 0, 8, 37⟩
noncomputable def thr6 (w : World) (p : Program) (b : List Stmt) (os : OsState) : List Frame := match goT p w 20 { tree := sA.tree_41 w.params, n := 39, life := {}, gens := ⟨[]⟩, drawn := {}, toks := 298, os := os }
    (piecesOf [st6T] sA.env_1 (Code.body b sA.env_1) ⟨7, 0, 7, 8⟩ [topFrame q0]) with
  | some (_, t) => t.stack
  | none => []
noncomputable def nthF (l : List Frame) (k : Nat) : Frame := l.getD k (topFrame q0)
noncomputable def set0 (w : World) : SetTable := { mask := 7, place := #[], dummies := #[], finger := 0, led := !w.params.followText "set-order", moves := 0, plain := true }
theorem pre6 : ∀ (w : World) (p : Program) (b : List Stmt) (os : OsState),
  goT p w 20 { tree := sA.tree_41 w.params, n := 39, life := {}, gens := ⟨[]⟩, drawn := {}, toks := 298, os := os }
    (piecesOf [st6T] sA.env_1 (Code.body b sA.env_1) ⟨7, 0, 7, 8⟩ [topFrame q0])
  = some ({ tree := pt2 (sA.tree_41 w.params) (setO #[] 0 (set0 w)) (itO 0), n := 41, life := {}, gens := ⟨[]⟩, drawn := {}, toks := 298, os := os },
    ⟨Fast.tw11892475500146522536 Fast.tw14364793385576792824 loopC, loopC, loopP, nthF (thr6 w p b os) 0 :: nthF (thr6 w p b os) 1 :: [nthF (thr6 w p b os) 2, topFrame q0]⟩) := by
  refine byRow2 "special-get-raises" ?_ ?_ <;> (intro w p b os; kernel_rfl)
noncomputable def o40 : Obj := { cls := .type SL.s13500813778147066322x18, data := .fields #[.none, .int 22 0] }
noncomputable def o41 : Obj := { cls := .type SL.s2766695959194262286x5, data := .seq #[] }
noncomputable def o42 : Obj := { cls := .type SL.s5991306692159431302x13, data := .fields #[.ref 41, .none, .none, .none, .bool false, .none] }
theorem fin6 : ∀ (w : World) (p : Program) (b : List Stmt) (os : OsState) (es : Array (Int × Value)) (n : Nat) (t : SetTable),
  Fast.tw10110043849684766642 Fast.tw14364793385576792824 p w 28 (some (Value.ref 6)) 1 40 { tree := pt2 (sA.tree_41 w.params) (setO es n t) (itO 22), n := 41, life := {}, gens := ⟨[]⟩, drawn := {}, toks := 342, os := os }
    ⟨Fast.tw11892475500146522536 Fast.tw14364793385576792824 loopC, loopC, loopP, nthF (thr6 w p b os) 0 :: nthF (thr6 w p b os) 1 :: [nthF (thr6 w p b os) 2, topFrame q0]⟩
  = some (Flow.next, { tree := pt (hB.tree_87 w.params) (setO es n t) o40 o41 o42, n := 43, life := {}, gens := ⟨[]⟩, drawn := {}, toks := 343, os := os }, Code.body b sA.env_1, ⟨8, 0, 8, 14⟩) := by
  refine byRow2 "special-get-raises" ?_ ?_ <;> (intro w p b os es n t; kernel_rfl)
end Mine
end H6g_text
section H6h_text
open PySem PySem.W PyProof.Rows
namespace Mine
noncomputable abbrev lo : List Str := [⟨#[104, 101, 120, 100, 105, 103, 105, 116, 115]⟩, ⟨#[72, 69, 88, 68, 73, 71, 73, 84, 95, 67, 72, 65, 82, 83]⟩, ⟨#[116, 119, 105, 110, 95, 114, 101, 95, 49, 95, 98, 97, 115, 101, 54, 52]⟩,
  ⟨#[98, 121, 116, 101, 115, 95, 116, 121, 112, 101, 115]⟩, ⟨#[98, 50, 97, 95, 98, 97, 115, 101, 54, 52]⟩, ⟨#[95, 78, 79, 95, 83, 69, 80]⟩, ⟨#[98, 50, 97, 95, 104, 101, 120]⟩, ⟨#[104, 101, 120, 108, 105, 102, 121]⟩,
  ⟨#[117, 110, 104, 101, 120, 108, 105, 102, 121]⟩, ⟨#[98, 54, 52, 101, 110, 99, 111, 100, 101]⟩, ⟨#[98, 49, 54, 100, 101, 99, 111, 100, 101]⟩, ⟨#[116, 119, 105, 110, 95, 114, 101, 95, 49, 95, 102, 110, 109, 97, 116, 99, 104]⟩,
  ⟨#[95, 115, 112, 101, 99, 105, 97, 108, 95, 99, 104, 97, 114, 115, 95, 109, 97, 112]⟩, ⟨#[115, 117, 102, 102, 105, 120, 101, 100, 95, 101, 114, 114]⟩, ⟨#[95, 116, 114, 97, 110, 115, 108, 97, 116, 101]⟩]
noncomputable def put4 (h : Heap) (a b c d : Obj) : Heap := { h with objs := ⟨(((h.objs.toList.set 39 a).set 40 b).set 41 c).set 42 d⟩ }
noncomputable abbrev HX (P : Params) (es : Array (Int × Value)) (n : Nat) (t : SetTable) : Heap := put4 (hB.heap_332 P) (setO es n t) o40 o41 o42
noncomputable abbrev SX (P : Params) (os : OsState) (es : Array (Int × Value)) (n : Nat) (t : SetTable) : Shared := { heap := HX P es n t, gens := ⟨[]⟩, drawn := {}, toks := 814, os := os }
noncomputable abbrev XtR : Shared → Bool := fun s => xlAt vR [(⟨#[104, 101, 120, 100, 105, 103, 105, 116, 115]⟩, WData.str ⟨#[48, 49, 50, 51, 52, 53, 54, 55, 56, 57, 97, 98, 99, 100, 101, 102, 65, 66, 67, 68, 69, 70]⟩)] s && recOk PySem.Challenge.rw_in0263_01.row.records s

noncomputable def k1 : Prop := ∀ (P : Params) (os : OsState) es n t, (staticsOk (importedModules pR.main.body) (hB.heap_68 P) (HX P es n t) && namesBound pR (HX P es n t) && gensDone (SX P os es n t) && laidKept (hB.heap_68 P) (HX P es n t)) = true
noncomputable def k2 : Prop := ∀ (P : Params) (os : OsState) es n t, seen ((recsOf vR).map (·.name)) (ownsOf vR) [] { SX P os es n t with gens := #[] } = expectedOf vR
noncomputable def k3 : Prop := ∀ (P : Params) es n t, (HX P es n t).bltView = bltViewBooted
noncomputable def k4 : Prop := ∀ (P : Params) (os : OsState) es n t, ((SX P os es n t).heap.keysOk (looseW vR lo) ((recsOf vR).map (·.name)) ((litsOf vR).map (·.1)) ((clssOf vR (looseW vR lo)).map (·.name)) && (SX P os es n t).heap.accountedOkI (importedModules pR.main.body) && (SX P os es n t).heap.isNs mainGlobals && (SX P os es n t).heap.isNs builtinsNs && tablesOk vR (SX P os es n t).heap && XtR (SX P os es n t) && (if true then (SX P os es n t).gens.size == 0 else !leftWithCleanup (SX P os es n t).gens)) = true
noncomputable def k5 : Prop := ∀ (P : Params) (os : OsState) es n t, tabsOk vR (SX P os es n t) = true
noncomputable def k6 : Prop := ∀ (P : Params) (os : OsState) es n t, pinSeenD vR (drecsOf vR) (SX P os es n t) = pinGoodD (drecsOf vR)
noncomputable def k7 : Prop := ∀ (P : Params) (os : OsState) es n t, plainSeenE vR (looseW vR lo) (SX P os es n t) = plainGoodE vR (looseW vR lo)
noncomputable def k8 : Prop := ∀ (P : Params) (os : OsState) es n t, plainSeenD vR lo (SX P os es n t) = plainGoodD vR lo
noncomputable def k9 : Prop := ∀ (P : Params) (os : OsState) es n t, wideSeen vR (SX P os es n t) = wideGood vR
noncomputable def k10 : Prop := ∀ (P : Params) (os : OsState) es n t, clsSeenW vR lo (SX P os es n t) = clsGoodW vR lo
end Mine
end H6h_text
section H6i_text
open PySem PySem.W PyProof.Rows
namespace Mine
set_option maxHeartbeats 0 in
theorem look1 : k1 := by
  intro P os es n t
  unfold SX HX pR
  rw [Fast.te5923862056798008813]
  kernel_rfl
set_option maxHeartbeats 0 in
theorem look2 : k2 := by
  intro P os es n t
  unfold SX HX vR
  rw [Fast.te5160383126252970620, R.mapR_eq, Fast.te3399658132070893891, Fast.te5991557255702980513]
  kernel_rfl
set_option maxHeartbeats 0 in
theorem look3 : k3 := by
  intro P es n t
  unfold HX
  kernel_rfl
set_option maxHeartbeats 0 in
theorem look4 : k4 := by
  intro P os es n t
  unfold SX HX vR XtR pR
  rw [Fast.te10880121769531294198, Fast.te821141287760084731, R.mapR_eq, Fast.te3399658132070893891, Fast.te7409074990110511671, Fast.te13664370479719496447, Fast.te14722251495701143533, Fast.te5923862056798008813, Fast.te10994771534591457954, Fast.te2368527892694137696]
  kernel_rfl
set_option maxHeartbeats 0 in
theorem look5 : k5 := by
  intro P os es n t
  unfold SX HX vR
  rw [Fast.te479339242167458305]
  kernel_rfl
set_option maxHeartbeats 0 in
theorem look6 : k6 := by
  intro P os es n t
  unfold SX HX vR
  rw [Fast.te16090120013241838585, Fast.te3247288618530077131]
  kernel_rfl
set_option maxHeartbeats 0 in
theorem look7 : k7 := by
  intro P os es n t
  unfold SX HX vR
  rw [Fast.te2386780881361962483, Fast.te821141287760084731]
  kernel_rfl
set_option maxHeartbeats 0 in
theorem look8 : k8 := by
  intro P os es n t
  unfold SX HX vR
  rw [Fast.te11698064438423848299]
  kernel_rfl
set_option maxHeartbeats 0 in
theorem look9 : k9 := by
  intro P os es n t
  unfold SX HX vR
  rw [Fast.te7317090234206586261]
  kernel_rfl
set_option maxHeartbeats 0 in
theorem look10 : k10 := by
  intro P os es n t
  unfold SX HX vR
  rw [Fast.te7369524293546568484]
  kernel_rfl
end Mine
end H6i_text
section H6j_text
open PySem PySem.W PyProof.Rows
namespace Mine
noncomputable abbrev ann : Option Value := some (Value.ref 6)
noncomputable abbrev StX (T : BT) (n k : Nat) (os : OsState) (x0 x1 x2 x3 : Obj) : SharedT := { tree := pt T x0 x1 x2 x3, n := n, life := {}, gens := ⟨[]⟩, drawn := {}, toks := k, os := os }
noncomputable abbrev bR : List Stmt := behindTheImports pR
theorem suf88 : ∀ (w : World) (p : Program) (b : List Stmt) (os : OsState) (x0 x1 x2 x3 : Obj),
  Fast.tw10110043849684766642 Fast.tw14364793385576792824 p w 28 ann 1 379 (StX (hB.tree_87 w.params) 43 343 os x0 x1 x2 x3)
   (piecesOf hB.sts_88 hB.env_41 (Code.body b hB.env_41) ⟨8,0,8,14⟩ [topFrame q0])
  = some (Flow.next, StX (hB.tree_129 w.params) 83 422 os x0 x1 x2 x3, Code.body b hB.env_41, ⟨36,0,36,11⟩) := by
  (intro w p b os x0 x1 x2 x3; kernel_rfl)
theorem suU88 (w : World) (p : Program) (b : List Stmt) (os : OsState) (x0 x1 x2 x3 : Obj) :
  segRun treeTable p w 28 ann 1 379 (StX (hB.tree_87 w.params) 43 343 os x0 x1 x2 x3).abs (piecesOf hB.sts_88 hB.env_41 (Code.body b hB.env_41) ⟨8,0,8,14⟩ [topFrame q0])
  = some (Flow.next, (StX (hB.tree_129 w.params) 83 422 os x0 x1 x2 x3).abs, Code.body b hB.env_41, ⟨36,0,36,11⟩) := by
  refine segRun_of ?_
  rw [Fast.te10110043849684766642, Fast.te14364793385576792824]
  exact suf88 w p b os x0 x1 x2 x3
theorem suf130 : ∀ (w : World) (p : Program) (b : List Stmt) (os : OsState) (x0 x1 x2 x3 : Obj),
  Fast.tw10110043849684766642 Fast.tw14364793385576792824 p w 28 ann 1 390 (StX (hB.tree_129 w.params) 83 422 os x0 x1 x2 x3)
   (piecesOf hB.sts_130 hB.env_41 (Code.body b hB.env_41) ⟨36,0,36,11⟩ [topFrame q0])
  = some (Flow.next, StX (hB.tree_181 w.params) 133 490 os x0 x1 x2 x3, Code.body b hB.env_41, ⟨98,0,98,7⟩) := by
  (intro w p b os x0 x1 x2 x3; kernel_rfl)
theorem suU130 (w : World) (p : Program) (b : List Stmt) (os : OsState) (x0 x1 x2 x3 : Obj) :
  segRun treeTable p w 28 ann 1 390 (StX (hB.tree_129 w.params) 83 422 os x0 x1 x2 x3).abs (piecesOf hB.sts_130 hB.env_41 (Code.body b hB.env_41) ⟨36,0,36,11⟩ [topFrame q0])
  = some (Flow.next, (StX (hB.tree_181 w.params) 133 490 os x0 x1 x2 x3).abs, Code.body b hB.env_41, ⟨98,0,98,7⟩) := by
  refine segRun_of ?_
  rw [Fast.te10110043849684766642, Fast.te14364793385576792824]
  exact suf130 w p b os x0 x1 x2 x3
theorem suf182 : ∀ (w : World) (p : Program) (b : List Stmt) (os : OsState) (x0 x1 x2 x3 : Obj),
  Fast.tw10110043849684766642 Fast.tw14364793385576792824 p w 28 ann 1 312 (StX (hB.tree_181 w.params) 133 490 os x0 x1 x2 x3)
   (piecesOf hB.sts_182 hB.env_41 (Code.body b hB.env_41) ⟨98,0,98,7⟩ [topFrame q0])
  = some (Flow.next, StX (hB.tree_233 w.params) 183 589 os x0 x1 x2 x3, Code.body b hB.env_41, ⟨157,0,157,8⟩) := by
  (intro w p b os x0 x1 x2 x3; kernel_rfl)
theorem suU182 (w : World) (p : Program) (b : List Stmt) (os : OsState) (x0 x1 x2 x3 : Obj) :
  segRun treeTable p w 28 ann 1 312 (StX (hB.tree_181 w.params) 133 490 os x0 x1 x2 x3).abs (piecesOf hB.sts_182 hB.env_41 (Code.body b hB.env_41) ⟨98,0,98,7⟩ [topFrame q0])
  = some (Flow.next, (StX (hB.tree_233 w.params) 183 589 os x0 x1 x2 x3).abs, Code.body b hB.env_41, ⟨157,0,157,8⟩) := by
  refine segRun_of ?_
  rw [Fast.te10110043849684766642, Fast.te14364793385576792824]
  exact suf182 w p b os x0 x1 x2 x3
theorem suf234 : ∀ (w : World) (p : Program) (b : List Stmt) (os : OsState) (x0 x1 x2 x3 : Obj),
  Fast.tw10110043849684766642 Fast.tw14364793385576792824 p w 28 ann 1 1253 (StX (hB.tree_233 w.params) 183 589 os x0 x1 x2 x3)
   (piecesOf hB.sts_234 hB.env_41 (Code.body b hB.env_41) ⟨157,0,157,8⟩ [topFrame q0])
  = some (Flow.next, StX (hB.tree_239 w.params) 188 735 os x0 x1 x2 x3, Code.body b hB.env_41, ⟨158,0,158,18⟩) := by
  refine byRow2 "special-get-raises" ?_ ?_ <;> refine byRow2 "comprehension-iter-twice" ?_ ?_ <;> (intro w p b os x0 x1 x2 x3; kernel_rfl)
theorem suU234 (w : World) (p : Program) (b : List Stmt) (os : OsState) (x0 x1 x2 x3 : Obj) :
  segRun treeTable p w 28 ann 1 1253 (StX (hB.tree_233 w.params) 183 589 os x0 x1 x2 x3).abs (piecesOf hB.sts_234 hB.env_41 (Code.body b hB.env_41) ⟨157,0,157,8⟩ [topFrame q0])
  = some (Flow.next, (StX (hB.tree_239 w.params) 188 735 os x0 x1 x2 x3).abs, Code.body b hB.env_41, ⟨158,0,158,18⟩) := by
  refine segRun_of ?_
  rw [Fast.te10110043849684766642, Fast.te14364793385576792824]
  exact suf234 w p b os x0 x1 x2 x3
theorem suf278 : ∀ (w : World) (p : Program) (b : List Stmt) (os : OsState) (x0 x1 x2 x3 : Obj),
  Fast.tw10110043849684766642 Fast.tw14364793385576792824 p w 28 ann 1 266 (StX (hB.tree_239 w.params) 188 735 os x0 x1 x2 x3)
   (piecesOf hB.sts_278 hB.env_41 (Code.body b hB.env_41) ⟨158,0,158,18⟩ [topFrame q0])
  = some (Flow.next, StX (hB.tree_331 w.params) 240 814 os x0 x1 x2 x3, Code.body b hB.env_41, ⟨262,0,290,15⟩) := by
  (intro w p b os x0 x1 x2 x3; kernel_rfl)
theorem suU278 (w : World) (p : Program) (b : List Stmt) (os : OsState) (x0 x1 x2 x3 : Obj) :
  segRun treeTable p w 28 ann 1 266 (StX (hB.tree_239 w.params) 188 735 os x0 x1 x2 x3).abs (piecesOf hB.sts_278 hB.env_41 (Code.body b hB.env_41) ⟨158,0,158,18⟩ [topFrame q0])
  = some (Flow.next, (StX (hB.tree_331 w.params) 240 814 os x0 x1 x2 x3).abs, Code.body b hB.env_41, ⟨262,0,290,15⟩) := by
  refine segRun_of ?_
  rw [Fast.te10110043849684766642, Fast.te14364793385576792824]
  exact suf278 w p b os x0 x1 x2 x3
end Mine
end H6j_text
section H6k_text
open PySem PySem.W PyProof.Rows
namespace Mine
theorem setO_eq (es : Array (Int × Value)) (n : Nat) (t : SetTable) : setO es n t = sO es n t := by unfold setO sO; rw [← SL.e4922535414793169389x9]
noncomputable abbrev stk6 (w : World) (p : Program) (b : List Stmt) (os : OsState) : List Frame := nthF (thr6 w p b os) 0 :: nthF (thr6 w p b os) 1 :: [nthF (thr6 w p b os) 2, topFrame q0]
theorem preU (w : World) (p : Program) (b : List Stmt) (os : OsState) :
  segGoT treeTable p w 28 ann 1 20 { tree := sA.tree_41 w.params, n := 39, life := {}, gens := ⟨[]⟩, drawn := {}, toks := 298, os := os } (piecesOf [st6T] sA.env_1 (Code.body b sA.env_1) ⟨7, 0, 7, 8⟩ [topFrame q0])
  = some (St6 w.params os (sO #[] 0 (set0 w)) 0 298, ⟨denote treeTable lpC, lpC, loopP, stk6 w p b os⟩) := by
  have h := pre6 w p b os
  rw [loopC_eq, setO_eq] at h
  unfold goT at h
  rw [← Fast.te10295753902157049106, ← Fast.te14364793385576792824, ← Fast.te11892475500146522536] at h
  exact h
theorem finU (w : World) (p : Program) (b : List Stmt) (os : OsState) (es : Array (Int × Value)) (n : Nat) (t : SetTable) :
  segRunT treeTable p w 28 ann 1 40 (St6 w.params os (sO es n t) 22 342) ⟨denote treeTable lpC, lpC, loopP, stk6 w p b os⟩
  = some (Flow.next, StX (hB.tree_87 w.params) 43 343 os (sO es n t) o40 o41 o42, Code.body b sA.env_1, ⟨8, 0, 8, 14⟩) := by
  have h := fin6 w p b os es n t
  rw [loopC_eq, setO_eq] at h
  rw [← Fast.te10110043849684766642, ← Fast.te14364793385576792824, ← Fast.te11892475500146522536] at h
  exact h
theorem sinv0 (w : World) : SInv 0 #[] (set0 w) := ⟨rfl, rfl, fun e he => by simp at he, fun j hj => absurd hj (Nat.not_lt_zero _)⟩
theorem stmt6 (w : World) (p : Program) (b : List Stmt) (os : OsState) : ∃ N es n t, N ≤ 700 ∧ SInv 22 es t ∧
  segRun treeTable p w 28 ann 1 N (SharedT.abs { tree := sA.tree_41 w.params, n := 39, life := {}, gens := ⟨[]⟩, drawn := {}, toks := 298, os := os }) (piecesOf [st6T] sA.env_1 (Code.body b sA.env_1) ⟨7, 0, 7, 8⟩ [topFrame q0])
  = some (Flow.next, (StX (hB.tree_87 w.params) 43 343 os (sO es n t) o40 o41 o42).abs, Code.body b sA.env_1, ⟨8, 0, 8, 14⟩) := by
  have h : Rch p w (0 + 572) (St6 w.params os (sO #[] 0 (set0 w)) 0 298) ⟨denote treeTable lpC, lpC, loopP, stk6 w p b os⟩
      (fun s' t' => ∃ es n t, SInv 22 es t ∧ s' = St6 w.params os (sO es n t) 22 342 ∧ t' = ⟨denote treeTable lpC, lpC, loopP, stk6 w p b os⟩) :=
    rounds (sinv0 w) fun es n t I => Rch.refl ⟨es, n, t, I, rfl, rfl⟩
  obtain ⟨m, s₂, t₂, hm, hgo, es, n, t, I, rfl, rfl⟩ := h
  refine ⟨20 + m + 40, es, n, t, by omega, I, ?_⟩
  exact seg_go (segGo_of (goT_add (preU w p b os) hgo)) (segRun_of (finU w p b os es n t))
end Mine
end H6k_text
section H6l_text
open PySem PySem.W PyProof.Rows
namespace Mine
theorem pre_t : ∀ (w : World) (os : OsState), topGo treeTable pR w 28 ann 12 ⟨hB.heap_68 w.params, ⟨[]⟩, {}, 276, os⟩ (topStub pR) = some (⟨hB.heap_72 w.params, ⟨[]⟩, {}, 282, os⟩, ⟨denote treeTable (.body bR hB.env_41), .body bR hB.env_41, q0, [topFrame q0]⟩) := by
  unfold bR pR
  rw [Fast.te15667345088766844465, Fast.te14364793385576792824, Fast.te11892475500146522536]
  intro w os
  kernel_rfl
theorem block_t : ∀ (w : World) (os : OsState), segRun treeTable pR w 28 ann 1 1 ⟨hB.heap_72 w.params, ⟨[]⟩, {}, 282, os⟩ (blockOf bR hB.env_41 (.body bR hB.env_41) q0 [topFrame q0]) = some (.next, SharedT.abs { tree := hB.tree_73 w.params, n := 32, life := {}, gens := ⟨[]⟩, drawn := {}, toks := 282, os := os }, .body bR hB.env_41, q0) := by
  unfold bR pR
  rw [Fast.te14374325043358763698, Fast.te14364793385576792824]
  intro w os
  kernel_rfl
theorem size_t : ∀ w : World, ((hB.heap_68 w.params).isNs mainGlobals, (hB.heap_68 w.params).objs.size, (hB.heap_68 w.params).nsMap mainGlobals ⟨#[95, 95, 97, 110, 110, 111, 116, 97, 116, 105, 111, 110, 115, 95, 95]⟩) = (true, 28, ann) := by
  rw [Fast.te8920871248978507458]
  intro w
  kernel_rfl
theorem envs : hB.env_41 = sA.env_1 := by
  kernel_rfl
theorem tree0 (P : Params) : hB.tree_73 P = sA.tree_32 P := by
  kernel_rfl
theorem body_is : bR = sA.sts_32 ++ ([st6T] ++ (hB.sts_88 ++ (hB.sts_130 ++ (hB.sts_182 ++ (hB.sts_234 ++ (hB.sts_278 ++ [])))))) := by
  unfold bR pR
  kernel_rfl
end Mine
end H6l_text
section H6m_text
open PySem PySem.W PyProof.Rows
namespace Mine
noncomputable def thrI (w : World) (os : OsState) : Thread := match Fast.tw14789777615569096658 Fast.tw14364793385576792824 (opening PySem.Challenge.rw_in0263_01.prog) w 798 { tree := hB.tree_335 w.params, n := 0, life := {}, gens := ⟨[]⟩, drawn := {}, toks := 1, os := os } (Fast.tw1435165496053646825 (opening PySem.Challenge.rw_in0263_01.prog)).2 with
  | some (_, t) => t
  | none => ⟨.raise .none, .builtin "" {}, q0, []⟩
theorem imp_t : ∀ (w : World) (os : OsState), Fast.tw14789777615569096658 Fast.tw14364793385576792824 (opening PySem.Challenge.rw_in0263_01.prog) w 798 { tree := hB.tree_335 w.params, n := 0, life := {}, gens := ⟨[]⟩, drawn := {}, toks := 1, os := os } (Fast.tw1435165496053646825 (opening PySem.Challenge.rw_in0263_01.prog)).2
   = some ({ tree := hB.tree_397 w.params, n := 28, life := {}, gens := ⟨[]⟩, drawn := {}, toks := 276, os := os }, thrI w os) := by
  intro w os
  kernel_rfl
end Mine
end H6m_text
section H6n_text
open PySem PySem.W PyProof.Rows
namespace Mine
theorem imp_u (w : World) (os : OsState) : impGoT treeTable (opening pR) w 798 { tree := hB.tree_335 w.params, n := 0, life := {}, gens := ⟨[]⟩, drawn := {}, toks := 1, os := os } (start (opening pR)).2
   = some ({ tree := hB.tree_397 w.params, n := 28, life := {}, gens := ⟨[]⟩, drawn := {}, toks := 276, os := os }, thrI w os) := by
  unfold pR
  rw [Fast.te14789777615569096658, Fast.te14364793385576792824, Fast.te1435165496053646825]
  exact imp_t w os
theorem imp_e : ∀ (w : World) (os : OsState), importEnds treeTable (opening pR) w 1 (SharedT.abs { tree := hB.tree_397 w.params, n := 28, life := {}, gens := ⟨[]⟩, drawn := {}, toks := 276, os := os }) (thrI w os) = some (SharedT.abs { tree := hB.tree_397 w.params, n := 28, life := {}, gens := ⟨[]⟩, drawn := {}, toks := 276, os := os }) := by
  unfold pR
  rw [Fast.te10274390034422433532, Fast.te14364793385576792824]
  intro w os
  kernel_rfl
theorem start_s (w : World) : (start (opening pR)).1 = SharedT.abs { tree := hB.tree_335 w.params, n := 0, life := {}, gens := ⟨[]⟩, drawn := {}, toks := 1, os := (start (opening pR)).1.os } := by
  kernel_rfl
theorem fence_t : ∀ w : World, (fun os => (fenceModules? pR ⟨absHeap (hB.tree_397 w.params) 28 {}, ⟨[]⟩, {}, 276, os⟩).map (fun s => (s.heap, s.gens, s.drawn, s.toks))) = fun _ => some (hB.heap_68 w.params, (⟨[]⟩ : Array GenState), ({} : Drawn), 276) := by
  unfold pR
  rw [Fast.te14289696077712309145]
  intro w
  kernel_rfl
theorem open_t : ∀ w : World, (fencedOpening treeTable pR w 6000).map (fun s => (s.heap, s.gens, s.drawn, s.toks)) = some (hB.heap_68 w.params, (⟨[]⟩ : Array GenState), ({} : Drawn), 276) := by
  refine open_cut (M := 798 + 1) (He := fun P => absHeap (hB.tree_397 P) 28 {}) (ge := ⟨[]⟩) (de := {}) (ke := 276) (fun w => ?_) rfl fence_t
  have h := imp_go (impGo_of (imp_u w (start (opening pR)).1.os)) (imp_e w (start (opening pR)).1.os)
  rw [← start_s w] at h
  exact h
end Mine
end H6n_text
section H6o_text
open PySem PySem.W PyProof.Rows
namespace Mine
theorem abs_HX (P : Params) (es : Array (Int × Value)) (n : Nat) (t : SetTable) : absHeap (pt (hB.tree_331 P) (setO es n t) o40 o41 o42) 240 {} = HX P es n t := by
  unfold HX
  kernel_rfl
theorem fin_t (w : World) (os : OsState) (S : SharedT) : topRun treeTable pR w 28 ann 2 S.abs ⟨doneF .next, .body bR hB.env_41, ⟨262, 0, 290, 15⟩, [topFrame q0]⟩ = some S.abs := rfl
theorem run_t (w : World) (os : OsState) : ∃ M es n t, M ≤ 6000 ∧ SInv 22 es t ∧ topRun treeTable pR w 28 ann M ⟨hB.heap_68 w.params, ⟨[]⟩, {}, 276, os⟩ (topStub pR) = some (SX w.params os es n t) := by
  obtain ⟨N6, es, n, t, hN, I, h6⟩ := stmt6 w pR bR os
  rw [← setO_eq] at h6
  have k := fin_t w os (StX (hB.tree_331 w.params) 240 814 os (setO es n t) o40 o41 o42)
  have k := piece_app (rest := []) (suU278 w pR bR os (setO es n t) o40 o41 o42) (piece_nil k)
  have k := piece_app (suU234 w pR bR os (setO es n t) o40 o41 o42) k
  have k := piece_app (suU182 w pR bR os (setO es n t) o40 o41 o42) k
  have k := piece_app (suU130 w pR bR os (setO es n t) o40 o41 o42) k
  have k := piece_app (suU88 w pR bR os (setO es n t) o40 o41 o42) k
  rw [envs] at k
  have k := piece_app h6 k
  have k := piece_app (suU32 w pR bR os) k
  rw [← body_is, ← envs, ← tree0] at k
  have k := piece_block (block_t w os) k
  have k := go_top (pre_t w os) k
  refine ⟨_, es, n, t, ?_, I, k.trans ?_⟩
  · omega
  · unfold SX
    rw [← abs_HX]
    rfl
theorem head_w (w : World) : ∃ s es n t, openEnds treeTable pR w 6000 = some s ∧ SInv 22 es t ∧ s.heap = HX w.params es n t ∧ openSeen vR lo (importedModules pR.main.body) XtR true s = openGood vR lo := by
  obtain ⟨⟨h, gs, d, k, os⟩, e, e'⟩ := Option.map_eq_some_iff.mp (open_t w)
  obtain ⟨rfl, rfl, rfl, rfl⟩ : h = hB.heap_68 w.params ∧ gs = ⟨[]⟩ ∧ d = {} ∧ k = 276 := by simpa using e'
  obtain ⟨M, es, n, t, hM, I, r⟩ := run_t w os
  have r := topRun_mono (6000 - M) _ _ _ _ r
  rw [show M + (6000 - M) = 6000 by omega] at r
  refine ⟨SX w.params os es n t, es, n, t, ?_, I, rfl, ?_⟩
  · unfold openEnds
    rw [e]
    show topFrom treeTable pR w 6000 _ = _
    unfold topFrom
    obtain ⟨z1, z2, z3⟩ : _ ∧ _ ∧ _ := by simpa only [Prod.mk.injEq] using size_t w
    dsimp only
    rw [z1, z2]
    have z3' : (hB.heap_68 w.params).nsMap mainGlobals (Str.ofString "__annotations__") = ann := z3
    rw [z3', r]
    have l1 := look1 w.params os es n t
    show (match staticsOk (importedModules pR.main.body) (hB.heap_68 w.params) (HX w.params es n t) && namesBound pR (HX w.params es n t) && gensDone (SX w.params os es n t) && laidKept (hB.heap_68 w.params) (HX w.params es n t) with | true => _ | false => _) = _
    rw [l1]
  · unfold openSeen openGood
    have a2 := look2 w.params os es n t
    have a3 := look3 w.params es n t
    have a4 := look4 w.params os es n t
    have a5 := look5 w.params os es n t
    have a6 := look6 w.params os es n t
    have a7 := look7 w.params os es n t
    have a8 := look8 w.params os es n t
    have a9 := look9 w.params os es n t
    have a10 := look10 w.params os es n t
    exact looks_pair a2 (looks_pair a3 (looks_pair a4 (looks_pair a5 (looks_pair a6 (looks_pair a7 (looks_pair a8 (looks_pair a9 a10)))))))
noncomputable def YaR (w : World) : Heap := (head_w w).choose.heap
theorem left : LeftO pR vR lo XtR (fun s => s.heap) YaR 6000 := by
  intro w
  have h := (head_w w).choose_spec
  obtain ⟨es, n, t, h1, h2, h3, h4⟩ := h
  rw [h1]
  show some (_, _) = _
  rw [h4]
  rfl
theorem YaR_is (w : World) : ∃ es n t, SInv 22 es t ∧ YaR w = HX w.params es n t := by
  obtain ⟨es, n, t, h1, h2, h3, h4⟩ := (head_w w).choose_spec
  exact ⟨es, n, t, h2, h3⟩
end Mine
end H6o_text
section Base_text
open PySem PySem.W PyProof.Rows
namespace Mine
noncomputable abbrev loose : List Str := [Str.ofString "hexdigits", Str.ofString "HEXDIGIT_CHARS", Str.ofString "twin_re_1_base64",
  Str.ofString "bytes_types", Str.ofString "b2a_base64", Str.ofString "_NO_SEP", Str.ofString "b2a_hex",
  Str.ofString "hexlify", Str.ofString "unhexlify", Str.ofString "b64encode", Str.ofString "b16decode",
  Str.ofString "twin_re_1_fnmatch", Str.ofString "_special_chars_map", Str.ofString "suffixed_err", Str.ofString "_translate", Str.ofString "_B64", Str.ofString "_sre"]
noncomputable def KX : Params → Frag := fun P =>
  (nat_lit 2, hB.o_43 P) :: (nat_lit 3, hB.o_278 P) :: (nat_lit 32, hB.o_77 P) :: (nat_lit 34, hB.o_79 P) :: (nat_lit 35, hB.o_80 P) :: (nat_lit 37, hB.o_82 P) ::
  (nat_lit 38, hB.o_83 P) :: (nat_lit 43, hB.o_90 P) :: (nat_lit 50, hB.o_97 P) :: (nat_lit 51, hB.o_98 P) :: (nat_lit 52, hB.o_99 P) :: (nat_lit 53, hB.o_100 P) ::
  (nat_lit 56, hB.o_103 P) :: (nat_lit 58, hB.o_105 P) :: (nat_lit 59, hB.o_106 P) :: (nat_lit 61, hB.o_108 P) :: (nat_lit 62, hB.o_109 P) :: (nat_lit 63, hB.o_110 P) ::
  (nat_lit 65, hB.o_112 P) :: (nat_lit 66, hB.o_113 P) :: (nat_lit 68, hB.o_115 P) :: (nat_lit 69, hB.o_116 P) :: (nat_lit 70, hB.o_117 P) :: (nat_lit 72, hB.o_119 P) ::
  (nat_lit 73, hB.o_120 P) :: (nat_lit 75, hB.o_122 P) :: (nat_lit 76, hB.o_123 P) :: (nat_lit 80, hB.o_127 P) :: (nat_lit 81, hB.o_128 P) :: (nat_lit 82, hB.o_129 P) ::
  (nat_lit 83, hB.o_132 P) :: (nat_lit 85, hB.o_134 P) :: (nat_lit 86, hB.o_135 P) :: (nat_lit 88, hB.o_137 P) :: (nat_lit 89, hB.o_138 P) :: (nat_lit 90, hB.o_139 P) ::
  (nat_lit 97, hB.o_146 P) :: (nat_lit 98, hB.o_147 P) :: (nat_lit 99, hB.o_148 P) :: (nat_lit 100, hB.o_149 P) :: (nat_lit 103, hB.o_152 P) :: (nat_lit 105, hB.o_154 P) ::
  (nat_lit 106, hB.o_155 P) :: (nat_lit 108, hB.o_157 P) :: (nat_lit 109, hB.o_158 P) :: (nat_lit 110, hB.o_159 P) :: (nat_lit 112, hB.o_161 P) :: (nat_lit 113, hB.o_162 P) ::
  (nat_lit 115, hB.o_164 P) :: (nat_lit 116, hB.o_165 P) :: (nat_lit 117, hB.o_166 P) :: (nat_lit 119, hB.o_168 P) :: (nat_lit 120, hB.o_169 P) :: (nat_lit 122, hB.o_171 P) ::
  (nat_lit 123, hB.o_172 P) :: (nat_lit 124, hB.o_173 P) :: (nat_lit 125, hB.o_174 P) :: (nat_lit 127, hB.o_176 P) :: (nat_lit 128, hB.o_177 P) :: (nat_lit 130, hB.o_179 P) ::
  (nat_lit 131, hB.o_180 P) :: (nat_lit 132, hB.o_181 P) :: (nat_lit 133, hB.o_184 P) :: (nat_lit 134, hB.o_185 P) :: (nat_lit 136, hB.o_187 P) :: (nat_lit 137, hB.o_188 P) ::
  (nat_lit 139, hB.o_190 P) :: (nat_lit 140, hB.o_191 P) :: (nat_lit 141, hB.o_192 P) :: (nat_lit 143, hB.o_194 P) :: (nat_lit 144, hB.o_195 P) :: (nat_lit 146, hB.o_197 P) ::
  (nat_lit 147, hB.o_198 P) :: (nat_lit 148, hB.o_199 P) :: (nat_lit 150, hB.o_201 P) :: (nat_lit 151, hB.o_202 P) :: (nat_lit 153, hB.o_204 P) :: (nat_lit 154, hB.o_205 P) ::
  (nat_lit 155, hB.o_206 P) :: (nat_lit 156, hB.o_207 P) :: (nat_lit 158, hB.o_209 P) :: (nat_lit 159, hB.o_210 P) :: (nat_lit 161, hB.o_212 P) :: (nat_lit 162, hB.o_213 P) ::
  (nat_lit 163, hB.o_214 P) :: (nat_lit 165, hB.o_216 P) :: (nat_lit 166, hB.o_217 P) :: (nat_lit 168, hB.o_219 P) :: (nat_lit 169, hB.o_220 P) :: (nat_lit 170, hB.o_221 P) ::
  (nat_lit 171, hB.o_222 P) :: (nat_lit 173, hB.o_224 P) :: (nat_lit 174, hB.o_225 P) :: (nat_lit 176, hB.o_227 P) :: (nat_lit 177, hB.o_228 P) :: (nat_lit 181, hB.o_232 P) ::
  (nat_lit 182, hB.o_233 P) :: (nat_lit 184, hB.o_236 P) :: (nat_lit 188, hB.o_280 P) :: (nat_lit 190, hB.o_282 P) :: (nat_lit 191, hB.o_283 P) :: (nat_lit 193, hB.o_285 P) ::
  (nat_lit 194, hB.o_286 P) :: (nat_lit 195, hB.o_287 P) :: (nat_lit 197, hB.o_289 P) :: (nat_lit 198, hB.o_290 P) :: (nat_lit 200, hB.o_292 P) :: (nat_lit 201, hB.o_293 P) ::
  (nat_lit 202, hB.o_294 P) :: (nat_lit 204, hB.o_296 P) :: (nat_lit 205, hB.o_297 P) :: (nat_lit 207, hB.o_299 P) :: (nat_lit 208, hB.o_300 P) :: (nat_lit 209, hB.o_301 P) ::
  (nat_lit 211, hB.o_303 P) :: (nat_lit 212, hB.o_304 P) :: (nat_lit 214, hB.o_306 P) :: (nat_lit 215, hB.o_307 P) :: (nat_lit 216, hB.o_308 P) :: (nat_lit 218, hB.o_310 P) ::
  (nat_lit 219, hB.o_311 P) :: (nat_lit 221, hB.o_313 P) :: (nat_lit 222, hB.o_314 P) :: (nat_lit 223, hB.o_315 P) :: (nat_lit 226, hB.o_318 P) :: (nat_lit 227, hB.o_319 P) ::
  (nat_lit 228, hB.o_320 P) :: (nat_lit 230, hB.o_322 P) :: (nat_lit 231, hB.o_323 P) :: (nat_lit 233, hB.o_325 P) :: (nat_lit 234, hB.o_326 P) :: (nat_lit 235, hB.o_327 P) ::
  (nat_lit 238, hB.o_330 P) :: (nat_lit 239, hB.o_331 P) ::
  []

noncomputable abbrev PW : Program := PySem.Challenge.rw_in0263_01.prog
noncomputable abbrev topZ (d : Nat) (fr : List Env) : Around := { handled := none, depth := d, frames := some fr, guards := some [], units := 10 * d }
noncomputable abbrev CZ (d : Nat) (w : World) (f : Addr) (args : Args) (R : Heap → Value → Heap → Prop) : Prop :=
  ∀ (mean : ExcName → Option Value) (mg mb : Str → Option Value) (A₀ : Around) (base : Heap) (fr : List Env) (s : Shared) (RR : Result → Shared → Prop),
    Below A₀ base fr s.heap → (KX w.params).In s.heap → Top vR loose mean mg mb s.heap →
    (∀ v h' tk', R s.heap v h' → (∀ b o, s.heap.get? b = some o → h'.get? b = some o) → RR (.ok (.ret v)) { s with heap := h', toks := tk' }) →
      codeAny (model PW w) (topZ d fr) (.call (.ref f) args) RR s
theorem enterZ {d : Nat} {w : World} {mean : ExcName → Option Value} {mg mb : Str → Option Value} {A₀ : Around} {base : Heap} {fr : List Env} {s : Shared} {RR : Result → Shared → Prop}
    {name qual : Str} {params : Arguments} {body : List Stmt} {scope : Scope} {dV kV doc pm cdv ct oc : Value} {an od : Option Addr} {osl : Array (Option Value)} {f : Addr} {args : Args} {binds : List (Str × Value)}
    (B : Below A₀ base fr s.heap) (X : (KX w.params).In s.heap) (T : Top vR loose mean mg mb s.heap)
    (ho : (KX w.params).lookup f = some ⟨oc, od, .func (fnOf name qual params body scope dV kV doc pm an cdv ct), osl⟩) (hcd : codeIn (KX w.params) cdv qual = true)
    (hbind : BindsTo s (fnOf name qual params body scope dV kV doc pm an cdv ct) args binds) (hloc : ∀ y ∈ binds, scope.names.lookup y.1 = some .local)
    (h : ∀ L' h₁, Fr s.heap L' h₁ (fun y => binds.reverse.lookup y) → News s.heap L' h₁ [] →
      wpAny (model PW w) ((topZ d fr).deeper (envOf qual scope L' f cdv)) (execs body (envOf qual scope L' f cdv))
        (fun fl s' => RR (.ok (.ret (match fl with | .ret v => v | _ => .none))) s')
        (fun e s' => wpAny (model PW w) ((topZ d fr).deeper (envOf qual scope L' f cdv)) («leaving» (envOf qual scope L' f cdv) e) (fun _ s'' => RR (.error e) s'') (fun e' s'' => RR (.error e') s'') s')
        { s with heap := h₁, toks := s.toks + binds.length })
    (hco : scope.isCoroutine = false) (hgen : scope.isGenerator = false) (hk : scope.kind = .function)
    (hcell : ∀ x ∈ scope.names, x.2 ≠ .cell) (hd : d < recursionLimit) : codeAny (model PW w) (topZ d fr) (.call (.ref f) args) RR s := by
  refine codeAny_call_def hd (X _ _ ho) rfl T.nolimit (codeRec_of X hcd) rfl hbind hcell hloc (fun h₁ hns hk₁ => ?_) hco hgen hk
  exact h s.heap.objs.size h₁ ⟨hns, hk₁, Nat.le_refl _⟩ News.nil
theorem belowUp {A₀ A₁ : Around} {base h : Heap} {fr : List Env} (B : Below A₀ base fr h) (e : A₁.frames = some fr) : Below A₁ base fr h := ⟨e, B.stays, B.frames⟩
theorem around_le {d : Nat} {w : World} {A : Around} {fr : List Env} (h0 : A.handled = none) (h1 : A.depth ≤ d) (h2 : A.frames = some fr) (h3 : A.guards = some []) (h4 : A.units ≤ 10 * d)
    {c : Code} {RR : Result → Shared → Prop} {s : Shared} (h : codeAny (model PW w) (topZ d fr) c RR s) : codeAny (model PW w) A c RR s := by
  intro Γ p hc hΓ
  refine h Γ p hc ⟨hΓ.1.trans h0, Nat.le_trans hΓ.2.1 h1, fun l hl => hΓ.2.2.1 l (by rw [h2]; exact hl), fun g hg => hΓ.2.2.2.1 g (by rw [h3]; exact hg), Nat.le_trans hΓ.2.2.2.2 h4⟩
theorem useZ {d : Nat} {w : World} {f : Addr} {vs : List Value} {kw : List (Str × Value)} {R : Heap → Value → Heap → Prop} (C : CZ d w f ⟨vs, kw⟩ R)
    {mean : ExcName → Option Value} {mg mb : Str → Option Value} {A A₀ : Around} {base h₀ : Heap} {outer : List Env} {env : Env} {L : Addr} {m : Str → Option Value} {news : List (Addr × Obj)} {s : Shared} {Q : Value → Shared → Prop} {E : Value → Shared → Prop}
    (h0 : A.handled = none) (h1 : A.depth ≤ d) (h2 : A.frames = some (env :: outer)) (h3 : A.guards = some []) (h4 : A.units ≤ 10 * d)
    (B : Below A₀ base outer h₀) (F : Fr h₀ L s.heap m) (hf : env.frame = some L) (hke : env.scope.kind = .function) (X : (KX w.params).In h₀) (N : News h₀ L s.heap news) (T : Top vR loose mean mg mb h₀)
    (h : ∀ v h' tk', R s.heap v h' → Fr h₀ L h' m → News h₀ L h' news → Q v { s with heap := h', toks := tk' }) : wpAny (model PW w) A (call (.ref f) vs kw) Q E s := by
  refine wpAny_call (around_le h0 h1 h2 h3 h4 (C mean mg mb A base (env :: outer) s _ ?_ (X.keeps F.keep) (T.keeps F.keep) ?_))
  · exact (groundX (R := fun _ _ => True) B F News.nil h2 hf hke).2.1
  · intro v h' tk' hr hk
    refine h v h' tk' hr ?_ ?_
    · obtain ⟨oL, a1, a2, hL, a3⟩ := F.ns
      exact ⟨⟨oL, a1, a2, hk _ _ hL, a3⟩, fun b o e => hk _ _ (F.keep b o e), F.above⟩
    · exact fun p hp => ⟨hk _ _ (N p hp).1, (N p hp).2⟩
noncomputable abbrev CP (d : Nat) (w : World) (f : Addr) (args : Args) (Pre : Heap → Prop) (R : Heap → Value → Heap → Prop) : Prop :=
  ∀ (mean : ExcName → Option Value) (mg mb : Str → Option Value) (A₀ : Around) (base : Heap) (fr : List Env) (s : Shared) (RR : Result → Shared → Prop), Pre s.heap →
    Below A₀ base fr s.heap → (KX w.params).In s.heap → Top vR loose mean mg mb s.heap →
    (∀ v h' tk', R s.heap v h' → (∀ b o, s.heap.get? b = some o → h'.get? b = some o) → RR (.ok (.ret v)) { s with heap := h', toks := tk' }) →
      codeAny (model PW w) (topZ d fr) (.call (.ref f) args) RR s
theorem useP {d : Nat} {w : World} {f : Addr} {vs : List Value} {kw : List (Str × Value)} {Pre : Heap → Prop} {R : Heap → Value → Heap → Prop} (C : CP d w f ⟨vs, kw⟩ Pre R)
    {mean : ExcName → Option Value} {mg mb : Str → Option Value} {A A₀ : Around} {base h₀ : Heap} {outer : List Env} {env : Env} {L : Addr} {m : Str → Option Value} {news : List (Addr × Obj)} {s : Shared} {Q : Value → Shared → Prop} {E : Value → Shared → Prop}
    (h0 : A.handled = none) (h1 : A.depth ≤ d) (h2 : A.frames = some (env :: outer)) (h3 : A.guards = some []) (h4 : A.units ≤ 10 * d)
    (B : Below A₀ base outer h₀) (F : Fr h₀ L s.heap m) (hf : env.frame = some L) (hke : env.scope.kind = .function) (X : (KX w.params).In h₀) (N : News h₀ L s.heap news) (T : Top vR loose mean mg mb h₀) (hp : Pre s.heap)
    (h : ∀ v h' tk', R s.heap v h' → Fr h₀ L h' m → News h₀ L h' news → Q v { s with heap := h', toks := tk' }) : wpAny (model PW w) A (call (.ref f) vs kw) Q E s :=
  wpAny_call (around_le h0 h1 h2 h3 h4 (C mean mg mb A base (env :: outer) s _ hp (groundX (R := fun _ _ => True) B F News.nil h2 hf hke).2.1 (X.keeps F.keep) (T.keeps F.keep) fun v h' tk' hr hk =>
    h v h' tk' hr (by obtain ⟨oL, a1, a2, hL, a3⟩ := F.ns; exact ⟨⟨oL, a1, a2, hk _ _ hL, a3⟩, fun b o e => hk _ _ (F.keep b o e), F.above⟩) fun p hp => ⟨hk _ _ (N p hp).1, (N p hp).2⟩))
end Mine
end Base_text
section HT_text
open PySem PySem.W PyProof.Rows
namespace Mine
theorem kx_keys : ∀ P, ([2, 3, 32, 34, 35, 37, 38, 43, 50, 51, 52, 53, 56, 58, 59, 61, 62, 63, 65, 66, 68, 69, 70, 72, 73, 75, 76, 80, 81, 82, 83, 85, 86, 88, 89, 90, 97, 98, 99, 100, 103, 105, 106, 108, 109, 110, 112, 113, 115, 116, 117, 119, 120, 122, 123, 124, 125, 127, 128, 130, 131, 132, 133, 134, 136, 137, 139, 140, 141, 143, 144, 146, 147, 148, 150, 151, 153, 154, 155, 156, 158, 159, 161, 162, 163, 165, 166, 168, 169, 170, 171, 173, 174, 176, 177, 181, 182, 184, 188, 190, 191, 193, 194, 195, 197, 198, 200, 201, 202, 204, 205, 207, 208, 209, 211, 212, 214, 215, 216, 218, 219, 221, 222, 223, 226, 227, 228, 230, 231, 233, 234, 235, 238, 239] : List Addr) = (KX P).map (·.1) := by intro P; kernel_rfl
theorem kx_objs (P : Params) (es : Array (Int × Value)) (n : Nat) (t : SetTable) : ([2, 3, 32, 34, 35, 37, 38, 43, 50, 51, 52, 53, 56, 58, 59, 61, 62, 63, 65, 66, 68, 69, 70, 72, 73, 75, 76, 80, 81, 82, 83, 85, 86, 88, 89, 90, 97, 98, 99, 100, 103, 105, 106, 108, 109, 110, 112, 113, 115, 116, 117, 119, 120, 122, 123, 124, 125, 127, 128, 130, 131, 132, 133, 134, 136, 137, 139, 140, 141, 143, 144, 146, 147, 148, 150, 151, 153, 154, 155, 156, 158, 159, 161, 162, 163, 165, 166, 168, 169, 170, 171, 173, 174, 176, 177, 181, 182, 184, 188, 190, 191, 193, 194, 195, 197, 198, 200, 201, 202, 204, 205, 207, 208, 209, 211, 212, 214, 215, 216, 218, 219, 221, 222, 223, 226, 227, 228, 230, 231, 233, 234, 235, 238, 239] : List Addr).map (HX P es n t).get? = (KX P).map fun p => some p.2 := by kernel_rfl
theorem hx_39 (P : Params) (es : Array (Int × Value)) (n : Nat) (t : SetTable) : (HX P es n t).get? 39 = some (sO es n t) := by rw [← setO_eq]; kernel_rfl
theorem lo_eq : looseW vR lo = loose := by kernel_rfl
noncomputable def YPR (w : World) (h : Heap) : Prop := (KX w.params).In h ∧ ∃ es n t, SInv 22 es t ∧ h.get? 39 = some (sO es n t)
theorem ypr_of (w : World) (s : Shared) (e : s.heap = YaR w) : YPR w s.heap := by
  obtain ⟨es, n, t, I, h⟩ := YaR_is w
  rw [h] at e
  refine ⟨InK.of kx_keys w s (by rw [e]; exact kx_objs _ _ _ _), es, n, t, I, by rw [e]; exact hx_39 _ _ _ _⟩
theorem ypr_keeps (w : World) (h h' : Heap) (y : YPR w h) (k : ∀ b o, h.get? b = some o → h'.get? b = some o) : YPR w h' :=
  ⟨y.1.keeps k, let ⟨es, n, t, I, e⟩ := y.2; ⟨es, n, t, I, k _ _ e⟩⟩
theorem leftR : LeftO pR vR lo XtR (fun s => s.heap) YaR 6000 := left
noncomputable abbrev hexS : Str := ⟨#[104, 101, 120, 100, 105, 103, 105, 116, 115]⟩
noncomputable abbrev xlR : List (Str × WData) := [(hexS, WData.str ⟨#[48, 49, 50, 51, 52, 53, 54, 55, 56, 57, 97, 98, 99, 100, 101, 102, 65, 66, 67, 68, 69, 70]⟩)]
end Mine
end HT_text
section K1_text
open PySem PySem.W PyProof.Rows
namespace Mine
noncomputable def stepZ (st : SharedT → Thread → Option (SharedT × Thread)) (den : Code → Sem Fin) (s : SharedT) (t : Thread) : Option (SharedT × Thread) := match t with
  | ⟨cur, code, pos, stack⟩ => match cur with
    | .pure (.again c) => some (s, ⟨den c, c, pos, stack⟩)
    | .call c h g l k => some (s, ⟨den c, c, pos, .ret k h g l code pos [] :: stack⟩)
    | c => st s ⟨c, code, pos, stack⟩
noncomputable def goZ (st : SharedT → Thread → Option (SharedT × Thread)) (cm : Thread → Bool) (den : Code → Sem Fin) : Nat → SharedT → Thread → Option (SharedT × Thread)
  | 0, s, t => some (s, t)
  | n + 1, s, t => match cm t with
    | false => none
    | true => match stepZ st den s t with
      | some (s', t') => goZ st cm den n s' t'
      | none => none
section
variable {p : Program} {w : World}
theorem stepZ_spec {den : Code → Sem Fin} {s s' : SharedT} {t t' : Thread} (h : stepZ (stepT den p w) den s t = some (s', t')) : stepK den p w s.abs t = .go s'.abs t' := by
  obtain ⟨cur, code, pos, stack⟩ := t
  cases cur with
  | pure f =>
    cases f with
    | again c => cases h; rfl
    | done f => simp only [stepZ] at h; simp only [stepK]; exact stepT_spec h
  | call c hh g l k => cases h; rfl
  | _ => simp only [stepZ] at h; simp only [stepK]; exact stepT_spec h
noncomputable abbrev mR (w : World) : Model := model pR w
theorem goZ_run : ∀ {n : Nat} {s s' : SharedT} {t t' : Thread}, goZ (stepT (denote table) pR w) Thread.calm (denote table) n s t = some (s', t') → (mR w).runN n s.abs t = .running s'.abs t'
  | 0, s, s', t, t', h => by cases h; rfl
  | n + 1, s, s', t, t', h => by
    unfold goZ at h
    cases hc : Thread.calm t with
    | false => rw [hc] at h; cases h
    | true =>
      rw [hc] at h
      cases hs : stepZ (stepT (denote table) pR w) (denote table) s t with
      | none => rw [hs] at h; cases h
      | some x =>
        obtain ⟨s₂, t₂⟩ := x
        rw [hs] at h
        have hl : t.loud = false := by rw [Thread.calm_eq] at hc; cases hh : t.loud <;> simp_all
        have e : (mR w).step s.abs t = .go s₂.abs t₂ := (Model.step_quiet (mR w) hl).trans (stepZ_spec hs)
        show (match (mR w).step s.abs t with | .go s' t' => (mR w).runN n s' t' | .halt o s' => .halted o s') = _
        rw [e]
        exact goZ_run h
noncomputable def Hal (w : World) (s : Shared) (t : Thread) (R : Result → Shared → Prop) : Prop := ∃ n r s', (mR w).runN n s t = .halted (outcomeOf r) s' ∧ R r s'
variable {R : Result → Shared → Prop}
theorem runN_go {M : Model} : ∀ {n m : Nat} {s s' : Shared} {t t' : Thread} {x : Run}, M.runN n s t = .running s' t' → M.runN m s' t' = x → M.runN (n + m) s t = x
  | 0, m, s, s', t, t', x, h, k => by cases h; rw [Nat.zero_add]; exact k
  | n + 1, m, s, s', t, t', x, h, k => by
    rw [show n + 1 + m = n + m + 1 by omega]
    have h' : (match M.step s t with | .go s' t' => M.runN n s' t' | .halt o s' => .halted o s') = .running s' t' := h
    show (match M.step s t with | .go s' t' => M.runN (n + m) s' t' | .halt o s' => .halted o s') = x
    cases e : M.step s t with
    | go s₁ t₁ => rw [e] at h'; exact runN_go h' k
    | halt o s₁ => rw [e] at h'; cases h'
theorem Hal.run {n : Nat} {s s' : Shared} {t t' : Thread} (h : (mR w).runN n s t = .running s' t') (k : Hal w s' t' R) : Hal w s t R := by
  obtain ⟨m, r, s₂, k1, k2⟩ := k
  exact ⟨n + m, r, s₂, runN_go h k1, k2⟩
theorem Hal.goZ {n : Nat} {s s' : SharedT} {t t' : Thread} (h : Mine.goZ (stepT (denote table) pR w) Thread.calm (denote table) n s t = some (s', t')) (k : Hal w s'.abs t' R) : Hal w s.abs t R := Hal.run (goZ_run h) k
noncomputable abbrev FL (c : Code) (p : Pos) : Frame := .ret leafOf none false [] c p []
theorem hal_wp {c : Code} {t : Sem Fin} {p : Pos} {st : List Frame} {s : Shared}
    (h : Sem.wp (mR w) (Ctx.of c st) t (Sem.finPost (mR w) (Ctx.of c st) fun r s' => ∀ c' p', Hal w s' ⟨leafOf r, c', p', st⟩ R) (fun e _ s' => ∀ c' p', Hal w s' ⟨leafOf (.error e), c', p', st⟩ R) p s) :
    Hal w s ⟨t, c, p, st⟩ R := by
  obtain ⟨n, r, s', c', p', hn, hR⟩ := wp_runN (R := fun r s' => ∀ c' p', Hal w s' ⟨leafOf r, c', p', st⟩ R) h
  exact Hal.run hn (hR c' p')
theorem hal_leaf {r : Result} {s : Shared} {c : Code} {p : Pos} (hg : leftWithCleanup s.gens = false) (h : R r s) : Hal w s ⟨leafOf r, c, p, []⟩ R := by
  refine ⟨1, r, s, ?_, h⟩
  show (match (mR w).step s ⟨leafOf r, c, p, []⟩ with | .go s' t' => (mR w).runN 0 s' t' | .halt o s' => .halted o s') = _
  rw [step_leaf_nil]
  simp only [finish, hg, Bool.false_eq_true, if_false]
theorem hal_leaf1 {r : Result} {s : Shared} {c c' : Code} {p p' : Pos} (hg : leftWithCleanup s.gens = false) (h : R r s) : Hal w s ⟨leafOf r, c, p, [FL c' p']⟩ R := by
  refine Hal.run (n := 1) ?_ (hal_leaf (c := c') (p := p') hg h)
  show (match (mR w).step s ⟨leafOf r, c, p, [FL c' p']⟩ with | .go s' t' => (mR w).runN 0 s' t' | .halt o s' => .halted o s') = _
  rw [step_leaf_ret]
  rfl
theorem runs_leaf {M : Model} {Γ : Ctx} {p : Pos} {r r' : Result} {s s' : Shared} (h : Runs M Γ p (leafOf r) [] s (.ret r') s') : r = r' ∧ s = s' := by
  cases r <;> cases h <;> exact ⟨rfl, rfl⟩
theorem wp_of_hal {c c' : Code} {t : Sem Fin} {p p' : Pos} {s : Shared} (h : Hal w s ⟨t, c, p, [FL c' p']⟩ R) :
    Sem.wp (mR w) (Ctx.of c [FL c' p']) t (Sem.finPost (mR w) (Ctx.of c [FL c' p']) R) (fun e _ s' => R (.error e) s') p s := by
  obtain ⟨n, r, s', hn, hR⟩ := h
  have hr := (halts_iff.mp ⟨n, hn⟩).1
  rw [Sem.wp_iff_runs]
  cases hr with
  | segRet h1 h2 =>
    obtain ⟨rfl, rfl⟩ := runs_leaf h2
    exact ⟨_, _, h1, hR⟩
  | segSuspGen h1 => cases h1
end
end Mine
end K1_text
section K3_text
open PySem PySem.W PyProof.Rows
namespace Mine
section
variable {w : World} {R : Result → Shared → Prop}
theorem stepK_life {den : Code → Sem Fin} {p : Program} {s s' : Shared} {t t' : Thread} (h : stepK den p w s t = .go s' t') : s'.heap.life = s.heap.life := by
  obtain ⟨cur, code, pos, stack⟩ := t
  cases cur with
  | pure f =>
    cases f with
    | again c => cases h; rfl
    | done f => simp only [stepK] at h; exact step_life _ _ _ _ _ _ _ h
  | call c hh g l k => cases h; rfl
  | _ => simp only [stepK] at h; exact step_life _ _ _ _ _ _ _ h
theorem runI_life {M : Model} : ∀ {n : Nat} {s s' : Shared} {t t' : Thread}, M.runN n s t = .running s' t' → s'.heap.life = s.heap.life
  | 0, s, s', t, t', h => by cases h; rfl
  | n + 1, s, s', t, t', h => by
    have h' : (match M.step s t with | .go s' t' => M.runN n s' t' | .halt o s' => .halted o s') = .running s' t' := h
    cases e : M.step s t with
    | halt o s₁ => rw [e] at h'; cases h'
    | go s₁ t₁ =>
      rw [e] at h'
      refine (runI_life h').trans ?_
      cases hl : t.loud with
      | true => rw [Model.step_loud M hl] at e; cases e
      | false => rw [Model.step_quiet M hl] at e; exact stepK_life e
theorem hal_wpL {c : Code} {t : Sem Fin} {p : Pos} {st : List Frame} {s : Shared}
    (h : Sem.wp (mR w) (Ctx.of c st) t (Sem.finPost (mR w) (Ctx.of c st) fun r s' => s'.heap.life = s.heap.life → ∀ c' p', Hal w s' ⟨leafOf r, c', p', st⟩ R)
      (fun e _ s' => s'.heap.life = s.heap.life → ∀ c' p', Hal w s' ⟨leafOf (.error e), c', p', st⟩ R) p s) :
    Hal w s ⟨t, c, p, st⟩ R := by
  obtain ⟨n, r, s', c', p', hn, hR⟩ := wp_runN (R := fun r s' => s'.heap.life = s.heap.life → ∀ c' p', Hal w s' ⟨leafOf r, c', p', st⟩ R) h
  exact Hal.run hn (hR (runI_life hn) c' p')
theorem hal_code {A : Around} {c : Code} {p : Pos} {st : List Frame} {s : Shared} (hb : (Ctx.of c st).Below A)
    (h : codeAny (mR w) A c (fun r s' => s'.heap.life = s.heap.life → ∀ c' p', Hal w s' ⟨leafOf r, c', p', st⟩ R) s) : Hal w s ⟨denote table c, c, p, st⟩ R := by
  refine hal_wpL ?_
  have := h (Ctx.of c st) p rfl hb
  rw [wpCode_iff_wp] at this
  exact this
theorem hal_ret {r : Result} {k : Result → Sem Fin} {h : Option Value} {g : Bool} {l : List Value} {c c' : Code} {p p' : Pos} {kp : List Value} {st : List Frame} {s : Shared}
    (H : Hal w s ⟨k r, c', p', st⟩ R) : Hal w s ⟨leafOf r, c, p, .ret k h g l c' p' kp :: st⟩ R := by
  refine Hal.run (n := 1) ?_ H
  show (match (mR w).step s ⟨leafOf r, c, p, .ret k h g l c' p' kp :: st⟩ with | .go s' t' => (mR w).runN 0 s' t' | .halt o s' => .halted o s') = _
  rw [step_leaf_ret]
  rfl
theorem of_enter {c c' : Code} {k : Result → Sem Fin} {hd : Option Value} {g : Bool} {l : List Value} {p : Pos} {kp : List Value} {st : List Frame} : Ctx.of c' (.ret k hd g l c p kp :: st) = (Ctx.of c st).enter c' hd p := by
  have h := Ctx.Fits.enter (Ctx.fits_of c st) c' k hd g l p kp
  have e : ((Ctx.of c st).enter c' hd p).code = c' := rfl
  generalize (Ctx.of c st).enter c' hd p = Γ at h e
  obtain ⟨a, b, d, f, q⟩ := Γ
  obtain ⟨h1, h2, h3, h4⟩ := h
  dsimp only at e h1 h2 h3 h4
  unfold Ctx.of
  rw [e, h1, h2, h3, h4]
  rfl
theorem hal_call {A : Around} {f : Value} {vs : List Value} {g : Bool} {l : List Value} {k : Result → Sem Fin} {c : Code} {p : Pos} {st : List Frame} {s : Shared} (hin : (Ctx.of c st).In A)
    (h : wpAny (mR w) A (call f vs) (fun v s' => s'.heap.life = s.heap.life → Hal w s' ⟨k (.ok (.ret v)), c, p, st⟩ R) (fun e s' => s'.heap.life = s.heap.life → Hal w s' ⟨k (.error e), c, p, st⟩ R) s) :
    Hal w s ⟨.call (.call f ⟨vs, []⟩) none g l k, c, p, st⟩ R := by
  refine Hal.run (n := 1) (s' := s) (t' := ⟨denote table (.call f ⟨vs, []⟩), .call f ⟨vs, []⟩, p, .ret k none g l c p [] :: st⟩) rfl ?_
  refine hal_wpL ?_
  have := h (Ctx.of c st) p hin
  unfold PySem.call at this
  rw [Sem.wp_runValue, wpCode_iff_wp, ← of_enter (k := k) (g := g) (l := l) (kp := [])] at this
  refine Sem.wp_mono _ _ _ (fun fin p' s' h' => finPost_mono (fun r s' hr hl c' p' => ?_) h') (fun e p' s' hr hl c' p' => hal_ret ((show _ → _ from hr) hl)) _ _ this
  refine hal_ret ?_
  match r, hr with
  | .ok (.ret v), hr => exact hr hl
  | .error e, hr => exact hr hl
end
end Mine
end K3_text
section K4_text
open PySem PySem.W PyProof.Rows
namespace Mine
section
variable {w : World} {A : Around}
theorem gs_ok {l sl : Addr} {items : Array Value} {tk : Tok} {s : Shared} {Q : Value → Shared → Prop} {E : Value → Shared → Prop} (hl : s.heap.IsList l items) (hs : s.heap.IsSliceOf sl .none (.int 63 tk) .none) (hsz : items.size ≤ sizeLine)
    (h : Q (.ref s.heap.objs.size) { s with heap := s.heap.push { cls := .type "list", data := .seq (slicePick items none (some 63) none) } }) :
    wpAny (mR w) A (call (.builtin "list.__getitem__") [.ref l, .ref sl]) Q E s := by
  have hT : s.TypeIs (.ref sl) "slice" := by obtain ⟨os, h1, h2, _⟩ := hs; exact ⟨os, h1, h2⟩
  refine wpAny_call_entry (name := Str.ofString "__getitem__") slot_list_getitem hl.typeIs entry_list_getitem ?_ (args_list_getitem _ _)
  obtain ⟨o, ho, _, nl, hd⟩ := id hl
  obtain ⟨os, hos, _, hds⟩ := id hs
  show wpAny _ _ (Builtin.List.listSubscript? (.ref sl) >>= _) _ _ s
  refine wpAny_bind ?_
  unfold Builtin.List.listSubscript?
  refine wpAny_bind (wpAny_specialOf hT slice_no_index ?_)
  rw [if_pos (by rfl)]
  refine wpAny_pure ?_
  refine wpAny_bind (m := typeOf (.ref sl)) (wpAny_typeOf hT ?_)
  rw [if_neg (by decide), listSliceParts_eq]
  refine wpAny_bind (wpAny_bind (wpAny_field hos hds (x := .none) rfl (wpAny_bind (wpAny_listPart (k := none) .none ?_))))
  rw [if_neg (by decide)]
  refine wpAny_bind (wpAny_field hos hds (x := .none) rfl (wpAny_bind (wpAny_listPart (k := none) .none ?_)))
  refine wpAny_bind (wpAny_field hos hds (x := .int 63 tk) rfl (wpAny_bind (wpAny_listPart (k := some 63) (.int 63 tk) (wpAny_pure ?_))))
  refine wpAny_bind (m := Builtin.List.listItems (.ref l)) ?_
  unfold Builtin.List.listItems
  refine wpAny_bind (wpAny_seqItems ho hd (wpAny_pure ?_))
  refine wpAny_bind (wpAny_of_eq (sliceIndices_raw none (some 63) none items.size (by simp)) ?_)
  exact wpAny_bind (wpAny_newObj_type (wpAny_pure ⟨_, rfl, h⟩) (Nat.le_trans (slicePick_size_le items none (some 63) none) hsz))
end
end Mine
end K4_text
section K5_text
open PySem PySem.W PyProof.Rows
namespace Mine
noncomputable def Off (I S : Addr) (n : Nat) (h₀ h : Heap) : Prop := h.objs.size = n ∧ ∀ b, b ≠ I → b ≠ S → h.get? b = h₀.get? b
section
variable {w : World} {A : Around}
theorem Off.but {I S : Addr} {n : Nat} {h₀ h h' : Heap} (x : Off I S n h₀ h) (y : Heap.SameBut I h h') : Off I S n h₀ h' := ⟨y.1.trans x.1, fun b h1 h2 => (y.2 b h1).trans (x.2 b h1 h2)⟩
theorem Off.but' {I S : Addr} {n : Nat} {h₀ h h' : Heap} (x : Off I S n h₀ h) (y : Heap.SameBut S h h') : Off I S n h₀ h' := ⟨y.1.trans x.1, fun b h1 h2 => (y.2 b h2).trans (x.2 b h1 h2)⟩
theorem get_push2 (h : Heap) (o o' : Obj) {b : Addr} (hb : b < h.objs.size) : ((h.push o).push o').get? b = h.get? b := by
  obtain ⟨objs, l⟩ := h
  have hb' : b < objs.size := hb
  unfold Heap.get? Heap.push
  dsimp only
  rw [Array.getElem?_push, Array.getElem?_push, if_neg (by rw [Array.size_push]; exact Nat.ne_of_lt (Nat.lt_succ_of_lt hb')), if_neg (Nat.ne_of_lt hb')]
theorem end_ok {it l : Addr} {i : Nat} {items : Array Value} {s : Shared} {Q : Option Value → Shared → Prop} {E : Value → Shared → Prop} (hh : A.handled = none) (hit : s.heap.IsListIter it l i) (hl : s.heap.IsList l items) (hx : items[i]? = none)
    (hQ : ∀ h', h'.objs.size = s.heap.objs.size + 2 → (∀ b, b < s.heap.objs.size → b ≠ it → h'.get? b = s.heap.get? b) → Q none { s with heap := h' }) : wpAny (mR w) A (pyNext (.ref it)) Q E s := by
  have hty := hit.typeIs
  obtain ⟨oi, hi, _, hdi⟩ := hit
  obtain ⟨ol, hol, _, nl, hdl⟩ := hl
  unfold pyNext
  refine wpAny_bind (wpAny_attempt (wpAny_callSpecial?_slot (name := Str.ofString "__next__") hty slot_listiter_next (wpAny_call_entry slot_listiter_next hty entry_listiter_next ?_ (args_listiter_next _))))
  refine wpAny_bind (m := field (.ref it) 0) (wpAny_field hi hdi (x := .ref l) rfl ?_)
  rw [if_neg (show ¬ ((Value.ref l == Value.none) = true) from Bool.false_ne_true)]
  refine wpAny_bind (m := field (.ref it) 1) (wpAny_field hi hdi (x := .int i 0) rfl ?_)
  refine wpAny_bind (m := seqItems? (.ref l)) (wpAny_seqItems hol hdl ?_)
  simp only [Int.toNat_natCast, hx]
  refine wpAny_bind (wpAny_rule (wpAny_bind (wpAny_setField hi hdi (by simp) ?_)))
  refine wpAny_bind (m := newExc (.type "StopIteration") []) ?_
  simp only [newExc, newTuple]
  refine wpAny_bind (wpAny_newObj_type ?_ (by size_fits))
  refine wpAny_bind (m := firstArgMember _ _) (wpAny_of_eq (a := Value.none) rfl ?_)
  refine wpAny_newObj_type ?_ (by size_fits)
  simp only [raiseNew]
  refine wpAny_bind (wpAny_handled ?_)
  rw [show A.in1.handled = none from hh]
  refine wpAny_bind (wpAny_pure (wpAny_throw ?_))
  refine wpAny_bind (wpAny_isInstance (T := "StopIteration") (b := true) ⟨_, Heap.get?_push_size _ rfl, rfl⟩ isSubtype_stop ?_)
  refine wpAny_pure (hQ _ ?_ fun b hb hne => ?_)
  · rw [Heap.size_push, Heap.size_push, (Heap.SameBut.update s.heap it _).1]
  · rw [get_push2 _ _ _ (by rw [(Heap.SameBut.update s.heap it _).1]; exact hb), (Heap.SameBut.update s.heap it _).2 b hne]
theorem sum_ok {I S l : Addr} {items : Array Value} {n : Nat} {h₀ : Heap} (hh : A.handled = none) (hIS : I ≠ S) (hlI : l ≠ I) (hlS : l ≠ S) (hSn : S < n) (hints : ∀ (i : Nat) (v : Value), items[i]? = some v → ∃ (z : Int) (t : Tok), v = Value.int z t) :
    ∀ (k i : Nat) (s : Shared) (R : Result → Shared → Prop) (z : Int) (tA : Tok) (c : Nat) (st : Int), (st = 0 ∨ st = 2) → items.size ≤ i + k → i ≤ items.size → Off I S n h₀ s.heap → s.heap.IsListIter I l i → s.heap.IsList l items →
      s.heap.get? S = some { cls := .type "list", data := .seq #[.int z tA] c } →
      (∀ z t h' tk', h'.objs.size = n + 2 → (∀ b, b < n → b ≠ I → b ≠ S → h'.get? b = h₀.get? b) → R (.ok (.ret (.int z t))) { s with heap := h', toks := tk' }) →
      codeAny (mR w) A (.builtin "sum.loop" ⟨[.ref I, .ref S, rawInt st, rawInt 0], []⟩) R s := by
  intro k
  induction k with
  | zero =>
    intro i s R z tA c st hst hk hi ho hit hl hS hR
    have hx : items[i]? = none := Array.getElem?_eq_none (by omega)
    refine codeAny_builtin F.entry_sum_loop ?_
    rw [Around.under_plainId F.plain_sum_loop _]
    refine wpAny_bind (m := seqItems? (.ref S)) (wpAny_seqItems hS rfl ?_)
    refine wpAny_bind (m := tryCatch (pyNext (.ref I)) _) (wpAny_tryCatch (end_ok (A := A.in1) hh hit hl hx fun h' h1 h2 => ?_))
    refine wpAny_pure (hR z tA h' s.toks (by rw [h1, ho.1]) fun b h3 h4 h5 => (h2 b (by rw [ho.1]; exact h3) h4).trans (ho.2 b h4 h5))
  | succ k ih =>
    intro i s R z tA c st hst hk hi ho hit hl hS hR
    rcases Nat.lt_or_ge i items.size with hlt | hge
    · obtain ⟨zi, ti, hv⟩ := hints i _ (Array.getElem?_eq_getElem hlt)
      have hx : items[i]? = some (.int zi ti) := by rw [Array.getElem?_eq_getElem hlt, hv]
      refine codeAny_builtin F.entry_sum_loop ?_
      rw [Around.under_plainId F.plain_sum_loop _]
      refine wpAny_bind (m := seqItems? (.ref S)) (wpAny_seqItems hS rfl ?_)
      refine wpAny_bind (m := tryCatch (pyNext (.ref I)) _) (wpAny_tryCatch (wpAny_pyNext_list_item hit hl hx fun h' hit' sb => ?_))
      have hS' : h'.get? S = _ := (sb.2 S (Ne.symm hIS)).trans hS
      have hl' : h'.IsList l items := by obtain ⟨o, a1, a2⟩ := hl; exact ⟨o, (sb.2 l hlI).trans a1, a2⟩
      have ho' := ho.but sb
      have big : wpAny (mR w) A.in1 ((holding [Value.int zi ti] (binaryOp .Add (.int z tA) (.int zi ti))).attempt >>= fun r => match r with
          | .ok r => do updateSeq S fun _ => #[r]; letGo [.int z tA, .int zi ti]; updateSeq S fun _ => #[r]; again (.builtin "sum.loop" ⟨[.ref I, .ref S, rawInt 2, rawInt 0], []⟩)
          | .error e => do updateSeq S fun _ => #[]; letGo [.int z tA, .int zi ti] [e]; throw e)
          (fun fin s' => match fin with | .done f => R (.ok f) s' | .again c' => c'.quiet = true ∧ codeAny (mR w) A c' R s') (fun e s' => R (.error e) s') { s with heap := h' } := by
        refine wpAny_bind (wpAny_attempt (wpAny_holding (wpAny_add_int ?_)))
        refine wpAny_bind (wpAny_updateSeq hS' rfl ?_)
        have hS2 := Heap.get?_update_self (Obj.mapSeq fun _ => #[Value.int (z + zi) s.toks]) hS' rfl
        refine wpAny_bind (wpAny_letGo (wpAny_bind (wpAny_updateSeq hS2 rfl (wpAny_pure ⟨plainId_quiet F.plain_sum_loop _, ?_⟩))))
        have sb2 := (Heap.SameBut.update h' S (Obj.mapSeq fun _ => #[Value.int (z + zi) s.toks])).trans (Heap.SameBut.update _ S (Obj.mapSeq fun _ => #[Value.int (z + zi) s.toks]))
        refine ih (i + 1) _ R (z + zi) s.toks _ 2 (.inr rfl) (by omega) hlt (ho'.but' sb2) ?_ ?_ (Heap.get?_update_self _ hS2 rfl) fun z' t' h'' tk' a1 a2 => hR z' t' h'' tk' a1 a2
        · obtain ⟨o, a1, a2⟩ := hit'; exact ⟨o, (sb2.2 I hIS).trans a1, a2⟩
        · obtain ⟨o, a1, a2⟩ := hl'; exact ⟨o, (sb2.2 l hlS).trans a1, a2⟩
      rcases hst with rfl | rfl
      · show wpAny _ A.in1 (if (_ : Bool) = true then (mkInt (z + zi) >>= _) else _) _ _ _
        split
        · refine wpAny_bind (wpAny_mkInt ?_)
          refine wpAny_bind (m := updateSeq S _) (wpAny_updateSeq hS' rfl (wpAny_pure ⟨plainId_quiet F.plain_sum_loop _, ?_⟩))
          have sb2 := Heap.SameBut.update h' S (Obj.mapSeq fun _ => #[Value.int (z + zi) s.toks])
          refine ih (i + 1) _ R (z + zi) s.toks _ 0 (.inl rfl) (by omega) hlt (ho'.but' sb2) ?_ ?_ (Heap.get?_update_self _ hS' rfl) fun z' t' h'' tk' a1 a2 => hR z' t' h'' tk' a1 a2
          · obtain ⟨o, a1, a2⟩ := hit'; exact ⟨o, (sb2.2 I hIS).trans a1, a2⟩
          · obtain ⟨o, a1, a2⟩ := hl'; exact ⟨o, (sb2.2 l hlS).trans a1, a2⟩
        · exact wpAny_bind (wpAny_rule big)
      · exact big
    · exact ih i s R z tA c st hst (by omega) hi ho hit hl hS hR
end
end Mine
end K5_text
section K7_text
open PySem PySem.W PyProof.Rows
namespace Mine
noncomputable abbrev Obs := List (Setting → Sem PySem.Fin)
noncomputable def goS (st : SharedT → Thread → Option (SharedT × Thread)) (cm : Thread → Bool) (den : Code → Sem PySem.Fin) (qF : Setting) : Nat → SharedT → Thread → Obs → Obs × Option (SharedT × Thread)
  | 0, s, t, acc => (acc, some (s, t))
  | n + 1, s, t, acc => match cm t with
    | false => (acc, none)
    | true => match t with
      | ⟨cur, code, pos, stack⟩ => match cur with
        | .ask k => goS st cm den qF n s ⟨k qF, code, pos, stack⟩ (k :: acc)
        | .pure (.again c) => goS st cm den qF n s ⟨den c, c, pos, stack⟩ acc
        | .call c h g l k => goS st cm den qF n s ⟨den c, c, pos, .ret k h g l code pos [] :: stack⟩ acc
        | c => match st s ⟨c, code, pos, stack⟩ with
          | some (s', t') => goS st cm den qF n s' t' acc
          | none => (acc, none)
section
variable {cm : Thread → Bool} {den : Code → Sem PySem.Fin} {p : Program} {w w' : World} {qF : Setting}
theorem goS_mem {st : SharedT → Thread → Option (SharedT × Thread)} : ∀ {n : Nat} {s : SharedT} {t : Thread} {acc out : Obs} {r : SharedT × Thread}, goS st cm den qF n s t acc = (out, some r) → ∀ x ∈ acc, x ∈ out
  | 0, s, t, acc, out, r, h => by cases h; exact fun x hx => hx
  | n + 1, s, t, acc, out, r, h => by
    obtain ⟨cur, code, pos, stack⟩ := t
    unfold goS at h
    cases hc : cm ⟨cur, code, pos, stack⟩ with
    | false => rw [hc] at h; cases h
    | true =>
      rw [hc] at h
      have other : ∀ c, (match st s ⟨c, code, pos, stack⟩ with
          | some (s', t') => goS st cm den qF n s' t' acc
          | none => (acc, none)) = (out, some r) → ∀ x ∈ acc, x ∈ out := by
        intro c h
        cases e : st s ⟨c, code, pos, stack⟩ with
        | none => rw [e] at h; cases h
        | some y => rw [e] at h; exact goS_mem h
      cases cur with
      | ask k => exact fun x hx => goS_mem h x (List.mem_cons_of_mem _ hx)
      | call c hh g l k => exact goS_mem h
      | pure f =>
        cases f with
        | again c => exact goS_mem h
        | done f => exact other _ h
      | _ => exact other _ h
theorem goS_run (hstep : ∀ s t x, (∀ k, t.cur ≠ .ask k) → stepT den p w' s t = some x → stepT den p w s t = some x) : ∀ {n : Nat} {s s' : SharedT} {t t' : Thread} {acc out : Obs}, goS (stepT den p w') cm den qF n s t acc = (out, some (s', t')) →
    (∀ k ∈ out, k ⟨p, w.params⟩ = k qF) → goZ (stepT den p w) cm den n s t = some (s', t')
  | 0, s, s', t, t', acc, out, h, _ => by cases h; rfl
  | n + 1, s, s', t, t', acc, out, h, H => by
    obtain ⟨cur, code, pos, stack⟩ := t
    unfold goS at h
    unfold goZ
    cases hc : cm ⟨cur, code, pos, stack⟩ with
    | false => rw [hc] at h; cases h
    | true =>
      rw [hc] at h
      have other : ∀ c, (∀ k, c ≠ .ask k) → stepZ (stepT den p w) den s ⟨c, code, pos, stack⟩ = stepT den p w s ⟨c, code, pos, stack⟩ → (match stepT den p w' s ⟨c, code, pos, stack⟩ with
          | some (s', t') => goS (stepT den p w') cm den qF n s' t' acc
          | none => (acc, none)) = (out, some (s', t')) → (match stepZ (stepT den p w) den s ⟨c, code, pos, stack⟩ with
          | some (s', t') => goZ (stepT den p w) cm den n s' t'
          | none => none) = some (s', t') := by
        intro c hn he h
        rw [he]
        cases e : stepT den p w' s ⟨c, code, pos, stack⟩ with
        | none => rw [e] at h; cases h
        | some y => rw [e] at h; rw [hstep _ _ _ hn e]; exact goS_run hstep h H
      cases cur with
      | ask k =>
        have e : k ⟨p, w.params⟩ = k qF := H k (goS_mem h _ List.mem_cons_self)
        have h' := goS_run hstep h H
        show goZ (stepT den p w) cm den n s ⟨k ⟨p, w.params⟩, code, pos, stack⟩ = _
        rw [e]; exact h'
      | call c hh g l k => exact goS_run hstep h H
      | pure f =>
        cases f with
        | again c => exact goS_run hstep h H
        | done f => exact other (.pure (.done f)) (fun k e => nomatch e) rfl h
      | raise e1 => exact other (.raise e1) (fun k e => nomatch e) rfl h
      | unsupported w1 => exact other (.unsupported w1) (fun k e => nomatch e) rfl h
      | finish e1 => exact other (.finish e1) (fun k e => nomatch e) rfl h
      | rule g1 k => exact other (.rule g1 k) (fun k e => nomatch e) rfl h
      | «at» p1 k => exact other (.at p1 k) (fun k e => nomatch e) rfl h
      | load a1 p1 k => exact other (.load a1 p1 k) (fun k e => nomatch e) rfl h
      | update a1 p1 f k => exact other (.update a1 p1 f k) (fun k e => nomatch e) rfl h
      | alloc o k => exact other (.alloc o k) (fun k e => nomatch e) rfl h
      | loadIfAlive a1 k => exact other (.loadIfAlive a1 k) (fun k e => nomatch e) rfl h
      | point l1 k => exact other (.point l1 k) (fun k e => nomatch e) rfl h
      | register a1 k => exact other (.register a1 k) (fun k e => nomatch e) rfl h
      | fresh k => exact other (.fresh k) (fun k e => nomatch e) rfl h
      | choose sr m1 k => exact other (.choose sr m1 k) (fun k e => nomatch e) rfl h
      | os rq l1 k => exact other (.os rq l1 k) (fun k e => nomatch e) rfl h
      | handled ow k => exact other (.handled ow k) (fun k e => nomatch e) rfl h
      | newGen c k => exact other (.newGen c k) (fun k e => nomatch e) rfl h
      | genState g k => exact other (.genState g k) (fun k e => nomatch e) rfl h
      | resume g r l1 k => exact other (.resume g r l1 k) (fun k e => nomatch e) rfl h
      | «yield» v g l1 k => exact other (.yield v g l1 k) (fun k e => nomatch e) rfl h
      | stack k => exact other (.stack k) (fun k e => nomatch e) rfl h
      | fork c k => exact other (.fork c k) (fun k e => nomatch e) rfl h
      | thread k => exact other (.thread k) (fun k e => nomatch e) rfl h
      | await a1 tk tm l1 k => exact other (.await a1 tk tm l1 k) (fun k e => nomatch e) rfl h
theorem stepT_world {u v : World} (hd : u.draws = v.draws) {s : SharedT} {t : Thread} {x : SharedT × Thread} (hn : ∀ k, t.cur ≠ .ask k) (h : stepT den p u s t = some x) : stepT den p v s t = some x := by
  obtain ⟨T, n, life, gens, drawn, toks, os⟩ := s
  obtain ⟨cur, code, pos, stack⟩ := t
  cases cur with
  | ask k => exact absurd rfl (hn k)
  | choose src m k => simp only [stepT, step] at h ⊢; rw [← hd]; exact h
  | pure f => cases f <;> exact h
  | _ => exact h
noncomputable abbrev rowS : String := "special-get-raises"
noncomputable abbrev qOf (w : World) (b : Bool) : Setting := ⟨pR, (w.withFollow rowS b).params⟩
theorem seg_ok {n : Nat} {s s' : SharedT} {t t' : Thread} {out : Obs} (w : World) (h : goS (stepT (denote table) pR w) Thread.calm (denote table) (qOf w false) n s t [] = (out, some (s', t'))) (hT : out.map (· (qOf w true)) = out.map (· (qOf w false))) :
    goZ (stepT (denote table) pR w) Thread.calm (denote table) n s t = some (s', t') := by
  refine goS_run (fun s t x hn e => e) h fun k hk => ?_
  have hT' : ∀ k ∈ out, k (qOf w true) = k (qOf w false) := fun k hk => List.map_inj_left.mp hT k hk
  have e := World.withFollow_self w rowS
  cases hb : w.params.followText rowS <;> rw [hb] at e
  · have e2 : (⟨pR, w.params⟩ : Setting) = qOf w false := by unfold qOf; rw [e]
    rw [e2]
  · have e2 : (⟨pR, w.params⟩ : Setting) = qOf w true := by unfold qOf; rw [e]
    rw [e2]; exact hT' k hk
end
end Mine
end K7_text
section K8q_text
open PySem PySem.W PyProof.Rows
namespace Mine
noncomputable abbrev denF : Code → Sem PySem.Fin := Fast.tw11892475500146522536 Fast.tw14364793385576792824
noncomputable abbrev RR : Type := Obs × Option (SharedT × Thread)
noncomputable abbrev St : Type := World → Setting → BT → Nat → Life → Array GenState → Drawn → Nat → OsState → Code → Pos → List Frame → Obs → RR
noncomputable abbrev KK : Type := Sem PySem.Fin → St
noncomputable def slow (c : Sem PySem.Fin) (ih : KK) : St := fun w q T n life gens drawn toks os code pos stack acc =>
  match Fast.tw2348191978395082540 ⟨c, code, pos, stack⟩ with
  | false => (acc, none)
  | true => match Fast.tw10156331382660048174 denF pR w ⟨T, n, life, gens, drawn, toks, os⟩ ⟨c, code, pos, stack⟩ with
    | some (⟨T', n', life', gens', drawn', toks', os'⟩, ⟨cur', code', pos', stack'⟩) => ih cur' w q T' n' life' gens' drawn' toks' os' code' pos' stack' acc
    | none => (acc, none)
noncomputable def hRet (f : Flow) (fr : Frame) (rest : List Frame) (ih : KK) : St := match fr with
  | .ret k _ _ _ c p _ => fun w q T n life gens drawn toks os _ _ _ acc => ih (k (.ok f)) w q T n life gens drawn toks os c p rest acc
  | .gen .. => slow (.pure (.done f)) ih
noncomputable def hPure (f : PySem.Fin) (ih : KK) : St := match f with
  | .again c => fun w q T n life gens drawn toks os code pos stack acc => match Fast.tw2348191978395082540 ⟨.pure (.again c), code, pos, stack⟩ with
    | false => (acc, none)
    | true => ih (denF c) w q T n life gens drawn toks os c pos stack acc
  | .done f => fun w q T n life gens drawn toks os code pos stack acc => match stack with
    | [] => slow (.pure (.done f)) ih w q T n life gens drawn toks os code pos [] acc
    | fr :: rest => hRet f fr rest ih w q T n life gens drawn toks os code pos (fr :: rest) acc
noncomputable def hAt (p : Pos) (k : Unit → Sem PySem.Fin) (ih : KK) : St := fun w q T n life gens drawn toks os code _ stack acc => ih (k ()) w q T n life gens drawn toks os code p stack acc
noncomputable def hObj (x : Option Obj) (k : Obj → Sem PySem.Fin) (ih : KK) : St := match x with
  | some o => fun w q T n life gens drawn toks os code pos stack acc => ih (k o) w q T n life gens drawn toks os code pos stack acc
  | none => fun _ _ _ _ _ _ _ _ _ _ _ _ acc => (acc, none)
noncomputable def aliveAt' (T : BT) (n : Nat) (a : Addr) : Option Obj := match Nat.blt a n with
  | true => match T.get a with
    | some o => alive o
    | none => none
  | false => none
noncomputable def hLoad (a : Addr) (k : Obj → Sem PySem.Fin) (ih : KK) : St := fun w q T n life gens drawn toks os code pos stack acc => hObj (aliveAt' T n a) k ih w q T n life gens drawn toks os code pos stack acc
noncomputable def hUpdate (a : Addr) (f : Obj → Obj) (k : Unit → Sem PySem.Fin) (ih : KK) : St := fun w q T n life gens drawn toks os code pos stack acc =>
  hObj (aliveAt' T n a) (fun _ => k ()) ih w q (T.set a f) n life gens drawn toks os code pos stack acc
noncomputable def hAlloc (o : Obj) (k : Addr → Sem PySem.Fin) (ih : KK) : St := fun w q T n life gens drawn toks os code pos stack acc =>
  match ((T.ins n o).get n).isSome with
  | true => ih (k n) w q (T.ins n o) (n + 1) life gens drawn toks os code pos stack acc
  | false => (acc, none)
noncomputable def hFresh (k : Tok → Sem PySem.Fin) (ih : KK) : St := fun w q T n life gens drawn toks os code pos stack acc => ih (k toks) w q T n life gens drawn (toks + 1) os code pos stack acc
noncomputable def hAsk (k : Setting → Sem PySem.Fin) (ih : KK) : St := fun w q T n life gens drawn toks os code pos stack acc => ih (k q) w q T n life gens drawn toks os code pos stack (k :: acc)
noncomputable def hCall (c : Code) (h : Option Value) (g : Bool) (l : List Value) (k : Result → Sem PySem.Fin) (ih : KK) : St := fun w q T n life gens drawn toks os code pos stack acc => ih (denF c) w q T n life gens drawn toks os c pos (.ret k h g l code pos [] :: stack) acc
noncomputable def one : Sem PySem.Fin → KK → St := @Sem.rec PySem.Fin (fun _ => KK → St)
  hPure (fun e => slow (.raise e)) (fun x => slow (.unsupported x)) (fun e => slow (.finish e))
  (fun _ k _ ih => ih (k ())) (fun p k _ => hAt p k) (fun a _ k _ => hLoad a k) (fun a _ f k _ => hUpdate a f k) (fun o k _ => hAlloc o k)
  (fun a k _ => slow (.loadIfAlive a k)) (fun _ k _ ih => ih (k ())) (fun a k _ => slow (.register a k)) (fun k _ => hFresh k) (fun k _ => hAsk k)
  (fun s n k _ => slow (.choose s n k)) (fun r l k _ => slow (.os r l k)) (fun c h g l k _ => hCall c h g l k) (fun o k _ => slow (.handled o k))
  (fun c k _ => slow (.newGen c k)) (fun g k _ => slow (.genState g k)) (fun g r l k _ => slow (.resume g r l k)) (fun v g l k _ => slow (.yield v g l k))
  (fun k _ => slow (.stack k)) (fun c k _ => slow (.fork c k)) (fun k _ => slow (.thread k)) (fun a t d l k _ => slow (.await a t d l k))
noncomputable def goR : Nat → KK := @Nat.rec (fun _ => KK) (fun cur _ _ T n life gens drawn toks os code pos stack acc => (acc, some (⟨T, n, life, gens, drawn, toks, os⟩, ⟨cur, code, pos, stack⟩))) (fun _ ih cur => one cur ih)
section
variable {w : World} {q : Setting}
theorem slow_is {N : Nat} (IH : ∀ cur T n life gens drawn toks os code pos stack acc, goR N cur w q T n life gens drawn toks os code pos stack acc = goS (stepT denF pR w) Thread.calm denF q N ⟨T, n, life, gens, drawn, toks, os⟩ ⟨cur, code, pos, stack⟩ acc)
    (c : Sem PySem.Fin) (T : BT) (n : Nat) (life : Life) (gens : Array GenState) (drawn : Drawn) (toks : Nat) (os : OsState) (code : Code) (pos : Pos) (stack : List Frame) (acc : Obs) :
    slow c (goR N) w q T n life gens drawn toks os code pos stack acc = match Thread.calm ⟨c, code, pos, stack⟩ with
      | false => (acc, none)
      | true => match stepT denF pR w ⟨T, n, life, gens, drawn, toks, os⟩ ⟨c, code, pos, stack⟩ with
        | some (s', t') => goS (stepT denF pR w) Thread.calm denF q N s' t' acc
        | none => (acc, none) := by
  unfold slow
  rw [← Fast.te2348191978395082540, ← Fast.te10156331382660048174]
  cases Thread.calm ⟨c, code, pos, stack⟩ with
  | false => rfl
  | true =>
    cases stepT denF pR w ⟨T, n, life, gens, drawn, toks, os⟩ ⟨c, code, pos, stack⟩ with
    | none => rfl
    | some x =>
      obtain ⟨⟨T', n', life', gens', drawn', toks', os'⟩, ⟨cur', code', pos', stack'⟩⟩ := x
      exact IH _ _ _ _ _ _ _ _ _ _ _ _
theorem goR_is : ∀ (N : Nat) (cur : Sem PySem.Fin) (T : BT) (n : Nat) (life : Life) (gens : Array GenState) (drawn : Drawn) (toks : Nat) (os : OsState) (code : Code) (pos : Pos) (stack : List Frame) (acc : Obs),
    goR N cur w q T n life gens drawn toks os code pos stack acc = goS (stepT denF pR w) Thread.calm denF q N ⟨T, n, life, gens, drawn, toks, os⟩ ⟨cur, code, pos, stack⟩ acc
  | 0, _, _, _, _, _, _, _, _, _, _, _, _ => rfl
  | N + 1, cur, T, n, life, gens, drawn, toks, os, code, pos, stack, acc => by
    have IH := goR_is N
    have S := slow_is IH
    show one cur (goR N) w q T n life gens drawn toks os code pos stack acc = _
    cases cur with
    | pure f =>
      cases f with
      | again c =>
        show (match Fast.tw2348191978395082540 ⟨.pure (.again c), code, pos, stack⟩ with | false => (acc, none) | true => goR N (denF c) w q T n life gens drawn toks os c pos stack acc) = _
        rw [← Fast.te2348191978395082540, IH]
        show _ = match Thread.calm ⟨.pure (.again c), code, pos, stack⟩ with | false => (acc, none) | true => goS (stepT denF pR w) Thread.calm denF q N ⟨T, n, life, gens, drawn, toks, os⟩ ⟨denF c, c, pos, stack⟩ acc
        rfl
      | done f =>
        cases stack with
        | nil => exact S (.pure (.done f)) T n life gens drawn toks os code pos [] acc
        | cons fr rest =>
          cases fr with
          | gen g k l c p => exact S (.pure (.done f)) T n life gens drawn toks os code pos (.gen g k l c p :: rest) acc
          | ret k h g l c p kept => exact IH _ _ _ _ _ _ _ _ _ _ _ _
    | load a p k =>
      show hObj (aliveAt' T n a) k (goR N) w q T n life gens drawn toks os code pos stack acc = _
      unfold aliveAt' goS
      show _ = match stepT denF pR w ⟨T, n, life, gens, drawn, toks, os⟩ ⟨.load a p k, code, pos, stack⟩ with | some (s', t') => goS (stepT denF pR w) Thread.calm denF q N s' t' acc | none => (acc, none)
      unfold stepT
      dsimp only
      cases Nat.blt a n with
      | false => rfl
      | true =>
        dsimp only
        cases T.get a with
        | none => rfl
        | some o =>
          dsimp only
          cases alive o with
          | none => rfl
          | some o' => exact IH _ _ _ _ _ _ _ _ _ _ _ _
    | update a p f k =>
      show hObj (aliveAt' T n a) (fun _ => k ()) (goR N) w q (T.set a f) n life gens drawn toks os code pos stack acc = _
      unfold aliveAt' goS
      show _ = match stepT denF pR w ⟨T, n, life, gens, drawn, toks, os⟩ ⟨.update a p f k, code, pos, stack⟩ with | some (s', t') => goS (stepT denF pR w) Thread.calm denF q N s' t' acc | none => (acc, none)
      unfold stepT
      dsimp only
      cases Nat.blt a n with
      | false => rfl
      | true =>
        dsimp only
        cases T.get a with
        | none => rfl
        | some o =>
          dsimp only
          cases alive o with
          | none => rfl
          | some o' => exact IH _ _ _ _ _ _ _ _ _ _ _ _
    | alloc o k =>
      show hAlloc o k (goR N) w q T n life gens drawn toks os code pos stack acc = _
      unfold hAlloc goS
      show _ = match stepT denF pR w ⟨T, n, life, gens, drawn, toks, os⟩ ⟨.alloc o k, code, pos, stack⟩ with | some (s', t') => goS (stepT denF pR w) Thread.calm denF q N s' t' acc | none => (acc, none)
      unfold stepT
      dsimp only
      cases ((T.ins n o).get n).isSome with
      | false => rfl
      | true => exact IH _ _ _ _ _ _ _ _ _ _ _ _
    | rule | «at» | point | fresh | ask | call => exact IH _ _ _ _ _ _ _ _ _ _ _ _
    | raise e => exact S (.raise e) T n life gens drawn toks os code pos stack acc
    | unsupported x => exact S (.unsupported x) T n life gens drawn toks os code pos stack acc
    | finish e => exact S (.finish e) T n life gens drawn toks os code pos stack acc
    | loadIfAlive a k => exact S (.loadIfAlive a k) T n life gens drawn toks os code pos stack acc
    | register a k => exact S (.register a k) T n life gens drawn toks os code pos stack acc
    | choose s m k => exact S (.choose s m k) T n life gens drawn toks os code pos stack acc
    | os r l k => exact S (.os r l k) T n life gens drawn toks os code pos stack acc
    | handled o k => exact S (.handled o k) T n life gens drawn toks os code pos stack acc
    | newGen c k => exact S (.newGen c k) T n life gens drawn toks os code pos stack acc
    | genState g k => exact S (.genState g k) T n life gens drawn toks os code pos stack acc
    | resume g r l k => exact S (.resume g r l k) T n life gens drawn toks os code pos stack acc
    | yield v g l k => exact S (.yield v g l k) T n life gens drawn toks os code pos stack acc
    | stack k => exact S (.stack k) T n life gens drawn toks os code pos stack acc
    | fork c k => exact S (.fork c k) T n life gens drawn toks os code pos stack acc
    | thread k => exact S (.thread k) T n life gens drawn toks os code pos stack acc
    | await a u d l k => exact S (.await a u d l k) T n life gens drawn toks os code pos stack acc
end
end Mine
end K8q_text
section K8a_text
open PySem PySem.W PyProof.Rows
namespace Mine
noncomputable def fstO (x : Option (SharedT × Thread)) (d : SharedT) : SharedT := match x with | some (s, _) => s | none => d
noncomputable def sndO (x : Option (SharedT × Thread)) (d : Thread) : Thread := match x with | some (_, t) => t | none => d
noncomputable def goSF (w u : World) (n : Nat) (s : SharedT) (t : Thread) : Obs × Option (SharedT × Thread) := goR n t.cur w (qOf u false) s.tree s.n s.life s.gens s.drawn s.toks s.os t.code t.pos t.stack []
theorem goSF_eq (w u : World) (n : Nat) (s : SharedT) (t : Thread) : goSF w u n s t = goS (stepT (denote table) pR w) Thread.calm (denote table) (qOf u false) n s t [] := by
  unfold goSF
  rw [goR_is]
  unfold denF
  rw [← Fast.te11892475500146522536, ← Fast.te14364793385576792824, ← table_eq_tree]
noncomputable abbrev chkS (u : World) (x : Obs × Option (SharedT × Thread)) : Prop := x.1.map (· (qOf u true)) = x.1.map (· (qOf u false))
theorem some_of {o : Option (SharedT × Thread)} {a : SharedT} {b : Thread} (h : o.isSome = true) : o = some (fstO o a, sndO o b) := by
  cases o with
  | none => cases h
  | some x => rfl
section
variable {w : World} {R : Result → Shared → Prop} {n : Nat} {s s' : SharedT} {t t' : Thread}
theorem seg_go (h : (goSF w w n s t).2 = some (s', t')) (hT : chkS w (goSF w w n s t)) (k : Hal w s'.abs t' R) : Hal w s.abs t R := by
  have e := goSF_eq w w n s t
  refine Hal.goZ (seg_ok (n := n) (out := (goSF w w n s t).1) w ?_ hT) k
  rw [← e, ← h]
theorem seg_long {a : SharedT} {b : Thread} (h : (goSF w w n s t).2.isSome = true) (hT : chkS w (goSF w w n s t)) (k : Hal w (fstO (goSF w w n s t).2 a).abs (sndO (goSF w w n s t).2 b) R) : Hal w s.abs t R :=
  seg_go (some_of h) hT k
theorem seg_row {row : String} {b : Bool} (hb : w.params.followText row = b) (h : (goSF w (w.withFollow row b) n s t).2 = some (s', t')) (hT : chkS (w.withFollow row b) (goSF w (w.withFollow row b) n s t)) (k : Hal w s'.abs t' R) : Hal w s.abs t R := by
  have e : w.withFollow row b = w := hb ▸ World.withFollow_self w row
  rw [e] at h hT
  exact seg_go h hT k
end
noncomputable abbrev rowC : String := "comprehension-iter-twice"
noncomputable abbrev rowF : String := "fstring-hands-on-the-str"
end Mine
end K8a_text
section K6_text
open PySem PySem.W PyProof.Rows
namespace Mine
structure Env0 where
  w : World
  x39 : Obj
  vs : Array Value
  d : Drawn
  tk : Nat
  os : OsState
noncomputable def lsO (vs : Array Value) : Obj := { cls := .type SL.s9222952809800978799x4, data := .seq vs }
noncomputable abbrev S0 (e : Env0) : SharedT := { tree := (pt (hB.tree_331 e.w.params) e.x39 o40 o41 o42).ins 240 (lsO e.vs), n := 241, life := {}, gens := ⟨[]⟩, drawn := e.d, toks := e.tk, os := e.os }
noncomputable abbrev cL : Code := .call (.ref 239) ⟨[.ref 240], []⟩
noncomputable abbrev caC : Code := .builtin "claim.caller" {}
noncomputable abbrev t0 : Thread := ⟨denF cL, cL, default, [FL caC default]⟩
noncomputable def nilS (e : Env0) : SharedT := S0 e
noncomputable def nilT : Thread := t0
noncomputable def kOf (t : Thread) : Result → Sem PySem.Fin := match t.cur with | .call _ _ _ _ k => k | _ => leafOf
noncomputable def gOf (t : Thread) : Bool := match t.cur with | .call _ _ g _ _ => g | _ => false
noncomputable def lOf (t : Thread) : List Value := match t.cur with | .call _ _ _ l _ => l | _ => []
noncomputable def runA (e : Env0) := goSF e.w e.w 25 (S0 e) t0
noncomputable def sA' (e : Env0) : SharedT := fstO (runA e).2 (S0 e)
noncomputable def thA (e : Env0) : Thread := sndO (runA e).2 t0
noncomputable def sB (e : Env0) (y : Array Value) : SharedT := { sA' e with tree := (sA' e).tree.ins 245 (lsO y), n := 246 }
noncomputable def thB (e : Env0) : Thread := ⟨kOf (thA e) (.ok (.ret (.ref 245))), (thA e).code, (thA e).pos, (thA e).stack⟩
noncomputable def runB (e : Env0) (y : Array Value) := goSF e.w e.w 16 (sB e y) (thB e)
noncomputable def sB2 (e : Env0) (y : Array Value) : SharedT := fstO (runB e y).2 (S0 e)
noncomputable def thB2 (e : Env0) (y : Array Value) : Thread := sndO (runB e y).2 t0
structure Env1 extends Env0 where
  y : Array Value
  x246 : Obj
  x247 : Obj
  x248 : Obj
  x249 : Obj
  tk1 : Nat
  c1 : Code
  p1 : Pos
noncomputable def sC (e : Env1) : SharedT := { sB2 e.toEnv0 e.y with tree := ((((sB2 e.toEnv0 e.y).tree.set 246 fun _ => e.x246).set 247 fun _ => e.x247).ins 248 e.x248).ins 249 e.x249, n := 250, toks := e.tk1 }
noncomputable def thC (e : Env1) (z : Int) (t : Tok) : Thread := ⟨leafOf (.ok (.ret (.int z t))), e.c1, e.p1, (thB2 e.toEnv0 e.y).stack⟩
noncomputable def thC4 (e : Env1) (z : Int) (t : Tok) : Thread := sndO (goSF e.w e.w 4 (sC e) (thC e z t)).2 t0
noncomputable def sD (e : Env1) : SharedT := { sC e with toks := e.tk1 + 2 }
noncomputable def thD (e : Env1) (z : Int) (t : Tok) (r : Int) : Thread := ⟨kOf (thC4 e z t) (.ok (.ret (.int r (e.tk1 + 1)))), (thC4 e z t).code, ⟨263, 12, 263, 32⟩, (thC4 e z t).stack⟩
end Mine
end K6_text
section K8b_text
open PySem PySem.W PyProof.Rows
namespace Mine
noncomputable def itemsOf (S : SharedT) (a : Nat) : List Value := match S.tree.get a with
  | some ⟨_, _, .seq es _, _⟩ => es.toList
  | _ => []
noncomputable def epOf (S : SharedT) (a : Nat) : Nat := match S.tree.get a with
  | some ⟨_, _, .seq _ n, _⟩ => n
  | some ⟨_, _, .dict _ n, _⟩ => n
  | _ => 0
noncomputable def esOf (S : SharedT) (a : Nat) : Array DictEntry := match S.tree.get a with
  | some ⟨_, _, .dict es _, _⟩ => es
  | _ => #[]
noncomputable def tokOf : Value → Tok
  | .str _ t => t
  | .int _ t => t
  | _ => 0
noncomputable def tkAt (S : SharedT) (a i : Nat) : Tok := tokOf ((itemsOf S a).getD i .none)
noncomputable def keyTok (S : SharedT) (a i : Nat) : Tok := match (esOf S a)[i]? with
  | some e => tokOf e.key
  | none => 0
noncomputable def faceOf (S : SharedT) (a : Nat) : Option Obj := S.tree.get a
noncomputable def tab3 (S : SharedT) (a : Nat) : Bool := match S.tree.get a with
  | some ⟨.none, none, .fields vs, sl⟩ => sl.isEmpty && (match (vs[1]? : Option Value) with
    | some (.int _ _) => true
    | _ => false)
  | _ => false
noncomputable def spent (g : Array GenState) : Bool := g.all fun x => match x with
  | .finished => true
  | _ => false
noncomputable def listF (vs : List Value) (n : Nat) : Option Obj := some { cls := .type SL.s9222952809800978799x4, data := .seq vs.toArray n }
noncomputable abbrev oldL : List Nat := (List.range 240).filter fun i => !(i == 196)
noncomputable def old0 (e : Env1) : BT := pt (hB.tree_331 e.w.params) e.x39 o40 o41 o42
noncomputable def lawEnv (t : Thread) : Env := match t.code with
  | .func _ env => env
  | _ => default
noncomputable def lawStm (t : Thread) : List Stmt := match t.code with
  | .func b _ => b
  | _ => []
noncomputable def atFor (e : Env1) (p : Pos) : Thread :=
  ⟨R.bindR (R.onRaiseR (Fast.tw12563942051412417395 ((lawStm (thA e.toEnv0)).drop 3) (lawEnv (thA e.toEnv0))) (Fast.tw9442747609961115081 (lawEnv (thA e.toEnv0)))) fun f => match f with
    | .ret v => Fast.tw6905046200447255374 v
    | _ => Fast.tw6905046200447255374 .none, (thA e.toEnv0).code, p, [FL caC default]⟩
end Mine
end K8b_text
section K8d2_text
open PySem PySem.W PyProof.Rows
namespace Mine
noncomputable def d2s0 (e : Env1) (z : Int) (t : Tok) : SharedT := sD e
noncomputable def d2t0 (e : Env1) (z : Int) (t : Tok) : Thread := thD e z t 2
noncomputable def d2X1 (e : Env1) (z : Int) (t : Tok) := goSF e.w e.w 66 (d2s0 e z t) (d2t0 e z t)
noncomputable def d2sx1 (e : Env1) (z : Int) (t : Tok) : SharedT := fstO (d2X1 e z t).2 (sD e)
noncomputable def d2tx1 (e : Env1) (z : Int) (t : Tok) : Thread := sndO (d2X1 e z t).2 t0
noncomputable def d2Y1 (e : Env1) (z : Int) (t : Tok) := goSF e.w (e.w.withFollow rowC true) 3 (d2sx1 e z t) (d2tx1 e z t)
noncomputable def d2Z1 (e : Env1) (z : Int) (t : Tok) := goSF e.w (e.w.withFollow rowC false) 13 (d2sx1 e z t) (d2tx1 e z t)
noncomputable def d2s1 (e : Env1) (z : Int) (t : Tok) : SharedT := fstO (d2Y1 e z t).2 (sD e)
noncomputable def d2t1 (e : Env1) (z : Int) (t : Tok) : Thread := sndO (d2Y1 e z t).2 t0
noncomputable def d2X2 (e : Env1) (z : Int) (t : Tok) := goSF e.w e.w 2056 (d2s1 e z t) (d2t1 e z t)
noncomputable def d2sx2 (e : Env1) (z : Int) (t : Tok) : SharedT := fstO (d2X2 e z t).2 (sD e)
noncomputable def d2tx2 (e : Env1) (z : Int) (t : Tok) : Thread := sndO (d2X2 e z t).2 t0
noncomputable def d2Y2 (e : Env1) (z : Int) (t : Tok) := goSF e.w (e.w.withFollow rowC true) 3 (d2sx2 e z t) (d2tx2 e z t)
noncomputable def d2Z2 (e : Env1) (z : Int) (t : Tok) := goSF e.w (e.w.withFollow rowC false) 13 (d2sx2 e z t) (d2tx2 e z t)
noncomputable def d2s2 (e : Env1) (z : Int) (t : Tok) : SharedT := fstO (d2Y2 e z t).2 (sD e)
noncomputable def d2t2 (e : Env1) (z : Int) (t : Tok) : Thread := sndO (d2Y2 e z t).2 t0
noncomputable def d2X3 (e : Env1) (z : Int) (t : Tok) := goSF e.w e.w 360 (d2s2 e z t) (d2t2 e z t)
noncomputable def d2sx3 (e : Env1) (z : Int) (t : Tok) : SharedT := fstO (d2X3 e z t).2 (sD e)
noncomputable def d2tx3 (e : Env1) (z : Int) (t : Tok) : Thread := sndO (d2X3 e z t).2 t0
noncomputable def d2Y3 (e : Env1) (z : Int) (t : Tok) (k1 : Nat) := goSF e.w (e.w.withFollow rowF false) 3 { d2sx3 e z t with toks := k1 } (d2tx3 e z t)
noncomputable def d2Z3 (e : Env1) (z : Int) (t : Tok) (k1 : Nat) := goSF e.w (e.w.withFollow rowF true) 4 { d2sx3 e z t with toks := k1 } (d2tx3 e z t)
noncomputable def d2s3 (e : Env1) (z : Int) (t : Tok) (k1 : Nat) : SharedT := fstO (d2Y3 e z t k1).2 (sD e)
noncomputable def d2t3 (e : Env1) (z : Int) (t : Tok) (k1 : Nat) : Thread := sndO (d2Y3 e z t k1).2 t0
noncomputable def d2X4 (e : Env1) (z : Int) (t : Tok) (k1 : Nat) := goSF e.w e.w 2316 (d2s3 e z t k1) (d2t3 e z t k1)
noncomputable def d2sx4 (e : Env1) (z : Int) (t : Tok) (k1 : Nat) : SharedT := fstO (d2X4 e z t k1).2 (sD e)
noncomputable def d2tx4 (e : Env1) (z : Int) (t : Tok) (k1 : Nat) : Thread := sndO (d2X4 e z t k1).2 t0
noncomputable def d2Y4 (e : Env1) (z : Int) (t : Tok) (k1 : Nat) := goSF e.w (e.w.withFollow rowC true) 3 (d2sx4 e z t k1) (d2tx4 e z t k1)
noncomputable def d2Z4 (e : Env1) (z : Int) (t : Tok) (k1 : Nat) := goSF e.w (e.w.withFollow rowC false) 13 (d2sx4 e z t k1) (d2tx4 e z t k1)
noncomputable def d2s4 (e : Env1) (z : Int) (t : Tok) (k1 : Nat) : SharedT := fstO (d2Y4 e z t k1).2 (sD e)
noncomputable def d2t4 (e : Env1) (z : Int) (t : Tok) (k1 : Nat) : Thread := sndO (d2Y4 e z t k1).2 t0
noncomputable def d2X5 (e : Env1) (z : Int) (t : Tok) (k1 : Nat) := goSF e.w e.w 402 (d2s4 e z t k1) (d2t4 e z t k1)
noncomputable def d2sx5 (e : Env1) (z : Int) (t : Tok) (k1 : Nat) : SharedT := fstO (d2X5 e z t k1).2 (sD e)
noncomputable def d2tx5 (e : Env1) (z : Int) (t : Tok) (k1 : Nat) : Thread := sndO (d2X5 e z t k1).2 t0
noncomputable def d2Y5 (e : Env1) (z : Int) (t : Tok) (k1 : Nat) (k2 : Nat) := goSF e.w (e.w.withFollow rowF false) 3 { d2sx5 e z t k1 with toks := k2 } (d2tx5 e z t k1)
noncomputable def d2Z5 (e : Env1) (z : Int) (t : Tok) (k1 : Nat) (k2 : Nat) := goSF e.w (e.w.withFollow rowF true) 4 { d2sx5 e z t k1 with toks := k2 } (d2tx5 e z t k1)
noncomputable def d2s5 (e : Env1) (z : Int) (t : Tok) (k1 : Nat) (k2 : Nat) : SharedT := fstO (d2Y5 e z t k1 k2).2 (sD e)
noncomputable def d2t5 (e : Env1) (z : Int) (t : Tok) (k1 : Nat) (k2 : Nat) : Thread := sndO (d2Y5 e z t k1 k2).2 t0
noncomputable def d2X6 (e : Env1) (z : Int) (t : Tok) (k1 : Nat) (k2 : Nat) := goSF e.w e.w 2239 (d2s5 e z t k1 k2) (d2t5 e z t k1 k2)
noncomputable def d2sx6 (e : Env1) (z : Int) (t : Tok) (k1 : Nat) (k2 : Nat) : SharedT := fstO (d2X6 e z t k1 k2).2 (sD e)
noncomputable def d2tx6 (e : Env1) (z : Int) (t : Tok) (k1 : Nat) (k2 : Nat) : Thread := sndO (d2X6 e z t k1 k2).2 t0
noncomputable def d2Y6 (e : Env1) (z : Int) (t : Tok) (k1 : Nat) (k2 : Nat) := goSF e.w (e.w.withFollow rowC true) 3 (d2sx6 e z t k1 k2) (d2tx6 e z t k1 k2)
noncomputable def d2Z6 (e : Env1) (z : Int) (t : Tok) (k1 : Nat) (k2 : Nat) := goSF e.w (e.w.withFollow rowC false) 13 (d2sx6 e z t k1 k2) (d2tx6 e z t k1 k2)
noncomputable def d2s6 (e : Env1) (z : Int) (t : Tok) (k1 : Nat) (k2 : Nat) : SharedT := fstO (d2Y6 e z t k1 k2).2 (sD e)
noncomputable def d2t6 (e : Env1) (z : Int) (t : Tok) (k1 : Nat) (k2 : Nat) : Thread := sndO (d2Y6 e z t k1 k2).2 t0
noncomputable def d2X7 (e : Env1) (z : Int) (t : Tok) (k1 : Nat) (k2 : Nat) := goSF e.w e.w 402 (d2s6 e z t k1 k2) (d2t6 e z t k1 k2)
noncomputable def d2sx7 (e : Env1) (z : Int) (t : Tok) (k1 : Nat) (k2 : Nat) : SharedT := fstO (d2X7 e z t k1 k2).2 (sD e)
noncomputable def d2tx7 (e : Env1) (z : Int) (t : Tok) (k1 : Nat) (k2 : Nat) : Thread := sndO (d2X7 e z t k1 k2).2 t0
noncomputable def d2Y7 (e : Env1) (z : Int) (t : Tok) (k1 : Nat) (k2 : Nat) (k3 : Nat) := goSF e.w (e.w.withFollow rowF false) 3 { d2sx7 e z t k1 k2 with toks := k3 } (d2tx7 e z t k1 k2)
noncomputable def d2Z7 (e : Env1) (z : Int) (t : Tok) (k1 : Nat) (k2 : Nat) (k3 : Nat) := goSF e.w (e.w.withFollow rowF true) 4 { d2sx7 e z t k1 k2 with toks := k3 } (d2tx7 e z t k1 k2)
noncomputable def d2s7 (e : Env1) (z : Int) (t : Tok) (k1 : Nat) (k2 : Nat) (k3 : Nat) : SharedT := fstO (d2Y7 e z t k1 k2 k3).2 (sD e)
noncomputable def d2t7 (e : Env1) (z : Int) (t : Tok) (k1 : Nat) (k2 : Nat) (k3 : Nat) : Thread := sndO (d2Y7 e z t k1 k2 k3).2 t0
noncomputable def d2X8 (e : Env1) (z : Int) (t : Tok) (k1 : Nat) (k2 : Nat) (k3 : Nat) := goSF e.w e.w 1418 (d2s7 e z t k1 k2 k3) (d2t7 e z t k1 k2 k3)
noncomputable def d2sx8 (e : Env1) (z : Int) (t : Tok) (k1 : Nat) (k2 : Nat) (k3 : Nat) : SharedT := fstO (d2X8 e z t k1 k2 k3).2 (sD e)
noncomputable def d2tx8 (e : Env1) (z : Int) (t : Tok) (k1 : Nat) (k2 : Nat) (k3 : Nat) : Thread := sndO (d2X8 e z t k1 k2 k3).2 t0
noncomputable def d2Y8 (e : Env1) (z : Int) (t : Tok) (k1 : Nat) (k2 : Nat) (k3 : Nat) := goSF e.w (e.w.withFollow rowC true) 3 (d2sx8 e z t k1 k2 k3) (d2tx8 e z t k1 k2 k3)
noncomputable def d2Z8 (e : Env1) (z : Int) (t : Tok) (k1 : Nat) (k2 : Nat) (k3 : Nat) := goSF e.w (e.w.withFollow rowC false) 13 (d2sx8 e z t k1 k2 k3) (d2tx8 e z t k1 k2 k3)
noncomputable def d2s8 (e : Env1) (z : Int) (t : Tok) (k1 : Nat) (k2 : Nat) (k3 : Nat) : SharedT := fstO (d2Y8 e z t k1 k2 k3).2 (sD e)
noncomputable def d2t8 (e : Env1) (z : Int) (t : Tok) (k1 : Nat) (k2 : Nat) (k3 : Nat) : Thread := sndO (d2Y8 e z t k1 k2 k3).2 t0
noncomputable def d2X9 (e : Env1) (z : Int) (t : Tok) (k1 : Nat) (k2 : Nat) (k3 : Nat) := goSF e.w e.w 231 (d2s8 e z t k1 k2 k3) (d2t8 e z t k1 k2 k3)
noncomputable def d2sx9 (e : Env1) (z : Int) (t : Tok) (k1 : Nat) (k2 : Nat) (k3 : Nat) : SharedT := fstO (d2X9 e z t k1 k2 k3).2 (sD e)
noncomputable def d2tx9 (e : Env1) (z : Int) (t : Tok) (k1 : Nat) (k2 : Nat) (k3 : Nat) : Thread := sndO (d2X9 e z t k1 k2 k3).2 t0
noncomputable def d2Y9 (e : Env1) (z : Int) (t : Tok) (k1 : Nat) (k2 : Nat) (k3 : Nat) (k4 : Nat) := goSF e.w (e.w.withFollow rowF false) 3 { d2sx9 e z t k1 k2 k3 with toks := k4 } (d2tx9 e z t k1 k2 k3)
noncomputable def d2Z9 (e : Env1) (z : Int) (t : Tok) (k1 : Nat) (k2 : Nat) (k3 : Nat) (k4 : Nat) := goSF e.w (e.w.withFollow rowF true) 4 { d2sx9 e z t k1 k2 k3 with toks := k4 } (d2tx9 e z t k1 k2 k3)
noncomputable def d2s9 (e : Env1) (z : Int) (t : Tok) (k1 : Nat) (k2 : Nat) (k3 : Nat) (k4 : Nat) : SharedT := fstO (d2Y9 e z t k1 k2 k3 k4).2 (sD e)
noncomputable def d2t9 (e : Env1) (z : Int) (t : Tok) (k1 : Nat) (k2 : Nat) (k3 : Nat) (k4 : Nat) : Thread := sndO (d2Y9 e z t k1 k2 k3 k4).2 t0
noncomputable def d2X10 (e : Env1) (z : Int) (t : Tok) (k1 : Nat) (k2 : Nat) (k3 : Nat) (k4 : Nat) := goSF e.w e.w 447 (d2s9 e z t k1 k2 k3 k4) (d2t9 e z t k1 k2 k3 k4)
noncomputable def d2sx10 (e : Env1) (z : Int) (t : Tok) (k1 : Nat) (k2 : Nat) (k3 : Nat) (k4 : Nat) : SharedT := fstO (d2X10 e z t k1 k2 k3 k4).2 (sD e)
noncomputable def d2tx10 (e : Env1) (z : Int) (t : Tok) (k1 : Nat) (k2 : Nat) (k3 : Nat) (k4 : Nat) : Thread := sndO (d2X10 e z t k1 k2 k3 k4).2 t0
noncomputable def d2Y10 (e : Env1) (z : Int) (t : Tok) (k1 : Nat) (k2 : Nat) (k3 : Nat) (k4 : Nat) := goSF e.w (e.w.withFollow rowC true) 3 (d2sx10 e z t k1 k2 k3 k4) (d2tx10 e z t k1 k2 k3 k4)
noncomputable def d2Z10 (e : Env1) (z : Int) (t : Tok) (k1 : Nat) (k2 : Nat) (k3 : Nat) (k4 : Nat) := goSF e.w (e.w.withFollow rowC false) 13 (d2sx10 e z t k1 k2 k3 k4) (d2tx10 e z t k1 k2 k3 k4)
noncomputable def d2s10 (e : Env1) (z : Int) (t : Tok) (k1 : Nat) (k2 : Nat) (k3 : Nat) (k4 : Nat) : SharedT := fstO (d2Y10 e z t k1 k2 k3 k4).2 (sD e)
noncomputable def d2t10 (e : Env1) (z : Int) (t : Tok) (k1 : Nat) (k2 : Nat) (k3 : Nat) (k4 : Nat) : Thread := sndO (d2Y10 e z t k1 k2 k3 k4).2 t0
noncomputable def d2X11 (e : Env1) (z : Int) (t : Tok) (k1 : Nat) (k2 : Nat) (k3 : Nat) (k4 : Nat) := goSF e.w e.w 1643 (d2s10 e z t k1 k2 k3 k4) (d2t10 e z t k1 k2 k3 k4)
noncomputable def d2sx11 (e : Env1) (z : Int) (t : Tok) (k1 : Nat) (k2 : Nat) (k3 : Nat) (k4 : Nat) : SharedT := fstO (d2X11 e z t k1 k2 k3 k4).2 (sD e)
noncomputable def d2tx11 (e : Env1) (z : Int) (t : Tok) (k1 : Nat) (k2 : Nat) (k3 : Nat) (k4 : Nat) : Thread := sndO (d2X11 e z t k1 k2 k3 k4).2 t0
noncomputable def d2Y11 (e : Env1) (z : Int) (t : Tok) (k1 : Nat) (k2 : Nat) (k3 : Nat) (k4 : Nat) := goSF e.w (e.w.withFollow rowC true) 3 (d2sx11 e z t k1 k2 k3 k4) (d2tx11 e z t k1 k2 k3 k4)
noncomputable def d2Z11 (e : Env1) (z : Int) (t : Tok) (k1 : Nat) (k2 : Nat) (k3 : Nat) (k4 : Nat) := goSF e.w (e.w.withFollow rowC false) 13 (d2sx11 e z t k1 k2 k3 k4) (d2tx11 e z t k1 k2 k3 k4)
noncomputable def d2s11 (e : Env1) (z : Int) (t : Tok) (k1 : Nat) (k2 : Nat) (k3 : Nat) (k4 : Nat) : SharedT := fstO (d2Y11 e z t k1 k2 k3 k4).2 (sD e)
noncomputable def d2t11 (e : Env1) (z : Int) (t : Tok) (k1 : Nat) (k2 : Nat) (k3 : Nat) (k4 : Nat) : Thread := sndO (d2Y11 e z t k1 k2 k3 k4).2 t0
noncomputable def d2X12 (e : Env1) (z : Int) (t : Tok) (k1 : Nat) (k2 : Nat) (k3 : Nat) (k4 : Nat) := goSF e.w e.w 345 (d2s11 e z t k1 k2 k3 k4) (d2t11 e z t k1 k2 k3 k4)
noncomputable def d2sx12 (e : Env1) (z : Int) (t : Tok) (k1 : Nat) (k2 : Nat) (k3 : Nat) (k4 : Nat) : SharedT := fstO (d2X12 e z t k1 k2 k3 k4).2 (sD e)
noncomputable def d2tx12 (e : Env1) (z : Int) (t : Tok) (k1 : Nat) (k2 : Nat) (k3 : Nat) (k4 : Nat) : Thread := sndO (d2X12 e z t k1 k2 k3 k4).2 t0
noncomputable def d2Y12 (e : Env1) (z : Int) (t : Tok) (k1 : Nat) (k2 : Nat) (k3 : Nat) (k4 : Nat) (k5 : Nat) := goSF e.w (e.w.withFollow rowF false) 3 { d2sx12 e z t k1 k2 k3 k4 with toks := k5 } (d2tx12 e z t k1 k2 k3 k4)
noncomputable def d2Z12 (e : Env1) (z : Int) (t : Tok) (k1 : Nat) (k2 : Nat) (k3 : Nat) (k4 : Nat) (k5 : Nat) := goSF e.w (e.w.withFollow rowF true) 4 { d2sx12 e z t k1 k2 k3 k4 with toks := k5 } (d2tx12 e z t k1 k2 k3 k4)
noncomputable def d2s12 (e : Env1) (z : Int) (t : Tok) (k1 : Nat) (k2 : Nat) (k3 : Nat) (k4 : Nat) (k5 : Nat) : SharedT := fstO (d2Y12 e z t k1 k2 k3 k4 k5).2 (sD e)
noncomputable def d2t12 (e : Env1) (z : Int) (t : Tok) (k1 : Nat) (k2 : Nat) (k3 : Nat) (k4 : Nat) (k5 : Nat) : Thread := sndO (d2Y12 e z t k1 k2 k3 k4 k5).2 t0
noncomputable def d2X13 (e : Env1) (z : Int) (t : Tok) (k1 : Nat) (k2 : Nat) (k3 : Nat) (k4 : Nat) (k5 : Nat) := goSF e.w e.w 1914 (d2s12 e z t k1 k2 k3 k4 k5) (d2t12 e z t k1 k2 k3 k4 k5)
noncomputable def d2sx13 (e : Env1) (z : Int) (t : Tok) (k1 : Nat) (k2 : Nat) (k3 : Nat) (k4 : Nat) (k5 : Nat) : SharedT := fstO (d2X13 e z t k1 k2 k3 k4 k5).2 (sD e)
noncomputable def d2tx13 (e : Env1) (z : Int) (t : Tok) (k1 : Nat) (k2 : Nat) (k3 : Nat) (k4 : Nat) (k5 : Nat) : Thread := sndO (d2X13 e z t k1 k2 k3 k4 k5).2 t0
noncomputable def d2Y13 (e : Env1) (z : Int) (t : Tok) (k1 : Nat) (k2 : Nat) (k3 : Nat) (k4 : Nat) (k5 : Nat) := goSF e.w (e.w.withFollow rowC true) 3 (d2sx13 e z t k1 k2 k3 k4 k5) (d2tx13 e z t k1 k2 k3 k4 k5)
noncomputable def d2Z13 (e : Env1) (z : Int) (t : Tok) (k1 : Nat) (k2 : Nat) (k3 : Nat) (k4 : Nat) (k5 : Nat) := goSF e.w (e.w.withFollow rowC false) 13 (d2sx13 e z t k1 k2 k3 k4 k5) (d2tx13 e z t k1 k2 k3 k4 k5)
noncomputable def d2s13 (e : Env1) (z : Int) (t : Tok) (k1 : Nat) (k2 : Nat) (k3 : Nat) (k4 : Nat) (k5 : Nat) : SharedT := fstO (d2Y13 e z t k1 k2 k3 k4 k5).2 (sD e)
noncomputable def d2t13 (e : Env1) (z : Int) (t : Tok) (k1 : Nat) (k2 : Nat) (k3 : Nat) (k4 : Nat) (k5 : Nat) : Thread := sndO (d2Y13 e z t k1 k2 k3 k4 k5).2 t0
noncomputable def d2X14 (e : Env1) (z : Int) (t : Tok) (k1 : Nat) (k2 : Nat) (k3 : Nat) (k4 : Nat) (k5 : Nat) := goSF e.w e.w 402 (d2s13 e z t k1 k2 k3 k4 k5) (d2t13 e z t k1 k2 k3 k4 k5)
noncomputable def d2sx14 (e : Env1) (z : Int) (t : Tok) (k1 : Nat) (k2 : Nat) (k3 : Nat) (k4 : Nat) (k5 : Nat) : SharedT := fstO (d2X14 e z t k1 k2 k3 k4 k5).2 (sD e)
noncomputable def d2tx14 (e : Env1) (z : Int) (t : Tok) (k1 : Nat) (k2 : Nat) (k3 : Nat) (k4 : Nat) (k5 : Nat) : Thread := sndO (d2X14 e z t k1 k2 k3 k4 k5).2 t0
noncomputable def d2Y14 (e : Env1) (z : Int) (t : Tok) (k1 : Nat) (k2 : Nat) (k3 : Nat) (k4 : Nat) (k5 : Nat) (k6 : Nat) := goSF e.w (e.w.withFollow rowF false) 3 { d2sx14 e z t k1 k2 k3 k4 k5 with toks := k6 } (d2tx14 e z t k1 k2 k3 k4 k5)
noncomputable def d2Z14 (e : Env1) (z : Int) (t : Tok) (k1 : Nat) (k2 : Nat) (k3 : Nat) (k4 : Nat) (k5 : Nat) (k6 : Nat) := goSF e.w (e.w.withFollow rowF true) 4 { d2sx14 e z t k1 k2 k3 k4 k5 with toks := k6 } (d2tx14 e z t k1 k2 k3 k4 k5)
noncomputable def d2s14 (e : Env1) (z : Int) (t : Tok) (k1 : Nat) (k2 : Nat) (k3 : Nat) (k4 : Nat) (k5 : Nat) (k6 : Nat) : SharedT := fstO (d2Y14 e z t k1 k2 k3 k4 k5 k6).2 (sD e)
noncomputable def d2t14 (e : Env1) (z : Int) (t : Tok) (k1 : Nat) (k2 : Nat) (k3 : Nat) (k4 : Nat) (k5 : Nat) (k6 : Nat) : Thread := sndO (d2Y14 e z t k1 k2 k3 k4 k5 k6).2 t0
noncomputable def d2X15 (e : Env1) (z : Int) (t : Tok) (k1 : Nat) (k2 : Nat) (k3 : Nat) (k4 : Nat) (k5 : Nat) (k6 : Nat) := goSF e.w e.w 1837 (d2s14 e z t k1 k2 k3 k4 k5 k6) (d2t14 e z t k1 k2 k3 k4 k5 k6)
noncomputable def d2sx15 (e : Env1) (z : Int) (t : Tok) (k1 : Nat) (k2 : Nat) (k3 : Nat) (k4 : Nat) (k5 : Nat) (k6 : Nat) : SharedT := fstO (d2X15 e z t k1 k2 k3 k4 k5 k6).2 (sD e)
noncomputable def d2tx15 (e : Env1) (z : Int) (t : Tok) (k1 : Nat) (k2 : Nat) (k3 : Nat) (k4 : Nat) (k5 : Nat) (k6 : Nat) : Thread := sndO (d2X15 e z t k1 k2 k3 k4 k5 k6).2 t0
noncomputable def d2Y15 (e : Env1) (z : Int) (t : Tok) (k1 : Nat) (k2 : Nat) (k3 : Nat) (k4 : Nat) (k5 : Nat) (k6 : Nat) := goSF e.w (e.w.withFollow rowC true) 3 (d2sx15 e z t k1 k2 k3 k4 k5 k6) (d2tx15 e z t k1 k2 k3 k4 k5 k6)
noncomputable def d2Z15 (e : Env1) (z : Int) (t : Tok) (k1 : Nat) (k2 : Nat) (k3 : Nat) (k4 : Nat) (k5 : Nat) (k6 : Nat) := goSF e.w (e.w.withFollow rowC false) 13 (d2sx15 e z t k1 k2 k3 k4 k5 k6) (d2tx15 e z t k1 k2 k3 k4 k5 k6)
noncomputable def d2s15 (e : Env1) (z : Int) (t : Tok) (k1 : Nat) (k2 : Nat) (k3 : Nat) (k4 : Nat) (k5 : Nat) (k6 : Nat) : SharedT := fstO (d2Y15 e z t k1 k2 k3 k4 k5 k6).2 (sD e)
noncomputable def d2t15 (e : Env1) (z : Int) (t : Tok) (k1 : Nat) (k2 : Nat) (k3 : Nat) (k4 : Nat) (k5 : Nat) (k6 : Nat) : Thread := sndO (d2Y15 e z t k1 k2 k3 k4 k5 k6).2 t0
noncomputable def d2X16 (e : Env1) (z : Int) (t : Tok) (k1 : Nat) (k2 : Nat) (k3 : Nat) (k4 : Nat) (k5 : Nat) (k6 : Nat) := goSF e.w e.w 402 (d2s15 e z t k1 k2 k3 k4 k5 k6) (d2t15 e z t k1 k2 k3 k4 k5 k6)
noncomputable def d2sx16 (e : Env1) (z : Int) (t : Tok) (k1 : Nat) (k2 : Nat) (k3 : Nat) (k4 : Nat) (k5 : Nat) (k6 : Nat) : SharedT := fstO (d2X16 e z t k1 k2 k3 k4 k5 k6).2 (sD e)
noncomputable def d2tx16 (e : Env1) (z : Int) (t : Tok) (k1 : Nat) (k2 : Nat) (k3 : Nat) (k4 : Nat) (k5 : Nat) (k6 : Nat) : Thread := sndO (d2X16 e z t k1 k2 k3 k4 k5 k6).2 t0
noncomputable def d2Y16 (e : Env1) (z : Int) (t : Tok) (k1 : Nat) (k2 : Nat) (k3 : Nat) (k4 : Nat) (k5 : Nat) (k6 : Nat) (k7 : Nat) := goSF e.w (e.w.withFollow rowF false) 3 { d2sx16 e z t k1 k2 k3 k4 k5 k6 with toks := k7 } (d2tx16 e z t k1 k2 k3 k4 k5 k6)
noncomputable def d2Z16 (e : Env1) (z : Int) (t : Tok) (k1 : Nat) (k2 : Nat) (k3 : Nat) (k4 : Nat) (k5 : Nat) (k6 : Nat) (k7 : Nat) := goSF e.w (e.w.withFollow rowF true) 4 { d2sx16 e z t k1 k2 k3 k4 k5 k6 with toks := k7 } (d2tx16 e z t k1 k2 k3 k4 k5 k6)
noncomputable def d2s16 (e : Env1) (z : Int) (t : Tok) (k1 : Nat) (k2 : Nat) (k3 : Nat) (k4 : Nat) (k5 : Nat) (k6 : Nat) (k7 : Nat) : SharedT := fstO (d2Y16 e z t k1 k2 k3 k4 k5 k6 k7).2 (sD e)
noncomputable def d2t16 (e : Env1) (z : Int) (t : Tok) (k1 : Nat) (k2 : Nat) (k3 : Nat) (k4 : Nat) (k5 : Nat) (k6 : Nat) (k7 : Nat) : Thread := sndO (d2Y16 e z t k1 k2 k3 k4 k5 k6 k7).2 t0
noncomputable def d2X17 (e : Env1) (z : Int) (t : Tok) (k1 : Nat) (k2 : Nat) (k3 : Nat) (k4 : Nat) (k5 : Nat) (k6 : Nat) (k7 : Nat) := goSF e.w e.w 886 (d2s16 e z t k1 k2 k3 k4 k5 k6 k7) (d2t16 e z t k1 k2 k3 k4 k5 k6 k7)
noncomputable def d2sx17 (e : Env1) (z : Int) (t : Tok) (k1 : Nat) (k2 : Nat) (k3 : Nat) (k4 : Nat) (k5 : Nat) (k6 : Nat) (k7 : Nat) : SharedT := fstO (d2X17 e z t k1 k2 k3 k4 k5 k6 k7).2 (sD e)
noncomputable def d2tx17 (e : Env1) (z : Int) (t : Tok) (k1 : Nat) (k2 : Nat) (k3 : Nat) (k4 : Nat) (k5 : Nat) (k6 : Nat) (k7 : Nat) : Thread := sndO (d2X17 e z t k1 k2 k3 k4 k5 k6 k7).2 t0
noncomputable def d2Y17 (e : Env1) (z : Int) (t : Tok) (k1 : Nat) (k2 : Nat) (k3 : Nat) (k4 : Nat) (k5 : Nat) (k6 : Nat) (k7 : Nat) (k8 : Nat) := goSF e.w (e.w.withFollow rowF false) 3 { d2sx17 e z t k1 k2 k3 k4 k5 k6 k7 with toks := k8 } (d2tx17 e z t k1 k2 k3 k4 k5 k6 k7)
noncomputable def d2Z17 (e : Env1) (z : Int) (t : Tok) (k1 : Nat) (k2 : Nat) (k3 : Nat) (k4 : Nat) (k5 : Nat) (k6 : Nat) (k7 : Nat) (k8 : Nat) := goSF e.w (e.w.withFollow rowF true) 4 { d2sx17 e z t k1 k2 k3 k4 k5 k6 k7 with toks := k8 } (d2tx17 e z t k1 k2 k3 k4 k5 k6 k7)
noncomputable def d2s17 (e : Env1) (z : Int) (t : Tok) (k1 : Nat) (k2 : Nat) (k3 : Nat) (k4 : Nat) (k5 : Nat) (k6 : Nat) (k7 : Nat) (k8 : Nat) : SharedT := fstO (d2Y17 e z t k1 k2 k3 k4 k5 k6 k7 k8).2 (sD e)
noncomputable def d2t17 (e : Env1) (z : Int) (t : Tok) (k1 : Nat) (k2 : Nat) (k3 : Nat) (k4 : Nat) (k5 : Nat) (k6 : Nat) (k7 : Nat) (k8 : Nat) : Thread := sndO (d2Y17 e z t k1 k2 k3 k4 k5 k6 k7 k8).2 t0
noncomputable def d2X18 (e : Env1) (z : Int) (t : Tok) (k1 : Nat) (k2 : Nat) (k3 : Nat) (k4 : Nat) (k5 : Nat) (k6 : Nat) (k7 : Nat) (k8 : Nat) := goSF e.w e.w 389 (d2s17 e z t k1 k2 k3 k4 k5 k6 k7 k8) (d2t17 e z t k1 k2 k3 k4 k5 k6 k7 k8)
noncomputable def d2sx18 (e : Env1) (z : Int) (t : Tok) (k1 : Nat) (k2 : Nat) (k3 : Nat) (k4 : Nat) (k5 : Nat) (k6 : Nat) (k7 : Nat) (k8 : Nat) : SharedT := fstO (d2X18 e z t k1 k2 k3 k4 k5 k6 k7 k8).2 (sD e)
noncomputable def d2tx18 (e : Env1) (z : Int) (t : Tok) (k1 : Nat) (k2 : Nat) (k3 : Nat) (k4 : Nat) (k5 : Nat) (k6 : Nat) (k7 : Nat) (k8 : Nat) : Thread := sndO (d2X18 e z t k1 k2 k3 k4 k5 k6 k7 k8).2 t0
noncomputable def d2s18 (e : Env1) (z : Int) (t : Tok) (k1 : Nat) (k2 : Nat) (k3 : Nat) (k4 : Nat) (k5 : Nat) (k6 : Nat) (k7 : Nat) (k8 : Nat) : SharedT := d2sx18 e z t k1 k2 k3 k4 k5 k6 k7 k8
noncomputable def d2t18 (e : Env1) (z : Int) (t : Tok) (k1 : Nat) (k2 : Nat) (k3 : Nat) (k4 : Nat) (k5 : Nat) (k6 : Nat) (k7 : Nat) (k8 : Nat) : Thread := ⟨kOf (d2tx18 e z t k1 k2 k3 k4 k5 k6 k7 k8) (.ok (.ret (.bool false))), (d2tx18 e z t k1 k2 k3 k4 k5 k6 k7 k8).code, (d2tx18 e z t k1 k2 k3 k4 k5 k6 k7 k8).pos, (d2tx18 e z t k1 k2 k3 k4 k5 k6 k7 k8).stack⟩
noncomputable def d2X19 (e : Env1) (z : Int) (t : Tok) (k1 : Nat) (k2 : Nat) (k3 : Nat) (k4 : Nat) (k5 : Nat) (k6 : Nat) (k7 : Nat) (k8 : Nat) := goSF e.w e.w 1 (d2s18 e z t k1 k2 k3 k4 k5 k6 k7 k8) (d2t18 e z t k1 k2 k3 k4 k5 k6 k7 k8)
noncomputable def d2sx19 (e : Env1) (z : Int) (t : Tok) (k1 : Nat) (k2 : Nat) (k3 : Nat) (k4 : Nat) (k5 : Nat) (k6 : Nat) (k7 : Nat) (k8 : Nat) : SharedT := fstO (d2X19 e z t k1 k2 k3 k4 k5 k6 k7 k8).2 (sD e)
noncomputable def d2tx19 (e : Env1) (z : Int) (t : Tok) (k1 : Nat) (k2 : Nat) (k3 : Nat) (k4 : Nat) (k5 : Nat) (k6 : Nat) (k7 : Nat) (k8 : Nat) : Thread := sndO (d2X19 e z t k1 k2 k3 k4 k5 k6 k7 k8).2 t0
noncomputable def d2S1 (e : Env1) (z : Int) (t : Tok) : Prop :=
    (d2X1 e z t).2.isSome = true ∧
    chkS e.w (d2X1 e z t) ∧
    (d2Y1 e z t).2.isSome = true ∧
    chkS (e.w.withFollow rowC true) (d2Y1 e z t) ∧
    (d2Z1 e z t).2 = some (d2s1 e z t, d2t1 e z t) ∧
    chkS (e.w.withFollow rowC false) (d2Z1 e z t)
noncomputable def d2S2 (e : Env1) (z : Int) (t : Tok) : Prop :=
    (d2X2 e z t).2.isSome = true ∧
    chkS e.w (d2X2 e z t) ∧
    (d2Y2 e z t).2.isSome = true ∧
    chkS (e.w.withFollow rowC true) (d2Y2 e z t) ∧
    (d2Z2 e z t).2 = some (d2s2 e z t, d2t2 e z t) ∧
    chkS (e.w.withFollow rowC false) (d2Z2 e z t)
noncomputable def d2S3 (e : Env1) (z : Int) (t : Tok) (k1 : Nat) : Prop :=
    (d2X3 e z t).2.isSome = true ∧
    chkS e.w (d2X3 e z t) ∧
    (d2Y3 e z t k1).2.isSome = true ∧
    chkS (e.w.withFollow rowF false) (d2Y3 e z t k1) ∧
    (d2Z3 e z t k1).2 = some (d2s3 e z t (k1 + 1), d2t3 e z t (k1 + 1)) ∧
    chkS (e.w.withFollow rowF true) (d2Z3 e z t k1)
noncomputable def d2S4 (e : Env1) (z : Int) (t : Tok) (k1 : Nat) : Prop :=
    (d2X4 e z t k1).2.isSome = true ∧
    chkS e.w (d2X4 e z t k1) ∧
    (d2Y4 e z t k1).2.isSome = true ∧
    chkS (e.w.withFollow rowC true) (d2Y4 e z t k1) ∧
    (d2Z4 e z t k1).2 = some (d2s4 e z t k1, d2t4 e z t k1) ∧
    chkS (e.w.withFollow rowC false) (d2Z4 e z t k1)
noncomputable def d2S5 (e : Env1) (z : Int) (t : Tok) (k1 : Nat) (k2 : Nat) : Prop :=
    (d2X5 e z t k1).2.isSome = true ∧
    chkS e.w (d2X5 e z t k1) ∧
    (d2Y5 e z t k1 k2).2.isSome = true ∧
    chkS (e.w.withFollow rowF false) (d2Y5 e z t k1 k2) ∧
    (d2Z5 e z t k1 k2).2 = some (d2s5 e z t k1 (k2 + 1), d2t5 e z t k1 (k2 + 1)) ∧
    chkS (e.w.withFollow rowF true) (d2Z5 e z t k1 k2)
noncomputable def d2S6 (e : Env1) (z : Int) (t : Tok) (k1 : Nat) (k2 : Nat) : Prop :=
    (d2X6 e z t k1 k2).2.isSome = true ∧
    chkS e.w (d2X6 e z t k1 k2) ∧
    (d2Y6 e z t k1 k2).2.isSome = true ∧
    chkS (e.w.withFollow rowC true) (d2Y6 e z t k1 k2) ∧
    (d2Z6 e z t k1 k2).2 = some (d2s6 e z t k1 k2, d2t6 e z t k1 k2) ∧
    chkS (e.w.withFollow rowC false) (d2Z6 e z t k1 k2)
noncomputable def d2S7 (e : Env1) (z : Int) (t : Tok) (k1 : Nat) (k2 : Nat) (k3 : Nat) : Prop :=
    (d2X7 e z t k1 k2).2.isSome = true ∧
    chkS e.w (d2X7 e z t k1 k2) ∧
    (d2Y7 e z t k1 k2 k3).2.isSome = true ∧
    chkS (e.w.withFollow rowF false) (d2Y7 e z t k1 k2 k3) ∧
    (d2Z7 e z t k1 k2 k3).2 = some (d2s7 e z t k1 k2 (k3 + 1), d2t7 e z t k1 k2 (k3 + 1)) ∧
    chkS (e.w.withFollow rowF true) (d2Z7 e z t k1 k2 k3)
noncomputable def d2S8 (e : Env1) (z : Int) (t : Tok) (k1 : Nat) (k2 : Nat) (k3 : Nat) : Prop :=
    (d2X8 e z t k1 k2 k3).2.isSome = true ∧
    chkS e.w (d2X8 e z t k1 k2 k3) ∧
    (d2Y8 e z t k1 k2 k3).2.isSome = true ∧
    chkS (e.w.withFollow rowC true) (d2Y8 e z t k1 k2 k3) ∧
    (d2Z8 e z t k1 k2 k3).2 = some (d2s8 e z t k1 k2 k3, d2t8 e z t k1 k2 k3) ∧
    chkS (e.w.withFollow rowC false) (d2Z8 e z t k1 k2 k3)
noncomputable def d2S9 (e : Env1) (z : Int) (t : Tok) (k1 : Nat) (k2 : Nat) (k3 : Nat) (k4 : Nat) : Prop :=
    (d2X9 e z t k1 k2 k3).2.isSome = true ∧
    chkS e.w (d2X9 e z t k1 k2 k3) ∧
    (d2Y9 e z t k1 k2 k3 k4).2.isSome = true ∧
    chkS (e.w.withFollow rowF false) (d2Y9 e z t k1 k2 k3 k4) ∧
    (d2Z9 e z t k1 k2 k3 k4).2 = some (d2s9 e z t k1 k2 k3 (k4 + 1), d2t9 e z t k1 k2 k3 (k4 + 1)) ∧
    chkS (e.w.withFollow rowF true) (d2Z9 e z t k1 k2 k3 k4)
noncomputable def d2S10 (e : Env1) (z : Int) (t : Tok) (k1 : Nat) (k2 : Nat) (k3 : Nat) (k4 : Nat) : Prop :=
    (d2X10 e z t k1 k2 k3 k4).2.isSome = true ∧
    chkS e.w (d2X10 e z t k1 k2 k3 k4) ∧
    (d2Y10 e z t k1 k2 k3 k4).2.isSome = true ∧
    chkS (e.w.withFollow rowC true) (d2Y10 e z t k1 k2 k3 k4) ∧
    (d2Z10 e z t k1 k2 k3 k4).2 = some (d2s10 e z t k1 k2 k3 k4, d2t10 e z t k1 k2 k3 k4) ∧
    chkS (e.w.withFollow rowC false) (d2Z10 e z t k1 k2 k3 k4)
noncomputable def d2S11 (e : Env1) (z : Int) (t : Tok) (k1 : Nat) (k2 : Nat) (k3 : Nat) (k4 : Nat) : Prop :=
    (d2X11 e z t k1 k2 k3 k4).2.isSome = true ∧
    chkS e.w (d2X11 e z t k1 k2 k3 k4) ∧
    (d2Y11 e z t k1 k2 k3 k4).2.isSome = true ∧
    chkS (e.w.withFollow rowC true) (d2Y11 e z t k1 k2 k3 k4) ∧
    (d2Z11 e z t k1 k2 k3 k4).2 = some (d2s11 e z t k1 k2 k3 k4, d2t11 e z t k1 k2 k3 k4) ∧
    chkS (e.w.withFollow rowC false) (d2Z11 e z t k1 k2 k3 k4)
noncomputable def d2S12 (e : Env1) (z : Int) (t : Tok) (k1 : Nat) (k2 : Nat) (k3 : Nat) (k4 : Nat) (k5 : Nat) : Prop :=
    (d2X12 e z t k1 k2 k3 k4).2.isSome = true ∧
    chkS e.w (d2X12 e z t k1 k2 k3 k4) ∧
    (d2Y12 e z t k1 k2 k3 k4 k5).2.isSome = true ∧
    chkS (e.w.withFollow rowF false) (d2Y12 e z t k1 k2 k3 k4 k5) ∧
    (d2Z12 e z t k1 k2 k3 k4 k5).2 = some (d2s12 e z t k1 k2 k3 k4 (k5 + 1), d2t12 e z t k1 k2 k3 k4 (k5 + 1)) ∧
    chkS (e.w.withFollow rowF true) (d2Z12 e z t k1 k2 k3 k4 k5)
noncomputable def d2S13 (e : Env1) (z : Int) (t : Tok) (k1 : Nat) (k2 : Nat) (k3 : Nat) (k4 : Nat) (k5 : Nat) : Prop :=
    (d2X13 e z t k1 k2 k3 k4 k5).2.isSome = true ∧
    chkS e.w (d2X13 e z t k1 k2 k3 k4 k5) ∧
    (d2Y13 e z t k1 k2 k3 k4 k5).2.isSome = true ∧
    chkS (e.w.withFollow rowC true) (d2Y13 e z t k1 k2 k3 k4 k5) ∧
    (d2Z13 e z t k1 k2 k3 k4 k5).2 = some (d2s13 e z t k1 k2 k3 k4 k5, d2t13 e z t k1 k2 k3 k4 k5) ∧
    chkS (e.w.withFollow rowC false) (d2Z13 e z t k1 k2 k3 k4 k5)
noncomputable def d2S14 (e : Env1) (z : Int) (t : Tok) (k1 : Nat) (k2 : Nat) (k3 : Nat) (k4 : Nat) (k5 : Nat) (k6 : Nat) : Prop :=
    (d2X14 e z t k1 k2 k3 k4 k5).2.isSome = true ∧
    chkS e.w (d2X14 e z t k1 k2 k3 k4 k5) ∧
    (d2Y14 e z t k1 k2 k3 k4 k5 k6).2.isSome = true ∧
    chkS (e.w.withFollow rowF false) (d2Y14 e z t k1 k2 k3 k4 k5 k6) ∧
    (d2Z14 e z t k1 k2 k3 k4 k5 k6).2 = some (d2s14 e z t k1 k2 k3 k4 k5 (k6 + 1), d2t14 e z t k1 k2 k3 k4 k5 (k6 + 1)) ∧
    chkS (e.w.withFollow rowF true) (d2Z14 e z t k1 k2 k3 k4 k5 k6)
noncomputable def d2S15 (e : Env1) (z : Int) (t : Tok) (k1 : Nat) (k2 : Nat) (k3 : Nat) (k4 : Nat) (k5 : Nat) (k6 : Nat) : Prop :=
    (d2X15 e z t k1 k2 k3 k4 k5 k6).2.isSome = true ∧
    chkS e.w (d2X15 e z t k1 k2 k3 k4 k5 k6) ∧
    (d2Y15 e z t k1 k2 k3 k4 k5 k6).2.isSome = true ∧
    chkS (e.w.withFollow rowC true) (d2Y15 e z t k1 k2 k3 k4 k5 k6) ∧
    (d2Z15 e z t k1 k2 k3 k4 k5 k6).2 = some (d2s15 e z t k1 k2 k3 k4 k5 k6, d2t15 e z t k1 k2 k3 k4 k5 k6) ∧
    chkS (e.w.withFollow rowC false) (d2Z15 e z t k1 k2 k3 k4 k5 k6)
noncomputable def d2S16 (e : Env1) (z : Int) (t : Tok) (k1 : Nat) (k2 : Nat) (k3 : Nat) (k4 : Nat) (k5 : Nat) (k6 : Nat) (k7 : Nat) : Prop :=
    (d2X16 e z t k1 k2 k3 k4 k5 k6).2.isSome = true ∧
    chkS e.w (d2X16 e z t k1 k2 k3 k4 k5 k6) ∧
    (d2Y16 e z t k1 k2 k3 k4 k5 k6 k7).2.isSome = true ∧
    chkS (e.w.withFollow rowF false) (d2Y16 e z t k1 k2 k3 k4 k5 k6 k7) ∧
    (d2Z16 e z t k1 k2 k3 k4 k5 k6 k7).2 = some (d2s16 e z t k1 k2 k3 k4 k5 k6 (k7 + 1), d2t16 e z t k1 k2 k3 k4 k5 k6 (k7 + 1)) ∧
    chkS (e.w.withFollow rowF true) (d2Z16 e z t k1 k2 k3 k4 k5 k6 k7)
noncomputable def d2S17 (e : Env1) (z : Int) (t : Tok) (k1 : Nat) (k2 : Nat) (k3 : Nat) (k4 : Nat) (k5 : Nat) (k6 : Nat) (k7 : Nat) (k8 : Nat) : Prop :=
    (d2X17 e z t k1 k2 k3 k4 k5 k6 k7).2.isSome = true ∧
    chkS e.w (d2X17 e z t k1 k2 k3 k4 k5 k6 k7) ∧
    (d2Y17 e z t k1 k2 k3 k4 k5 k6 k7 k8).2.isSome = true ∧
    chkS (e.w.withFollow rowF false) (d2Y17 e z t k1 k2 k3 k4 k5 k6 k7 k8) ∧
    (d2Z17 e z t k1 k2 k3 k4 k5 k6 k7 k8).2 = some (d2s17 e z t k1 k2 k3 k4 k5 k6 k7 (k8 + 1), d2t17 e z t k1 k2 k3 k4 k5 k6 k7 (k8 + 1)) ∧
    chkS (e.w.withFollow rowF true) (d2Z17 e z t k1 k2 k3 k4 k5 k6 k7 k8)
noncomputable def d2S18 (e : Env1) (z : Int) (t : Tok) (k1 : Nat) (k2 : Nat) (k3 : Nat) (k4 : Nat) (k5 : Nat) (k6 : Nat) (k7 : Nat) (k8 : Nat) : Prop :=
    (d2X18 e z t k1 k2 k3 k4 k5 k6 k7 k8).2.isSome = true ∧
    chkS e.w (d2X18 e z t k1 k2 k3 k4 k5 k6 k7 k8) ∧
    (d2tx18 e z t k1 k2 k3 k4 k5 k6 k7 k8) = ⟨.call (.call (.builtin "list.__ne__") ⟨[.ref 253, .ref 401], []⟩) none (gOf (d2tx18 e z t k1 k2 k3 k4 k5 k6 k7 k8)) (lOf (d2tx18 e z t k1 k2 k3 k4 k5 k6 k7 k8)) (kOf (d2tx18 e z t k1 k2 k3 k4 k5 k6 k7 k8)), (d2tx18 e z t k1 k2 k3 k4 k5 k6 k7 k8).code, (d2tx18 e z t k1 k2 k3 k4 k5 k6 k7 k8).pos, (d2tx18 e z t k1 k2 k3 k4 k5 k6 k7 k8).stack⟩ ∧
    ((d2sx18 e z t k1 k2 k3 k4 k5 k6 k7 k8).n, Nat.blt (Ctx.of (d2tx18 e z t k1 k2 k3 k4 k5 k6 k7 k8).code (d2tx18 e z t k1 k2 k3 k4 k5 k6 k7 k8).stack).units 900) = (511, true) ∧
    faceOf (d2sx18 e z t k1 k2 k3 k4 k5 k6 k7 k8) 256 = listF [.str ⟨#[65]⟩ (tkAt (d2sx18 e z t k1 k2 k3 k4 k5 k6 k7 k8) 256 0), .str ⟨#[78]⟩ (tkAt (d2sx18 e z t k1 k2 k3 k4 k5 k6 k7 k8) 256 1), .str ⟨#[91, 103, 45, 122, 48, 45, 57, 43, 47, 93]⟩ (tkAt (d2sx18 e z t k1 k2 k3 k4 k5 k6 k7 k8) 256 2), .str ⟨#[46]⟩ (tkAt (d2sx18 e z t k1 k2 k3 k4 k5 k6 k7 k8) 256 3)] (epOf (d2sx18 e z t k1 k2 k3 k4 k5 k6 k7 k8) 256) ∧
    faceOf (d2sx18 e z t k1 k2 k3 k4 k5 k6 k7 k8) 301 = listF [.str ⟨#[69]⟩ (tkAt (d2sx18 e z t k1 k2 k3 k4 k5 k6 k7 k8) 301 0), .str ⟨#[91, 81, 45, 90, 97, 45, 122, 48, 45, 57, 43, 47, 93]⟩ (tkAt (d2sx18 e z t k1 k2 k3 k4 k5 k6 k7 k8) 301 1), .str ⟨#[46]⟩ (tkAt (d2sx18 e z t k1 k2 k3 k4 k5 k6 k7 k8) 301 2), .str ⟨#[46]⟩ (tkAt (d2sx18 e z t k1 k2 k3 k4 k5 k6 k7 k8) 301 3)] (epOf (d2sx18 e z t k1 k2 k3 k4 k5 k6 k7 k8) 301) ∧
    faceOf (d2sx18 e z t k1 k2 k3 k4 k5 k6 k7 k8) 335 = listF [.str ⟨#[91, 70, 45, 90, 97, 45, 122, 48, 45, 57, 43, 47, 93]⟩ (tkAt (d2sx18 e z t k1 k2 k3 k4 k5 k6 k7 k8) 335 0), .str ⟨#[46]⟩ (tkAt (d2sx18 e z t k1 k2 k3 k4 k5 k6 k7 k8) 335 1), .str ⟨#[46]⟩ (tkAt (d2sx18 e z t k1 k2 k3 k4 k5 k6 k7 k8) 335 2), .str ⟨#[46]⟩ (tkAt (d2sx18 e z t k1 k2 k3 k4 k5 k6 k7 k8) 335 3)] (epOf (d2sx18 e z t k1 k2 k3 k4 k5 k6 k7 k8) 335) ∧
    faceOf (d2sx18 e z t k1 k2 k3 k4 k5 k6 k7 k8) 366 = listF [.str ⟨#[91, 50, 51, 93]⟩ (tkAt (d2sx18 e z t k1 k2 k3 k4 k5 k6 k7 k8) 366 0), .str ⟨#[46]⟩ (tkAt (d2sx18 e z t k1 k2 k3 k4 k5 k6 k7 k8) 366 1), .str ⟨#[46]⟩ (tkAt (d2sx18 e z t k1 k2 k3 k4 k5 k6 k7 k8) 366 2), .str ⟨#[61]⟩ (tkAt (d2sx18 e z t k1 k2 k3 k4 k5 k6 k7 k8) 366 3)] (epOf (d2sx18 e z t k1 k2 k3 k4 k5 k6 k7 k8) 366) ∧
    faceOf (d2sx18 e z t k1 k2 k3 k4 k5 k6 k7 k8) 404 = listF [.str ⟨#[65]⟩ (tkAt (d2sx18 e z t k1 k2 k3 k4 k5 k6 k7 k8) 404 0), .str ⟨#[78]⟩ (tkAt (d2sx18 e z t k1 k2 k3 k4 k5 k6 k7 k8) 404 1), .str ⟨#[91, 103, 45, 122, 48, 45, 57, 43, 47, 93]⟩ (tkAt (d2sx18 e z t k1 k2 k3 k4 k5 k6 k7 k8) 404 2), .str ⟨#[46]⟩ (tkAt (d2sx18 e z t k1 k2 k3 k4 k5 k6 k7 k8) 404 3)] (epOf (d2sx18 e z t k1 k2 k3 k4 k5 k6 k7 k8) 404) ∧
    faceOf (d2sx18 e z t k1 k2 k3 k4 k5 k6 k7 k8) 437 = listF [.str ⟨#[69]⟩ (tkAt (d2sx18 e z t k1 k2 k3 k4 k5 k6 k7 k8) 437 0), .str ⟨#[91, 81, 45, 90, 97, 45, 122, 48, 45, 57, 43, 47, 93]⟩ (tkAt (d2sx18 e z t k1 k2 k3 k4 k5 k6 k7 k8) 437 1), .str ⟨#[46]⟩ (tkAt (d2sx18 e z t k1 k2 k3 k4 k5 k6 k7 k8) 437 2), .str ⟨#[46]⟩ (tkAt (d2sx18 e z t k1 k2 k3 k4 k5 k6 k7 k8) 437 3)] (epOf (d2sx18 e z t k1 k2 k3 k4 k5 k6 k7 k8) 437) ∧
    faceOf (d2sx18 e z t k1 k2 k3 k4 k5 k6 k7 k8) 468 = listF [.str ⟨#[91, 70, 45, 90, 97, 45, 122, 48, 45, 57, 43, 47, 93]⟩ (tkAt (d2sx18 e z t k1 k2 k3 k4 k5 k6 k7 k8) 468 0), .str ⟨#[46]⟩ (tkAt (d2sx18 e z t k1 k2 k3 k4 k5 k6 k7 k8) 468 1), .str ⟨#[46]⟩ (tkAt (d2sx18 e z t k1 k2 k3 k4 k5 k6 k7 k8) 468 2), .str ⟨#[46]⟩ (tkAt (d2sx18 e z t k1 k2 k3 k4 k5 k6 k7 k8) 468 3)] (epOf (d2sx18 e z t k1 k2 k3 k4 k5 k6 k7 k8) 468) ∧
    faceOf (d2sx18 e z t k1 k2 k3 k4 k5 k6 k7 k8) 496 = listF [.str ⟨#[91, 50, 51, 93]⟩ (tkAt (d2sx18 e z t k1 k2 k3 k4 k5 k6 k7 k8) 496 0), .str ⟨#[46]⟩ (tkAt (d2sx18 e z t k1 k2 k3 k4 k5 k6 k7 k8) 496 1), .str ⟨#[46]⟩ (tkAt (d2sx18 e z t k1 k2 k3 k4 k5 k6 k7 k8) 496 2), .str ⟨#[61]⟩ (tkAt (d2sx18 e z t k1 k2 k3 k4 k5 k6 k7 k8) 496 3)] (epOf (d2sx18 e z t k1 k2 k3 k4 k5 k6 k7 k8) 496) ∧
    faceOf (d2sx18 e z t k1 k2 k3 k4 k5 k6 k7 k8) 253 = listF [.ref 256, .ref 301, .ref 335, .ref 366] (epOf (d2sx18 e z t k1 k2 k3 k4 k5 k6 k7 k8) 253) ∧
    faceOf (d2sx18 e z t k1 k2 k3 k4 k5 k6 k7 k8) 401 = listF [.ref 404, .ref 437, .ref 468, .ref 496] (epOf (d2sx18 e z t k1 k2 k3 k4 k5 k6 k7 k8) 401)
noncomputable def d2S19 (e : Env1) (z : Int) (t : Tok) (k1 : Nat) (k2 : Nat) (k3 : Nat) (k4 : Nat) (k5 : Nat) (k6 : Nat) (k7 : Nat) (k8 : Nat) : Prop :=
    (d2X19 e z t k1 k2 k3 k4 k5 k6 k7 k8).2.isSome = true ∧
    chkS e.w (d2X19 e z t k1 k2 k3 k4 k5 k6 k7 k8) ∧
    ((d2sx19 e z t k1 k2 k3 k4 k5 k6 k7 k8).n, (d2sx19 e z t k1 k2 k3 k4 k5 k6 k7 k8).life, (d2sx19 e z t k1 k2 k3 k4 k5 k6 k7 k8).os) = (511, {}, e.os) ∧
    faceOf (d2sx19 e z t k1 k2 k3 k4 k5 k6 k7 k8) 256 = listF [.str ⟨#[65]⟩ (tkAt (d2sx19 e z t k1 k2 k3 k4 k5 k6 k7 k8) 256 0), .str ⟨#[78]⟩ (tkAt (d2sx19 e z t k1 k2 k3 k4 k5 k6 k7 k8) 256 1), .str ⟨#[91, 103, 45, 122, 48, 45, 57, 43, 47, 93]⟩ (tkAt (d2sx19 e z t k1 k2 k3 k4 k5 k6 k7 k8) 256 2), .str ⟨#[46]⟩ (tkAt (d2sx19 e z t k1 k2 k3 k4 k5 k6 k7 k8) 256 3)] (epOf (d2sx19 e z t k1 k2 k3 k4 k5 k6 k7 k8) 256) ∧
    faceOf (d2sx19 e z t k1 k2 k3 k4 k5 k6 k7 k8) 301 = listF [.str ⟨#[69]⟩ (tkAt (d2sx19 e z t k1 k2 k3 k4 k5 k6 k7 k8) 301 0), .str ⟨#[91, 81, 45, 90, 97, 45, 122, 48, 45, 57, 43, 47, 93]⟩ (tkAt (d2sx19 e z t k1 k2 k3 k4 k5 k6 k7 k8) 301 1), .str ⟨#[46]⟩ (tkAt (d2sx19 e z t k1 k2 k3 k4 k5 k6 k7 k8) 301 2), .str ⟨#[46]⟩ (tkAt (d2sx19 e z t k1 k2 k3 k4 k5 k6 k7 k8) 301 3)] (epOf (d2sx19 e z t k1 k2 k3 k4 k5 k6 k7 k8) 301) ∧
    faceOf (d2sx19 e z t k1 k2 k3 k4 k5 k6 k7 k8) 335 = listF [.str ⟨#[91, 70, 45, 90, 97, 45, 122, 48, 45, 57, 43, 47, 93]⟩ (tkAt (d2sx19 e z t k1 k2 k3 k4 k5 k6 k7 k8) 335 0), .str ⟨#[46]⟩ (tkAt (d2sx19 e z t k1 k2 k3 k4 k5 k6 k7 k8) 335 1), .str ⟨#[46]⟩ (tkAt (d2sx19 e z t k1 k2 k3 k4 k5 k6 k7 k8) 335 2), .str ⟨#[46]⟩ (tkAt (d2sx19 e z t k1 k2 k3 k4 k5 k6 k7 k8) 335 3)] (epOf (d2sx19 e z t k1 k2 k3 k4 k5 k6 k7 k8) 335) ∧
    faceOf (d2sx19 e z t k1 k2 k3 k4 k5 k6 k7 k8) 366 = listF [.str ⟨#[91, 50, 51, 93]⟩ (tkAt (d2sx19 e z t k1 k2 k3 k4 k5 k6 k7 k8) 366 0), .str ⟨#[46]⟩ (tkAt (d2sx19 e z t k1 k2 k3 k4 k5 k6 k7 k8) 366 1), .str ⟨#[46]⟩ (tkAt (d2sx19 e z t k1 k2 k3 k4 k5 k6 k7 k8) 366 2), .str ⟨#[61]⟩ (tkAt (d2sx19 e z t k1 k2 k3 k4 k5 k6 k7 k8) 366 3)] (epOf (d2sx19 e z t k1 k2 k3 k4 k5 k6 k7 k8) 366) ∧
    faceOf (d2sx19 e z t k1 k2 k3 k4 k5 k6 k7 k8) 253 = listF [.ref 256, .ref 301, .ref 335, .ref 366] (epOf (d2sx19 e z t k1 k2 k3 k4 k5 k6 k7 k8) 253) ∧
    (faceOf (d2sx19 e z t k1 k2 k3 k4 k5 k6 k7 k8) 242).map (·.data) = some (.cell (some (.ref 253))) ∧
    (faceOf (d2sx19 e z t k1 k2 k3 k4 k5 k6 k7 k8) 243).map (·.data) = some (.cell none) ∧
    (d2sx19 e z t k1 k2 k3 k4 k5 k6 k7 k8).tree.get 240 = some (lsO e.vs) ∧
    (faceOf (d2sx19 e z t k1 k2 k3 k4 k5 k6 k7 k8) 241).map (·.data) = some (.dict (esOf (d2sx19 e z t k1 k2 k3 k4 k5 k6 k7 k8) 241) (epOf (d2sx19 e z t k1 k2 k3 k4 k5 k6 k7 k8) 241)) ∧
    (esOf (d2sx19 e z t k1 k2 k3 k4 k5 k6 k7 k8) 241).toList.map (fun x => (x.key, x.val)) = [(.str ⟨#[115, 99, 114, 105, 112, 116]⟩ (keyTok (d2sx19 e z t k1 k2 k3 k4 k5 k6 k7 k8) 241 0), .ref 240), (.str ⟨#[100, 114, 101, 115, 115]⟩ (keyTok (d2sx19 e z t k1 k2 k3 k4 k5 k6 k7 k8) 241 1), .int 2 (e.tk1 + 1))] ∧
    spent (d2sx19 e z t k1 k2 k3 k4 k5 k6 k7 k8).gens = true ∧
    oldL.map (d2sx19 e z t k1 k2 k3 k4 k5 k6 k7 k8).tree.get = oldL.map (old0 e).get ∧
    tab3 (d2sx19 e z t k1 k2 k3 k4 k5 k6 k7 k8) 196 = true ∧
    (d2tx19 e z t k1 k2 k3 k4 k5 k6 k7 k8) = atFor e (d2tx19 e z t k1 k2 k3 k4 k5 k6 k7 k8).pos
set_option maxHeartbeats 0 in
theorem d2_eqs (e : Env1) (z : Int) (t : Tok) (k1 : Nat) (k2 : Nat) (k3 : Nat) (k4 : Nat) (k5 : Nat) (k6 : Nat) (k7 : Nat) (k8 : Nat) : d2S1 e z t ∧ d2S2 e z t ∧ d2S3 e z t k1 ∧ d2S4 e z t k1 ∧ d2S5 e z t k1 k2 ∧ d2S6 e z t k1 k2 ∧ d2S7 e z t k1 k2 k3 ∧ d2S8 e z t k1 k2 k3 ∧ d2S9 e z t k1 k2 k3 k4 ∧ d2S10 e z t k1 k2 k3 k4 ∧ d2S11 e z t k1 k2 k3 k4 ∧ d2S12 e z t k1 k2 k3 k4 k5 ∧ d2S13 e z t k1 k2 k3 k4 k5 ∧ d2S14 e z t k1 k2 k3 k4 k5 k6 ∧ d2S15 e z t k1 k2 k3 k4 k5 k6 ∧ d2S16 e z t k1 k2 k3 k4 k5 k6 k7 ∧ d2S17 e z t k1 k2 k3 k4 k5 k6 k7 k8 ∧ d2S18 e z t k1 k2 k3 k4 k5 k6 k7 k8 ∧ d2S19 e z t k1 k2 k3 k4 k5 k6 k7 k8 := by
  refine ⟨⟨?_, ?_, ?_, ?_, ?_, ?_⟩, ⟨?_, ?_, ?_, ?_, ?_, ?_⟩, ⟨?_, ?_, ?_, ?_, ?_, ?_⟩, ⟨?_, ?_, ?_, ?_, ?_, ?_⟩, ⟨?_, ?_, ?_, ?_, ?_, ?_⟩, ⟨?_, ?_, ?_, ?_, ?_, ?_⟩, ⟨?_, ?_, ?_, ?_, ?_, ?_⟩, ⟨?_, ?_, ?_, ?_, ?_, ?_⟩, ⟨?_, ?_, ?_, ?_, ?_, ?_⟩, ⟨?_, ?_, ?_, ?_, ?_, ?_⟩, ⟨?_, ?_, ?_, ?_, ?_, ?_⟩, ⟨?_, ?_, ?_, ?_, ?_, ?_⟩, ⟨?_, ?_, ?_, ?_, ?_, ?_⟩, ⟨?_, ?_, ?_, ?_, ?_, ?_⟩, ⟨?_, ?_, ?_, ?_, ?_, ?_⟩, ⟨?_, ?_, ?_, ?_, ?_, ?_⟩, ⟨?_, ?_, ?_, ?_, ?_, ?_⟩, ⟨?_, ?_, ?_, ?_, ?_, ?_, ?_, ?_, ?_, ?_, ?_, ?_, ?_, ?_⟩, ⟨?_, ?_, ?_, ?_, ?_, ?_, ?_, ?_, ?_, ?_, ?_, ?_, ?_, ?_, ?_, ?_, ?_⟩⟩ <;> kernel_rfl
end Mine
end K8d2_text
section K13_text
open PySem PySem.W PyProof.Rows
namespace Mine
noncomputable def RowAt (S : SharedT) (a : Nat) (p : Str × Str × Str × Str) : Prop := 253 < a ∧ a < S.n ∧ ∃ t0 t1 t2 t3 n, faceOf S a = listF [.str p.1 t0, .str p.2.1 t1, .str p.2.2.1 t2, .str p.2.2.2 t3] n
structure ForSt (e : Env1) (r : Int) (p0 p1 p2 p3 : Str × Str × Str × Str) (S : SharedT) : Prop where
  life : S.life = {}
  size : 254 ≤ S.n
  rows : ∃ a0 a1 a2 a3 n, faceOf S 253 = listF [.ref a0, .ref a1, .ref a2, .ref a3] n ∧ RowAt S a0 p0 ∧ RowAt S a1 p1 ∧ RowAt S a2 p2 ∧ RowAt S a3 p3
  cell : (faceOf S 242).map (·.data) = some (.cell (some (.ref 253)))
  cell2 : (faceOf S 243).map (·.data) = some (.cell none)
  script : S.tree.get 240 = some (lsO e.vs)
  dict : ∃ es n, (faceOf S 241).map (·.data) = some (.dict es n) ∧ ∃ u v y, es.toList.map (fun x => (x.key, x.val)) = [(.str ⟨#[115, 99, 114, 105, 112, 116]⟩ u, .ref 240), (.str ⟨#[100, 114, 101, 115, 115]⟩ v, .int r y)]
  gens : spent S.gens = true
  old : oldL.map S.tree.get = oldL.map (old0 e).get
  tab : tab3 S 196 = true
  os : S.os = e.os
section
variable {w : World} {R : Result → Shared → Prop} {S : SharedT} {T : Thread}
theorem seg_F {sf : Nat → SharedT} {tf : Nat → Thread} (hF : ∀ k, (goSF w (w.withFollow rowF false) 3 { S with toks := k } T).2 = some (sf k, tf k)) (cF : ∀ k, chkS (w.withFollow rowF false) (goSF w (w.withFollow rowF false) 3 { S with toks := k } T))
    (hT : ∀ k, (goSF w (w.withFollow rowF true) 4 { S with toks := k } T).2 = some (sf (k + 1), tf (k + 1))) (cT : ∀ k, chkS (w.withFollow rowF true) (goSF w (w.withFollow rowF true) 4 { S with toks := k } T)) (K : ∀ k, Hal w (sf k).abs (tf k) R) : Hal w S.abs T R := by
  cases hb : w.params.followText rowF
  · exact seg_row (row := rowF) (b := false) (n := 3) (s := S) (t := T) hb (hF S.toks) (cF S.toks) (K _)
  · exact seg_row (row := rowF) (b := true) (n := 4) (s := S) (t := T) hb (hT S.toks) (cT S.toks) (K _)
theorem seg_C {s' : SharedT} {t' : Thread} (hT : (goSF w (w.withFollow rowC true) 3 S T).2 = some (s', t')) (cT : chkS (w.withFollow rowC true) (goSF w (w.withFollow rowC true) 3 S T))
    (hF : (goSF w (w.withFollow rowC false) 13 S T).2 = some (s', t')) (cF : chkS (w.withFollow rowC false) (goSF w (w.withFollow rowC false) 13 S T)) (K : Hal w s'.abs t' R) : Hal w S.abs T R := by
  cases hb : w.params.followText rowC
  · exact seg_row (row := rowC) (b := false) (n := 13) hb hF cF K
  · exact seg_row (row := rowC) (b := true) (n := 3) hb hT cT K
end
end Mine
end K13_text
section F8_text
open PySem PySem.W PyProof.Rows
namespace Mine
noncomputable def isScal (n : Int) : Bool := decide ((0 ≤ n ∧ n ≤ 55295) ∨ (57344 ≤ n ∧ n ≤ 1114111))
set_option maxHeartbeats 8000000 in
theorem scal_ok {w : World} (n : Int) (tk : Tok) : CZ 370 w 76 ⟨[.int n tk], []⟩ (fun _ v _ => v = .bool (isScal n)) := by
  dsimp only [CZ, PW]
  k_fill
  intro mean mg mb A₀ base fr s RR B X T hret
  k_dflt (refine' enterZ B X T ?k6 ?k7 ?k9 ?kB ?_ ?c2 ?c3 ?c4 ?c5 ?c6; (case c6 => decide); (case k6 => k_is); (case k7 => k_is); (case k9 => first | exact BindsTo.of_eq rfl | exact binds_K (by k_in) rfl (by k_is) rfl rfl rfl); (case c5 => decide); (case kB => exact locs rfl); (case c2 => exact rfl); (case c3 => exact rfl); (case c4 => exact rfl); k_whole)
  intro L' h' F' N'
  (try dsimp only)
  (try k_fold)
  k_steps
  all_goals ((try dsimp only); refine hret _ _ _ ?_ (Fr.keep (by assumption)))
  all_goals (refine congrArg Value.bool (decide_eq_decide.mpr ?_); omega)
end Mine
end F8_text
section Is_text
open PySem PySem.W PyProof.Rows PySem.Calls
namespace Mine
section
variable {prog : Program} {w : World} {A : Around} {E : Value → Shared → Prop} {s : Shared} {es : Array (Int × Value)} {n : Nat} {t : SetTable}
theorem SInv.find {j : Nat} (I : SInv 22 es t) (hj : j < 22) : ∃ i h u, es.findIdx? (fun e => e.2.isStr ⟨#[dg j]⟩) = some i ∧ es[i]? = some (h, .str ⟨#[dg j]⟩ u) := by
  obtain ⟨e, he, hv⟩ := I.all j hj
  cases hf : es.findIdx? (fun e => e.2.isStr ⟨#[dg j]⟩) with
  | none =>
    rw [Array.findIdx?_eq_none_iff] at hf
    have := hf e (Array.mem_toList_iff.mp he)
    rw [hv] at this
    simp [dgV, Value.isStr] at this
  | some i =>
    rw [Array.findIdx?_eq_some_iff_getElem] at hf
    obtain ⟨hi, hp, _⟩ := hf
    obtain ⟨k, _, hk⟩ := I.only es[i] (by simp)
    refine ⟨i, es[i].1, 298 + 2 * k, rfl, ?_⟩
    rw [hk] at hp
    have e1 : (⟨#[dg k]⟩ : Str) = ⟨#[dg j]⟩ := by
      unfold dgV Value.isStr at hp
      exact eq_of_beq hp
    have : es[i].2 = .str ⟨#[dg j]⟩ (298 + 2 * k) := by rw [hk, ← e1]; rfl
    rw [← this, Array.getElem?_eq_getElem hi]
theorem has_digit {j : Nat} {u : Tok} {Q : Bool → Shared → Prop} (I : SInv 22 es t) (h39 : s.heap.get? 39 = some (sO es n t)) (hj : j < 22) (h : Q true { s with toks := s.toks + 1 }) :
    wpAny (model prog w) A (setContains 39 (.str ⟨#[dg j]⟩ u)) Q E s := by
  have hf : t.fits es.size = true := by rw [I.size]; exact I.fits
  unfold setContains
  refine wpAny_holding (wpAny_bind (wpAny_pyHash_str ?_))
  refine wpAny_bind ?_
  unfold setFind setFindIn
  refine wpAny_bind (wpAny_setState_of (o := sO es n t) h39 rfl hf ?_)
  dsimp only
  have hb : byScan (.str ⟨#[dg j]⟩ u) es = true := by
    unfold byScan
    have h1 : es.all (fun e => e.2.scannable) = true := by
      rw [← Array.all_toList, List.all_eq_true]
      intro e he
      obtain ⟨j, _, h2⟩ := I.only e he
      rw [h2]; rfl
    have h2 : es.size < scanBound := by rw [I.size]; decide
    rw [h1, decide_eq_true h2]; rfl
  rw [if_pos hb]
  refine wpAny_bind (wpAny_rule ?_)
  unfold setScan
  dsimp only
  rw [if_pos I.strs]
  unfold setScanStrs
  obtain ⟨i, h', u', e1, e2⟩ := I.find hj
  rw [e1]
  dsimp only
  rw [e2]
  refine wpAny_bind ?_
  refine wpAny_bind (wpAny_setEpoch_of (o := sO es n t) h39 rfl hf ?_)
  refine wpAny_bind (wpAny_eqBool_str ?_)
  rw [decide_eq_true rfl]
  simp only [Bool.false_and, Bool.false_eq_true, if_false]
  refine wpAny_bind (wpAny_setEpoch_of (o := sO es n t) h39 rfl hf ?_)
  simp only [bne_self_eq_false, Bool.false_eq_true, if_false, if_true]
  exact wpAny_pure (wpAny_pure (wpAny_pure h))
end
end Mine
end Is_text
section Is2_text
open PySem PySem.W PyProof.Rows PySem.Calls
namespace Mine
theorem plainAttrs_fs : PlainAttrs "frozenset" :=
  ⟨⟨"object.__getattribute__", by rw [typeLookup_type, builtinLookup_eq_fast]; kernel_rfl, by decide +kernel⟩, by rw [typeLookup_type, builtinLookup_eq_fast]; kernel_rfl⟩
theorem owner_fs : Manifest.owners.lookup "frozenset" = some Manifest.sig_frozenset := by kernel_rfl
theorem slot_fs_sup : Slot "frozenset" "issuperset" "frozenset.issuperset" :=
  .of (owner := "frozenset") (n := "issuperset") (by rw [typeLookup_type, builtinLookup_eq_fast]; kernel_rfl) (by decide +kernel) (by decide +kernel) (by decide +kernel)
    (by first | exact .inl (by decide +kernel) | exact .inr (by decide +kernel)) (by rw [isSubtype_type]; kernel_rfl)
theorem type_fs_sup : typeOf (.builtin "frozenset.issuperset") = pure (.type "method_descriptor") := by show builtinType _ = _; rw [builtinType_eq_fast]; kernel_rfl
theorem entry_fs_sup : entryFor table "frozenset.issuperset" = some Builtin.«frozenset.issuperset» := entryFor_of_tree (by kernel_rfl)
theorem entry_fs_loop : entryFor table "frozenset.issuperset.loop" = some Builtin.«frozenset.issuperset.loop» := entryFor_of_tree (by kernel_rfl)
theorem plain_fs_loop : plainId "frozenset.issuperset.loop" = true := by decide +kernel
theorem plain_fs_sup : plainId "frozenset.issuperset" = true := by decide +kernel
theorem args_fs_sup (a b : Value) : argsOk "frozenset.issuperset" ⟨[a, b], []⟩ := by
  unfold argsOk; rw [signature?_of (id := "frozenset.issuperset") (n := ['t', 'e', 's', 'r', 'e', 'p', 'u', 's', 's', 'i']) (o := ['t', 'e', 's', 'n', 'e', 'z', 'o', 'r', 'f']) (by kernel_rfl) owner_fs]; kernel_rfl
section
variable {prog : Program} {w : World} {A : Around} {E : Value → Shared → Prop} {es : Array (Int × Value)} {n : Nat} {t : SetTable}
theorem sup_loop {R : Result → Shared → Prop} {I : Addr} {x : Str} {St : Nat → Heap → Prop} (W : Walks prog w A.in1 I [I] [I] x.cps.size (SignAt x) St) (J : SInv 22 es t) (hI : I ≠ 39)
    (hd : ∀ (i c : Nat), x.cps[i]? = some c → ∃ j, j < 22 ∧ c = dg j) : ∀ (k i : Nat) (s : Shared), x.cps.size - i = k → i ≤ x.cps.size → St i s.heap → s.heap.get? 39 = some (sO es n t) →
    (∀ h' tk, (∀ b o, b ≠ I → s.heap.get? b = some o → h'.get? b = some o) → R (.ok (.ret (.bool true))) { s with heap := h', toks := tk }) →
    codeAny (model prog w) A (.builtin "frozenset.issuperset.loop" ⟨[.ref 39, .ref I], []⟩) R s := by
  intro k
  induction k with
  | zero =>
    intro i s hk hi st h39 hR
    have : i = x.cps.size := by omega
    subst this
    refine codeAny_builtin entry_fs_loop ?_
    rw [Around.under_plainId plain_fs_loop _]
    show wpAny _ A.in1 (pyNext (.ref I) >>= _) _ _ s
    refine wpAny_bind (W.done s _ _ st fun h' tk' hm => ?_)
    show wpAny _ A.in1 (ret (.bool true)) _ _ _
    exact wpAny_pure (hR _ _ fun b o hb e => hm b o (by simpa using hb) e)
  | succ k ih =>
    intro i s hk hi st h39 hR
    have hlt : i < x.cps.size := by omega
    refine codeAny_builtin entry_fs_loop ?_
    rw [Around.under_plainId plain_fs_loop _]
    show wpAny _ A.in1 (pyNext (.ref I) >>= _) _ _ s
    refine wpAny_bind (W.item i s _ _ hlt st fun v h' tk' hP st' hm => ?_)
    obtain ⟨c, u, hc, rfl⟩ := hP
    obtain ⟨j, hj, rfl⟩ := hd i c hc
    have h39' : h'.get? 39 = some (sO es n t) := hm 39 _ (by simpa using hI.symm) h39
    show wpAny _ A.in1 (holding _ (setContains 39 (.str ⟨#[dg j]⟩ u)) >>= _) _ _ _
    refine wpAny_bind (wpAny_holding (has_digit J h39' hj ?_))
    rw [if_pos rfl]
    refine wpAny_pure ⟨plainId_quiet plain_fs_loop _, ih (i + 1) _ (by omega) hlt (W.frame _ _ _ st' fun b hb o e => e) h39' fun h'' tk'' hm' => ?_⟩
    exact hR _ _ fun b o hb e => hm' b o hb (hm b o (by simpa using hb) e)
theorem not_set {x : Str} {u : Tok} {s : Shared} {Q : Bool → Shared → Prop} (h : Q false s) : wpAny (model prog w) A (Builtin.Frozenset.isAnySet (.str x u)) Q E s := by
  unfold Builtin.Frozenset.isAnySet
  show wpAny _ _ ((isInstance (.str x u) (.type "set")) >>= _) _ _ _
  refine wpAny_bind (wpAny_isInstance (T := "str") (b := false) (typeIs_str _ _ _) F.sub_str_set ?_)
  exact wpAny_isInstance (T := "str") (b := false) (typeIs_str _ _ _) F.sub_str_frozenset h
theorem call_sup {x : Str} {u : Tok} {s : Shared} {Q : Value → Shared → Prop} (hA : A.handled = none) (J : SInv 22 es t) (h39 : s.heap.get? 39 = some (sO es n t)) (hd : ∀ (i c : Nat), x.cps[i]? = some c → ∃ j, j < 22 ∧ c = dg j)
    (h : ∀ h' tk, (∀ b o, s.heap.get? b = some o → h'.get? b = some o) → Q (.bool true) { s with heap := h', toks := tk }) :
    wpAny (model prog w) A (call (.builtin "frozenset.issuperset") [.ref 39, .str x u]) Q E s := by
  refine call_meets slot_fs_sup ⟨_, h39, rfl⟩ entry_fs_sup (args_fs_sup _ _) (S := fun A R s' => A.handled = none ∧ s'.heap.get? 39 = some (sO es n t) ∧ ∀ h' tk, (∀ b o, s'.heap.get? b = some o → h'.get? b = some o) → R (.ok (.ret (.bool true))) { s' with heap := h', toks := tk }) (fun prog w A R s' hS => ?_) ⟨hA, h39, h⟩
  obtain ⟨hA', h39', hR⟩ := hS
  show wpAny _ A.in1 ((pure (39, Value.str x u) : Sem (Addr × Value)) >>= _) _ _ s'
  refine wpAny_bind (wpAny_pure ?_)
  dsimp only
  refine wpAny_bind (not_set ?_)
  simp only [Bool.false_eq_true, if_false]
  refine wpAny_bind (wpAny_pyIter_str fun o St hW hst => ?_)
  have up : ∀ b o', s'.heap.get? b = some o' → (s'.heap.push o).get? b = some o' := fun b o' e => Heap.get?_push_of_some _ e
  refine wpAny_pure ⟨plainId_quiet plain_fs_loop _, sup_loop (hW _ (by exact hA')) J (Ne.symm (Nat.ne_of_lt (Heap.lt_size h39'))) hd _ 0 _ rfl (Nat.zero_le _) hst (up _ _ h39') fun h' tk hk => ?_⟩
  exact hR _ _ fun b o' e => hk b o' (Nat.ne_of_lt (Heap.lt_size e)) (up b o' e)
theorem meth_sup {M : Model} {s : Shared} {pl : Sem Bool} {Q : Value × List Value → Shared → Prop} (h39 : s.heap.get? 39 = some (sO es n t)) (h : Q (.builtin "frozenset.issuperset", [.ref 39]) s) : wpAny M A (getMethod (.ref 39) "issuperset" pl) Q E s :=
  getMethod_builtin ⟨_, h39, rfl⟩ plainAttrs_fs slot_fs_sup type_fs_sup (fun _ e => by cases e; exact ⟨_, h39, rfl⟩) h
end
end Mine
end Is2_text
section I16_text
open PySem PySem.W PyProof.Rows PySem.NumText PySem.Calls
namespace Mine
noncomputable def dv (j : Nat) : Nat := if j < 16 then j else j - 6
theorem dg_is : ∀ j, j < 22 → digit? (dg j) = some (dv j) ∧ dv j < 16 ∧ (dg j == 95) = false ∧ blank (dg j) = false ∧ dg j ≠ 45 ∧ dg j ≠ 43 ∧ (dg j == 120 || dg j == 88) = false ∧ dg j < 128 ∧ (dg j != 0) = true := by decide +kernel
noncomputable def hexval (js : List Nat) : Nat := js.foldl (fun a j => a * 16 + dv j) 0
theorem fold16 : ∀ (js : List Nat) (acc : Array Nat) (b : Bool), (∀ j ∈ js, j < 22) → (js.map dg).foldlM (NumText.step 16) (acc, b) = some (acc ++ (js.map dv).toArray, b || !js.isEmpty)
  | [], acc, b, _ => by simp
  | j :: js, acc, b, h => by
    obtain ⟨h1, h2, h3, _⟩ := dg_is j (h j List.mem_cons_self)
    have e : NumText.step 16 (acc, b) (dg j) = some (acc.push (dv j), true) := by
      unfold NumText.step
      rw [h3, h1]
      simp [h2]
    rw [List.map_cons, List.foldlM_cons, e]
    show (js.map dg).foldlM (NumText.step 16) (acc.push (dv j), true) = _
    rw [fold16 js _ _ fun k hk => h k (List.mem_cons_of_mem _ hk)]
    simp
theorem digits16 {js : List Nat} (h : ∀ j ∈ js, j < 22) (hne : js ≠ []) : digits? 16 (js.map dg) = some (js.map dv).toArray := by
  unfold digits?
  rw [fold16 js _ _ h]
  cases js with
  | nil => exact absurd rfl hne
  | cons j js => simp
theorem drop_blank {js : List Nat} (h : ∀ j ∈ js, j < 22) : (js.map dg).dropWhile blank = js.map dg := by
  cases js with
  | nil => rfl
  | cons j js => rw [List.map_cons, List.dropWhile_cons, (dg_is j (h j List.mem_cons_self)).2.2.2.1]; rfl
theorem sign_dg {js : List Nat} (h : ∀ j ∈ js, j < 22) : sign (js.map dg) = (false, js.map dg) := by
  cases js with
  | nil => rfl
  | cons j js =>
    obtain ⟨_, _, _, _, h5, h6, _⟩ := dg_is j (h j List.mem_cons_self)
    rw [List.map_cons]
    unfold sign
    split
    · rename_i e; exact absurd (List.cons.inj e).1 h5
    · rename_i e; exact absurd (List.cons.inj e).1 h6
    · rfl
theorem based16 {js : List Nat} (h : ∀ j ∈ js, j < 22) : based 16 (js.map dg) = (16, false, js.map dg) := by
  unfold based
  split
  · rename_i p hp
    have hne : p ≠ 16 := by
      unfold prefix? at hp
      split at hp
      · rename_i c r e
        have hm : c ∈ js.map dg := by rw [e]; simp
        obtain ⟨j, hj, rfl⟩ := List.mem_map.mp hm
        rw [(dg_is j (h j hj)).2.2.2.2.2.2.1] at hp
        simp only [Bool.false_eq_true, if_false] at hp
        intro e16
        subst e16
        repeat' split at hp
        all_goals cases hp
      · cases hp
    rw [show ((16 : Nat) == 0 || (16 : Nat) == p) = false from Bool.or_eq_false_iff.mpr ⟨rfl, beq_eq_false_iff_ne.mpr (Ne.symm hne)⟩]
    rfl
  · rfl
theorem read16 {js : List Nat} (h : ∀ j ∈ js, j < 22) (hne : js ≠ []) : (int_private% "readNumeral") 0 16 (js.map dg) = (int_private% "Numeral.value") (hexval js) := by
  refine (readNumeral_eq 0 16 (js.map dg)).trans ?_
  rw [drop_blank h, sign_dg h]
  dsimp only
  rw [based16 h]
  dsimp only
  have hr : ∀ j ∈ js.reverse, j < 22 := fun j hj => h j (List.mem_reverse.mp hj)
  rw [← List.map_reverse, drop_blank hr, ← List.map_reverse, List.reverse_reverse, digits16 h hne]
  unfold judge
  dsimp only
  rw [show (![2, 4, 8, 16, 32].contains 16) = false from rfl, show ((16 : Nat) == 10) = false from rfl, Bool.false_and, Bool.false_and, Bool.false_and, Bool.false_and]
  have e : (js.map dv).toArray.foldl (fun acc d => acc * 16 + d) 0 = hexval js := by
    unfold hexval
    rw [List.foldl_toArray, List.foldl_map]
  simp only [Bool.false_eq_true, if_false, e]
end Mine
end I16_text
section I16b_text
open PySem PySem.W PyProof.Rows PySem.NumText PySem.Calls
namespace Mine
theorem wp16 {M : Model} {A : Around} {E : Value → Shared → Prop} {s : Shared} {Q : Value → Shared → Prop} {v : Value} {text : List Nat} {n : Int}
    (hs : (text.takeWhile (· != 0)).length ≤ 640) (hr : (int_private% "readNumeral") 0 16 (text.takeWhile (· != 0)) = (int_private% "Numeral.value") n)
    (ha : ((text.takeWhile (· != 0)).length == text.length) = true) (h : Q (.int n s.toks) { s with toks := s.toks + 1 }) :
    wpAny M A ((int_private% "intFromText") v text 16) Q E s := by
  obtain ⟨hp, g, d, tk, os⟩ := s
  repeat (any_goals (first
    | assumption
    | (with_reducible refine wpAny_ite_true (decide_eq_true hs) ?_)
    | (with_reducible refine wpAny_ite_true (decide_eq_true ha) ?_)
    | wp_step))
  all_goals (try rw [hr])
  all_goals (try dsimp only)
  repeat (any_goals (first
    | assumption
    | (with_reducible refine wpAny_ite_true (decide_eq_true hs) ?_)
    | (with_reducible refine wpAny_ite_true (decide_eq_true ha) ?_)
    | wp_step))
set_option maxHeartbeats 4000000 in
theorem gives16 {x : Str} {u tb : Tok} {n : Int} (hk : KIN.Hid ((numSeenOf x).length ≤ 640 ∧ (int_private% "readNumeral") 0 16 (numSeenOf x) = (int_private% "Numeral.value") n ∧ ((numSeenOf x).length == (numTextOf x).length) = true)) :
    Gives (Builtin.«int.__new__» ⟨[.type "int", .str x u, .int 16 tb], []⟩) (.int n) :=
  .of_wp fun M A E s Q h => by
    obtain ⟨hp, g, d, tk, os⟩ := s
    have f1 := F.conv_sub_int
    have f2 := F.madeHere_int
    have f6 : typeOf (.str x u) = pure (.type "str") := rfl
    have f7 : typeOf (.int 16 tb) = pure (.type "int") := rfl
    repeat (any_goals (first
      | assumption
      | ((with_reducible show wpAny _ _ ((int_private% "intFromText") _ _ _) _ _ _); refine wp16 hk.out.1 hk.out.2.1 hk.out.2.2 ?_)
      | wp_step))
    all_goals first | exact ⟨_, rfl, h⟩ | skip
theorem typeCall2 (a b : Value) : checkTypeCall "int" ⟨[a, b], []⟩ = pure () := by kernel_rfl
theorem newCall2 (a b : Value) : checkBuiltinCall "int.__new__" ⟨[.type "int", a, b], []⟩ = pure () := by kernel_rfl
theorem initArgs3 (o a b : Value) : argsOk "object.__init__" ⟨[o, a, b], []⟩ := by unfold argsOk; kernel_rfl
theorem seen_dg {js : List Nat} (h : ∀ j ∈ js, j < 22) : numTextOf ⟨(js.map dg).toArray⟩ = js.map dg ∧ numSeenOf ⟨(js.map dg).toArray⟩ = js.map dg := by
  have h1 : numTextOf ⟨(js.map dg).toArray⟩ = js.map dg := by
    show (if (js.map dg).toArray.all (· < 128) then _ else _) = _
    rw [if_pos]
    rw [List.all_toArray, List.all_map, List.all_eq_true]
    exact fun j hj => decide_eq_true (dg_is j (h j hj)).2.2.2.2.2.2.2.1
  refine ⟨h1, ?_⟩
  show (numTextOf _).takeWhile (· != 0) = _
  rw [h1]
  clear h1
  induction js with
  | nil => rfl
  | cons j js ih =>
    rw [List.map_cons, List.takeWhile_cons, (dg_is j (h j List.mem_cons_self)).2.2.2.2.2.2.2.2]
    simp only [if_true, ih fun k hk => h k (List.mem_cons_of_mem _ hk)]
theorem call16 {prog : Program} {w : World} {A : Around} {E : Value → Shared → Prop} {s : Shared} {Q : Value → Shared → Prop} {js : List Nat} {t tb : Tok} (h : ∀ j ∈ js, j < 22) (hne : js ≠ []) (hl : js.length ≤ 640)
    (k : Q (.int (hexval js) s.toks) { s with toks := s.toks + 1 }) : wpAny (model prog w) A (call (.type "int") [.str ⟨(js.map dg).toArray⟩ t, .int 16 tb]) Q E s := by
  obtain ⟨h1, h2⟩ := seen_dg h
  refine callType_new F.called_int F.newNe_int (typeCall2 _ _) (newCall2 _ _) (fun obj => initArgs3 obj _ _) F.entry_int_new (gives16 (n := hexval js) (KIN.Hid.mk ⟨?_, ?_, ?_⟩)).meets (show (Made.int _).post _ s from ⟨rfl, k⟩)
  · rw [h2, List.length_map]; exact hl
  · rw [h2]; exact read16 h hne
  · rw [h2, h1]; exact beq_self_eq_true _
end Mine
end I16b_text
section F9_text
open PySem PySem.W PyProof.Rows PySem.Calls
namespace Mine
noncomputable abbrev Pre39 (h : Heap) : Prop := ∃ es n t, SInv 22 es t ∧ h.get? 39 = some (sO es n t)
section
variable {prog : Program} {w : World} {A : Around} {E : Value → Shared → Prop} {s : Shared} {Q : Value → Shared → Prop} {t u : Tok}
theorem len_slice {y : Str} {size : Int} {js : List Nat} (hs : y = ⟨(js.map dg).toArray⟩) (hl : (js.length : Int) = size) (hb : js.length ≤ 8)
    (h : Q (.int size (s.toks + 1)) { s with toks := s.toks + 1 + 1 }) : wpAny (model prog w) A (call (.builtin "len") [.str y t]) Q E s := by
  subst hl hs
  have e : ((⟨(js.map dg).toArray⟩ : Str).length : Int) = (js.length : Int) := by simp [Str.length]
  rw [← e] at h
  exact P.len_str (by have : (⟨(js.map dg).toArray⟩ : Str).length = js.length := by simp [Str.length]
                      rw [this]; omega) h
theorem ne_same {n : Int} (h : Q (.bool false) s) : wpAny (model prog w) A (compareOp .NotEq (.int n t) (.int n u)) Q E s := ne_int (by simpa using h)
theorem sup_slice {y : Str} {js : List Nat} {es : Array (Int × Value)} {n : Nat} {T : SetTable} (hA : A.handled = none) (hs : y = ⟨(js.map dg).toArray⟩) (hj : ∀ j ∈ js, j < 22) (J : SInv 22 es T) (h39 : s.heap.get? 39 = some (sO es n T))
    (h : ∀ h' tk, (∀ b o, s.heap.get? b = some o → h'.get? b = some o) → Q (.bool true) { s with heap := h', toks := tk }) : wpAny (model prog w) A (call (.builtin "frozenset.issuperset") [.ref 39, .str y u]) Q E s := by
  subst hs
  refine call_sup hA J h39 (fun i c hc => ?_) h
  have hc' : (js.map dg)[i]? = some c := by simpa using hc
  rw [List.getElem?_map] at hc'
  obtain ⟨j, hj1, rfl⟩ := Option.map_eq_some_iff.mp hc'
  exact ⟨j, hj j (List.mem_of_getElem? hj1), rfl⟩
theorem int_slice {y : Str} {js : List Nat} (hs : y = ⟨(js.map dg).toArray⟩) (hj : ∀ j ∈ js, j < 22) (h1 : 0 < js.length) (h2 : js.length ≤ 8) (k : Q (.int (hexval js) s.toks) { s with toks := s.toks + 1 }) :
    wpAny (model prog w) A (call (.type "int") [.str y t, .int 16 u]) Q E s := by
  subst hs
  exact call16 hj (by intro e; rw [e] at h1; cases h1) (by omega) k
theorem isScal_range {n : Int} (h : isScal n = true) : 0 ≤ n ∧ n ≤ 1114111 := by
  have := of_decide_eq_true h
  omega
theorem chr_scal {n : Nat} (h : isScal n = true) (k : Q (.str ⟨#[n]⟩ s.toks) { s with toks := s.toks + 1 }) : wpAny (model prog w) A (call (.builtin "chr") [.int n t]) Q E s :=
  chr_of_range (isScal_range h).1 (isScal_range h).2 k
end
theorem F9_lines1 : True := by
  k_with_none
  k_with "call builtin:chr" => (k_here; refine chr_scal (by assumption) ?_; (try dsimp only))
  k_with "call builtin:len" => ((with_reducible show wpAny _ _ (call _ [Value.str _ _]) _ _ _); refine len_slice (by assumption) (by assumption) (by assumption) ?_; (try dsimp only))
  k_with "compareOp NotEq int int" => ((with_reducible refine ne_same ?_); (try dsimp only))
  k_with "getMethod ref" => (k_here; refine meth_sup (Fr.keep (by k_asm) _ _ (by assumption)) ?_)
  k_with "call builtin:frozenset.issuperset" => (k_here; refine sup_slice rfl (by assumption) (by assumption) (by assumption) (Fr.keep (by k_asm) _ _ (by assumption)) ?_; intro h9 tk9 hk9; have F9 := Fr.keeps (by k_asm) hk9; have N9 := News.grown (by k_asm) hk9; (try dsimp only))
  k_with "call type:int" => (k_here; refine int_slice (by assumption) (by assumption) (by assumption) (by assumption) ?_; (try dsimp only))
  trivial
theorem scal_true {w : World} {n : Int} (h : isScal n = true) (tk : Tok) : CZ 370 w 76 ⟨[.int n tk], []⟩ (fun _ v _ => v = .bool true) := by
  have := scal_ok (w := w) n tk
  rw [h] at this
  exact this
theorem F9_lines2 : True := by
  k_with "call ref" => (k_here; k_dflt (refine' useZ (scal_true (by assumption) _) ?zh0 ?zh1 ?zh2 ?zh3 ?zh4 ?zhB ?zhF ?zhf ?zhke ?zhX ?zhN ?zhT ?_; (case zh0 => rfl); (case zh1 => exact Nat.le_of_ble_eq_true rfl); (case zh2 => exact rfl); (case zh3 => exact rfl); (case zh4 => exact Nat.le_of_ble_eq_true rfl); (case zhB => k_asm); (case zhF => k_asm); (case zhf => exact rfl); (case zhke => exact rfl); (case zhX => k_asm); (case zhN => k_asm); (case zhT => k_asm)); intro v9 h9 tk9 hv9 F9 N9; cases hv9; (try dsimp only))
  trivial
set_option maxHeartbeats 8000000 in
theorem phc_ok {w : World} (x : Str) (place size : Int) (js : List Nat) (hj : ∀ j ∈ js, j < 22) (hl : (js.length : Int) = size) (h1 : 0 < js.length) (h2 : js.length ≤ 8) (hp : 0 ≤ place ∧ place ≤ 10) (hx : x.length ≤ 20) (hs : Txt.slice x (some place) (some (place + size)) = ⟨(js.map dg).toArray⟩)
    (hscal : isScal (hexval js) = true) (tk t1 t2 : Tok) : CP 360 w 62 ⟨[.str x tk, .int place t1, .int size t2], []⟩ Pre39 (fun _ v h' => ∃ a t3 t4, v = .ref a ∧ h'.get? a = some { cls := .type "tuple", data := .seq #[.int (place + size) t3, .str ⟨#[hexval js]⟩ t4] }) := by
  dsimp only [CP, PW]
  k_fill
  intro mean mg mb A₀ base fr s RR hPre B X T hret
  obtain ⟨es39, n39, s39, J39, h39⟩ := hPre
  k_dflt (refine' enterZ B X T ?k6 ?k7 ?k9 ?kB ?_ ?c2 ?c3 ?c4 ?c5 ?c6; (case c6 => decide); (case k6 => k_is); (case k7 => k_is); (case k9 => first | exact BindsTo.of_eq rfl | exact binds_K (by k_in) rfl (by k_is) rfl rfl rfl); (case c5 => decide); (case kB => exact locs rfl); (case c2 => exact rfl); (case c3 => exact rfl); (case c4 => exact rfl); k_whole)
  intro L' h' F' N'
  (try dsimp only)
  (try k_fold)
  k_steps
  all_goals ((try dsimp only); refine hret _ _ _ ⟨_, _, _, rfl, ((by assumption : News _ _ _ _) _ List.mem_cons_self).1⟩ (Fr.keep (by assumption)))
end Mine
theorem Mine.F9_lines_end : True := by
  k_with_none
  trivial
end F9_text
section F10_text
open PySem PySem.W PyProof.Rows
namespace Mine
noncomputable def TabOk (o : Obj) (c : Addr) (oc : Obj) : Prop := (∃ vs, oc.data = .fields vs ∧ ∀ n t, vs[1]? ≠ some (.int n t)) ∧ (o = tabObj #[] ∨ (o = tabObj #[rawInt 22, rawInt 4, .ref c] ∧ ∃ vs t, oc.data = .fields vs ∧ vs[1]? = some (.str (Str.ofString "suffixed_err.<locals>.coord_repr") t)))
theorem TabOk.grown {c : Addr} {oc : Obj} {vs : Array Value} {t : Tok} (hd : oc.data = .fields vs) (hv : vs[1]? = some (.str (Str.ofString "suffixed_err.<locals>.coord_repr") t)) : TabOk (tabObj #[rawInt 22, rawInt 4, .ref c]) c oc :=
  ⟨⟨vs, hd, fun n u e => by rw [hv] at e; cases e⟩, .inr ⟨rfl, vs, t, hd, hv⟩⟩
noncomputable def TabSt (g h : Heap) : Prop := ∃ o c oc, h.get? 64 = some o ∧ h.get? c = some oc ∧ g.get? 64 = none ∧ g.get? c = none ∧ TabOk o c oc
noncomputable def Stays (fs : List Addr) (g h' : Heap) : Prop := ∀ b o, g.get? b = some o → (∃ sl, h'.get? b = some { o with slots := sl }) ∧ (b ∉ fs → h'.get? b = some o)
noncomputable abbrev CT (d : Nat) (w : World) (f : Addr) (args : Args) (R : Heap → Value → Heap → Prop) : Prop :=
  ∀ (mean : ExcName → Option Value) (mg mb : Str → Option Value) (A₀ : Around) (base g : Heap) (fr : List Env) (s : Shared) (RR : Result → Shared → Prop),
    Below A₀ base fr g → (KX w.params).In base → Top vR loose mean mg mb base → CodeHd base 68 64 → Pre39 base → KtsDicts (fr.filterMap (·.frame)) g → g.StaysIn s.heap → g.objs.size ≤ s.heap.objs.size → TabSt g s.heap →
    (∀ v h' tk', R s.heap v h' → Stays (fr.filterMap (·.frame)) g h' → TabSt g h' → RR (.ok (.ret v)) { s with heap := h', toks := tk' }) →
      codeAny (model PW w) (topZ d fr) (.call (.ref f) args) RR s
theorem enterT {d : Nat} {w : World} {mean : ExcName → Option Value} {mg mb : Str → Option Value} {g : Heap} {fr : List Env} {s : Shared} {RR : Result → Shared → Prop}
    {name qual : Str} {params : Arguments} {body : List Stmt} {scope : Scope} {dV kV doc pm cdv ct oc : Value} {an od : Option Addr} {osl : Array (Option Value)} {f : Addr} {args : Args} {binds : List (Str × Value)}
    (X : (KX w.params).In g) (T : Top vR loose mean mg mb g) (S : g.StaysIn s.heap) (hsz : g.objs.size ≤ s.heap.objs.size)
    (ho : (KX w.params).lookup f = some ⟨oc, od, .func (fnOf name qual params body scope dV kV doc pm an cdv ct), osl⟩) (hcd : codeIn (KX w.params) cdv qual = true)
    (hbind : BindsTo s (fnOf name qual params body scope dV kV doc pm an cdv ct) args binds) (hloc : ∀ y ∈ binds, scope.names.lookup y.1 = some .local)
    (h : ∀ L' h₁, Fr g L' h₁ (fun y => binds.reverse.lookup y) → (∀ b o, s.heap.get? b = some o → h₁.get? b = some o) → (∀ b o, s.heap.get? b = some o → b ≠ L') →
      wpAny (model PW w) ((topZ d fr).deeper (envOf qual scope L' f cdv)) (execs body (envOf qual scope L' f cdv))
        (fun fl s' => RR (.ok (.ret (match fl with | .ret v => v | _ => .none))) s')
        (fun e s' => wpAny (model PW w) ((topZ d fr).deeper (envOf qual scope L' f cdv)) («leaving» (envOf qual scope L' f cdv) e) (fun _ s'' => RR (.error e) s'') (fun e' s'' => RR (.error e') s'') s')
        { s with heap := h₁, toks := s.toks + binds.length })
    (hco : scope.isCoroutine = false) (hgen : scope.isGenerator = false) (hk : scope.kind = .function)
    (hcell : ∀ x ∈ scope.names, x.2 ≠ .cell) (hd : d < recursionLimit) : codeAny (model PW w) (topZ d fr) (.call (.ref f) args) RR s := by
  have X' := X.keeps S
  have T' := T.keeps S
  refine codeAny_call_def hd (X' _ _ ho) rfl T'.nolimit (codeRec_of X' hcd) rfl hbind hcell hloc (fun h₁ hns hk₁ => ?_) hco hgen hk
  exact h s.heap.objs.size h₁ ⟨hns, fun b o e => hk₁ _ _ (S b o e), hsz⟩ hk₁ fun b o e => Nat.ne_of_lt (Heap.lt_size e)
theorem newsTab {g h h₁ : Heap} {L c : Addr} {o oc : Obj} (k : ∀ b o, h.get? b = some o → h₁.get? b = some o) (l : ∀ b o, h.get? b = some o → b ≠ L) (e : h.get? 64 = some o) (ec : h.get? c = some oc) (n : g.get? 64 = none) (nc : g.get? c = none) :
    News g L h₁ [(64, o), (c, oc)] := fun p hp => by
  rcases List.mem_cons.mp hp with rfl | hp
  · exact ⟨k _ _ e, l _ _ e, n⟩
  · rcases List.mem_cons.mp hp with rfl | hp
    · exact ⟨k _ _ ec, l _ _ ec, nc⟩
    · cases hp
theorem stays_of {fs : List Addr} {g g' h' : Heap} {L : Addr} {m : Str → Option Value} (T : KtsTurn fs g g') (F : Fr g' L h' m) : Stays fs g h' := fun b o e =>
  ⟨let ⟨sl, e'⟩ := T.up e; ⟨sl, F.keep _ _ e'⟩, fun hb => F.keep _ _ (T.other _ _ e hb)⟩
theorem tabSt_of {fs : List Addr} {g g' h' : Heap} {L c : Addr} {m : Str → Option Value} {o oc : Obj} {news : List (Addr × Obj)} (T : KtsTurn fs g g') (_F : Fr g' L h' m) (N : News g' L h' news) (h1 : (64, o) ∈ news) (h2 : (c, oc) ∈ news) (hT : TabOk o c oc) : TabSt g h' := by
  have none_ : ∀ b, g'.get? b = none → g.get? b = none := fun b e => by
    cases q : g.get? b with
    | none => rfl
    | some o' => obtain ⟨sl, e'⟩ := T.up q; rw [e] at e'; cases e'
  exact ⟨o, c, oc, (N _ h1).1, (N _ h2).1, none_ _ (N _ h1).2.2, none_ _ (N _ h2).2.2, hT⟩
noncomputable def RaisableO (C : Addr) (h₀ : Heap) (E : Value → Shared → Prop) (v : Value) (s₁ : Shared) : Prop :=
  ∃ e t, v = .ref e ∧ (∀ b o, h₀.get? b = some o → s₁.heap.get? b = some o) ∧ s₁.heap.get? e = some { cls := .ref C, data := .fields #[.ref t, .none, .none, .none, .bool false, .none] } ∧ E (.ref e) s₁
theorem raise_inst {prog : Program} {w : World} {A : Around} {E : Value → Shared → Prop} {s : Shared} {env : Env} {h₀ : Heap} {mg : Str → Option Value} {x : Str} {C : Addr} {B newId initId : String} {bmB : List Value} {e : PySem.Expr} {pos : Pos} {Q : Flow → Shared → Prop}
    (O : OwnCls x C bmB newId mg h₀) (FB : ExcBaseFacts B newId initId bmB) (hh : A.handled = none) (h : wpAny (model prog w) A (eval e env) (RaisableO C h₀ E) E s) : wpAny (model prog w) A (exec (.Raise (some e) none pos) env) Q E s := by
  obtain ⟨tl, N0, nm, q, bs, hdct, sn, sub, ab, col, dd, k0, k1, k2, k3, k5, mN, hC, hN, hni, T⟩ := O.obj
  rw [arm_exec_Raise]
  refine wpAny_bind (wpAny_standAt (wpAny_raiseStmt_made_sub (C := C) (nm := nm) (q := q) (N := N0) (bs := bs) (bm := tl) (hdct := hdct) (sn := sn) (sub := sub) (ab := ab) (col := col) (dd := dd) (k0 := k0) (k1 := k1) (k2 := k2) (k3 := k3) (k5 := k5) (newId := newId) (T.hasType FB.hasBase) hh
    (wpAny_bind (wpAny_mono h (fun v s₃ h₃ => wpAny_bind (wpAny_standAt (wpAny_pure ?_))) fun _ _ x => x))))
  obtain ⟨e, t, rfl, hk, he, hE⟩ := h₃
  exact ⟨e, t, rfl, hk _ _ hC, he, hE⟩
theorem to_exc {g h9 : Heap} {L e t c : Addr} {m : Str → Option Value} {news : List (Addr × Obj)} {v : Value} {ps vs : Array Value} {oc : Obj} {q : Str} {tq : Tok} (F : Fr g L h9 m) (N : News g L h9 news)
    (he : (e, { cls := .ref 52, data := .fields #[.ref t, .none, .none, .none, .bool false, .none] }) ∈ news) (ht : (t, { cls := .type "tuple", data := .seq [v].toArray }) ∈ news) (h64 : (64, tabObj ps) ∈ news) (hd : oc.data = .fields vs) (hv : vs[1]? = some (.str q tq)) (hc : (c, oc) ∈ news) :
    ∃ h, Heap.MadeExcOf h h9 e (.ref 52) [v] ∧ Fr g L h m ∧ News g L h [(64, tabObj ps), (c, oc)] := by
  have ge := N _ he; have gt := N _ ht; have g4 := N _ h64; have gc := N _ hc
  refine ⟨hideAll h9 [e, t], ⟨fun b o x => of_hideAll _ x, hideAll_none _ (.head _), t, ge.1, hideAll_none _ (.tail _ (.head _)), gt.1⟩, ⟨?_, fun b o x => hideAll_get _ (F.keep _ _ x) ?_, F.above⟩, ?_⟩
  · obtain ⟨oL, a1, a2, hL, a3⟩ := F.ns
    refine ⟨oL, a1, a2, hideAll_get _ hL fun hm => ?_, a3⟩
    rcases List.mem_cons.mp hm with q | hm
    · exact ge.2.1 q.symm
    · exact gt.2.1 (List.mem_singleton.mp hm).symm
  · intro hm
    rcases List.mem_cons.mp hm with rfl | hm
    · rw [ge.2.2] at x; cases x
    · obtain rfl := List.mem_singleton.mp hm
      rw [gt.2.2] at x; cases x
  · intro p hp
    rcases List.mem_cons.mp hp with rfl | hp
    · refine ⟨hideAll_get _ g4.1 fun hm => ?_, g4.2⟩
      rcases List.mem_cons.mp hm with q | hm
      · have := ge.1; rw [← q, g4.1] at this; cases this
      · have := gt.1; rw [← List.mem_singleton.mp hm, g4.1] at this; cases this
    · obtain rfl := List.mem_singleton.mp hp
      refine ⟨hideAll_get _ gc.1 fun hm => ?_, gc.2⟩
      rcases List.mem_cons.mp hm with q | hm
      · have := ge.1; rw [← q, gc.1] at this; cases this; cases hd; cases hv
      · have := gt.1; rw [← List.mem_singleton.mp hm, gc.1] at this; cases this; cases hd
end Mine
end F10_text
section Cn_text
open PySem PySem.W PyProof.Rows
namespace Mine
open Builtin Builtin.Str StrLaws
theorem gives_count_range (x y : Str) (i j : Int) (t u v v2 : Tok) : Gives («str.count» ⟨[.str x t, .str y u, .int i v, .int j v2], []⟩) (.int (occurrences x y (fromIndex x.length i) (min (fromIndex x.length j) x.length) (x.length + 1)).length) := .of_eq rfl
theorem occ_stuck (s sub : Str) (hi limit : Nat) (h : ∀ i, i + sub.length ≤ hi → subAt s sub i = false) : ∀ (l : List Nat) (st : Array Nat × Nat), (forIn l st (occBody s sub hi limit)).run = st
  | [], st => rfl
  | a :: l, st => by
    rw [List.forIn_cons]
    unfold occBody
    split
    · rename_i hc
      have := h a hc.1.2
      rw [hc.2] at this
      cases this
    · exact occ_stuck s sub hi limit h l st
theorem occ_none (s : Str) (c lo hi limit : Nat) (h : ∀ i, i < hi → s.cps[i]? ≠ some c) : occurrences s ⟨#[c]⟩ lo hi limit = [] := by
  rw [occ_eq, occ_stuck]
  intro i hi'
  have hl : i < hi := hi'
  unfold subAt
  cases e : (s.cps.extract i (i + (⟨#[c]⟩ : Str).length) == (⟨#[c]⟩ : Str).cps) with
  | false => rfl
  | true =>
    have e2 := eq_of_beq e
    have : (s.cps.extract i (i + 1))[0]? = some c := by
      have e3 : s.cps.extract i (i + 1) = #[c] := e2
      rw [e3]; rfl
    rw [Array.getElem?_extract] at this
    split at this
    · exact absurd this (h i hl)
    · cases this
section
variable {prog : Program} {w : World} {A : Around} {E : Value → Shared → Prop} {s : Shared} {x : Str} {t u v v2 : Tok} {j : Int} {Q : Value → Shared → Prop}
theorem count_none (h : ∀ i, i < x.length → x.cps[i]? ≠ some 10) (hq : Q (.int 0 s.toks) { s with toks := s.toks + 1 }) : wpAny (model prog w) A (call (.builtin "str.count") [.str x t, .str ⟨#[10]⟩ u, .int 0 v, .int j v2]) Q E s := by
  refine call_gives F.slot_str_count (typeIs_str _ _ _) F.entry_str_count (F.args_str_count_4 _ _ _ _) (gives_count_range x ⟨#[10]⟩ 0 j t u v v2) ?_
  rw [occ_none _ _ _ _ _ fun i hi => h i (by omega)]
  exact hq
end
end Mine
end Cn_text
section F11_text
open PySem PySem.W PyProof.Rows
namespace Mine
theorem scal_false {w : World} {n : Int} (h : isScal n = false) (tk : Tok) : CZ 370 w 76 ⟨[.int n tk], []⟩ (fun _ v _ => v = .bool false) := by
  have := scal_ok (w := w) n tk
  rw [h] at this
  exact this
section
variable {prog : Program} {w : World} {A : Around} {E : Value → Shared → Prop} {s : Shared} {Q : Value → Shared → Prop} {t u : Tok}
theorem len_src {x : Str} {n : Nat} (hx : x.length = n) (hn : n ≤ 20) (h : Q (.int n (s.toks + 1)) { s with toks := s.toks + 1 + 1 }) : wpAny (model prog w) A (call (.builtin "len") [.str x t]) Q E s := by
  subst hx
  exact P.len_str (by omega) h
end
theorem mk_own {prog : Program} {w : World} {A : Around} {E : Value → Shared → Prop} {s : Shared} {Q : Value → Shared → Prop} {h₀ : Heap} {L : Addr} {m mg : Str → Option Value} {news : List (Addr × Obj)} {x : Str} {C : Addr} {B newId initId : String} {bmB : List Value} {v : Value}
    (F : Fr h₀ L s.heap m) (N : News h₀ L s.heap news) (O : OwnCls x C bmB newId mg h₀) (FB : ExcBaseFacts B newId initId bmB)
    (h : ∀ h' e t, Fr h₀ L h' m → News h₀ L h' ((e, { cls := .ref C, data := .fields #[.ref t, .none, .none, .none, .bool false, .none] }) :: (t, { cls := .type "tuple", data := .seq [v].toArray }) :: news) → Q (.ref e) { s with heap := h' }) :
    wpAny (model prog w) A (call (.ref C) [v]) Q E s := by
  obtain ⟨tl, N0, nm, q, bs, hdct, sn, sub, ab, col, dd, k0, k1, k2, k3, k5, mN, hC, hN, hni, T⟩ := O.obj
  obtain ⟨hp, g, d, tk, os⟩ := s
  refine wpAny_call_exc_subT FB (T.keeps F.keep) (F.keep _ _ hC) (hN.keeps F.keep) hni fun h' e hm => ?_
  obtain ⟨t, he, htn, ht⟩ := hm.there
  have fresh : ∀ b, hp.get? b = none → h₀.get? b = none := fun b hb => by
    cases hq : h₀.get? b with
    | none => rfl
    | some o' => have := F.keep b o' hq; rw [show hp.get? b = none from hb] at this; cases this
  have neL : ∀ b, hp.get? b = none → b ≠ L := fun b hb q => by
    obtain ⟨oL, _, _, e1, _⟩ := F.ns
    rw [q, e1] at hb; cases hb
  refine h h' e t (F.keeps hm.keeps) fun p hp' => ?_
  rcases List.mem_cons.mp hp' with rfl | hp'
  · exact ⟨he, neL _ hm.new, fresh _ hm.new⟩
  · rcases List.mem_cons.mp hp' with rfl | hp'
    · exact ⟨ht, neL _ htn, fresh _ htn⟩
    · exact ⟨hm.keeps _ _ (N p hp').1, (N p hp').2⟩
theorem F11_lines1 : True := by
  k_with_none
  k_with "call builtin:len" => ((with_reducible show wpAny _ _ (call _ [Value.str _ _]) _ _ _); refine len_slice (by assumption) (by assumption) (by assumption) ?_; (try dsimp only))
  k_with "call builtin:len" => ((with_reducible show wpAny _ _ (call _ [Value.str _ _]) _ _ _); (with_reducible refine len_src (by assumption) (by assumption) ?_); (try dsimp only))
  k_with "compareOp NotEq int int" => ((with_reducible refine ne_same ?_); (try dsimp only))
  k_with "getMethod ref" => (k_here; refine meth_sup (Fr.keep (by k_asm) _ _ (Below.stays (by assumption) _ _ (by assumption))) ?_)
  k_with "call builtin:frozenset.issuperset" => (k_here; refine sup_slice rfl (by assumption) (by assumption) (by assumption) (Fr.keep (by k_asm) _ _ (Below.stays (by assumption) _ _ (by assumption))) ?_; intro h9 tk9 hk9; have F9 := Fr.keeps (by k_asm) hk9; have N9 := News.grown (by k_asm) hk9; (try dsimp only))
  k_with "call type:int" => (k_here; refine int_slice (by assumption) (by assumption) (by assumption) (by assumption) ?_; (try dsimp only))
  trivial
theorem count_nl {prog : Program} {w : World} {A : Around} {E : Value → Shared → Prop} {s : Shared} {x : Str} {t u v v2 : Tok} {j : Int} {Q : Value → Shared → Prop} (h : ∀ i, i < x.length → x.cps[i]? ≠ some 10) (hq : Q (.int 0 s.toks) { s with toks := s.toks + 1 }) : wpAny (model prog w) A (call (.builtin "str.count") [.str x t, .str (Str.ofString "\n") u, .int 0 v, .int j v2]) Q E s :=
  (show Str.ofString "\n" = ⟨#[10]⟩ by decide +kernel) ▸ count_none h hq
theorem F11_lines2 : True := by
  k_with "call builtin:str.count" => ((with_reducible refine count_nl (by assumption) ?_); (try dsimp only))
  k_with "call ref" => (k_here; (with_reducible show wpAny _ _ (call (Value.ref 76) _) _ _ _); k_dflt (refine' useZ (scal_false (by assumption) _) ?zh0 ?zh1 ?zh2 ?zh3 ?zh4 ?zhB ?zhF ?zhf ?zhke ?zhX ?zhN ?zhT ?_; (case zh0 => rfl); (case zh1 => exact Nat.le_of_ble_eq_true rfl); (case zh2 => exact rfl); (case zh3 => exact rfl); (case zh4 => exact Nat.le_of_ble_eq_true rfl); (case zhB => k_asm); (case zhF => k_asm); (case zhf => exact rfl); (case zhke => exact rfl); (case zhX => k_asm); (case zhN => k_asm); (case zhT => k_asm)); intro v9 h9 tk9 hv9 F9 N9; cases hv9; (try dsimp only))
  k_with "call ref" => (k_here; (with_reducible show wpAny _ _ (call (Value.ref 52) _) _ _ _); k_dflt (refine' mk_own ?zF ?zN ?zO PySem.F.excBase_ValueError ?_; (case zF => k_asm); (case zN => k_asm); (case zO => exact own_of_in (x := Str.ofString "TOMLDecodeError") (by k_asm) (by k_asm) (by k_is) (by k_exc))); intro h9 e9 t9 F9 N9; (try dsimp only))
  k_with "exec Raise some none" => (k_here; (with_reducible show wpAny _ _ (exec (Stmt.Raise (some (Expr.Call (Expr.Name _ _) _ [] _)) none _) _) _ _ _); k_dflt (refine' raise_inst (x := Str.ofString "TOMLDecodeError") (C := 52) ?zO PySem.F.excBase_ValueError ?zh ?_; (case zO => exact own_of_in (by k_asm) (by k_asm) (by k_is) (by k_exc)); (case zh => first | rfl | assumption)))
  k_with "RaisableO" => (k_here; k_dflt (obtain ⟨hX9, hM9, hF9, hN9⟩ := to_exc (by k_asm) (by k_asm) (by k_mem) (by k_mem) (by k_mem) (by assumption) (by assumption) (by k_mem)); k_dflt (refine ⟨_, _, rfl, Fr.keep (by k_asm), (News.get (by k_asm) (by k_mem)), ?_⟩))
  trivial
set_option maxHeartbeats 8000000 in
theorem found_none1 {w : World} (x : Str) (place size : Int) (n : Nat) (js : List Nat) (hj : ∀ j ∈ js, j < 22) (hl : (js.length : Int) = size) (h1 : 0 < js.length) (h2 : js.length ≤ 8) (hp : 0 ≤ place ∧ place ≤ 10) (hx : x.length = n) (hn : n ≤ 20) (hend : (n : Int) ≤ place + size) (hs : Txt.slice x (some place) (some (place + size)) = ⟨(js.map dg).toArray⟩)
    (hscal : isScal (hexval js) = false) (tk t1 t2 : Tok) : CT 350 w 234 ⟨[.str x tk, .int place t1, .int size t2], []⟩ (fun _ v _ => v = .none) := by
  dsimp only [CT, PW]
  k_fill
  intro mean mg mb A₀ base g fr s RR B X T C hPre D S hsz hTab hret
  obtain ⟨es39, n39, s39, J39, h39⟩ := hPre
  have B := belowUp (A₁ := topZ 350 fr) B rfl
  have Xg := X.keeps B.stays
  have Tg := T.keeps B.stays
  obtain ⟨o, c, oc, ho, hoc, go, gc, hT⟩ := hTab
  k_dflt (refine' enterT Xg Tg S hsz ?k6 ?k7 ?k9 ?kB ?_ ?c2 ?c3 ?c4 ?c5 ?c6; (case c6 => decide); (case k6 => k_is); (case k7 => k_is); (case k9 => first | exact BindsTo.of_eq rfl | exact binds_K (by k_in) rfl (by k_is) rfl rfl rfl); (case c5 => decide); (case kB => exact locs rfl); (case c2 => exact rfl); (case c3 => exact rfl); (case c4 => exact rfl); k_whole)
  intro L' h' F' hk hL
  have N' := newsTab hk hL ho hoc go gc
  rcases hT.2 with hT | ⟨hT, vs, t, hd, hv⟩
  · subst hT
    have N' : News g L' h' [(64, tabObj #[])] := fun p hp => N' p (by rw [List.mem_singleton.mp hp]; exact .head _)
    (try dsimp only)
    (try k_fold)
    k_steps
    all_goals ((try dsimp only); refine hret _ _ _ rfl (stays_of (by assumption) (by k_asm)) ?_)
    all_goals exact tabSt_of (by assumption) (by k_asm) (by assumption : News _ _ _ _) (.head _) (.tail _ (.head _)) (TabOk.grown (by assumption) (by assumption))
  · subst hT
    (try dsimp only)
    (try k_fold)
    k_steps
    all_goals ((try dsimp only); refine hret _ _ _ rfl (stays_of (by assumption) (by k_asm)) ?_)
    all_goals exact tabSt_of (by assumption) (by k_asm) (by assumption : News _ _ _ _) (.head _) (.tail _ (.head _)) (TabOk.grown (by assumption) (by assumption))
set_option maxHeartbeats 8000000 in
theorem found_none2 {w : World} (x : Str) (place size : Int) (n : Nat) (js : List Nat) (hj : ∀ j ∈ js, j < 22) (hl : (js.length : Int) = size) (h1 : 0 < js.length) (h2 : js.length ≤ 8) (hp : 0 ≤ place ∧ place ≤ 10) (hx : x.length = n) (hn : n ≤ 20) (hend : place + size < (n : Int)) (hnl : ∀ i, i < x.length → x.cps[i]? ≠ some 10) (hs : Txt.slice x (some place) (some (place + size)) = ⟨(js.map dg).toArray⟩)
    (hscal : isScal (hexval js) = false) (tk t1 t2 : Tok) : CT 350 w 234 ⟨[.str x tk, .int place t1, .int size t2], []⟩ (fun _ v _ => v = .none) := by
  dsimp only [CT, PW]
  k_fill
  intro mean mg mb A₀ base g fr s RR B X T C hPre D S hsz hTab hret
  obtain ⟨es39, n39, s39, J39, h39⟩ := hPre
  have B := belowUp (A₁ := topZ 350 fr) B rfl
  have Xg := X.keeps B.stays
  have Tg := T.keeps B.stays
  obtain ⟨o, c, oc, ho, hoc, go, gc, hT⟩ := hTab
  k_dflt (refine' enterT Xg Tg S hsz ?k6 ?k7 ?k9 ?kB ?_ ?c2 ?c3 ?c4 ?c5 ?c6; (case c6 => decide); (case k6 => k_is); (case k7 => k_is); (case k9 => first | exact BindsTo.of_eq rfl | exact binds_K (by k_in) rfl (by k_is) rfl rfl rfl); (case c5 => decide); (case kB => exact locs rfl); (case c2 => exact rfl); (case c3 => exact rfl); (case c4 => exact rfl); k_whole)
  intro L' h' F' hk hL
  have N' := newsTab hk hL ho hoc go gc
  rcases hT.2 with hT | ⟨hT, vs, t, hd, hv⟩
  · subst hT
    have N' : News g L' h' [(64, tabObj #[])] := fun p hp => N' p (by rw [List.mem_singleton.mp hp]; exact .head _)
    (try dsimp only)
    (try k_fold)
    k_steps
    all_goals ((try dsimp only); refine hret _ _ _ rfl (stays_of (by assumption) (by k_asm)) ?_)
    all_goals exact tabSt_of (by assumption) (by k_asm) (by assumption : News _ _ _ _) (.head _) (.tail _ (.head _)) (TabOk.grown (by assumption) (by assumption))
  · subst hT
    (try dsimp only)
    (try k_fold)
    k_steps
    all_goals ((try dsimp only); refine hret _ _ _ rfl (stays_of (by assumption) (by k_asm)) ?_)
    all_goals exact tabSt_of (by assumption) (by k_asm) (by assumption : News _ _ _ _) (.head _) (.tail _ (.head _)) (TabOk.grown (by assumption) (by assumption))
end Mine
theorem Mine.F11_lines_end : True := by
  k_with_none
  trivial
end F11_text
section Ev_text
open PySem PySem.W PyProof.Rows
namespace Mine
noncomputable def Ev (M : Model) (A : Around) (E : Value → Shared → Prop) (env : Env) (s : Shared) (e : PySem.Expr) (R : Value → Prop) : Prop :=
  ∀ (tk : Nat) (Q : Value → Shared → Prop), (∀ v tk', R v → Q v { s with toks := tk' }) → wpAny M A (eval e env) Q E { s with toks := tk }
noncomputable def IsI (i : Int) (v : Value) : Prop := ∃ t, v = .int i t
noncomputable def IsS (x : Str) (v : Value) : Prop := ∃ t, v = .str x t
noncomputable def IsB (b : Bool) (v : Value) : Prop := v = .bool b
theorem ev_go {M : Model} {A : Around} {E : Value → Shared → Prop} {env : Env} {e : PySem.Expr} {R : Value → Prop} {h : Heap} {g : Array GenState} {d : Drawn} {t : Nat} {os : OsState} {Q : Value → Shared → Prop}
    (H : Ev M A E env ⟨h, g, d, t, os⟩ e R) (k : ∀ v tk', R v → Q v ⟨h, g, d, tk', os⟩) : wpAny M A (eval e env) Q E ⟨h, g, d, t, os⟩ := H t Q k
theorem sub_str {prog : Program} {w : World} {A : Around} {E : Value → Shared → Prop} {s : Shared} {Q : Value → Shared → Prop} {value slice : PySem.Expr} {x : Str} {i : Int} {c : Nat} {t u : Tok} (h0 : 0 ≤ i) (hx : x.cps[i.toNat]? = some c) (hf : i < 2 ^ 63)
    (h : Q (.str ⟨#[c]⟩ s.toks) { s with toks := s.toks + 1 })
    (hs : subscripted slice false (.str x t) (.int i u) = operate [.str x t, .int i u] (getItem (.str x t) (.int i u)) := by with_unfolding_all rfl) :
    wpAny (model prog w) A (subscriptTail value slice (.str x t) (.int i u)) Q E s := by
  refine tail_any (typeIs_str s x t) F.slot_str_getitem.lookup (P.getItem_str ?_ ?_ h) hs
  · simp only [Bool.or_eq_false_iff, decide_eq_false_iff_not]; omega
  · have hlt : i.toNat < x.cps.size := by
      rcases Nat.lt_or_ge i.toNat x.cps.size with q | q
      · exact q
      · rw [Array.getElem?_eq_none q] at hx; cases hx
    have e : seqIndex? i x.length = some i.toNat := by
      unfold seqIndex? Str.length
      have n0 : ¬ i < 0 := by omega
      simp only [n0, if_false]
      first | (rw [if_pos (by omega)]) | (rw [if_neg (by omega)]) | (simp; omega)
    rw [e]; exact hx
section
variable {prog : Program} {w : World} {A : Around} {E : Value → Shared → Prop} {s : Shared} {env : Env}
theorem ev_local {h₀ : Heap} {L a : Addr} {cd : Value} {name : Str} {scope : Scope} {m : Str → Option Value} {x : Str} {p : Pos} {v : Value} {R : Value → Prop} (F : Fr h₀ L s.heap m) (hv : m x = some v) (hr : R v)
    (hk : scope.kind = .function := by rfl) (hl : (envOf name scope L a cd).kindOf x = some .local := by rfl) (hd : (x == ("__debug__" : Str)) = false := by decide) :
    Ev (model prog w) A E (envOf name scope L a cd) s (.Name x p) R := fun tk Q h => ld (s := { s with toks := tk }) F hv (h v tk hr) hk hl hd
theorem ev_int {n : Int} {k : Nat} {p : Pos} : Ev (model prog w) A E env s (.Constant (.int n) k p) (IsI n) := fun tk Q h => wpAny_Constant_int (h _ _ ⟨_, rfl⟩)
theorem ev_add {l r : PySem.Expr} {p : Pos} {a b : Int} (hl : Ev (model prog w) A E env s l (IsI a)) (hr : Ev (model prog w) A E env s r (IsI b)) : Ev (model prog w) A E env s (.BinOp l .Add r p) (IsI (a + b)) := fun tk Q h =>
  wpAny_BinOp (hl tk _ fun v tk' hv => hr tk' _ fun v' tk'' hv' => by
    obtain ⟨t, rfl⟩ := hv; obtain ⟨t', rfl⟩ := hv'
    exact add_int (h _ _ ⟨_, rfl⟩))
theorem ev_item {l r : PySem.Expr} {p : Pos} {x : Str} {i : Int} {c : Nat} (hl : Ev (model prog w) A E env s l (IsS x)) (hr : Ev (model prog w) A E env s r (IsI i)) (h0 : 0 ≤ i) (hf : i < 2 ^ 63) (hx : x.cps[i.toNat]? = some c)
    (hs : ∀ t u, subscripted r false (.str x t) (.int i u) = operate [.str x t, .int i u] (getItem (.str x t) (.int i u))) : Ev (model prog w) A E env s (.Subscript l r p) (IsS ⟨#[c]⟩) := fun tk Q h =>
  Subscript_ (hl tk _ fun v tk' hv => hr tk' _ fun v' tk'' hv' => by
    obtain ⟨t, rfl⟩ := hv; obtain ⟨t', rfl⟩ := hv'
    exact sub_str h0 hx hf (h _ _ ⟨_, rfl⟩) (hs _ _))
theorem one_le (a c : Nat) : (!decide ((⟨#[c]⟩ : Str).cps.toList < (⟨#[a]⟩ : Str).cps.toList)) = decide (a ≤ c) := by
  by_cases h : a ≤ c
  · simp [h, List.cons_lt_cons_iff]; 
  · simp [h, List.cons_lt_cons_iff]; omega
theorem one_eq (a c : Nat) : ((⟨#[a]⟩ : Str) == ⟨#[c]⟩) = decide (a = c) := by
  rw [Bool.eq_iff_iff]; simp
theorem le_one {a c : Nat} {t u : Tok} {Q : Value → Shared → Prop} (h : Q (.bool (decide (a ≤ c))) s) : wpAny (model prog w) A (compareOp .LtE (.str ⟨#[a]⟩ t) (.str ⟨#[c]⟩ u)) Q E s := P.le_str (by rw [one_le]; exact h)
theorem eq_one {a c : Nat} {t u : Tok} {Q : Value → Shared → Prop} (h : Q (.bool (decide (a = c))) s) : wpAny (model prog w) A (compareOp .Eq (.str ⟨#[a]⟩ t) (.str ⟨#[c]⟩ u)) Q E s := PyProof.Rows.eq_str (by rw [one_eq]; exact h)
theorem ev_eq1 {l r : PySem.Expr} {p : Pos} {a c : Nat} (hl : Ev (model prog w) A E env s l (IsS ⟨#[a]⟩)) (hr : Ev (model prog w) A E env s r (IsS ⟨#[c]⟩)) (hm : behindInMarks .Eq r = false) : Ev (model prog w) A E env s (.Compare l [.Eq] [r] p) (IsB (decide (a = c))) := fun tk Q h =>
  wpAny_Compare1 (hl tk _ fun v tk' hv => hr tk' _ fun v' tk'' hv' => by
    obtain ⟨t, rfl⟩ := hv; obtain ⟨t', rfl⟩ := hv'
    exact eq_one (h _ _ rfl)) hm
theorem ev_le2 {l m r : PySem.Expr} {p : Pos} {a c b : Nat} (hl : Ev (model prog w) A E env s l (IsS ⟨#[a]⟩)) (hc : Ev (model prog w) A E env s m (IsS ⟨#[c]⟩)) (hr : Ev (model prog w) A E env s r (IsS ⟨#[b]⟩))
    (hm : lastMarks [.LtE, .LtE] [m, r] = false) : Ev (model prog w) A E env s (.Compare l [.LtE, .LtE] [m, r] p) (IsB (decide (a ≤ c) && decide (c ≤ b))) := fun tk Q h =>
  Compare_chain (hl tk _ fun v tk' hv => by
    obtain ⟨t, rfl⟩ := hv
    refine chain_link (hc tk' _ fun v' tk'' hv' => ?_)
    obtain ⟨t', rfl⟩ := hv'
    refine le_one (wpAny_truthy_bool ?_)
    by_cases q : a ≤ c
    · simp only [q, decide_true, ↓reduceIte]
      refine chain_last (hr tk'' _ fun v'' tk3 hv'' => ?_)
      obtain ⟨t'', rfl⟩ := hv''
      exact le_one (h _ _ (by show _ = _; simp [q]))
    · simp only [q, decide_false, Bool.false_eq_true, ↓reduceIte]
      exact h _ _ (by show _ = _; simp [q])) hm
theorem ev_or {e₁ e₂ : PySem.Expr} {p : Pos} {a b : Bool} (h₁ : Ev (model prog w) A E env s e₁ (IsB a)) (h₂ : Ev (model prog w) A E env s e₂ (IsB b)) : Ev (model prog w) A E env s (.BoolOp .Or [e₁, e₂] p) (IsB (a || b)) := fun tk Q h =>
  BoolOp_or (h₁ tk _ fun v tk' hv => by
    cases hv
    refine wpAny_truthy_bool ?_
    cases a with
    | true => simp only [↓reduceIte]; exact h _ _ (by show _ = _; simp)
    | false =>
      simp only [Bool.false_eq_true, ↓reduceIte]
      exact BoolOp_one (h₂ tk' _ fun v tk'' hv => h _ _ (by cases hv; show _ = _; simp)))
end
end Mine
end Ev_text
section F3l_text
open PySem PySem.W PyProof.Rows
namespace Mine
noncomputable abbrev scT : Scope := { kind := .function, names := [("part", .local), ("sign", .local), ("barred", .local), ("inner", .local), ("held", .local), ("k", .local), ("len", .globalImplicit)], isGenerator := false, isCoroutine := false }
section
variable {prog : Program} {w : World} {A : Around} {E : Value → Shared → Prop} {h₀ h : Heap} {L a : Addr} {cd : Value} {m : Str → Option Value} {b : Bool} {x : Str} {i : Int} {c lo hi : Nat} {t1 t2 t3 : Tok}
  {g : Array GenState} {d : Drawn} {t : Nat} {os : OsState} {Q : Value → Shared → Prop} {p1 p2 p3 p4 p5 p6 p7 p8 p9 p10 p11 p12 : Pos} {kk : Nat}
theorem held_range (F : Fr h₀ L h m) (hh : m "held" = some (.bool b)) (hin : m "inner" = some (.str x t1)) (hk : m "k" = some (.int i t2)) (hs : m "sign" = some (.str ⟨#[c]⟩ t3)) (h0 : 0 ≤ i) (hf : i < 2 ^ 62)
    (ha : x.cps[i.toNat]? = some lo) (hb : x.cps[(i + 2).toNat]? = some hi) (k : ∀ tk', Q (.bool (b || (decide (lo ≤ c) && decide (c ≤ hi)))) ⟨h, g, d, tk', os⟩) :
    wpAny (model prog w) A (eval (.BoolOp .Or [.Name "held" p1, .Compare (.Subscript (.Name "inner" p2) (.Name "k" p3) p4) [.LtE, .LtE] [.Name "sign" p5, .Subscript (.Name "inner" p6) (.BinOp (.Name "k" p7) .Add (.Constant (.int 2) kk p8) p9) p10] p11] p12)
      (envOf "_law_takes" scT L a cd)) Q E ⟨h, g, d, t, os⟩ := by
  have i2 : i + 2 < 2 ^ 63 := by have : (2 : Int) ^ 63 = 2 * 2 ^ 62 := by decide
                                 have : (2 : Int) ^ 62 > 2 := by decide
                                 omega
  refine ev_go (ev_or (ev_local F hh rfl) (ev_le2 (ev_item (ev_local F hin ⟨_, rfl⟩) (ev_local F hk ⟨_, rfl⟩) h0 (by omega) ha (fun _ _ => by with_unfolding_all rfl)) (ev_local F hs ⟨_, rfl⟩)
    (ev_item (ev_local F hin ⟨_, rfl⟩) (ev_add (ev_local F hk ⟨_, rfl⟩) ev_int) (by omega) i2 hb (fun _ _ => by with_unfolding_all rfl)) (by with_unfolding_all rfl))) ?_
  intro v tk' hv
  cases hv
  exact k tk'
theorem held_one (F : Fr h₀ L h m) (hh : m "held" = some (.bool b)) (hin : m "inner" = some (.str x t1)) (hk : m "k" = some (.int i t2)) (hs : m "sign" = some (.str ⟨#[c]⟩ t3)) (h0 : 0 ≤ i) (hf : i < 2 ^ 62)
    (ha : x.cps[i.toNat]? = some lo) (k : ∀ tk', Q (.bool (b || decide (lo = c))) ⟨h, g, d, tk', os⟩) :
    wpAny (model prog w) A (eval (.BoolOp .Or [.Name "held" p1, .Compare (.Subscript (.Name "inner" p2) (.Name "k" p3) p4) [.Eq] [.Name "sign" p5] p6] p7)
      (envOf "_law_takes" scT L a cd)) Q E ⟨h, g, d, t, os⟩ := by
  refine ev_go (ev_or (ev_local F hh rfl) (ev_eq1 (ev_item (ev_local F hin ⟨_, rfl⟩) (ev_local F hk ⟨_, rfl⟩) h0 (by omega) ha (fun _ _ => by with_unfolding_all rfl)) (ev_local F hs ⟨_, rfl⟩) (by with_unfolding_all rfl))) ?_
  intro v tk' hv
  cases hv
  exact k tk'
end
end Mine
end F3l_text
section F4_text
open PySem PySem.W PyProof.Rows
namespace Mine
theorem len_is {prog : Program} {w : World} {A : Around} {E : Value → Shared → Prop} {s : Shared} {l : Addr} {items : Array Value} {n : Int} {Q : Value → Shared → Prop} (hl : s.heap.IsList l items) (hn : (items.size : Int) = n) (hfit : n < 2 ^ 63)
    (h : Q (.int n (s.toks + 1)) { s with toks := s.toks + 1 + 1 }) : wpAny (model prog w) A (call (.builtin "len") [.ref l]) Q E s := by
  subst hn
  exact len_list hl hfit h
theorem len_str_is {prog : Program} {w : World} {A : Around} {E : Value → Shared → Prop} {s : Shared} {x : Str} {t : Tok} {n : Int} {Q : Value → Shared → Prop} (hn : (x.length : Int) = n) (hfit : n < 2 ^ 63)
    (h : Q (.int n (s.toks + 1)) { s with toks := s.toks + 1 + 1 }) : wpAny (model prog w) A (call (.builtin "len") [.str x t]) Q E s := by
  subst hn
  exact P.len_str (by omega) h
theorem F4_lines1 : True := by
  k_with_none
  k_with "call builtin:len" => ((with_reducible show wpAny _ _ (call _ [Value.str (PySem.Str.mk _) _]) _ _ _); refine len_str_is (n := 4) rfl (by decide) ?_; (try dsimp only))
  k_with "subscriptTail Name Name str int" => ((with_reducible show wpAny _ _ (subscriptTail _ _ (Value.str (PySem.Str.mk _) _) (Value.int _ _)) _ _ _); k_dflt (refine' sub_str ?za ?zb ?zc ?_ ?zd; (case za => decide); (case zb => exact rfl); (case zc => decide); (case zd => with_unfolding_all rfl)); (try dsimp only))
  k_with "call builtin:len" => ((with_reducible show wpAny _ _ (call _ [Value.ref _]) _ _ _); refine len_is (n := 4) (by is_list) rfl (by decide) ?_; (try dsimp only))
  k_with "call ref" => (k_here; k_dflt (refine' useZ (‹∀ tk tk2, CZ 380 _ 215 ⟨[.str _ tk, .str ⟨#[_]⟩ tk2], []⟩ _› _ _) ?zh0 ?zh1 ?zh2 ?zh3 ?zh4 ?zhB ?zhF ?zhf ?zhke ?zhX ?zhN ?zhT ?_; (case zh0 => rfl); (case zh1 => exact Nat.le_of_ble_eq_true rfl); (case zh2 => exact rfl); (case zh3 => exact rfl); (case zh4 => exact Nat.le_of_ble_eq_true rfl); (case zhB => k_asm); (case zhF => k_asm); (case zhf => exact rfl); (case zhke => exact rfl); (case zhX => k_asm); (case zhN => k_asm); (case zhT => k_asm)); intro v9 h9 tk9 hv9 F9 N9; cases hv9; (try dsimp only))
  trivial
set_option maxHeartbeats 8000000 in
theorem fits_ok {w : World} {D : Addr} {p0 p1 p2 p3 : Str} {t0 t1 t2 t3 : Tok} {c0 c1 c2 c3 : Nat} {b0 b1 b2 b3 : Bool} {n : Nat}
    (C0 : ∀ tk tk2, CZ 380 w 215 ⟨[.str p0 tk, .str ⟨#[c0]⟩ tk2], []⟩ (fun _ v _ => v = .bool b0)) (C1 : ∀ tk tk2, CZ 380 w 215 ⟨[.str p1 tk, .str ⟨#[c1]⟩ tk2], []⟩ (fun _ v _ => v = .bool b1))
    (C2 : ∀ tk tk2, CZ 380 w 215 ⟨[.str p2 tk, .str ⟨#[c2]⟩ tk2], []⟩ (fun _ v _ => v = .bool b2)) (C3 : ∀ tk tk2, CZ 380 w 215 ⟨[.str p3 tk, .str ⟨#[c3]⟩ tk2], []⟩ (fun _ v _ => v = .bool b3)) (tk : Tok) : CP 370 w 222 ⟨[.ref D, .str ⟨#[c0, c1, c2, c3]⟩ tk], []⟩ (fun h => h.IsList D [.str p0 t0, .str p1 t1, .str p2 t2, .str p3 t3].toArray) (fun _ v _ => v = .bool (b0 && b1 && b2 && b3)) := by
  dsimp only [CP, PW]
  k_fill
  intro mean mg mb A₀ base fr s RR hPre B X T hret
  have hS : StrsAre [.str p0 t0, .str p1 t1, .str p2 t2, .str p3 t3] [p0, p1, p2, p3] := by repeat constructor
  k_dflt (refine' enterZ B X T ?k6 ?k7 ?k9 ?kB ?_ ?c2 ?c3 ?c4 ?c5 ?c6; (case c6 => decide); (case k6 => k_is); (case k7 => k_is); (case k9 => first | exact BindsTo.of_eq rfl | exact binds_K (by k_in) rfl (by k_is) rfl rfl rfl); (case c5 => decide); (case kB => exact locs rfl); (case c2 => exact rfl); (case c3 => exact rfl); (case c4 => exact rfl); k_whole)
  intro L' h' F' N'
  (try dsimp only)
  (try k_fold)
  k_steps
  all_goals ((try dsimp only); refine hret _ _ _ ?_ (Fr.keep (by assumption)))
  all_goals simp_all
end Mine
theorem Mine.F4_lines_end : True := by
  k_with_none
  trivial
end F4_text
section Bc_text
open PySem PySem.W PyProof.Rows PySem.Calls
namespace Mine
section
variable {prog : Program} {w : World} {A : Around} {E : Value → Shared → Prop} {s : Shared} {h₀ : Heap} {L : Addr} {m : Str → Option Value} {env : Env}
open LCg in
noncomputable def SrcB (prog : Program) (w : World) (A : Around) (h₀ : Heap) (L : Addr) (m : Str → Option Value) (env : Env) (elt : Expr) (x : Str) (scope : Scope) (cl : List (Str × Addr)) (Fin : Shared → List Value → List (Addr × Obj) → Prop) (xv : Value) (s₁ : Shared) : Prop :=
  ∃ b t news, xv = .bytes b t ∧ A.handled = none ∧ Fr h₀ L s₁.heap m ∧ News h₀ L s₁.heap news ∧ b.size ≤ sizeLine ∧
    ∀ g : Heap, CompRest prog w A h₀ L m env elt x scope cl { s₁ with heap := g } (fun _ => True) (fun i v => ∃ c u, b[i]? = some c ∧ v = .int (c.toNat : Int) u) (Fin { s₁ with heap := g }) b.size 0 [] news
theorem bytes_st {I : Addr} {b : Array UInt8} {t : Tok} : ∀ i (h h' : Heap) (o : Obj) (nw : List (Addr × Obj)), KBw.IsBytesIter h I b t i → h.get? I = some o → h'.get? I = some o → (∀ b o, h₀.get? b = some o → h'.get? b = some o) → News h₀ L h' nw → True → KBw.IsBytesIter h' I b t i :=
  fun i h h' o nw st e e' _ _ _ => by
    obtain ⟨o', q, r⟩ := st
    rw [e] at q; cases q; exact ⟨o, e', r⟩
open LCg in
theorem ListComp_B {elt iter : Expr} {x : Str} {px : Pos} {scope : Scope} {cl : List (Str × Addr)} {pos : Pos} {Q : Value → Shared → Prop} (FzA : Fr h₀ L s.heap m)
    (hclos : closureFor scope env = pure cl) (hcell : ∀ y ∈ scope.names, y.2 ≠ .cell) (hkind : scope.kind = .function)
    (hnames : ∀ y ∈ scope.names, y.2 = .local → scope.names.lookup y.1 = some .local) (hx : scope.names.lookup x = some .local)
    (h : wpAny (model prog w) A (eval iter env) (SrcB prog w A h₀ L m env elt x scope cl (fun s₂ => FinE h₀ L m s₂ Q)) E s)
    (hs : ∀ x, foldedSetIterable iter env x = pure x := by intro _; rfl) :
    wpAny (model prog w) A (eval (.ListComp elt [⟨.Name x px, iter, [], 0⟩] scope pos) env) Q E s := by
  rw [eval_ListComp]
  refine wpAny_comprehension_free (use := none) rfl hs hclos hkind hnames (wpAny_mono h (fun xv s₁ h₁ => ?_) fun _ _ e => e)
  obtain ⟨b, t, news, rfl, hh, F, N, hsz, R⟩ := h₁
  refine KBw.pyIter_bytes ?_
  have up : ∀ b' o, s₁.heap.get? b' = some o → (s₁.heap.push { cls := .type "bytes_iterator", data := .fields #[.bytes b t, .int 0 0] }).get? b' = some o := fun b' o e => Heap.get?_push_of_some _ e
  refine block_U (KBw.walks hh s₁.heap.objs.size b t) hsz (fun i h st => by obtain ⟨o, e, _⟩ := st; exact ⟨o, e⟩) bytes_st hcell hkind hx ⟨_, Heap.get?_push_size _ rfl, rfl, rfl⟩ (fun b' hb => ?_)
    (F.keeps up) (N.grown up) (Nat.ne_of_lt F.ns.lt) (next_is_new F) (fun p hp => Nat.ne_of_lt (Heap.lt_size (N p hp).1)) trivial (R _) ?_
  · rw [List.mem_singleton.mp hb]
    show s₁.heap.objs.size < (s₁.heap.push _).objs.size
    rw [Heap.size_push]; exact Nat.lt_succ_self _
  · intro D C h tk m' ys news' F' N' o1 hn hC₀ hD₀ hCL hDL hCD offC fin
    refine ⟨m', hn, fun h'' hs'' => fin D h'' tk (F'.change hs'' hCL hC₀) (fun p hp => ?_) o1⟩
    refine ⟨hs''.extBut _ _ ?_ (N' p hp).1, (N' p hp).2⟩
    rcases List.mem_cons.mp hp with rfl | hp
    · exact Ne.symm hCD
    · exact offC p hp
open LCg in
theorem SrcB.intro {elt : Expr} {x : Str} {scope : Scope} {cl : List (Str × Addr)} {Fin : Shared → List Value → List (Addr × Obj) → Prop} {b : Array UInt8} {t : Tok} {l : List Int} {news : List (Addr × Obj)} {s₁ : Shared}
    (hh : A.handled = none) (hb : KBw.bInts b = l) (F : Fr h₀ L s₁.heap m) (N : News h₀ L s₁.heap news) (hsz : l.length ≤ sizeLine)
    (h : ∀ g : Heap, CompRest prog w A h₀ L m env elt x scope cl { s₁ with heap := g } (fun _ => True) (fun i v => ∃ u k, l[i]? = some k ∧ v = .int k u) (Fin { s₁ with heap := g }) l.length 0 [] news) :
    SrcB prog w A h₀ L m env elt x scope cl Fin (.bytes b t) s₁ := by
  have hl : b.size = l.length := by rw [← hb]; simp [KBw.bInts]
  have e : (fun (i : Nat) (v : Value) => ∃ c u, b[i]? = some c ∧ v = .int (c.toNat : Int) u) = (fun i v => ∃ u k, l[i]? = some k ∧ v = .int k u) := by
    funext i v
    apply propext
    constructor
    · rintro ⟨c, u, hc, rfl⟩
      refine ⟨u, _, ?_, rfl⟩
      rw [← hb]; simp only [KBw.bInts, List.getElem?_map]
      simp [hc]
    · rintro ⟨u, k, hk, rfl⟩
      rw [← hb] at hk; simp only [KBw.bInts, List.getElem?_map] at hk
      cases hc : b[i]? with
      | none => simp [hc] at hk
      | some c => simp [hc] at hk; subst hk; exact ⟨c, u, rfl, rfl⟩
  refine ⟨b, t, news, rfl, hh, F, N, hl ▸ hsz, fun g => ?_⟩
  rw [e, hl]; exact h g
end
end Mine
end Bc_text
section F2_text
open PySem PySem.W PyProof.Rows
namespace Mine
theorem b_lo {b : Array UInt8} {k : Int} {l : List Int} (h : KBw.bInts b = l) (hm : k ∈ l) : 0 ≤ k ∧ k < 256 := KBw.ints_in (h ▸ hm)
theorem and_small (x : Int) {y : Int} (h0 : 0 ≤ y) (h1 : y < 256) : Builtin.bitAnd (x * 256) y = 0 := by
  have step : ∀ (n : Nat) (x y : Int), 0 ≤ y → y < 2 ^ n → Builtin.bitAnd (x * 2 ^ n) y = 0 := by
    intro n
    induction n with
    | zero =>
      intro x y h0 h1
      have : y = 0 := by
        have : (2 : Int) ^ 0 = 1 := rfl
        omega
      subst this
      rw [bitAnd_comm]
      have := kbt_mask' (x * 2 ^ 0) 0
      have e : (2 : Int) ^ 0 - 1 = 0 := rfl
      rw [e] at this
      rw [this]
      simp
    | succ n ih =>
      intro x y h0 h1
      rw [kbt_halves]
      have e : x * 2 ^ (n + 1) = 2 * (x * 2 ^ n) := by rw [Int.pow_succ, ← Int.mul_assoc, Int.mul_comm]
      have p : (2 : Int) ^ (n + 1) = 2 * 2 ^ n := by rw [Int.pow_succ, Int.mul_comm]
      rw [e]
      have a1 : 2 * (x * 2 ^ n) / 2 = x * 2 ^ n := by omega
      have a2 : 2 * (x * 2 ^ n) % 2 = 0 := by omega
      rw [a1, a2, ih x (y / 2) (by omega) (by omega)]
      simp
  have := step 8 x y h0 (by simpa using h1)
  simpa using this
section
variable {prog : Program} {w : World} {A : Around} {E : Value → Shared → Prop} {s : Shared} {Q : Value → Shared → Prop} {a n y i : Int} {t u : Tok}
theorem lsh_8 (ha : a.natAbs < 2 ^ 64) (h : Q (.int (a * 256) s.toks) { s with toks := s.toks + 1 }) : wpAny (model prog w) A (binaryOp .LShift (.int a t) (.int 8 u)) Q E s :=
  lshift_int_small (by decide) (by decide) ha h
theorem lsh_2 (ha : a.natAbs < 2 ^ 64) (h : Q (.int (a * 4) s.toks) { s with toks := s.toks + 1 }) : wpAny (model prog w) A (binaryOp .LShift (.int a t) (.int 2 u)) Q E s :=
  lshift_int_small (by decide) (by decide) ha h
theorem or_256 (h0 : 0 ≤ y) (h1 : y < 256) (h : Q (.int (a * 256 + y) s.toks) { s with toks := s.toks + 1 }) : wpAny (model prog w) A (binaryOp .BitOr (.int (a * 256) t) (.int y u)) Q E s :=
  or_int (by rw [bitOr_and, and_small a h0 h1, Int.sub_zero]; exact h)
theorem and_16 (h : Q (.int (a % 65536) s.toks) { s with toks := s.toks + 1 }) : wpAny (model prog w) A (binaryOp .BitAnd (.int a t) (.int 65535 u)) Q E s := and_int (by rw [bitAnd_m16]; exact h)
theorem and_6 (h : Q (.int (a % 64) s.toks) { s with toks := s.toks + 1 }) : wpAny (model prog w) A (binaryOp .BitAnd (.int a t) (.int 63 u)) Q E s := and_int (by rw [bitAnd_m6]; exact h)
theorem and_4 (h : Q (.int (a % 16) s.toks) { s with toks := s.toks + 1 }) : wpAny (model prog w) A (binaryOp .BitAnd (.int a t) (.int 15 u)) Q E s := and_int (by rw [bitAnd_m4]; exact h)
theorem rsh_to (k : Nat) (d : Int) (hn : n = (k : Int)) (hd : (2 : Int) ^ k = d) (h : Q (.int (a / d) s.toks) { s with toks := s.toks + 1 }) : wpAny (model prog w) A (binaryOp .RShift (.int a t) (.int n u)) Q E s := by
  subst hn hd
  refine rshift_int (by omega) ?_
  rw [Int.toNat_natCast, Int.fdiv_eq_ediv_of_nonneg _ (Int.le_of_lt (kbt_pos k))]
  exact h
end
noncomputable def sigs : List Int := [65, 66, 67, 68, 69, 70, 71, 72, 73, 74, 75, 76, 77, 78, 79, 80, 81, 82, 83, 84, 85, 86, 87, 88, 89, 90, 97, 98, 99, 100, 101, 102, 103, 104, 105, 106, 107, 108, 109, 110, 111, 112, 113, 114, 115, 116, 117, 118, 119, 120, 121, 122, 48, 49, 50, 51, 52, 53, 54, 55, 56, 57, 43, 47]
noncomputable def sig (i : Int) : Int := sigs.getD i.toNat 0
theorem sig_in (i : Int) : 0 ≤ sig i ∧ sig i < 256 := KBw.getD_in (by decide)
theorem sig_item {prog : Program} {w : World} {A : Around} {E : Value → Shared → Prop} {s : Shared} {Q : Value → Shared → Prop} {b : Array UInt8} {i : Int} {t ui : Tok} {value slice : PySem.Expr} (hk : KBw.bInts b = sigs) (h0 : 0 ≤ i) (h1 : i < 64)
    (h : ∀ t' k, Q (.int (sig i) t') { s with toks := k })
    (hs : subscripted slice false (.bytes b t) (.int i ui) = operate [.bytes b t, .int i ui] (getItem (.bytes b t) (.int i ui)))
    (ht : ∀ r, letTemporaryGo value (.bytes b t) r = pure ()) :
    wpAny (model prog w) A (subscriptTail value slice (.bytes b t) (.int i ui)) Q E s :=
  KBw.item_K (ks := sigs) hk (by decide) h0 (by show i < ((64 : Nat) : Int); omega) (fun t' k _ _ => h t' k) hs ht
theorem F2_lines1 : True := by
  k_with_none
  k_with "call type:type" => ((with_reducible show wpAny _ _ (call _ [Value.bytes _ _]) _ _ _); refine call_type_of (Tx := "bytes") rfl (by decide +kernel) ?_)
  k_with "pyIter bytes" => (k_bytesUnr)
  k_with "binaryOp LShift int int" => ((with_reducible first | refine lsh_8 (by omega) ?_ | refine lsh_2 (by omega) ?_); (try dsimp only))
  k_with "binaryOp BitOr int int" => ((with_reducible refine or_256 (by omega) (by omega) ?_); (try dsimp only))
  k_with "binaryOp BitAnd int int" => ((with_reducible first | refine and_16 ?_ | refine and_6 ?_ | refine and_4 ?_); (try dsimp only))
  k_with "binaryOp RShift int int" => ((first | refine rsh_to 2 4 (by decide) (by decide) ?_ | refine rsh_to 4 16 (by decide) (by decide) ?_ | refine rsh_to 6 64 (by decide) (by decide) ?_ | refine rsh_to 0 1 (by decide) (by decide) ?_); (try dsimp only))
  k_with "subscriptTail Name BinOp bytes int" => (with_reducible refine' sig_item ?zsk ?zs0 ?zs1 ?_ ?zs2 ?zs3; (case zsk => kernel_rfl); (case zs0 => omega); (case zs1 => omega); (case zs2 => with_unfolding_all rfl); (case zs3 => intro _; with_unfolding_all rfl); intro _ _; (try dsimp only))
  trivial
theorem list4 {a b c d a' b' c' d' : Int} (h1 : a = a') (h2 : b = b') (h3 : c = c') (h4 : d = d') : [a, b, c, d] = [a', b', c', d'] := by rw [h1, h2, h3, h4]
theorem in_sig4 {a b c d : Int} : KBa.In [sig a, sig b, sig c, sig d] := by
  intro n hn
  simp only [List.mem_cons, List.not_mem_nil, or_false] at hn
  rcases hn with rfl | rfl | rfl | rfl <;> exact sig_in _
theorem in_sig3 {a b c : Int} : KBa.In [sig a, sig b, sig c, 61] := by
  intro n hn
  simp only [List.mem_cons, List.not_mem_nil, or_false] at hn
  rcases hn with rfl | rfl | rfl | rfl
  · exact sig_in _
  · exact sig_in _
  · exact sig_in _
  · decide
theorem ints4 {a b c d : Int} {t1 t2 t3 t4 : Tok} : IntsAre ((((#[].push (Value.int a t1)).push (Value.int b t2)).push (Value.int c t3)).toList.concat (Value.int d t4)) [a, b, c, d] := by
  simp only [List.concat_eq_append, Array.toList_push, List.nil_append, List.cons_append]
  repeat constructor
theorem F2_lines2 : True := by
  k_with "call type:bytes" => (k_here; (with_reducible show wpAny _ _ (call (Value.type "bytes") [Value.ref _]) _ _ _); k_dflt (refine' KBa.make_K ?zkbaF ?zkbaN ?zkbah ?zkbal ?zkbai ?zkbar ?zkban ?_; (case zkbaF => k_asm); (case zkbaN => k_asm); (case zkbah => rfl); (case zkbal => kba_isList); (case zkbai => exact ints4); (case zkbar => first | exact in_sig4 | exact in_sig3); (case zkban => exact (by decide : 4 ≤ 16777216))); intro _ _ _ F' N' _; (try dsimp only))
  trivial
set_option maxHeartbeats 8000000 in
theorem b64_3_ok {w : World} (b : Array UInt8) (x y z : Int) (hb : KBw.bInts b = [x, y, z]) (tk : Tok) :
    CZ 360 w 162 ⟨[.bytes b tk], []⟩ (fun _ v _ => ∃ t, v = .bytes (byteArr [sig (x / 4), sig (x % 4 * 16 + y / 16), sig (y % 16 * 4 + z / 64), sig (z % 64)]) t) := by
  dsimp only [CZ, PW]
  k_fill
  intro mean mg mb A₀ base fr s RR B X T hret
  obtain ⟨hx0, hx1⟩ := b_lo hb (by simp : x ∈ [x, y, z])
  obtain ⟨hy0, hy1⟩ := b_lo hb (by simp : y ∈ [x, y, z])
  obtain ⟨hz0, hz1⟩ := b_lo hb (by simp : z ∈ [x, y, z])
  k_dflt (refine' enterZ B X T ?k6 ?k7 ?k9 ?kB ?_ ?c2 ?c3 ?c4 ?c5 ?c6; (case c6 => decide); (case k6 => k_is); (case k7 => k_is); (case k9 => first | exact BindsTo.of_eq rfl | exact binds_K (by k_in) rfl (by k_is) rfl rfl rfl); (case c5 => decide); (case kB => exact locs rfl); (case c2 => exact rfl); (case c3 => exact rfl); (case c4 => exact rfl); k_whole)
  intro L' h' F' N'
  (try dsimp only)
  (try k_fold)
  k_steps
  all_goals (dsimp only; refine hret _ _ _ ⟨_, congrArg (Value.bytes · _) (congrArg byteArr (list4 (congrArg sig ?_) (congrArg sig ?_) (congrArg sig ?_) (congrArg sig ?_)))⟩ (Fr.keep (by assumption)))
  all_goals omega
set_option maxHeartbeats 8000000 in
theorem b64_2_ok {w : World} (b : Array UInt8) (x y : Int) (hb : KBw.bInts b = [x, y]) (tk : Tok) :
    CZ 360 w 162 ⟨[.bytes b tk], []⟩ (fun _ v _ => ∃ t, v = .bytes (byteArr [sig (x / 4), sig (x % 4 * 16 + y / 16), sig (y % 16 * 4), 61]) t) := by
  dsimp only [CZ, PW]
  k_fill
  intro mean mg mb A₀ base fr s RR B X T hret
  obtain ⟨hx0, hx1⟩ := b_lo hb (by simp : x ∈ [x, y])
  obtain ⟨hy0, hy1⟩ := b_lo hb (by simp : y ∈ [x, y])
  k_dflt (refine' enterZ B X T ?k6 ?k7 ?k9 ?kB ?_ ?c2 ?c3 ?c4 ?c5 ?c6; (case c6 => decide); (case k6 => k_is); (case k7 => k_is); (case k9 => first | exact BindsTo.of_eq rfl | exact binds_K (by k_in) rfl (by k_is) rfl rfl rfl); (case c5 => decide); (case kB => exact locs rfl); (case c2 => exact rfl); (case c3 => exact rfl); (case c4 => exact rfl); k_whole)
  intro L' h' F' N'
  (try dsimp only)
  (try k_fold)
  k_steps
  all_goals (dsimp only; refine hret _ _ _ ⟨_, congrArg (Value.bytes · _) (congrArg byteArr (list4 (congrArg sig ?_) (congrArg sig ?_) (congrArg sig ?_) rfl))⟩ (Fr.keep (by assumption)))
  all_goals omega
end Mine
theorem Mine.F2_lines_end : True := by
  k_with_none
  trivial
end F2_text
section F5_text
open PySem PySem.W PyProof.Rows
namespace Mine
theorem F5_lines1 : True := by
  k_with_none
  k_with "eval ListComp" => (k_here; lcg_look; k_dflt (refine ListComp_B (FzA := by k_asm) (by rfl) (by decide) (by rfl) (by decide) (by rfl) ?_))
  k_with "SrcB" => (refine SrcB.intro (by rfl) (by assumption) (by k_asm) (by k_asm) (Nat.le_of_ble_eq_true rfl) ?_; intro g'; lcg_lit)
  k_with "CompRest" => (with_unfolding_all first
      | (refine LCg.CompRest.succ ?_; intro v' I' oI' C' oC' D' m' h' tk' E' hv' hC' hx' F' N' off' ne'; (obtain ⟨t9', k9', hk9', hv9'⟩ := hv'; cases (Option.some.inj hk9'); subst hv9'); (try simp only [LCg.Off3, and_true] at off'))
      | refine LCg.CompRest.zero ?_)
  trivial
theorem join_ch4 {prog : Program} {w : World} {A : Around} {E : Value → Shared → Prop} {s : Shared} {Q : Value → Shared → Prop} {h₀ : Heap} {L D : Addr} {news : List (Addr × Obj)} {t t0 t1 t2 t3 : Tok} {c0 c1 c2 c3 : Nat}
    (N : News h₀ L s.heap news) (hm : (D, LCg.lst [.str ⟨#[c0]⟩ t0, .str ⟨#[c1]⟩ t1, .str ⟨#[c2]⟩ t2, .str ⟨#[c3]⟩ t3]) ∈ news) (hq : ∀ t' k, Q (.str ⟨#[c0, c1, c2, c3]⟩ t') { s with toks := k }) :
    wpAny (model prog w) A (call (.builtin "str.join") [.str (Str.ofString "") t, .ref D]) Q E s :=
  SC.join (l := [(⟨#[c0]⟩, t0), (⟨#[c1]⟩, t1), (⟨#[c2]⟩, t2), (⟨#[c3]⟩, t3)]) (texts := [⟨#[c0]⟩, ⟨#[c1]⟩, ⟨#[c2]⟩, ⟨#[c3]⟩]) (N.isList hm) rfl rfl hq
theorem F5_lines2 : True := by
  k_with "call builtin:str.join" => (k_here; refine join_ch4 (by k_asm) (by k_mem) ?_; intro _ _; (try dsimp only))
  trivial
theorem join_ch6 {prog : Program} {w : World} {A : Around} {E : Value → Shared → Prop} {s : Shared} {Q : Value → Shared → Prop} {h₀ : Heap} {L D : Addr} {news : List (Addr × Obj)} {t t0 t1 t2 t3 t4 t5 : Tok} {c0 c1 c2 c3 c4 c5 : Nat}
    (N : News h₀ L s.heap news) (hm : (D, LCg.lst [.str ⟨#[c0]⟩ t0, .str ⟨#[c1]⟩ t1, .str ⟨#[c2]⟩ t2, .str ⟨#[c3]⟩ t3, .str ⟨#[c4]⟩ t4, .str ⟨#[c5]⟩ t5]) ∈ news) (hq : ∀ t' k, Q (.str ⟨#[c0, c1, c2, c3, c4, c5]⟩ t') { s with toks := k }) :
    wpAny (model prog w) A (call (.builtin "str.join") [.str (Str.ofString "") t, .ref D]) Q E s :=
  SC.join (l := [(⟨#[c0]⟩, t0), (⟨#[c1]⟩, t1), (⟨#[c2]⟩, t2), (⟨#[c3]⟩, t3), (⟨#[c4]⟩, t4), (⟨#[c5]⟩, t5)]) (texts := [⟨#[c0]⟩, ⟨#[c1]⟩, ⟨#[c2]⟩, ⟨#[c3]⟩, ⟨#[c4]⟩, ⟨#[c5]⟩]) (N.isList hm) rfl rfl hq
theorem F5_lines3 : True := by
  k_with "call builtin:str.join" => (k_here; refine join_ch6 (by k_asm) (by k_mem) ?_; intro _ _; (try dsimp only))
  trivial
set_option maxHeartbeats 8000000 in
theorem text4 {w : World} (b : Array UInt8) (x0 x1 x2 x3 : Int) (hb : KBw.bInts b = [x0, x1, x2, x3]) (tk : Tok) : CZ 380 w 227 ⟨[.bytes b tk], []⟩ (fun _ v _ => ∃ t, v = .str ⟨#[x0.toNat, x1.toNat, x2.toNat, x3.toNat]⟩ t) := by
  dsimp only [CZ, PW]
  k_fill
  intro mean mg mb A₀ base fr s RR B X T hret
  obtain ⟨hx00, hx01⟩ := b_lo hb (by simp : x0 ∈ [x0, x1, x2, x3])
  obtain ⟨hx10, hx11⟩ := b_lo hb (by simp : x1 ∈ [x0, x1, x2, x3])
  obtain ⟨hx20, hx21⟩ := b_lo hb (by simp : x2 ∈ [x0, x1, x2, x3])
  obtain ⟨hx30, hx31⟩ := b_lo hb (by simp : x3 ∈ [x0, x1, x2, x3])
  k_dflt (refine' enterZ B X T ?k6 ?k7 ?k9 ?kB ?_ ?c2 ?c3 ?c4 ?c5 ?c6; (case c6 => decide); (case k6 => k_is); (case k7 => k_is); (case k9 => first | exact BindsTo.of_eq rfl | exact binds_K (by k_in) rfl (by k_is) rfl rfl rfl); (case c5 => decide); (case kB => exact locs rfl); (case c2 => exact rfl); (case c3 => exact rfl); (case c4 => exact rfl); k_whole)
  intro L' h' F' N'
  (try dsimp only)
  (try k_fold)
  k_steps
  all_goals ((try dsimp only); exact hret _ _ _ ⟨_, rfl⟩ (Fr.keep (by assumption)))
set_option maxHeartbeats 8000000 in
theorem text6 {w : World} (b : Array UInt8) (x0 x1 x2 x3 x4 x5 : Int) (hb : KBw.bInts b = [x0, x1, x2, x3, x4, x5]) (tk : Tok) : CZ 380 w 227 ⟨[.bytes b tk], []⟩ (fun _ v _ => ∃ t, v = .str ⟨#[x0.toNat, x1.toNat, x2.toNat, x3.toNat, x4.toNat, x5.toNat]⟩ t) := by
  dsimp only [CZ, PW]
  k_fill
  intro mean mg mb A₀ base fr s RR B X T hret
  obtain ⟨hx00, hx01⟩ := b_lo hb (by simp : x0 ∈ [x0, x1, x2, x3, x4, x5])
  obtain ⟨hx10, hx11⟩ := b_lo hb (by simp : x1 ∈ [x0, x1, x2, x3, x4, x5])
  obtain ⟨hx20, hx21⟩ := b_lo hb (by simp : x2 ∈ [x0, x1, x2, x3, x4, x5])
  obtain ⟨hx30, hx31⟩ := b_lo hb (by simp : x3 ∈ [x0, x1, x2, x3, x4, x5])
  obtain ⟨hx40, hx41⟩ := b_lo hb (by simp : x4 ∈ [x0, x1, x2, x3, x4, x5])
  obtain ⟨hx50, hx51⟩ := b_lo hb (by simp : x5 ∈ [x0, x1, x2, x3, x4, x5])
  k_dflt (refine' enterZ B X T ?k6 ?k7 ?k9 ?kB ?_ ?c2 ?c3 ?c4 ?c5 ?c6; (case c6 => decide); (case k6 => k_is); (case k7 => k_is); (case k9 => first | exact BindsTo.of_eq rfl | exact binds_K (by k_in) rfl (by k_is) rfl rfl rfl); (case c5 => decide); (case kB => exact locs rfl); (case c2 => exact rfl); (case c3 => exact rfl); (case c4 => exact rfl); k_whole)
  intro L' h' F' N'
  (try dsimp only)
  (try k_fold)
  k_steps
  all_goals ((try dsimp only); exact hret _ _ _ ⟨_, rfl⟩ (Fr.keep (by assumption)))
end Mine
theorem Mine.F5_lines_end : True := by
  k_with_none
  trivial
end F5_text
section Hx_text
open PySem PySem.W PyProof.Rows PySem.Calls
namespace Mine
open Builtin
theorem ints3 {b : Array UInt8} {x y z : Int} (h : KBw.bInts b = [x, y, z]) : ∃ c0 c1 c2 : UInt8, b = #[c0, c1, c2] ∧ x = (c0.toNat : Int) ∧ y = (c1.toNat : Int) ∧ z = (c2.toNat : Int) := by
  obtain ⟨l⟩ := b
  match l, h with
  | [c0, c1, c2], h =>
    simp only [KBw.bInts, List.map_cons, List.map_nil, List.cons.injEq, and_true] at h
    exact ⟨c0, c1, c2, rfl, h.1.symm, h.2.1.symm, h.2.2.symm⟩
theorem hex_eq (c0 c1 c2 : UInt8) (t : Tok) : «bytes.hex» ⟨[.bytes #[c0, c1, c2] t], []⟩ =
    retStr ⟨#[Bytes.hexDigit (c0.toNat / 16), Bytes.hexDigit (c0.toNat % 16), Bytes.hexDigit (c1.toNat / 16), Bytes.hexDigit (c1.toNat % 16), Bytes.hexDigit (c2.toNat / 16), Bytes.hexDigit (c2.toNat % 16)]⟩ := by kernel_rfl
theorem upper_eq (c0 c1 c2 c3 c4 c5 : UInt8) (t : Tok) : «bytes.upper» ⟨[.bytes #[c0, c1, c2, c3, c4, c5] t], []⟩ =
    (do ret (← mkBytes #[Bytes.toUpper c0, Bytes.toUpper c1, Bytes.toUpper c2, Bytes.toUpper c3, Bytes.toUpper c4, Bytes.toUpper c5])) := by kernel_rfl
theorem encode_eq (x : PySem.Str) (t u : Tok) : «str.encode» ⟨[.str x t, .str (PySem.Str.ofString "ascii") u], []⟩ =
    (do ret (← (do mkBytes (← _codecs.encodeNarrow "str.encode" _codecs.asciiCodec none (.str x t) x)))) := by kernel_rfl
theorem narrow_eq (n0 n1 n2 n3 n4 n5 : Nat) (id : String) (v : Value) (h0 : n0 < 128) (h1 : n1 < 128) (h2 : n2 < 128) (h3 : n3 < 128) (h4 : n4 < 128) (h5 : n5 < 128) :
    _codecs.encodeNarrow id _codecs.asciiCodec none v ⟨#[n0, n1, n2, n3, n4, n5]⟩ = pure #[n0.toUInt8, n1.toUInt8, n2.toUInt8, n3.toUInt8, n4.toUInt8, n5.toUInt8] := by
  have b0 : _codecs.asciiCodec.bad n0 = false := by simp [_codecs.asciiCodec]; omega
  have b1 : _codecs.asciiCodec.bad n1 = false := by simp [_codecs.asciiCodec]; omega
  have b2 : _codecs.asciiCodec.bad n2 = false := by simp [_codecs.asciiCodec]; omega
  have b3 : _codecs.asciiCodec.bad n3 = false := by simp [_codecs.asciiCodec]; omega
  have b4 : _codecs.asciiCodec.bad n4 = false := by simp [_codecs.asciiCodec]; omega
  have b5 : _codecs.asciiCodec.bad n5 = false := by simp [_codecs.asciiCodec]; omega
  have hf : [n0, n1, n2, n3, n4, n5].findIdx? _codecs.asciiCodec.bad = none := by
    rw [List.findIdx?_eq_none_iff]
    intro x hx
    simp at hx
    rcases hx with rfl | rfl | rfl | rfl | rfl | rfl <;> assumption
  have hb (x : Nat) : _codecs.asciiCodec.bytesOf x = [x.toUInt8] := rfl
  unfold _codecs.encodeNarrow
  simp [Str.length, Std.Legacy.Range.forIn_eq_forIn_range', List.range', List.findIdx?_cons, b0, b1, b2, b3, b4, b5, hb, sizeLine]
noncomputable def hexU (n : Nat) : Nat := if n < 10 then 48 + n else 55 + n
noncomputable def hexL (n : Nat) : Nat := if n < 10 then 48 + n else 87 + n
theorem hexL_lt {n : Nat} (h : n < 16) : hexL n < 128 := by unfold hexL; split <;> omega
theorem up_hex (n : Fin 16) : Bytes.toUpper (hexL n.val).toUInt8 = (hexU n.val).toUInt8 := by revert n; decide
theorem up_hex' {n : Nat} (h : n < 16) : Bytes.toUpper (hexL n).toUInt8 = (hexU n).toUInt8 := up_hex ⟨n, h⟩
theorem slot_bytes_upper : Slot "bytes" "upper" "bytes.upper" :=
  .of (owner := "bytes") (n := "upper") (by rw [typeLookup_type, builtinLookup_eq_fast]; kernel_rfl) (by decide +kernel) (by decide +kernel) (by decide +kernel)
    (by first | exact .inl (by decide +kernel) | exact .inr (by decide +kernel)) (by rw [isSubtype_type]; kernel_rfl)
theorem type_bytes_upper : typeOf (.builtin "bytes.upper") = pure (.type "method_descriptor") := by show builtinType _ = _; rw [builtinType_eq_fast]; kernel_rfl
theorem entry_bytes_upper : entryFor table "bytes.upper" = some Builtin.«bytes.upper» := entryFor_of_tree (by kernel_rfl)
theorem args_bytes_upper_1 (a : Value) : argsOk "bytes.upper" ⟨[a], []⟩ := by
  unfold argsOk; rw [signature?_of (id := "bytes.upper") (n := ['r', 'e', 'p', 'p', 'u']) (o := ['s', 'e', 't', 'y', 'b']) (by kernel_rfl) FB.owner_bytes]; kernel_rfl
theorem slot_bytes_lower : Slot "bytes" "lower" "bytes.lower" :=
  .of (owner := "bytes") (n := "lower") (by rw [typeLookup_type, builtinLookup_eq_fast]; kernel_rfl) (by decide +kernel) (by decide +kernel) (by decide +kernel)
    (by first | exact .inl (by decide +kernel) | exact .inr (by decide +kernel)) (by rw [isSubtype_type]; kernel_rfl)
section
variable {prog : Program} {w : World} {A : Around} {E : Value → Shared → Prop} {s : Shared} {Q : Value → Shared → Prop} {t u : Tok}
theorem call_hex {c0 c1 c2 : UInt8} (h : ∀ t', Q (.str ⟨#[hexL (c0.toNat / 16), hexL (c0.toNat % 16), hexL (c1.toNat / 16), hexL (c1.toNat % 16), hexL (c2.toNat / 16), hexL (c2.toNat % 16)]⟩ t') { s with toks := s.toks + 1 }) :
    wpAny (model prog w) A (call (.builtin "bytes.hex") [.bytes #[c0, c1, c2] t]) Q E s := by
  refine call_meets FB.slot_bytes_hex (typeIs_bytes _ _ _) FB.entry_bytes_hex (FB.args_bytes_hex_1 _) (S := fun _ R s => ∀ t', R (.ok (.ret (.str ⟨#[hexL (c0.toNat / 16), hexL (c0.toNat % 16), hexL (c1.toNat / 16), hexL (c1.toNat % 16), hexL (c2.toNat / 16), hexL (c2.toNat % 16)]⟩ t'))) { s with toks := s.toks + 1 }) (.of_wp fun prog w A R s hS => ?_) h
  rw [hex_eq]
  exact wpAny_bind (wpAny_mkStr (wpAny_pure ⟨_, rfl, hS _⟩) (by show 6 ≤ _; decide))
theorem call_encode {n0 n1 n2 n3 n4 n5 : Nat} (h0 : n0 < 128) (h1 : n1 < 128) (h2 : n2 < 128) (h3 : n3 < 128) (h4 : n4 < 128) (h5 : n5 < 128)
    (h : ∀ t', Q (.bytes #[n0.toUInt8, n1.toUInt8, n2.toUInt8, n3.toUInt8, n4.toUInt8, n5.toUInt8] t') { s with toks := s.toks + 1 }) :
    wpAny (model prog w) A (call (.builtin "str.encode") [.str ⟨#[n0, n1, n2, n3, n4, n5]⟩ t, .str (PySem.Str.ofString "ascii") u]) Q E s := by
  refine call_meets F.slot_str_encode (typeIs_str _ _ _) F.entry_str_encode (F.args_str_encode_2 _ _) (S := fun _ R s => ∀ t', R (.ok (.ret (.bytes #[n0.toUInt8, n1.toUInt8, n2.toUInt8, n3.toUInt8, n4.toUInt8, n5.toUInt8] t'))) { s with toks := s.toks + 1 }) (.of_wp fun prog w A R s hS => ?_) h
  rw [encode_eq, narrow_eq _ _ _ _ _ _ _ _ h0 h1 h2 h3 h4 h5]
  exact wpAny_bind (wpAny_bind (wpAny_pure (wpAny_mkBytes (wpAny_pure ⟨_, rfl, hS _⟩) (by show 6 ≤ _; decide))))
theorem call_upper {c0 c1 c2 c3 c4 c5 : UInt8} (h : ∀ t', Q (.bytes #[Bytes.toUpper c0, Bytes.toUpper c1, Bytes.toUpper c2, Bytes.toUpper c3, Bytes.toUpper c4, Bytes.toUpper c5] t') { s with toks := s.toks + 1 }) :
    wpAny (model prog w) A (call (.builtin "bytes.upper") [.bytes #[c0, c1, c2, c3, c4, c5] t]) Q E s := by
  refine call_meets slot_bytes_upper (typeIs_bytes _ _ _) entry_bytes_upper (args_bytes_upper_1 _) (S := fun _ R s => ∀ t', R (.ok (.ret (.bytes #[Bytes.toUpper c0, Bytes.toUpper c1, Bytes.toUpper c2, Bytes.toUpper c3, Bytes.toUpper c4, Bytes.toUpper c5] t'))) { s with toks := s.toks + 1 }) (.of_wp fun prog w A R s hS => ?_) h
  rw [upper_eq]
  exact wpAny_bind (wpAny_mkBytes (wpAny_pure ⟨_, rfl, hS _⟩) (by show 6 ≤ _; decide))
theorem meth_hex {M : Model} {b : Array UInt8} {pl : Sem Bool} {Q : Value × List Value → Shared → Prop} (h : Q (.builtin "bytes.hex", [.bytes b t]) s) : wpAny M A (getMethod (.bytes b t) "hex" pl) Q E s := by
  with_reducible exact KBd.method_of (.bytes b t) (typeIs_bytes _ _ _) FB.slot_bytes_hex FB.type_bytes_hex KBd.noRef h
theorem meth_upper {M : Model} {b : Array UInt8} {pl : Sem Bool} {Q : Value × List Value → Shared → Prop} (h : Q (.builtin "bytes.upper", [.bytes b t]) s) : wpAny M A (getMethod (.bytes b t) "upper" pl) Q E s := by
  with_reducible exact KBd.method_of (.bytes b t) (typeIs_bytes _ _ _) slot_bytes_upper type_bytes_upper KBd.noRef h
end
end Mine
end Hx_text
section F6_text
open PySem PySem.W PyProof.Rows
namespace Mine
theorem u8_16 (c : UInt8) : c.toNat / 16 < 16 ∧ c.toNat % 16 < 16 := by
  have := c.toNat_lt
  omega
theorem meth_encode {M : Model} {A : Around} {E : Value → Shared → Prop} {s : Shared} {x : PySem.Str} {t : Tok} {pl : Sem Bool} {Q : Value × List Value → Shared → Prop} (h : Q (.builtin "str.encode", [.str x t]) s) : wpAny M A (getMethod (.str x t) "encode" pl) Q E s :=
  getMethod_builtin (typeIs_str _ _ _) F.plainAttrs_str F.slot_str_encode F.type_str_encode (fun _ e => nomatch e) h
theorem F6_lines1 : True := by
  k_with_none
  k_with "getMethod str" => (k_here; (with_reducible refine meth_encode ?_))
  k_with "call type:type" => ((with_reducible show wpAny _ _ (call _ [Value.bytes _ _]) _ _ _); refine call_type_of (Tx := "bytes") rfl (by decide +kernel) ?_)
  k_with "getMethod bytes" => (k_here; (with_reducible first | refine meth_hex ?_ | refine meth_upper ?_))
  k_with "call builtin:bytes.hex" => (k_here; refine call_hex ?_; intro _; (try dsimp only))
  k_with "call builtin:str.encode" => (k_here; refine call_encode (hexL_lt (u8_16 _).1) (hexL_lt (u8_16 _).2) (hexL_lt (u8_16 _).1) (hexL_lt (u8_16 _).2) (hexL_lt (u8_16 _).1) (hexL_lt (u8_16 _).2) ?_; intro _; (try dsimp only))
  k_with "call builtin:bytes.upper" => (k_here; refine call_upper ?_; intro _; (try dsimp only))
  trivial
theorem b16_res (c0 c1 c2 : UInt8) : #[Builtin.Bytes.toUpper (hexL (c0.toNat / 16)).toUInt8, Builtin.Bytes.toUpper (hexL (c0.toNat % 16)).toUInt8, Builtin.Bytes.toUpper (hexL (c1.toNat / 16)).toUInt8, Builtin.Bytes.toUpper (hexL (c1.toNat % 16)).toUInt8, Builtin.Bytes.toUpper (hexL (c2.toNat / 16)).toUInt8, Builtin.Bytes.toUpper (hexL (c2.toNat % 16)).toUInt8]
    = #[(hexU (c0.toNat / 16)).toUInt8, (hexU (c0.toNat % 16)).toUInt8, (hexU (c1.toNat / 16)).toUInt8, (hexU (c1.toNat % 16)).toUInt8, (hexU (c2.toNat / 16)).toUInt8, (hexU (c2.toNat % 16)).toUInt8] := by
  rw [up_hex' (u8_16 c0).1, up_hex' (u8_16 c0).2, up_hex' (u8_16 c1).1, up_hex' (u8_16 c1).2, up_hex' (u8_16 c2).1, up_hex' (u8_16 c2).2]
set_option maxHeartbeats 8000000 in
theorem b16e_ok {w : World} (c0 c1 c2 : UInt8) (tk : Tok) :
    CZ 360 w 169 ⟨[.bytes #[c0, c1, c2] tk], []⟩ (fun _ v _ => ∃ t, v = .bytes #[(hexU (c0.toNat / 16)).toUInt8, (hexU (c0.toNat % 16)).toUInt8, (hexU (c1.toNat / 16)).toUInt8, (hexU (c1.toNat % 16)).toUInt8, (hexU (c2.toNat / 16)).toUInt8, (hexU (c2.toNat % 16)).toUInt8] t) := by
  dsimp only [CZ, PW]
  k_fill
  intro mean mg mb A₀ base fr s RR B X T hret
  k_dflt (refine' enterZ B X T ?k6 ?k7 ?k9 ?kB ?_ ?c2 ?c3 ?c4 ?c5 ?c6; (case c6 => decide); (case k6 => k_is); (case k7 => k_is); (case k9 => first | exact BindsTo.of_eq rfl | exact binds_K (by k_in) rfl (by k_is) rfl rfl rfl); (case c5 => decide); (case kB => exact locs rfl); (case c2 => exact rfl); (case c3 => exact rfl); (case c4 => exact rfl); k_whole)
  intro L' h' F' N'
  (try dsimp only)
  (try k_fold)
  k_steps
  all_goals ((try dsimp only); exact hret _ _ _ ⟨_, congrArg (Value.bytes · _) (b16_res c0 c1 c2)⟩ (Fr.keep (by assumption)))
end Mine
theorem Mine.F6_lines_end : True := by
  k_with_none
  trivial
end F6_text
section F1_text
open PySem PySem.W PyProof.Rows
namespace Mine
noncomputable def hexV (c : Int) : Int := if 48 ≤ c ∧ c ≤ 57 then c - 48 else if 65 ≤ c ∧ c ≤ 70 then c - 55 else if 97 ≤ c ∧ c ≤ 102 then c - 87 else 16
set_option maxHeartbeats 8000000 in
theorem hex_value_ok {w : World} (c : Int) (tk : Tok) : CZ 380 w 147 ⟨[.int c tk], []⟩ (fun _ v _ => ∃ t, v = .int (hexV c) t) := by
  dsimp only [CZ, PW]
  k_fill
  intro mean mg mb A₀ base fr s RR B X T hret
  k_dflt (refine' enterZ B X T ?k6 ?k7 ?k9 ?kB ?_ ?c2 ?c3 ?c4 ?c5 ?c6; (case c6 => decide); (case k6 => k_is); (case k7 => k_is); (case k9 => first | exact BindsTo.of_eq rfl | exact binds_K (by k_in) rfl (by k_is) rfl rfl rfl); (case c5 => decide); (case kB => exact locs rfl); (case c2 => exact rfl); (case c3 => exact rfl); (case c4 => exact rfl); k_whole)
  intro L' h' F' N'
  (try dsimp only)
  (try k_fold)
  k_steps
  all_goals (dsimp only; refine hret _ _ _ ⟨_, congrArg (Value.int · _) ?_⟩ (Fr.keep (by assumption)))
  all_goals (unfold hexV; repeat' split)
  all_goals omega
end Mine
end F1_text
section Sr_text
open PySem PySem.W PyProof.Rows PySem.Calls
namespace Mine
open Builtin
noncomputable def codeN : Array Nat := #[14, 12, 4, 1, 1, 21, 22, 48, 57, 22, 65, 70, 0, 13, 9, 21, 22, 48, 57, 22, 65, 70, 0, 1]
noncomputable def isU (c : Nat) : Prop := (48 ≤ c ∧ c ≤ 57) ∨ (65 ≤ c ∧ c ≤ 70)
theorem inset_ok {c : Nat} (h : isU c) (seen : Sre.Seen) : ∃ seen', Sre.inSet codeN c 24 5 true seen = .ok (false, seen') := by
  have e1 : Sre.inSet codeN c 24 5 true seen = if (48 ≤ c && c ≤ 57) = true then .ok (false, (seen.add 21).add 22) else (if (65 ≤ c && c ≤ 70) = true then .ok (false, ((seen.add 21).add 22).add 22) else .ok (true, (((seen.add 21).add 22).add 22).add 0)) := rfl
  rw [e1]
  rcases h with ⟨h1, h2⟩ | ⟨h1, h2⟩
  · exact ⟨_, if_pos (by simp [h1, h2])⟩
  · by_cases h9 : (decide (48 ≤ c) && decide (c ≤ 57)) = true
    · exact ⟨_, if_pos h9⟩
    · exact ⟨_, (if_neg h9).trans (if_pos (by simp [h1, h2]))⟩
theorem admitted_none (m : Sre.M) (hc : m.code = codeN) (h : ∀ i, i < m.lim → isU (m.text.getD i 0)) : ∀ (fuel s : Nat) (seen : Sre.Seen), ∃ seen', m.admitted fuel s seen = .ok (none, seen')
  | 0, s, seen => ⟨_, rfl⟩
  | fuel + 1, s, seen => by
    unfold Sre.M.admitted
    by_cases hs : s ≥ m.lim
    · exact ⟨_, if_pos hs⟩
    · rw [if_neg hs]
      obtain ⟨seen', e⟩ := inset_ok (h s (by omega)) seen
      have e' : Sre.inSet m.code (m.text.getD s 0) m.code.size 5 true seen = .ok (false, seen') := by rw [hc]; exact e
      rw [e']
      exact admitted_none m hc h fuel (s + 1) seen'
theorem search_none (text : Array Nat) (hn : 0 < text.size) (h : ∀ i, i < text.size → isU (text.getD i 0)) : ∃ m : Sre.M, Sre.forSearch codeN text 0 0 text.size false = m.say false ∧ m.outcome = none ∧ m.frames = [] := by
  have key : ∀ m : Sre.M, m.code = codeN → m.text = text → m.lim = text.size → m.outcome = none → m.frames = [] → m.hasFirstSet = true → ∃ m' : Sre.M, m.attemptFrom 0 true = m'.say false ∧ m'.outcome = none ∧ m'.frames = [] := by
    intro m h1 h2 h3 h4 h5 h6
    unfold Sre.M.attemptFrom
    rw [h6, if_neg (by decide)]
    obtain ⟨seen', e⟩ := admitted_none m h1 (by rw [h2, h3]; exact h) (m.lim + 1 - 0) 0 m.seen
    rw [e]
    exact ⟨{ m with seen := seen' }, rfl, h4, h5⟩
  unfold Sre.forSearch
  have hh : Sre.header codeN = (1, 13) := by decide
  simp only [hh]
  rw [if_neg (by rw [Bool.or_eq_true, decide_eq_true_eq, decide_eq_true_eq]; omega)]
  exact key _ rfl rfl rfl rfl rfl rfl
theorem drive_none (m : Sre.M) (h1 : m.outcome = none) (h2 : m.frames = []) : Re.reDrive (2 ^ 64) (m.say false) = pure { m.say false with outcome := some .failed } := by
  have e : (2 ^ 64 : Nat) = 18446744073709551615 + 1 := rfl
  rw [e, Re.reDrive]
  have r : (m.say false).runFor Re.reTurnSteps = { m.say false with outcome := some .failed } := by
    show Sre.M.runFor 4 (m.say false) = _
    unfold Sre.M.runFor
    rw [if_neg (by show ¬ (m.outcome.isSome = true); rw [h1]; decide)]
    have s1 : (m.say false).step = { m.say false with outcome := some .failed } := by
      unfold Sre.M.step
      rw [if_neg (by show ¬ (m.outcome.isSome = true); rw [h1]; decide)]
      show (match some false, m.frames with | some yes, [] => _ | some yes, f :: rest => _ | none, _ => _) = _
      rw [h2]; rfl
    rw [s1]; rfl
  simp only [r]
  rfl
section
variable {prog : Program} {w : World} {A : Around} {E : Value → Shared → Prop} {s : Shared}
theorem rules_loop {f : Nat → Bool} {n : Nat → String} {Q : PUnit → Shared → Prop} (h : Q () s) : ∀ l : List Nat, wpAny (model prog w) A (forIn l (PUnit.unit : PUnit) (fun i _ => do if f i = true then (do rule (n i); pure (ForInStep.yield PUnit.unit)) else pure (ForInStep.yield PUnit.unit))) Q E s
  | [] => wpAny_pure h
  | i :: l => by
    rw [List.forIn_cons]
    refine wpAny_bind ?_
    split
    · exact wpAny_bind (wpAny_rule (wpAny_pure (rules_loop h l)))
    · exact wpAny_pure (rules_loop h l)
theorem run_none {m : Sre.M} (h1 : m.outcome = none) (h2 : m.frames = []) {Q : Option Sre.M → Shared → Prop} (h : Q none s) : wpAny (model prog w) A (Re.reRunToEnd (m.say false)) Q E s := by
  unfold Re.reRunToEnd
  rw [drive_none m h1 h2]
  refine wpAny_bind (wpAny_pure ?_)
  refine wpAny_bind ?_
  exact rules_loop (f := fun i => (m.say false).seen.has i) (n := fun i => Sre.names.getD i "") (wpAny_pure h) _
theorem target_ok {P C : Addr} {o oc : Obj} {fs items : Array Value} {n : Nat} {b : Array UInt8} {t : Tok} (hp : s.heap.get? P = some o) (hd : o.data = .fields fs) (hc : s.heap.get? C = some oc) (hcd : oc.data = .seq items n)
    (h2 : Re.reRawNat (fs.getD 2 .none) = 0) (h5 : fs.getD 5 .none = .ref C) (h6 : Re.reRawNat (fs.getD 6 .none) = 1) (hi : (items.map Re.reRawOf).map (·.toNat) = codeN)
    {Q : Re.ReTarget → Shared → Prop} (h : Q { pattern := .ref P, string := .bytes b t, code := codeN, text := b.map (·.toNat), kind := 1, groups := 0, pos := 0, lim := min (2 ^ 63 - 1 : Int).toNat (b.map (·.toNat)).size } s) :
    wpAny (model prog w) A (Re.reTarget "re.Pattern.search" "search" ⟨[.ref P, .bytes b t], []⟩) Q E s := by
  unfold Re.reTarget
  have hn : Re.reNamed "re.Pattern.search" "search" ["string", "pos", "endpos"] 1 [.bytes b t] [] = pure [some (.bytes b t), none, none] := by kernel_rfl
  dsimp only
  rw [hn]
  refine wpAny_bind (wpAny_pure ?_)
  dsimp only
  refine wpAny_bind (wpAny_pure ?_)
  refine wpAny_bind (wpAny_pure ?_)
  refine wpAny_bind (wpAny_fieldsOf hp hd ?_)
  have ht : wpAny (model prog w) A (Re.reTextOf (.bytes b t)) (fun r s' => r = (b.map (·.toNat), 1) ∧ s' = s) E s := by
    unfold Re.reTextOf
    refine wpAny_bind (wpAny_pure ?_)
    dsimp only
    unfold Bytes.bufferQuiet?
    refine wpAny_bind (wpAny_bind (wpAny_attempt ?_))
    rw [KBy.buffer_eq]
    refine wpAny_pure ?_
    exact wpAny_pure (wpAny_pure ⟨rfl, rfl⟩)
  refine wpAny_bind (wpAny_mono ht (fun r s' e => ?_) fun _ _ e => e)
  obtain ⟨rfl, rfl⟩ := e
  dsimp only
  rw [h6]
  refine wpAny_bind (wpAny_pure ?_)
  rw [h2, h5]
  refine wpAny_bind ?_
  unfold Re.reRawItems
  refine wpAny_bind (wpAny_seqItems hc hcd ?_)
  refine wpAny_pure (wpAny_pure ?_)
  dsimp only [Option.getD]
  rw [hi]
  exact h
end
theorem plainAttrs_re : PlainAttrs "re.Pattern" :=
  ⟨⟨"object.__getattribute__", by rw [typeLookup_type, builtinLookup_eq_fast]; kernel_rfl, by decide +kernel⟩, by rw [typeLookup_type, builtinLookup_eq_fast]; kernel_rfl⟩
theorem owner_re : Manifest.owners.lookup "re.Pattern" = some Manifest.sig_re_Pattern := by kernel_rfl
theorem slot_re_search : Slot "re.Pattern" "search" "re.Pattern.search" :=
  .of (owner := "re.Pattern") (n := "search") (by rw [typeLookup_type, builtinLookup_eq_fast]; kernel_rfl) (by decide +kernel) (by decide +kernel) (by decide +kernel)
    (by first | exact .inl (by decide +kernel) | exact .inr (by decide +kernel)) (by rw [isSubtype_type]; kernel_rfl)
theorem type_re_search : typeOf (.builtin "re.Pattern.search") = pure (.type "method_descriptor") := by show builtinType _ = _; rw [builtinType_eq_fast]; kernel_rfl
theorem entry_re_search : entryFor table "re.Pattern.search" = some Builtin.«re.Pattern.search» := entryFor_of_tree (by kernel_rfl)
theorem args_re_search_2 (a b : Value) : argsOk "re.Pattern.search" ⟨[a, b], []⟩ := by
  unfold argsOk; rw [signature?_of (id := "re.Pattern.search") (n := ['h', 'c', 'r', 'a', 'e', 's']) (o := ['n', 'r', 'e', 't', 't', 'a', 'P', '.', 'e', 'r']) (by kernel_rfl) owner_re]; kernel_rfl
section
variable {prog : Program} {w : World} {A : Around} {E : Value → Shared → Prop} {s : Shared}
theorem call_search {P C : Addr} {o oc : Obj} {fs items : Array Value} {n : Nat} {b : Array UInt8} {t : Tok} (hp : s.heap.get? P = some o) (hcls : o.cls = .type "re.Pattern") (hd : o.data = .fields fs) (hc : s.heap.get? C = some oc) (hcd : oc.data = .seq items n)
    (h2 : Re.reRawNat (fs.getD 2 .none) = 0) (h5 : fs.getD 5 .none = .ref C) (h6 : Re.reRawNat (fs.getD 6 .none) = 1) (hi : (items.map Re.reRawOf).map (·.toNat) = codeN)
    (hn : 0 < b.size) (hsz : b.size ≤ 1000) (hb : ∀ c ∈ b.toList, isU c.toNat)
    {Q : Value → Shared → Prop} (h : Q .none s) :
    wpAny (model prog w) A (call (.builtin "re.Pattern.search") [.ref P, .bytes b t]) Q E s := by
  refine call_meets slot_re_search ⟨o, hp, hcls⟩ entry_re_search (args_re_search_2 _ _) (S := fun _ R s' => s' = s ∧ R (.ok (.ret .none)) s) (.of_wp fun prog w A R s' hS => ?_) ⟨rfl, h⟩
  obtain ⟨rfl, hR⟩ := hS
  unfold Builtin.«re.Pattern.search»
  refine wpAny_bind (target_ok hp hd hc hcd h2 h5 h6 hi ?_)
  have hl : min (2 ^ 63 - 1 : Int).toNat (b.map (·.toNat)).size = (b.map (·.toNat)).size := by
    rw [Array.size_map]
    exact Nat.min_eq_right (Nat.le_trans hsz (by decide))
  rw [hl]
  obtain ⟨m, e, h1, h2⟩ := search_none (b.map (·.toNat)) (by rw [Array.size_map]; exact hn) (fun i hi => by
    rw [Array.size_map] at hi
    have : (b.map (·.toNat)).getD i 0 = (b[i]).toNat := by simp [Array.getD, hi]
    rw [this]
    exact hb _ (by simp))
  unfold Re.reAnswer
  dsimp only
  rw [e]
  refine wpAny_bind (run_none h1 h2 ?_)
  exact wpAny_pure ⟨_, rfl, hR⟩
theorem meth_search {M : Model} {P : Addr} {o : Obj} {pl : Sem Bool} {Q : Value × List Value → Shared → Prop} (hp : s.heap.get? P = some o) (hcls : o.cls = .type "re.Pattern") (hdi : o.dict = none) (h : Q (.builtin "re.Pattern.search", [.ref P]) s) : wpAny M A (getMethod (.ref P) "search" pl) Q E s :=
  getMethod_builtin ⟨o, hp, hcls⟩ plainAttrs_re slot_re_search type_re_search (fun _ e => by cases e; exact ⟨o, hp, hdi⟩) h
end
end Mine
end Sr_text
section F7_text
open PySem PySem.W PyProof.Rows PySem.Calls
namespace Mine
theorem upper_eq4 (c0 c1 c2 c3 : UInt8) (t : Tok) : Builtin.«bytes.upper» ⟨[.bytes #[c0, c1, c2, c3] t], []⟩ =
    (do ret (← mkBytes #[Builtin.Bytes.toUpper c0, Builtin.Bytes.toUpper c1, Builtin.Bytes.toUpper c2, Builtin.Bytes.toUpper c3])) := by kernel_rfl
theorem hexV_U {u : UInt8} {d : Nat} (h : u.toNat = hexU d) (hd : d < 16) : hexV (u.toNat : Int) = (d : Int) := by
  rw [h]; unfold hexU hexV; split <;> (repeat' split) <;> omega
theorem hexU_isU {u : UInt8} {d : Nat} (h : u.toNat = hexU d) (hd : d < 16) : isU u.toNat := by
  rw [h]; unfold hexU isU; split <;> omega
theorem hexd_ok {w : World} {u : UInt8} {d : Nat} (h : u.toNat = hexU d) (hd : d < 16) (tk : Tok) : CZ 380 w 147 ⟨[.int (u.toNat : Int) tk], []⟩ (fun _ v _ => ∃ t, v = .int (d : Int) t) := by
  have := hex_value_ok (w := w) (u.toNat : Int) tk
  rw [hexV_U h hd] at this
  exact this
section
variable {prog : Program} {w : World} {A : Around} {E : Value → Shared → Prop} {s : Shared} {Q : Value → Shared → Prop} {t u : Tok} {a : Int}
theorem call_upper4 {c0 c1 c2 c3 v0 v1 v2 v3 : UInt8} (h0 : Builtin.Bytes.toUpper c0 = v0) (h1 : Builtin.Bytes.toUpper c1 = v1) (h2 : Builtin.Bytes.toUpper c2 = v2) (h3 : Builtin.Bytes.toUpper c3 = v3)
    (h : ∀ t', Q (.bytes #[v0, v1, v2, v3] t') { s with toks := s.toks + 1 }) :
    wpAny (model prog w) A (call (.builtin "bytes.upper") [.bytes #[c0, c1, c2, c3] t]) Q E s := by
  subst h0 h1 h2 h3
  refine call_meets slot_bytes_upper (typeIs_bytes _ _ _) entry_bytes_upper (args_bytes_upper_1 _) (S := fun _ R s => ∀ t', R (.ok (.ret (.bytes #[Builtin.Bytes.toUpper c0, Builtin.Bytes.toUpper c1, Builtin.Bytes.toUpper c2, Builtin.Bytes.toUpper c3] t'))) { s with toks := s.toks + 1 }) (.of_wp fun prog w A R s hS => ?_) h
  rw [upper_eq4]
  exact wpAny_bind (wpAny_mkBytes (wpAny_pure ⟨_, rfl, hS _⟩) (by show 4 ≤ _; decide))
theorem lsh_4 (ha : a.natAbs < 2 ^ 64) (h : Q (.int (a * 16) s.toks) { s with toks := s.toks + 1 }) : wpAny (model prog w) A (binaryOp .LShift (.int a t) (.int 4 u)) Q E s :=
  lshift_int_small (by decide) (by decide) ha h
end
theorem F7_lines1 : True := by
  k_with_none
  k_with "call type:type" => ((with_reducible show wpAny _ _ (call _ [Value.bytes _ _]) _ _ _); refine call_type_of (Tx := "bytes") rfl (by decide +kernel) ?_)
  trivial
theorem re_at {P : Params} {h : Heap} (X : (KX P).In h) : h.get? 81 = some (hB.o_128 P) := X _ _ (by rfl)
theorem code_at {P : Params} {h : Heap} (X : (KX P).In h) : h.get? 80 = some (hB.o_127 P) := X _ _ (by rfl)
theorem search4 {prog : Program} {w : World} {A : Around} {E : Value → Shared → Prop} {s : Shared} {Q : Value → Shared → Prop} {t : Tok} {P : Params} {v0 v1 v2 v3 : UInt8} {d0 d1 d2 d3 : Nat} (X : (KX P).In s.heap) (V0 : v0.toNat = hexU d0) (V1 : v1.toNat = hexU d1) (V2 : v2.toNat = hexU d2) (V3 : v3.toNat = hexU d3) (D0 : d0 < 16) (D1 : d1 < 16) (D2 : d2 < 16) (D3 : d3 < 16)
    (h : Q .none s) : wpAny (model prog w) A (call (.builtin "re.Pattern.search") [.ref 81, .bytes #[v0, v1, v2, v3] t]) Q E s :=
  call_search (re_at X) rfl rfl (code_at X) rfl rfl rfl rfl (by decide +kernel) (by show 0 < 4; decide) (by show 4 ≤ 1000; decide) (by
    intro c hc
    simp only [List.mem_cons, List.not_mem_nil, or_false] at hc
    rcases hc with rfl | rfl | rfl | rfl
    · exact hexU_isU V0 D0
    · exact hexU_isU V1 D1
    · exact hexU_isU V2 D2
    · exact hexU_isU V3 D3) h
theorem F7_lines2 : True := by
  k_with "getMethod ref" => (k_here; refine meth_search (re_at (Frag.In.keeps (by k_asm) (Fr.keep (by k_asm)))) rfl rfl ?_)
  k_with "call builtin:re.Pattern.search" => (k_here; refine search4 (Frag.In.keeps (by k_asm) (Fr.keep (by k_asm))) (by assumption) (by assumption) (by assumption) (by assumption) (by assumption) (by assumption) (by assumption) (by assumption) ?_; (try dsimp only))
  trivial
theorem len_bytes_is {prog : Program} {w : World} {A : Around} {E : Value → Shared → Prop} {s : Shared} {b : Array UInt8} {t : Tok} {n : Int} {Q : Value → Shared → Prop} (hn : (b.size : Int) = n) (hfit : n ≤ 1000)
    (h : Q (.int n (s.toks + 1)) { s with toks := s.toks + 1 + 1 }) : wpAny (model prog w) A (call (.builtin "len") [.bytes b t]) Q E s := by
  subst hn
  exact KBw.len_K (ks := KBw.bInts b) rfl (by rw [KBw.ints_length]; omega) (by rw [KBw.ints_length]; exact h)
theorem F7_lines3 : True := by
  k_with "call builtin:len" => ((with_reducible show wpAny _ _ (call _ [Value.bytes _ _]) _ _ _); refine len_bytes_is (n := 4) rfl (by decide) ?_; (try dsimp only))
  k_with "getMethod bytes" => (k_here; (with_reducible refine meth_upper ?_))
  k_with "call builtin:bytes.upper" => (k_here; refine call_upper4 (by assumption) (by assumption) (by assumption) (by assumption) ?_; intro _; (try dsimp only))
  k_with "binaryOp LShift int int" => ((with_reducible refine lsh_4 (by omega) ?_); (try dsimp only))
  k_with "call ref" => (k_here; k_dflt (refine' useZ (hexd_ok (by assumption) (by assumption) _) ?zh0 ?zh1 ?zh2 ?zh3 ?zh4 ?zhB ?zhF ?zhf ?zhke ?zhX ?zhN ?zhT ?_; (case zh0 => rfl); (case zh1 => exact Nat.le_of_ble_eq_true rfl); (case zh2 => exact rfl); (case zh3 => exact rfl); (case zh4 => exact Nat.le_of_ble_eq_true rfl); (case zhB => k_asm); (case zhF => k_asm); (case zhf => exact rfl); (case zhke => exact rfl); (case zhX => k_asm); (case zhN => k_asm); (case zhT => k_asm)); intro v9 h9 tk9 hv9 F9 N9; obtain ⟨t9, hv9⟩ := hv9; subst hv9; (try dsimp only))
  trivial
theorem in2 {a b : Int} (h0 : 0 ≤ a) (h1 : a < 256) (h2 : 0 ≤ b) (h3 : b < 256) : KBa.In [a, b] := by
  intro n hn
  simp only [List.mem_cons, List.not_mem_nil, or_false] at hn
  rcases hn with rfl | rfl
  · exact ⟨h0, h1⟩
  · exact ⟨h2, h3⟩
theorem ints2 {a b : Int} {t1 t2 : Tok} : IntsAre ((#[].push (Value.int a t1)).toList.concat (Value.int b t2)) [a, b] := by
  simp only [List.concat_eq_append, Array.toList_push, List.nil_append, List.cons_append]
  repeat constructor
theorem F7_lines4 : True := by
  k_with "call type:bytes" => (k_here; (with_reducible show wpAny _ _ (call (Value.type "bytes") [Value.ref _]) _ _ _); k_dflt (refine' KBa.make_K ?zkbaF ?zkbaN ?zkbah ?zkbal ?zkbai ?zkbar ?zkban ?_; (case zkbaF => k_asm); (case zkbaN => k_asm); (case zkbah => rfl); (case zkbal => kba_isList); (case zkbai => exact ints2); (case zkbar => (exact in2 (by omega) (by omega) (by omega) (by omega))); (case zkban => exact (by decide : 2 ≤ 16777216))); intro _ _ _ F' N' _; (try dsimp only))
  trivial
set_option maxHeartbeats 8000000 in
theorem b16d_false {w : World} (v0 v1 v2 v3 : UInt8) (d0 d1 d2 d3 : Nat) (V0 : v0.toNat = hexU d0) (V1 : v1.toNat = hexU d1) (V2 : v2.toNat = hexU d2) (V3 : v3.toNat = hexU d3) (D0 : d0 < 16) (D1 : d1 < 16) (D2 : d2 < 16) (D3 : d3 < 16) (tk : Tok) : CZ 340 w 177 ⟨[.bytes #[v0, v1, v2, v3] tk], [(Str.ofString "casefold", .bool false)]⟩ (fun _ v _ => ∃ t, v = .bytes (byteArr [(d0 : Int) * 16 + d1, (d2 : Int) * 16 + d3]) t) := by
  dsimp only [CZ, PW]
  k_fill
  intro mean mg mb A₀ base fr s RR B X T hret
  k_dflt (refine' enterZ B X T ?k6 ?k7 ?k9 ?kB ?_ ?c2 ?c3 ?c4 ?c5 ?c6; (case c6 => decide); (case k6 => k_is); (case k7 => k_is); (case k9 => first | exact BindsTo.of_eq rfl | exact binds_K (by k_in) rfl (by k_is) rfl rfl rfl); (case c5 => decide); (case kB => exact locs rfl); (case c2 => exact rfl); (case c3 => exact rfl); (case c4 => exact rfl); k_whole)
  intro L' h' F' N'
  (try dsimp only)
  (try k_fold)
  k_steps
  all_goals ((try dsimp only); exact hret _ _ _ ⟨_, rfl⟩ (Fr.keep (by assumption)))
set_option maxHeartbeats 8000000 in
theorem b16d_true {w : World} (u0 u1 u2 u3 v0 v1 v2 v3 : UInt8) (d0 d1 d2 d3 : Nat) (U0 : Builtin.Bytes.toUpper u0 = v0) (U1 : Builtin.Bytes.toUpper u1 = v1) (U2 : Builtin.Bytes.toUpper u2 = v2) (U3 : Builtin.Bytes.toUpper u3 = v3) (V0 : v0.toNat = hexU d0) (V1 : v1.toNat = hexU d1) (V2 : v2.toNat = hexU d2) (V3 : v3.toNat = hexU d3) (D0 : d0 < 16) (D1 : d1 < 16) (D2 : d2 < 16) (D3 : d3 < 16) (tk : Tok) : CZ 340 w 177 ⟨[.bytes #[u0, u1, u2, u3] tk], [(Str.ofString "casefold", .bool true)]⟩ (fun _ v _ => ∃ t, v = .bytes (byteArr [(d0 : Int) * 16 + d1, (d2 : Int) * 16 + d3]) t) := by
  dsimp only [CZ, PW]
  k_fill
  intro mean mg mb A₀ base fr s RR B X T hret
  k_dflt (refine' enterZ B X T ?k6 ?k7 ?k9 ?kB ?_ ?c2 ?c3 ?c4 ?c5 ?c6; (case c6 => decide); (case k6 => k_is); (case k7 => k_is); (case k9 => first | exact BindsTo.of_eq rfl | exact binds_K (by k_in) rfl (by k_is) rfl rfl rfl); (case c5 => decide); (case kB => exact locs rfl); (case c2 => exact rfl); (case c3 => exact rfl); (case c4 => exact rfl); k_whole)
  intro L' h' F' N'
  (try dsimp only)
  (try k_fold)
  k_steps
  all_goals ((try dsimp only); exact hret _ _ _ ⟨_, rfl⟩ (Fr.keep (by assumption)))
end Mine
theorem Mine.F7_lines_end : True := by
  k_with_none
  trivial
end F7_text
section L0_text
open PySem PySem.W PyProof.Rows
namespace Mine
noncomputable def LawIs (w : World) (qual : Str) (body : List Stmt) (scope : Scope) (cdv : Value) : Prop :=
  ∃ name params dV kV doc pm an ct oc od osl, (KX w.params).lookup 239 = some ⟨oc, od, .func (fnOf name qual params body scope dV kV doc pm an cdv ct), osl⟩
theorem law_elim {w : World} {P : Str → List Stmt → Scope → Value → Prop} {name qual : Str} {params : Arguments} {body : List Stmt} {scope : Scope} {dV kV doc pm cdv ct oc : Value} {an od : Option Addr} {osl : Array (Option Value)}
    (h : (KX w.params).lookup 239 = some ⟨oc, od, .func (fnOf name qual params body scope dV kV doc pm an cdv ct), osl⟩) (hP : P qual body scope cdv) {q : Str} {b : List Stmt} {sc : Scope} {cd : Value} (L : LawIs w q b sc cd) : P q b sc cd := by
  obtain ⟨name', params', dV', kV', doc', pm', an', ct', oc', od', osl', h'⟩ := L
  rw [h] at h'
  cases h'
  exact hP
noncomputable def forBody (l : List Stmt) : List Stmt := match l.drop 3 with
  | .For _ _ b _ _ :: _ => b
  | _ => []
noncomputable def innerFor (l : List Stmt) : List Stmt := match (forBody l).drop 11 with
  | .For _ _ b _ _ :: _ => b
  | _ => []
noncomputable abbrev lawE (qual : Str) (scope : Scope) (cdv : Value) : Env := envOfC qual scope 241 239 cdv
theorem execs_app' {M : Model} {A : Around} {env : Env} {E : Value → Shared → Prop} {Q : Flow → Shared → Prop} {b : List Stmt} {Γ : Ctx} (hΓ : Γ.In A) : ∀ {a : List Stmt} {p : Pos} {s : Shared},
    Sem.wp M Γ (execs a env) (fun fl _ s' => match fl with | .next => wpAny M A (execs b env) Q E s' | fl => Q fl s') (fun e _ s' => E e s') p s → Sem.wp M Γ (execs (a ++ b) env) (fun fl _ s' => Q fl s') (fun e _ s' => E e s') p s
  | [], p, s, h => by
    have h' : wpAny M A (execs b env) Q E s := h
    exact h' Γ p hΓ
  | st :: a, p, s, h => by
    have h' : Sem.wp M Γ (exec st env >>= fun f => match f with | .next => execs a env | f => pure f) (fun fl _ s' => match fl with | .next => wpAny M A (execs b env) Q E s' | fl => Q fl s') (fun e _ s' => E e s') p s := h
    show Sem.wp M Γ (exec st env >>= fun f => match f with | .next => execs (a ++ b) env | f => pure f) _ _ p s
    rw [Sem.wp_bind'] at h' ⊢
    refine Sem.wp_mono M Γ _ (fun fl p' s' h2 => ?_) (fun _ _ _ h' => h') p s h'
    cases fl with
    | next => exact execs_app' hΓ h2
    | brk => exact h2
    | cont => exact h2
    | ret v => exact h2
theorem execs_app {M : Model} {A : Around} {env : Env} {E : Value → Shared → Prop} {Q : Flow → Shared → Prop} {a b : List Stmt} {s : Shared} (h : wpAny M A (execs a env) (fun fl s' => match fl with | .next => wpAny M A (execs b env) Q E s' | fl => Q fl s') E s) : wpAny M A (execs (a ++ b) env) Q E s :=
  fun Γ p hΓ => execs_app' hΓ (h Γ p hΓ)
end Mine
end L0_text
section L1_text
open PySem PySem.W PyProof.Rows
namespace Mine
noncomputable def numOf (x : Int) : Int := if Int.fmod x 4 = 0 then Int.fmod (Int.fdiv x 4) 16777216 else (if Int.fmod x 4 = 1 then 55292 else if Int.fmod x 4 = 2 then 57340 else 1114108) + Int.fmod (Int.fdiv x 4) 8
noncomputable def ChunkA (w : World) (qual : Str) (body : List Stmt) (scope : Scope) (cdv : Value) : Prop :=
  ∀ (mean : ExcName → Option Value) (mg mb : Str → Option Value) (base : Heap) (s : Shared) (m : Str → Option Value) (news : List (Addr × Obj)) (x : Int) (t : Tok) (Q : Flow → Shared → Prop) (E : Value → Shared → Prop),
    Below (topZ 301 []) base [] base → (KX w.params).In base → Top vR loose mean mg mb base → Fr base 241 s.heap m → News base 241 s.heap news → m "x" = some (.int x t) →
    (∀ h' tk' m' n t', Fr base 241 h' m' → News base 241 h' news → m' "x" = some (.int x t) → m' "number" = some (.int n t') → n = numOf x → Q .next { s with heap := h', toks := tk' }) →
      wpAny (model PW w) ((topZ 301 []).deeper (lawE qual scope cdv)) (execs ((forBody body).take 2) (lawE qual scope cdv)) Q E s
theorem L1_lines1 : True := by
  k_with_none
  k_with "eval Name" => (k_here; k_dflt (refine' nameX_L ?zk1 ?zk2 ?_ ?za ?zb ?zc; (case za => rfl); (case zb => rfl); (case zc => decide); (case zk1 => k_asm); (case zk2 => first | exact rfl | assumption); k_whole); (try dsimp only))
  trivial
theorem mod_r {prog : Program} {w : World} {A : Around} {E : Value → Shared → Prop} {s : Shared} {a r : Int} {t u : Tok} {Q : Value → Shared → Prop} (h : Int.fmod a 4 = r) (k : Q (.int r s.toks) { s with toks := s.toks + 1 }) : wpAny (model prog w) A (binaryOp .Mod (.int a t) (.int 4 u)) Q E s :=
  mod_int' (by decide) (by rw [h]; exact k)
theorem L1_lines2 : True := by
  k_with "binaryOp Mod int int" => ((with_reducible refine mod_r (by assumption) ?_); (try dsimp only))
  k_with "subscriptTail" => (k_here; (with_reducible show wpAny _ _ (subscriptTail _ _ (Value.ref _) (Value.int _ _)) _ _ _); k_dflt (refine' item_listL (l := [_, _, _]) ?za ?zb ?zc ?zd ?_ ?ze ?zf; (case za => is_list); (case zb => decide); (case zc => decide); (case zd => rfl); (case ze => with_unfolding_all rfl); (case zf => intro _; with_unfolding_all rfl)); (try dsimp only))
  trivial
set_option maxHeartbeats 8000000 in
theorem chunkA {w : World} {qual : Str} {body : List Stmt} {scope : Scope} {cdv : Value} (L : LawIs w qual body scope cdv) : ChunkA w qual body scope cdv := by
  revert L
  dsimp only [LawIs, ChunkA, PW]
  k_fill
  intro L
  k_dflt (refine' law_elim (P := ChunkA w) ?h ?hP L; (case h => k_is))
  dsimp only [ChunkA, PW]
  intro mean mg mb base s m news x t Q E B X T F N hx k
  dsimp only [forBody, List.drop, List.take]
  (try k_fold)
  have h03 : Int.fmod x 4 = 0 ∨ Int.fmod x 4 = 1 ∨ Int.fmod x 4 = 2 ∨ Int.fmod x 4 = 3 := by
    have e1 : Int.fmod x 4 = x % 4 := Int.fmod_eq_emod_of_nonneg x (by decide)
    omega
  rcases h03 with h4 | h4 | h4 | h4
  all_goals k_steps
  all_goals ((try dsimp only); refine k _ _ _ _ _ (by k_asm) (by first | k_asm | exact fun p hp => (by k_asm : News _ _ _ (_ :: news)) p (List.mem_cons_of_mem _ hp)) (by exact hx) (by exact rfl) ?_)
  all_goals (unfold numOf; simp [h4]; done)
end Mine
theorem Mine.L1_lines_end : True := by
  k_with_none
  trivial
end L1_text
section L2_text
open PySem PySem.W PyProof.Rows
namespace Mine
section
variable {prog : Program} {w : World} {A : Around} {E : Value → Shared → Prop} {s : Shared} {a b r : Int} {t u : Tok} {Q : Value → Shared → Prop}
theorem fdiv_g (hb : b ≠ 0) (hp : Builtin.divisionGoesByPylong a b = false) (h : Int.fdiv a b = r) (k : Q (.int r s.toks) { s with toks := s.toks + 1 }) : wpAny (model prog w) A (binaryOp .FloorDiv (.int a t) (.int b u)) Q E s :=
  floordiv_int hb (by rw [h]; exact k) (.inl hp)
theorem mod_g (hb : b ≠ 0) (h : Int.fmod a b = r) (k : Q (.int r s.toks) { s with toks := s.toks + 1 }) : wpAny (model prog w) A (binaryOp .Mod (.int a t) (.int b u)) Q E s :=
  mod_int' hb (by rw [h]; exact k)
theorem in3 {a b c : Int} (h0 : 0 ≤ a ∧ a < 256) (h1 : 0 ≤ b ∧ b < 256) (h2 : 0 ≤ c ∧ c < 256) : KBa.In [a, b, c] := by
  intro n hn
  simp only [List.mem_cons, List.not_mem_nil, or_false] at hn
  rcases hn with rfl | rfl | rfl <;> assumption
theorem store_cell {h₀ : Heap} {L : Addr} {m : Str → Option Value} {rest : List (Addr × Obj)} {f c : Addr} {cn : Str} {cs : Scope} {ccd : Value} {cl : List (Str × Addr)} {x : Str} {o : Obj} {v : Value} {v₀ : Option Value} {M : Model} {Q : Unit → Shared → Prop}
    (F : Fr h₀ L s.heap m) (hr : ∀ p ∈ rest, p.1 ≠ c) (hd : o.data = .cell v₀) (N : News h₀ L s.heap ((c, o) :: rest)) (hc : cl.lookup x = some c)
    (h : ∀ h' o', Fr h₀ L h' m → News h₀ L h' ((c, o') :: rest) → o'.data = .cell (some v) → Q () { s with heap := h' })
    (hk : cs.kind = .function) (hx : (envX cn cs L f ccd cl).kindOf x = some .cell) : wpAny M A (storeName (envX cn cs L f ccd cl) x v) Q E s :=
  storeX_C F N hc (UpdF.head hr) hd h hk hx
end
theorem L2_lines1 : True := by
  k_with_none
  k_with "eval Name" => (k_here; k_dflt (refine' nameX_L ?zk1 ?zk2 ?_ ?za ?zb ?zc; (case za => rfl); (case zb => rfl); (case zc => decide); (case zk1 => k_asm); (case zk2 => first | exact rfl | assumption); k_whole); (try dsimp only))
  k_with "binaryOp FloorDiv int int" => ((with_reducible refine fdiv_g (by decide) (by assumption) (by assumption) ?_); (try dsimp only))
  k_with "binaryOp Mod int int" => ((with_reducible refine mod_g (by decide) (by assumption) ?_); (try dsimp only))
  k_with "call type:bytes" => (k_here; (with_reducible show wpAny _ _ (call (Value.type "bytes") [Value.ref _]) _ _ _); k_dflt (refine' KBa.make_K ?zkbaF ?zkbaN ?zkbah ?zkbal ?zkbai ?zkbar ?zkban ?_; (case zkbaF => k_asm); (case zkbaN => k_asm); (case zkbah => rfl); (case zkbal => kba_isList); (case zkbai => kba_listInts); (case zkbar => exact in3 (by assumption) (by assumption) (by assumption)); (case zkban => exact (by decide : 3 ≤ 16777216))); intro _ _ _ F' N' _; (try dsimp only))
  k_with "call ref" => (k_here; (with_reducible show wpAny _ _ (call (Value.ref 162) _ _) _ _ _); k_dflt (refine' useZ (b64_3_ok _ _ _ _ (by assumption) _) ?zh0 ?zh1 ?zh2 ?zh3 ?zh4 ?zhB ?zhF ?zhf ?zhke ?zhX ?zhN ?zhT ?_; (case zh0 => rfl); (case zh1 => exact Nat.le_of_ble_eq_true rfl); (case zh2 => exact rfl); (case zh3 => exact rfl); (case zh4 => exact Nat.le_of_ble_eq_true rfl); (case zhB => k_asm); (case zhF => k_asm); (case zhf => exact rfl); (case zhke => exact rfl); (case zhX => k_asm); (case zhN => k_asm); (case zhT => k_asm)); intro v9 h9 tk9 hv9 F9 N9; obtain ⟨t9, hv9⟩ := hv9; subst hv9; (try dsimp only))
  k_with "call ref" => (k_here; (with_reducible show wpAny _ _ (call (Value.ref 227) _ _) _ _ _); k_dflt (refine' useZ (text4 _ _ _ _ _ (KBa.ints_make in_sig4) _) ?zh0 ?zh1 ?zh2 ?zh3 ?zh4 ?zhB ?zhF ?zhf ?zhke ?zhX ?zhN ?zhT ?_; (case zh0 => rfl); (case zh1 => exact Nat.le_of_ble_eq_true rfl); (case zh2 => exact rfl); (case zh3 => exact rfl); (case zh4 => exact Nat.le_of_ble_eq_true rfl); (case zhB => k_asm); (case zhF => k_asm); (case zhf => exact rfl); (case zhke => exact rfl); (case zhX => k_asm); (case zhN => k_asm); (case zhT => k_asm)); intro v9 h9 tk9 hv9 F9 N9; obtain ⟨t9, hv9⟩ := hv9; subst hv9; (try dsimp only))
  k_with "storeName" => (k_here; k_dflt (refine' store_cell (by k_asm) (by assumption) (by assumption) ?zN ?zhc ?_ ?zhk ?zhx; (case zN => exact fun p hp => (by k_asm : News _ _ _ _) p (by first | exact hp | exact List.mem_cons_of_mem _ hp)); (case zhc => exact rfl); (case zhk => exact rfl); (case zhx => exact rfl)); intro h9 o9 F9 N9 d9; (try dsimp only))
  trivial
noncomputable def ChunkB (w : World) (qual : Str) (body : List Stmt) (scope : Scope) (cdv : Value) : Prop :=
  ∀ (mean : ExcName → Option Value) (mg mb : Str → Option Value) (base : Heap) (s : Shared) (m : Str → Option Value) (Q : Flow → Shared → Prop) (E : Value → Shared → Prop) (rest : List (Addr × Obj)) (cle : Obj) (x N a b c q : Int) (t tn : Tok) (v0 : Option Value),
    Below (topZ 301 []) base [] base → (KX w.params).In base → Top vR loose mean mg mb base → Fr base 241 s.heap m → News base 241 s.heap ((243, cle) :: rest) → (∀ p ∈ rest, p.1 ≠ 243) → cle.data = .cell v0 → m "x" = some (.int x t) → m "number" = some (.int N tn) →
    Builtin.divisionGoesByPylong N 65536 = false → Builtin.divisionGoesByPylong N 256 = false → Int.fdiv N 65536 = a → Int.fdiv N 256 = q → Int.fmod q 256 = b → Int.fmod N 256 = c → (0 ≤ a ∧ a < 256) → (0 ≤ b ∧ b < 256) → (0 ≤ c ∧ c < 256) → KBw.bInts (byteArr [a, b, c]) = [a, b, c] →
    (∀ h' tk' m' cle' to tl, Fr base 241 h' m' → News base 241 h' ((243, cle') :: rest) → cle'.data = .cell (some (.str ⟨#[(sig (a / 4)).toNat, (sig (a % 4 * 16 + b / 16)).toNat, (sig (b % 16 * 4 + c / 64)).toNat, (sig (c % 64)).toNat]⟩ tl)) →
      m' "x" = some (.int x t) → m' "number" = some (.int N tn) → m' "octets" = some (.bytes (byteArr [a, b, c]) to) → Q .next { s with heap := h', toks := tk' }) →

      wpAny (model PW w) ((topZ 301 []).deeper (lawE qual scope cdv)) (execs (((forBody body).drop 2).take 2) (lawE qual scope cdv)) Q E s
set_option maxHeartbeats 8000000 in
theorem chunkB {w : World} {qual : Str} {body : List Stmt} {scope : Scope} {cdv : Value} (L : LawIs w qual body scope cdv) : ChunkB w qual body scope cdv := by
  revert L
  dsimp only [LawIs, ChunkB, PW]
  k_fill
  intro L
  k_dflt (refine' law_elim (P := ChunkB w) ?h ?hP L; (case h => k_is))
  dsimp only [ChunkB, PW]
  intro mean mg mb base s m Q E rest cle x N a b c q t tn v0 B X T F N0 hr hd hx hn p1 p2 e1 e2 e3 e4 ha hb hc hbi k
  dsimp only [innerFor, forBody, List.drop, List.take]
  (try k_fold)
  k_steps
  all_goals ((try dsimp only); exact k _ _ _ _ _ _ (by k_asm) (by k_asm) (by assumption) (by exact hx) (by exact hn) (by exact rfl))
end Mine
theorem Mine.L2_lines_end : True := by
  k_with_none
  trivial
end L2_text
section L3_text
open PySem PySem.W PyProof.Rows
namespace Mine
noncomputable def FitsIs (w : World) (p : Str × Str × Str × Str) (x : Str) (b : Bool) : Prop := ∀ (D : Addr) (t0 t1 t2 t3 : Tok) (tk : Tok), CP 370 w 222 ⟨[.ref D, .str x tk], []⟩ (fun h => h.IsList D [.str p.1 t0, .str p.2.1 t1, .str p.2.2.1 t2, .str p.2.2.2 t3].toArray) (fun _ v _ => v = .bool b)
noncomputable abbrev rowO (p : Str × Str × Str × Str) (t0 t1 t2 t3 : Tok) (n : Nat) : Obj := { cls := .type "list", data := .seq [.str p.1 t0, .str p.2.1 t1, .str p.2.2.1 t2, .str p.2.2.2 t3].toArray n }
noncomputable abbrev refsO (a0 a1 a2 a3 : Addr) (n : Nat) : Obj := { cls := .type "list", data := .seq [.ref a0, .ref a1, .ref a2, .ref a3].toArray n }
theorem scal_is {w : World} {n : Int} {b : Bool} (h : isScal n = b) (tk : Tok) : CZ 370 w 76 ⟨[.int n tk], []⟩ (fun _ v _ => v = .bool b) := h ▸ scal_ok n tk
theorem L3_lines1 : True := by
  k_with_none
  k_with "eval Name" => (k_here; k_dflt (refine' nameX_L ?zk1 ?zk2 ?_ ?za ?zb ?zc; (case za => rfl); (case zb => rfl); (case zc => decide); (case zk1 => k_asm); (case zk2 => first | exact rfl | assumption); k_whole); (try dsimp only))
  k_with "call ref" => (k_here; (with_reducible show wpAny _ _ (call (Value.ref 76) _ _) _ _ _); k_dflt (refine' useZ (scal_is (by assumption) _) ?zh0 ?zh1 ?zh2 ?zh3 ?zh4 ?zhB ?zhF ?zhf ?zhke ?zhX ?zhN ?zhT ?_; (case zh0 => rfl); (case zh1 => exact Nat.le_of_ble_eq_true rfl); (case zh2 => exact rfl); (case zh3 => exact rfl); (case zh4 => exact Nat.le_of_ble_eq_true rfl); (case zhB => k_asm); (case zhF => k_asm); (case zhf => exact rfl); (case zhke => exact rfl); (case zhX => k_asm); (case zhN => k_asm); (case zhT => k_asm)); intro v9 h9 tk9 hv9 F9 N9; subst hv9; (try dsimp only))
  trivial
theorem useFits {w : World} {p : Str × Str × Str × Str} {xx : Str} {b : Bool} {D : Addr} {t0 t1 t2 t3 tk : Tok}
    {mean : ExcName → Option Value} {mg mb : Str → Option Value} {A A₀ : Around} {base h₀ : Heap} {outer : List Env} {env : Env} {L : Addr} {m : Str → Option Value} {news : List (Addr × Obj)} {s : Shared} {Q : Value → Shared → Prop} {E : Value → Shared → Prop}
    (hp : s.heap.IsList D [.str p.1 t0, .str p.2.1 t1, .str p.2.2.1 t2, .str p.2.2.2 t3].toArray) (C : FitsIs w p xx b)
    (h0 : A.handled = none) (h1 : A.depth ≤ 370) (h2 : A.frames = some (env :: outer)) (h3 : A.guards = some []) (h4 : A.units ≤ 10 * 370)
    (B : Below A₀ base outer h₀) (F : Fr h₀ L s.heap m) (hf : env.frame = some L) (hke : env.scope.kind = .function) (X : (KX w.params).In h₀) (N : News h₀ L s.heap news) (T : Top vR loose mean mg mb h₀)
    (h : ∀ h' tk', Fr h₀ L h' m → News h₀ L h' news → Q (.bool b) { s with heap := h', toks := tk' }) : wpAny (model PW w) A (call (.ref 222) [.ref D, .str xx tk]) Q E s :=
  useP (C D t0 t1 t2 t3 tk) h0 h1 h2 h3 h4 B F hf hke X N T hp fun v h' tk' e F' N' => by subst e; exact h h' tk' F' N'
theorem L3_lines2 : True := by
  k_with "call ref" => (k_here; (with_reducible show wpAny _ _ (call (Value.ref 222) _ _) _ _ _); k_dflt (refine' useFits (News.isList (by k_asm) (by k_mem)) (by assumption) ?zh0 ?zh1 ?zh2 ?zh3 ?zh4 ?zhB ?zhF ?zhf ?zhke ?zhX ?zhN ?zhT ?_; (case zh0 => rfl); (case zh1 => exact Nat.le_of_ble_eq_true rfl); (case zh2 => exact rfl); (case zh3 => exact rfl); (case zh4 => exact Nat.le_of_ble_eq_true rfl); (case zhB => k_asm); (case zhF => k_asm); (case zhf => exact rfl); (case zhke => exact rfl); (case zhX => k_asm); (case zhN => k_asm); (case zhT => k_asm)); intro h9 tk9 F9 N9; (try dsimp only))
  k_with "subscriptTail Name Name ref int" => (k_here; k_dflt (refine' item_listL (l := [_, _, _, _]) ?za ?zb ?zc ?zd ?_ ?ze ?zf; (case za => exact News.isList (by k_asm) (by k_mem)); (case zb => decide); (case zc => decide); (case zd => exact rfl); (case ze => with_unfolding_all rfl); (case zf => intro _; with_unfolding_all rfl)); (try dsimp only))
  k_with "CompEnd" => (k_dflt (refine' LCg.CompEnd.intro ?zF ?zN _ (fun p hp => hp) ?zoff ?zS ?_; (case zF => k_asm); (case zN => k_asm); (case zoff => (simp only [LCg.Off3, and_true]; assumption)); (case zS => exact trivial)); (try dsimp only [List.nil_append, List.cons_append]))
  trivial
noncomputable def ChunkCn (w : World) (qual : Str) (body : List Stmt) (scope : Scope) (cdv : Value) : Prop :=
  ∀ (mean : ExcName → Option Value) (mg mb : Str → Option Value) (base : Heap) (s : Shared) (m : Str → Option Value) (Q : Flow → Shared → Prop) (E : Value → Shared → Prop) (rest : List (Addr × Obj)) (cr cle : Obj) (lt : Str) (p0 p1 p2 : Str × Str × Str × Str) (a0 a1 a2 a3 : Addr) (nr n0 n1 n2 : Nat) (u0 u1 u2 u3 v0 v1 v2 v3 w0 w1 w2 w3 : Tok) (x N : Int) (o : Array UInt8) (t tn to tl : Tok),
    Below (topZ 301 []) base [] base → (KX w.params).In base → Top vR loose mean mg mb base → Fr base 241 s.heap m → News base 241 s.heap ((242, cr) :: (243, cle) :: (253, refsO a0 a1 a2 a3 nr) :: (a0, rowO p0 u0 u1 u2 u3 n0) :: (a1, rowO p1 v0 v1 v2 v3 n1) :: (a2, rowO p2 w0 w1 w2 w3 n2) :: rest) →
    cr.data = .cell (some (.ref 253)) → cle.data = .cell (some (.str lt tl)) → m "x" = some (.int x t) → m "number" = some (.int N tn) → m "octets" = some (.bytes o to) → FitsIs w p0 lt false → FitsIs w p1 lt false → FitsIs w p2 lt false → isScal N = true →
    (∀ h' tk' m' (F : Addr), Fr base 241 h' m' → News base 241 h' ((F, LCg.lst []) :: (242, cr) :: (243, cle) :: (253, refsO a0 a1 a2 a3 nr) :: (a0, rowO p0 u0 u1 u2 u3 n0) :: (a1, rowO p1 v0 v1 v2 v3 n1) :: (a2, rowO p2 w0 w1 w2 w3 n2) :: rest) →
      m' "x" = some (.int x t) → m' "number" = some (.int N tn) → m' "octets" = some (.bytes o to) → m' "fits" = some (.ref F) → Q .next { s with heap := h', toks := tk' }) →

      wpAny (model PW w) ((topZ 301 []).deeper (lawE qual scope cdv)) (execs (((forBody body).drop 4).take 2) (lawE qual scope cdv)) Q E s
set_option maxHeartbeats 8000000 in
theorem chunkCn {w : World} {qual : Str} {body : List Stmt} {scope : Scope} {cdv : Value} (L : LawIs w qual body scope cdv) : ChunkCn w qual body scope cdv := by
  revert L
  dsimp only [LawIs, ChunkCn, PW]
  k_fill
  intro L
  k_dflt (refine' law_elim (P := ChunkCn w) ?h ?hP L; (case h => k_is))
  dsimp only [ChunkCn, PW]
  intro mean mg mb base s m Q E rest cr cle lt p0 p1 p2 a0 a1 a2 a3 nr n0 n1 n2 u0 u1 u2 u3 v0 v1 v2 v3 w0 w1 w2 w3 x N o t tn to tl B X T F N0 hcr hcl hx hn ho f0 f1 f2 hs k
  dsimp only [innerFor, forBody, List.drop, List.take]
  (try k_fold)
  k_steps
  all_goals ((try dsimp only); k_dflt exact k _ _ _ _ (by k_asm) (fun p hp => (by k_asm : News _ _ _ _) p (by first | exact hp | exact List.mem_cons_of_mem _ hp)) (by exact hx) (by exact hn) (by exact ho) (by exact rfl))
noncomputable def ChunkC0 (w : World) (qual : Str) (body : List Stmt) (scope : Scope) (cdv : Value) : Prop :=
  ∀ (mean : ExcName → Option Value) (mg mb : Str → Option Value) (base : Heap) (s : Shared) (m : Str → Option Value) (Q : Flow → Shared → Prop) (E : Value → Shared → Prop) (rest : List (Addr × Obj)) (cr cle : Obj) (lt : Str) (p0 p1 p2 : Str × Str × Str × Str) (a0 a1 a2 a3 : Addr) (nr n0 n1 n2 : Nat) (u0 u1 u2 u3 v0 v1 v2 v3 w0 w1 w2 w3 : Tok) (x N : Int) (o : Array UInt8) (t tn to tl : Tok),
    Below (topZ 301 []) base [] base → (KX w.params).In base → Top vR loose mean mg mb base → Fr base 241 s.heap m → News base 241 s.heap ((242, cr) :: (243, cle) :: (253, refsO a0 a1 a2 a3 nr) :: (a0, rowO p0 u0 u1 u2 u3 n0) :: (a1, rowO p1 v0 v1 v2 v3 n1) :: (a2, rowO p2 w0 w1 w2 w3 n2) :: rest) →
    cr.data = .cell (some (.ref 253)) → cle.data = .cell (some (.str lt tl)) → m "x" = some (.int x t) → m "number" = some (.int N tn) → m "octets" = some (.bytes o to) → FitsIs w p0 lt true → FitsIs w p1 lt false → FitsIs w p2 lt false → isScal N = false →
    (∀ h' tk' m' (F : Addr) (ty : Tok), Fr base 241 h' m' → News base 241 h' ((F, LCg.lst [.int 0 ty]) :: (242, cr) :: (243, cle) :: (253, refsO a0 a1 a2 a3 nr) :: (a0, rowO p0 u0 u1 u2 u3 n0) :: (a1, rowO p1 v0 v1 v2 v3 n1) :: (a2, rowO p2 w0 w1 w2 w3 n2) :: rest) →
      m' "x" = some (.int x t) → m' "number" = some (.int N tn) → m' "octets" = some (.bytes o to) → m' "fits" = some (.ref F) → Q .next { s with heap := h', toks := tk' }) →

      wpAny (model PW w) ((topZ 301 []).deeper (lawE qual scope cdv)) (execs (((forBody body).drop 4).take 2) (lawE qual scope cdv)) Q E s
set_option maxHeartbeats 8000000 in
theorem chunkC0 {w : World} {qual : Str} {body : List Stmt} {scope : Scope} {cdv : Value} (L : LawIs w qual body scope cdv) : ChunkC0 w qual body scope cdv := by
  revert L
  dsimp only [LawIs, ChunkC0, PW]
  k_fill
  intro L
  k_dflt (refine' law_elim (P := ChunkC0 w) ?h ?hP L; (case h => k_is))
  dsimp only [ChunkC0, PW]
  intro mean mg mb base s m Q E rest cr cle lt p0 p1 p2 a0 a1 a2 a3 nr n0 n1 n2 u0 u1 u2 u3 v0 v1 v2 v3 w0 w1 w2 w3 x N o t tn to tl B X T F N0 hcr hcl hx hn ho f0 f1 f2 hs k
  dsimp only [innerFor, forBody, List.drop, List.take]
  (try k_fold)
  k_steps
  all_goals ((try dsimp only); k_dflt exact k _ _ _ _ _ (by k_asm) (fun p hp => (by k_asm : News _ _ _ _) p (by first | exact hp | exact List.mem_cons_of_mem _ hp)) (by exact hx) (by exact hn) (by exact ho) (by exact rfl))
noncomputable def ChunkC1 (w : World) (qual : Str) (body : List Stmt) (scope : Scope) (cdv : Value) : Prop :=
  ∀ (mean : ExcName → Option Value) (mg mb : Str → Option Value) (base : Heap) (s : Shared) (m : Str → Option Value) (Q : Flow → Shared → Prop) (E : Value → Shared → Prop) (rest : List (Addr × Obj)) (cr cle : Obj) (lt : Str) (p0 p1 p2 : Str × Str × Str × Str) (a0 a1 a2 a3 : Addr) (nr n0 n1 n2 : Nat) (u0 u1 u2 u3 v0 v1 v2 v3 w0 w1 w2 w3 : Tok) (x N : Int) (o : Array UInt8) (t tn to tl : Tok),
    Below (topZ 301 []) base [] base → (KX w.params).In base → Top vR loose mean mg mb base → Fr base 241 s.heap m → News base 241 s.heap ((242, cr) :: (243, cle) :: (253, refsO a0 a1 a2 a3 nr) :: (a0, rowO p0 u0 u1 u2 u3 n0) :: (a1, rowO p1 v0 v1 v2 v3 n1) :: (a2, rowO p2 w0 w1 w2 w3 n2) :: rest) →
    cr.data = .cell (some (.ref 253)) → cle.data = .cell (some (.str lt tl)) → m "x" = some (.int x t) → m "number" = some (.int N tn) → m "octets" = some (.bytes o to) → FitsIs w p0 lt false → FitsIs w p1 lt true → FitsIs w p2 lt false → isScal N = false →
    (∀ h' tk' m' (F : Addr) (ty : Tok), Fr base 241 h' m' → News base 241 h' ((F, LCg.lst [.int 1 ty]) :: (242, cr) :: (243, cle) :: (253, refsO a0 a1 a2 a3 nr) :: (a0, rowO p0 u0 u1 u2 u3 n0) :: (a1, rowO p1 v0 v1 v2 v3 n1) :: (a2, rowO p2 w0 w1 w2 w3 n2) :: rest) →
      m' "x" = some (.int x t) → m' "number" = some (.int N tn) → m' "octets" = some (.bytes o to) → m' "fits" = some (.ref F) → Q .next { s with heap := h', toks := tk' }) →

      wpAny (model PW w) ((topZ 301 []).deeper (lawE qual scope cdv)) (execs (((forBody body).drop 4).take 2) (lawE qual scope cdv)) Q E s
set_option maxHeartbeats 8000000 in
theorem chunkC1 {w : World} {qual : Str} {body : List Stmt} {scope : Scope} {cdv : Value} (L : LawIs w qual body scope cdv) : ChunkC1 w qual body scope cdv := by
  revert L
  dsimp only [LawIs, ChunkC1, PW]
  k_fill
  intro L
  k_dflt (refine' law_elim (P := ChunkC1 w) ?h ?hP L; (case h => k_is))
  dsimp only [ChunkC1, PW]
  intro mean mg mb base s m Q E rest cr cle lt p0 p1 p2 a0 a1 a2 a3 nr n0 n1 n2 u0 u1 u2 u3 v0 v1 v2 v3 w0 w1 w2 w3 x N o t tn to tl B X T F N0 hcr hcl hx hn ho f0 f1 f2 hs k
  dsimp only [innerFor, forBody, List.drop, List.take]
  (try k_fold)
  k_steps
  all_goals ((try dsimp only); k_dflt exact k _ _ _ _ _ (by k_asm) (fun p hp => (by k_asm : News _ _ _ _) p (by first | exact hp | exact List.mem_cons_of_mem _ hp)) (by exact hx) (by exact hn) (by exact ho) (by exact rfl))
noncomputable def ChunkC2 (w : World) (qual : Str) (body : List Stmt) (scope : Scope) (cdv : Value) : Prop :=
  ∀ (mean : ExcName → Option Value) (mg mb : Str → Option Value) (base : Heap) (s : Shared) (m : Str → Option Value) (Q : Flow → Shared → Prop) (E : Value → Shared → Prop) (rest : List (Addr × Obj)) (cr cle : Obj) (lt : Str) (p0 p1 p2 : Str × Str × Str × Str) (a0 a1 a2 a3 : Addr) (nr n0 n1 n2 : Nat) (u0 u1 u2 u3 v0 v1 v2 v3 w0 w1 w2 w3 : Tok) (x N : Int) (o : Array UInt8) (t tn to tl : Tok),
    Below (topZ 301 []) base [] base → (KX w.params).In base → Top vR loose mean mg mb base → Fr base 241 s.heap m → News base 241 s.heap ((242, cr) :: (243, cle) :: (253, refsO a0 a1 a2 a3 nr) :: (a0, rowO p0 u0 u1 u2 u3 n0) :: (a1, rowO p1 v0 v1 v2 v3 n1) :: (a2, rowO p2 w0 w1 w2 w3 n2) :: rest) →
    cr.data = .cell (some (.ref 253)) → cle.data = .cell (some (.str lt tl)) → m "x" = some (.int x t) → m "number" = some (.int N tn) → m "octets" = some (.bytes o to) → FitsIs w p0 lt false → FitsIs w p1 lt false → FitsIs w p2 lt true → isScal N = false →
    (∀ h' tk' m' (F : Addr) (ty : Tok), Fr base 241 h' m' → News base 241 h' ((F, LCg.lst [.int 2 ty]) :: (242, cr) :: (243, cle) :: (253, refsO a0 a1 a2 a3 nr) :: (a0, rowO p0 u0 u1 u2 u3 n0) :: (a1, rowO p1 v0 v1 v2 v3 n1) :: (a2, rowO p2 w0 w1 w2 w3 n2) :: rest) →
      m' "x" = some (.int x t) → m' "number" = some (.int N tn) → m' "octets" = some (.bytes o to) → m' "fits" = some (.ref F) → Q .next { s with heap := h', toks := tk' }) →

      wpAny (model PW w) ((topZ 301 []).deeper (lawE qual scope cdv)) (execs (((forBody body).drop 4).take 2) (lawE qual scope cdv)) Q E s
set_option maxHeartbeats 8000000 in
theorem chunkC2 {w : World} {qual : Str} {body : List Stmt} {scope : Scope} {cdv : Value} (L : LawIs w qual body scope cdv) : ChunkC2 w qual body scope cdv := by
  revert L
  dsimp only [LawIs, ChunkC2, PW]
  k_fill
  intro L
  k_dflt (refine' law_elim (P := ChunkC2 w) ?h ?hP L; (case h => k_is))
  dsimp only [ChunkC2, PW]
  intro mean mg mb base s m Q E rest cr cle lt p0 p1 p2 a0 a1 a2 a3 nr n0 n1 n2 u0 u1 u2 u3 v0 v1 v2 v3 w0 w1 w2 w3 x N o t tn to tl B X T F N0 hcr hcl hx hn ho f0 f1 f2 hs k
  dsimp only [innerFor, forBody, List.drop, List.take]
  (try k_fold)
  k_steps
  all_goals ((try dsimp only); k_dflt exact k _ _ _ _ _ (by k_asm) (fun p hp => (by k_asm : News _ _ _ _) p (by first | exact hp | exact List.mem_cons_of_mem _ hp)) (by exact hx) (by exact hn) (by exact ho) (by exact rfl))
end Mine
theorem Mine.L3_lines_end : True := by
  k_with_none
  trivial
end L3_text
section K9_text
open PySem PySem.W PyProof.Rows
namespace Mine
noncomputable def inA (Γ : Ctx) : Around := { handled := Γ.handled, depth := frameCount Γ.below + Γ.code.weight, frames := none, guards := none, units := Γ.units }
theorem in_self (Γ : Ctx) : Γ.In (inA Γ) := ⟨rfl, Nat.le_refl _, (by intro l h; cases h), (by intro l h; cases h), Nat.le_refl _⟩
noncomputable def blA (Γ : Ctx) : Around := { handled := Γ.handled, depth := frameCount Γ.below, frames := none, guards := none, units := unitsOf Γ.below }
theorem below_self (Γ : Ctx) : Γ.Below (blA Γ) := ⟨rfl, Nat.le_refl _, (by intro l h; cases h), (by intro l h; cases h), Nat.le_refl _⟩
noncomputable def slO (t : Tok) : Obj := { cls := .type "slice", data := .fields #[.none, .int 63 t, .none] }
noncomputable def itO2 : Obj := { cls := .type "list_iterator", data := .fields #[.ref 245, .int 0 0] }
noncomputable def acO (t : Tok) : Obj := { cls := .type "list", data := .seq #[.int 0 t] }
noncomputable abbrev gcode : Code := .call (.builtin "list.__getitem__") ⟨[.ref 240, .ref 244], []⟩
noncomputable abbrev lcode : Code := .builtin "sum.loop" ⟨[.ref 246, .ref 247, rawInt 0, rawInt 0], []⟩
set_option maxHeartbeats 0 in
theorem factsA (e : Env0) : (runA e).2.isSome = true ∧ chkS e.w (runA e) ∧ thA e = ⟨.call gcode none (gOf (thA e)) (lOf (thA e)) (kOf (thA e)), (thA e).code, (thA e).pos, (thA e).stack⟩ ∧ topHandled (thA e).stack = none ∧
    ((sA' e).n, (sA' e).life, (sA' e).tree.get 240, (sA' e).tree.get 244, ((sA' e).tree.ins 245 (lsO #[])).get 245) = (245, {}, some (lsO e.vs), some (slO (e.tk + 1)), some (lsO #[])) := by
  refine ⟨?_, ?_, ?_, ?_, ?_⟩ <;> kernel_rfl
set_option maxHeartbeats 0 in
theorem factsB (e : Env0) (y : Array Value) : (runB e y).2.isSome = true ∧ chkS e.w (runB e y) ∧ thB2 e y = ⟨denF lcode, lcode, (thB2 e y).pos, (thB2 e y).stack⟩ ∧ topHandled (thB2 e y).stack = none ∧
    ((sB2 e y).n, (sB2 e y).life, (sB2 e y).tree.get 245, (sB2 e y).tree.get 246, (sB2 e y).tree.get 247) = (248, {}, some (lsO y), some itO2, some (acO (e.tk + 2))) := by
  refine ⟨?_, ?_, ?_, ?_, ?_⟩ <;> kernel_rfl
end Mine
end K9_text
section N1_text
open PySem PySem.W PyProof.Rows PySem.SeqAt
namespace Mine
section
variable {A : Around} {s : Shared} {w : World}
theorem strs_eq {x y : List Value} {j : Nat} (p : Str) (t u : Tok) (hx : x[j]? = some (.str p t)) (hy : y[j]? = some (.str p u)) (h1 : j < x.toArray.size) (h2 : j < y.toArray.size) : EqAt A s x.toArray[j] y.toArray[j] true := by
  have e1 : x.toArray[j] = .str p t := by
    have := List.getElem?_eq_some_iff.mp hx
    obtain ⟨_, h⟩ := this
    simpa using h
  have e2 : y.toArray[j] = .str p u := by
    have := List.getElem?_eq_some_iff.mp hy
    obtain ⟨_, h⟩ := this
    simpa using h
  rw [e1, e2]
  have := EqAt.str_str (A := A) (s := s) p t p u
  rwa [beq_self_eq_true] at this
theorem rows_eq {a b : Addr} {p : Str × Str × Str × Str} {t0 t1 t2 t3 u0 u1 u2 u3 : Tok} {n n' : Nat} (hab : a ≠ b) (hu : A.units < cLine) (ha : s.heap.get? a = some (rowO p t0 t1 t2 t3 n)) (hb : s.heap.get? b = some (rowO p u0 u1 u2 u3 n')) : EqAt A s (.ref a) (.ref b) true := by
  have := RcAt.lists (A := A) (s := s) (l := a) (b := b) (e := fun _ => true) ⟨_, ha, rfl, _, rfl⟩ ⟨_, hb, rfl, _, rfl⟩ rfl hu (fun j h1 h2 => by
    have hj : j < 4 := h1
    match j, hj with
    | 0, _ => exact strs_eq p.1 t0 u0 rfl rfl h1 h2
    | 1, _ => exact strs_eq p.2.1 t1 u1 rfl rfl h1 h2
    | 2, _ => exact strs_eq p.2.2.1 t2 u2 rfl rfl h1 h2
    | 3, _ => exact strs_eq p.2.2.2 t3 u3 rfl rfl h1 h2)
  exact EqAt.of_refs hab this
theorem refs_eq {x y : List Value} {j : Nat} {v v' : Value} (hx : x[j]? = some v) (hy : y[j]? = some v') (h : EqAt A s v v' true) (h1 : j < x.toArray.size) (h2 : j < y.toArray.size) : EqAt A s x.toArray[j] y.toArray[j] true := by
  have e1 : x.toArray[j] = v := by
    obtain ⟨_, h⟩ := List.getElem?_eq_some_iff.mp hx
    simpa using h
  have e2 : y.toArray[j] = v' := by
    obtain ⟨_, h⟩ := List.getElem?_eq_some_iff.mp hy
    simpa using h
  rw [e1, e2]
  exact h
theorem ne_rows {l m : Addr} {a0 a1 a2 a3 b0 b1 b2 b3 : Addr} {n n' : Nat} {Q : Value → Shared → Prop} {E : Value → Shared → Prop}
    (hl : s.heap.get? l = some { cls := .type "list", data := .seq [.ref a0, .ref a1, .ref a2, .ref a3].toArray n }) (hm : s.heap.get? m = some { cls := .type "list", data := .seq [.ref b0, .ref b1, .ref b2, .ref b3].toArray n' })
    (e0 : EqAt A.in1 s (.ref a0) (.ref b0) true) (e1 : EqAt A.in1 s (.ref a1) (.ref b1) true) (e2 : EqAt A.in1 s (.ref a2) (.ref b2) true) (e3 : EqAt A.in1 s (.ref a3) (.ref b3) true) (h : Q (.bool false) s) :
    wpAny (model pR w) A (call (.builtin "list.__ne__") [.ref l, .ref m]) Q E s :=
  call_meets F.slot_list_ne ⟨_, hl, rfl⟩ F.entry_list_ne (F.args_list_ne_2 _ _) (list_neAt l m [.ref a0, .ref a1, .ref a2, .ref a3].toArray [.ref b0, .ref b1, .ref b2, .ref b3].toArray n n' none none #[] #[] rfl fun _ => true)
    ⟨hl, hm, fun j h1 h2 => by
      have hj : j < 4 := h1
      match j, hj with
      | 0, _ => exact refs_eq rfl rfl e0 h1 h2
      | 1, _ => exact refs_eq rfl rfl e1 h1 h2
      | 2, _ => exact refs_eq rfl rfl e2 h1 h2
      | 3, _ => exact refs_eq rfl rfl e3 h1 h2, h⟩
end
end Mine
end N1_text
section K10_text
open PySem PySem.W PyProof.Rows
namespace Mine
set_option maxHeartbeats 0 in
theorem factsC (e : Env1) (z : Int) (t : Tok) : (goSF e.w e.w 8 (sC e) (thC e z t)).2 = some (sD e, thD e z t (Int.fmod z 3)) ∧ chkS e.w (goSF e.w e.w 8 (sC e) (thC e z t)) := by
  refine ⟨?_, ?_⟩ <;> kernel_rfl
theorem lsO_list {h : Heap} {a : Addr} {vs : Array Value} (e : h.get? a = some (lsO vs)) : h.IsList a vs := ⟨_, e, rfl, _, rfl⟩
theorem abs_at {s : SharedT} {a : Addr} {o : Obj} (h : a < s.n) (g : s.tree.get a = some o) (al : alive o = some o) : s.abs.heap.get? a = some o := by
  show (absHeap s.tree s.n s.life).get? a = some o
  rw [abs_get h g, al]
theorem pick_ints {items : Array Value} (hi : ∀ (i : Nat) (v : Value), items[i]? = some v → ∃ (z : Int) (t : Tok), v = Value.int z t) (lo hi' st : Option Int) : ∀ (i : Nat) (v : Value), (slicePick items lo hi' st)[i]? = some v → ∃ (z : Int) (t : Tok), v = Value.int z t := by
  intro i v h
  unfold slicePick at h
  rw [List.getElem?_toArray] at h
  have hm := List.mem_of_getElem? h
  obtain ⟨j, _, hj⟩ := List.mem_filterMap.mp hm
  exact hi j v hj
theorem get_lt {h : Heap} {a : Addr} (hl : a < h.objs.size) : ∃ o, h.objs[a]? = some o := ⟨_, Array.getElem?_eq_getElem hl⟩
theorem objs_of_get {h h' : Heap} {a : Addr} (hl : a < h.objs.size) (hl' : a < h'.objs.size) (al : ∀ o, h.objs[a]? = some o → alive o = some o) (e : h'.get? a = h.get? a) : h'.objs[a]? = h.objs[a]? := by
  obtain ⟨o, ho⟩ := get_lt hl
  obtain ⟨o', ho'⟩ := get_lt hl'
  have al' := al o ho
  rw [ho, ho']
  unfold Heap.get? at e
  rw [ho, ho'] at e
  obtain ⟨c, d, dt, sl⟩ := o
  obtain ⟨c', d', dt', sl'⟩ := o'
  cases dt <;> cases dt' <;> first | exact e | (cases al'; done) | (simp at e)
end Mine
end K10_text
section K11_text
open PySem PySem.W PyProof.Rows
namespace Mine
noncomputable def aliveAt (T : BT) (i : Nat) : Bool := match T.get i with
  | some o => (alive o).isSome
  | none => false
set_option maxHeartbeats 0 in
theorem factsH (e : Env0) (y : Array Value) (a b c d : Obj) : ((List.range 248).filter fun i => !(i == 39)).all (aliveAt (sB2 e y).tree) = true ∧ (sB2 e y).tree.get 39 = some e.x39 ∧
    (((((sB2 e y).tree.set 246 fun _ => a).set 247 fun _ => b).ins 248 c).get 248, ((((((sB2 e y).tree.set 246 fun _ => a).set 247 fun _ => b).ins 248 c).ins 249 d).get 249)) = (some c, some d) := by
  refine ⟨?_, ?_, ?_⟩ <;> kernel_rfl
theorem alive_eq {o o' : Obj} (h : alive o = some o') : o' = o := by
  obtain ⟨c, d, dt, sl⟩ := o
  cases dt <;> first | (cases h; rfl) | cases h
theorem heap_gen {T : BT} {life : Life} {x39 : Obj} (hx : alive x39 = some x39) (f1 : ((List.range 248).filter fun i => !(i == 39)).all (aliveAt T) = true) (f2 : T.get 39 = some x39)
    (f3 : ∀ a b c d : Obj, (((((T.set 246 fun _ => a).set 247 fun _ => b).ins 248 c).get 248, (((((T.set 246 fun _ => a).set 247 fun _ => b).ins 248 c).ins 249 d).get 249)) : Option Obj × Option Obj) = (some c, some d))
    {h' : Heap} (hs : h'.objs.size = 250) (hl : h'.life = life) (hg : ∀ b, b < 248 → b ≠ 246 → b ≠ 247 → h'.get? b = (absHeap T 248 life).get? b) :
    ∃ a b c d, h' = absHeap ((((T.set 246 fun _ => a).set 247 fun _ => b).ins 248 c).ins 249 d) 250 life := by
  have sz : ∀ i : Nat, i < 250 → i < h'.objs.size := fun i hi => by rw [hs]; exact hi
  obtain ⟨a, ha⟩ := get_lt (h := h') (a := 246) (sz 246 (by decide))
  obtain ⟨b, hb⟩ := get_lt (h := h') (a := 247) (sz 247 (by decide))
  obtain ⟨c, hc⟩ := get_lt (h := h') (a := 248) (sz 248 (by decide))
  obtain ⟨d, hd⟩ := get_lt (h := h') (a := 249) (sz 249 (by decide))
  refine ⟨a, b, c, d, ?_⟩
  obtain ⟨g1, g2⟩ := Prod.mk.inj (f3 a b c d)
  have hal : ∀ i : Nat, i < 248 → ∃ o, T.get i = some o ∧ alive o = some o := by
    intro i hi
    by_cases e39 : i = 39
    · subst e39; exact ⟨_, f2, hx⟩
    · have := List.all_eq_true.mp f1 i (List.mem_filter.mpr ⟨List.mem_range.mpr hi, by simpa using e39⟩)
      unfold aliveAt at this
      cases ho : T.get i with
      | none => rw [ho] at this; cases this
      | some o =>
        rw [ho] at this
        obtain ⟨o', h2⟩ := Option.isSome_iff_exists.mp this
        exact ⟨o, rfl, by rw [h2, alive_eq h2]⟩
  obtain ⟨objs, life'⟩ := h'
  have hl' : life' = life := hl
  subst hl'
  have hsz : objs.size = 250 := hs
  show Heap.mk _ _ = Heap.mk _ _
  refine congrArg (Heap.mk · _) ?_
  apply Array.ext_getElem?
  intro i
  have hat := absHeap_at ((((T.set 246 fun _ => a).set 247 fun _ => b).ins 248 c).ins 249 d) 250 life' i
  unfold absHeap at hat
  rw [hat]
  by_cases hi : i < 250
  · rw [if_pos hi, BT.get_ins _ _ _ (by rw [g2]; rfl)]
    by_cases e249 : i = 249
    · subst e249; rw [if_pos rfl]; exact hd
    · rw [if_neg e249, BT.get_ins _ _ _ (by rw [g1]; rfl)]
      by_cases e248 : i = 248
      · subst e248; rw [if_pos rfl]; exact hc
      · have h248 : i < 248 := by omega
        obtain ⟨o, ho, hao⟩ := hal i h248
        rw [if_neg e248, BT.get_set]
        by_cases e247 : i = 247
        · subst e247; rw [if_pos rfl, BT.get_set, if_neg (by decide), ho]; exact hb
        · rw [if_neg e247, BT.get_set]
          by_cases e246 : i = 246
          · subst e246; rw [if_pos rfl, ho]; exact ha
          · rw [if_neg e246, ho]
            have hgi := hg i h248 e246 e247
            have hat' : (absHeap T 248 life').objs[i]? = some o := by rw [absHeap_at, if_pos h248, ho]; rfl
            have := objs_of_get (h := absHeap T 248 life') (h' := ⟨objs, life'⟩) (a := i) (by rw [absHeap_size]; exact h248) (by show i < objs.size; omega) (fun o' ho' => by rw [hat'] at ho'; cases ho'; exact hao) hgi
            exact this.trans hat'
  · rw [if_neg hi, Array.getElem?_eq_none (by omega)]
end Mine
end K11_text
section K12_text
open PySem PySem.W PyProof.Rows
namespace Mine
theorem denF_eq : denF = denote table := by
  unfold denF
  rw [← Fast.te11892475500146522536, ← Fast.te14364793385576792824, ← table_eq_tree]
theorem runA_is (e : Env0) : (goSF e.w e.w 25 (S0 e) t0).2 = some (sA' e, thA e) := some_of (a := S0 e) (b := t0) (factsA e).1
theorem runB_is (e : Env0) (y : Array Value) : (goSF e.w e.w 16 (sB e y) (thB e)).2 = some (sB2 e y, thB2 e y) := some_of (a := S0 e) (b := t0) (factsB e y).1
theorem sA_is (e : Env0) : (sA' e).n = 245 ∧ (sA' e).life = {} ∧ (sA' e).tree.get 240 = some (lsO e.vs) ∧ (sA' e).tree.get 244 = some (slO (e.tk + 1)) ∧ ((sA' e).tree.ins 245 (lsO #[])).get 245 = some (lsO #[]) := by
  have h := (factsA e).2.2.2.2
  obtain ⟨h1, h⟩ := Prod.mk.inj h
  obtain ⟨h2, h⟩ := Prod.mk.inj h
  obtain ⟨h3, h⟩ := Prod.mk.inj h
  obtain ⟨h4, h5⟩ := Prod.mk.inj h
  exact ⟨h1, h2, h3, h4, h5⟩
theorem sB_is (e : Env0) (y : Array Value) : (sB2 e y).n = 248 ∧ (sB2 e y).life = {} ∧ (sB2 e y).tree.get 245 = some (lsO y) ∧ (sB2 e y).tree.get 246 = some itO2 ∧ (sB2 e y).tree.get 247 = some (acO (e.tk + 2)) := by
  have h := (factsB e y).2.2.2.2
  obtain ⟨h1, h⟩ := Prod.mk.inj h
  obtain ⟨h2, h⟩ := Prod.mk.inj h
  obtain ⟨h3, h⟩ := Prod.mk.inj h
  obtain ⟨h4, h5⟩ := Prod.mk.inj h
  exact ⟨h1, h2, h3, h4, h5⟩
theorem insAt (e : Env0) (y : Array Value) : ((sA' e).tree.ins 245 (lsO y)).get 245 = some (lsO y) := by kernel_rfl
theorem lsO_eq (vs : Array Value) : lsO vs = { cls := .type "list", data := .seq vs } := by kernel_rfl
theorem sC_abs (e : Env0) (y : Array Value) (a b c d : Obj) (tk' : Nat) (c' : Code) (p' : Pos) : ({ (sB2 e y).abs with heap := absHeap (((((sB2 e y).tree.set 246 fun _ => a).set 247 fun _ => b).ins 248 c).ins 249 d) 250 (sB2 e y).life, toks := tk' } : Shared) = (sC ⟨e, y, a, b, c, d, tk', c', p'⟩).abs := by kernel_rfl
theorem thC_is (e : Env0) (y : Array Value) (a b c d : Obj) (tk' : Nat) (c' : Code) (p' : Pos) (z : Int) (t : Tok) : (⟨leafOf (.ok (.ret (.int z t))), c', p', (thB2 e y).stack⟩ : Thread) = thC ⟨e, y, a, b, c, d, tk', c', p'⟩ z t := by kernel_rfl
theorem sB_abs (e : Env0) (y : Array Value) : ({ (sA' e).abs with heap := absHeap ((sA' e).tree.ins 245 (lsO y)) 246 (sA' e).life } : Shared) = (sB e y).abs := by kernel_rfl
theorem thB_is (e : Env0) : (⟨kOf (thA e) (.ok (.ret (.ref 245))), (thA e).code, (thA e).pos, (thA e).stack⟩ : Thread) = thB e := by kernel_rfl
theorem abs_heap (s : SharedT) : s.abs.heap = absHeap s.tree s.n s.life := rfl
section
variable {R : Result → Shared → Prop}
theorem stageC (e : Env1) (z : Int) (t : Tok) (k : Hal e.w (sD e).abs (thD e z t (Int.fmod z 3)) R) : Hal e.w (sC e).abs (thC e z t) R := seg_go (factsC e z t).1 (factsC e z t).2 k
theorem loop_gen {w : World} {S : SharedT} {p0 : Pos} {st : List Frame} {x39 : Obj} {y : Array Value} {tk : Nat} (hh : topHandled st = none) (f1 : S.n = 248) (f3 : S.tree.get 245 = some (lsO y)) (f4 : S.tree.get 246 = some itO2) (f5 : S.tree.get 247 = some (acO tk))
    (hx : alive x39 = some x39) (H1 : ((List.range 248).filter fun i => !(i == 39)).all (aliveAt S.tree) = true) (H2 : S.tree.get 39 = some x39)
    (H3 : ∀ a b c d : Obj, (((((S.tree.set 246 fun _ => a).set 247 fun _ => b).ins 248 c).get 248, (((((S.tree.set 246 fun _ => a).set 247 fun _ => b).ins 248 c).ins 249 d).get 249)) : Option Obj × Option Obj) = (some c, some d))
    (hi : ∀ (i : Nat) (v : Value), y[i]? = some v → ∃ (z : Int) (t : Tok), v = Value.int z t)
    (k : ∀ a b c d tk' c' p' z t, Hal w { S.abs with heap := absHeap ((((S.tree.set 246 fun _ => a).set 247 fun _ => b).ins 248 c).ins 249 d) 250 S.life, toks := tk' } ⟨leafOf (.ok (.ret (.int z t))), c', p', st⟩ R) :
    Hal w S.abs ⟨denote table lcode, lcode, p0, st⟩ R := by
  have hs2 : ∀ a o, a < 248 → S.tree.get a = some o → alive o = some o → S.abs.heap.get? a = some o := fun a o h1 h2 h3 => abs_at (by rw [f1]; exact h1) h2 h3
  have hsz : S.abs.heap.objs.size = 248 := by rw [abs_heap, absHeap_size, f1]
  refine hal_code (below_self _) (sum_ok (I := 246) (S := 247) (l := 245) (items := y) (n := 248) (h₀ := S.abs.heap) hh (by decide) (by decide) (by decide) (by decide) hi y.size 0 S.abs _ 0 tk 0 0 (.inl rfl) (by omega) (Nat.zero_le _) ⟨hsz, fun _ _ _ => rfl⟩
    ⟨_, hs2 246 _ (by decide) f4 rfl, rfl, rfl⟩ (lsO_list (hs2 245 _ (by decide) f3 rfl)) (hs2 247 _ (by decide) f5 rfl) fun z t h' tk' hs hg => ?_)
  intro hlife c' p'
  have hl : h'.life = S.life := hlife
  obtain ⟨a, b, c, d, he⟩ := heap_gen (T := S.tree) (life := S.life) hx H1 H2 H3 hs hl (fun b h1 h2 h3 => by
    rw [hg b h1 h2 h3, abs_heap, f1])
  rw [he]
  exact k a b c d tk' c' p' z t
theorem stageB (e : Env0) (y : Array Value) (hx : alive e.x39 = some e.x39) (hi : ∀ (i : Nat) (v : Value), y[i]? = some v → ∃ (z : Int) (t : Tok), v = Value.int z t)
    (k : ∀ (e1 : Env1) (z : Int) (t : Tok), e1.toEnv0 = e → Hal e.w (sC e1).abs (thC e1 z t) R) : Hal e.w (sB e y).abs (thB e) R := by
  refine seg_go (runB_is e y) (factsB e y).2.1 ?_
  obtain ⟨f1, f2, f3, f4, f5⟩ := sB_is e y
  rw [(factsB e y).2.2.1, denF_eq]
  exact loop_gen (factsB e y).2.2.2.1 f1 f3 f4 f5 hx (factsH e y (lsO y) (lsO y) (lsO y) (lsO y)).1 (factsH e y (lsO y) (lsO y) (lsO y) (lsO y)).2.1 (fun a b c d => (factsH e y a b c d).2.2) hi fun a b c d tk' c' p' z t => by
    rw [sC_abs e y a b c d tk' c' p', thC_is e y a b c d tk' c' p']
    exact k _ z t rfl
theorem stageA (e : Env0) (hsz : e.vs.size ≤ sizeLine) (k : Hal e.w (sB e (slicePick e.vs none (some 63) none)).abs (thB e) R) : Hal e.w (S0 e).abs t0 R := by
  refine seg_go (runA_is e) (factsA e).2.1 ?_
  obtain ⟨f1, f2, f3, f4, f5⟩ := sA_is e
  have ht := (factsA e).2.2.1
  have hh := (factsA e).2.2.2.1
  have hs2 : ∀ a o, a < 245 → (sA' e).tree.get a = some o → alive o = some o → (sA' e).abs.heap.get? a = some o := fun a o h1 h2 h3 => abs_at (by rw [f1]; exact h1) h2 h3
  rw [ht]
  refine hal_call (in_self _) ?_
  refine gs_ok (lsO_list (hs2 240 _ (by decide) f3 rfl)) ⟨_, hs2 244 _ (by decide) f4 rfl, rfl, rfl⟩ hsz ?_
  intro _
  have hz : (sA' e).abs.heap.objs.size = 245 := by rw [abs_heap, absHeap_size, f1]
  rw [hz]
  have he : (sA' e).abs.heap.push { cls := .type "list", data := .seq (slicePick e.vs none (some 63) none) } = absHeap ((sA' e).tree.ins 245 (lsO (slicePick e.vs none (some 63) none))) 246 (sA' e).life := by
    rw [← lsO_eq, abs_heap, f1]
    exact (absHeap_ins (by rw [insAt]; rfl)).symm
  rw [he]
  rw [← sB_abs, ← thB_is] at k
  exact k
theorem stage1 (e : Env0) (hx : alive e.x39 = some e.x39) (hsz : e.vs.size ≤ sizeLine) (hi : ∀ (i : Nat) (v : Value), e.vs[i]? = some v → ∃ (z : Int) (t : Tok), v = Value.int z t)
    (k : ∀ (e1 : Env1) (z : Int) (t : Tok), e1.toEnv0 = e → Hal e.w (sD e1).abs (thD e1 z t (Int.fmod z 3)) R) : Hal e.w (S0 e).abs t0 R :=
  stageA e hsz (stageB e _ hx (pick_ints hi _ _ _) fun e1 z t he => by subst he; exact stageC e1 z t (k e1 z t rfl))
end
end Mine
end K12_text
section B1_text
open PySem PySem.W PyProof.Rows
namespace Mine
noncomputable def lsB (vs : Array Value) : Obj := { cls := .type "list", data := .seq vs }
noncomputable abbrev HH (P : Params) (es : Array (Int × Value)) (n : Nat) (t : SetTable) (vs : Array Value) : Heap := hideAll ((HX P es n t).push (lsB vs)) [64, 196]
set_option maxHeartbeats 0 in
theorem bl2 (P : Params) (es : Array (Int × Value)) (n : Nat) (t : SetTable) (vs : Array Value) : seen ((recsOf vR).map (·.name)) (ownsOf vR) [] { heap := HH P es n t vs, gens := #[], drawn := {}, toks := 0, os := default } = expectedOf vR := by
  unfold HH HX vR
  rw [Fast.te5160383126252970620, R.mapR_eq, Fast.te3399658132070893891, Fast.te5991557255702980513]
  kernel_rfl
set_option maxHeartbeats 0 in
theorem bl3 (P : Params) (es : Array (Int × Value)) (n : Nat) (t : SetTable) (vs : Array Value) : (HH P es n t vs).bltView = bltViewBooted := by
  unfold HH HX
  kernel_rfl
set_option maxHeartbeats 0 in
theorem bl4 (P : Params) (es : Array (Int × Value)) (n : Nat) (t : SetTable) (vs : Array Value) : ((HH P es n t vs).keysOk (looseW vR lo) ((recsOf vR).map (·.name)) ((litsOf vR).map (·.1)) ((clssOf vR (looseW vR lo)).map (·.name)), (HH P es n t vs).isNs builtinsNs) = (true, true) := by
  unfold HH HX vR
  rw [Fast.te10880121769531294198, Fast.te821141287760084731, R.mapR_eq, Fast.te3399658132070893891, Fast.te7409074990110511671, Fast.te13664370479719496447]
  kernel_rfl
set_option maxHeartbeats 0 in
theorem bl5 (P : Params) (es : Array (Int × Value)) (n : Nat) (t : SetTable) (vs : Array Value) : tabsOk vR { heap := HH P es n t vs, gens := #[], drawn := {}, toks := 0, os := default } = true := by
  unfold HH HX vR
  rw [Fast.te479339242167458305]
  kernel_rfl
theorem topB (P : Params) (es : Array (Int × Value)) (n : Nat) (t : SetTable) (vs : Array Value) : Top vR loose (ExcName.means (HH P es n t vs)) ((HH P es n t vs).nsMap mainGlobals) ((HH P es n t vs).nsMap builtinsNs) (HH P es n t vs) := by
  have h4 := Prod.mk.inj (bl4 P es n t vs)
  have := top_of_seenO (p := vR) (loose := looseW vR lo) (bl2 P es n t vs) (bl3 P es n t vs) h4.1 h4.2 (bl5 P es n t vs) (by decide +kernel)
  rw [← lo_eq]
  exact this
theorem HX_size (P : Params) (es : Array (Int × Value)) (n : Nat) (t : SetTable) : (HX P es n t).objs.size = 240 := by kernel_rfl
theorem HH_size (P : Params) (es : Array (Int × Value)) (n : Nat) (t : SetTable) (vs : Array Value) : (HH P es n t vs).objs.size = 241 := by
  rw [hideAll_size, Heap.size_push, HX_size]
theorem HH_of {P : Params} {es : Array (Int × Value)} {n : Nat} {t : SetTable} {vs : Array Value} {b : Addr} {o : Obj} (e : (HX P es n t).get? b = some o) (h1 : b ≠ 64) (h2 : b ≠ 196) : (HH P es n t vs).get? b = some o :=
  hideAll_get _ (Heap.get?_push_of_some _ e) (by simp [h1, h2])
theorem HH_240 (P : Params) (es : Array (Int × Value)) (n : Nat) (t : SetTable) (vs : Array Value) : (HH P es n t vs).get? 240 = some (lsB vs) :=
  hideAll_get _ (by rw [← HX_size P es n t]; exact Heap.get?_push_size _ rfl) (by simp)
theorem kxH (w : World) (es : Array (Int × Value)) (n : Nat) (t : SetTable) (vs : Array Value) : (KX w.params).In (HH w.params es n t vs) := by
  have K : (KX w.params).In (HX w.params es n t) := InK.of kx_keys w { heap := HX w.params es n t, gens := #[], drawn := {}, toks := 0, os := default } (kx_objs _ _ _ _)
  intro a o e
  have hm : a ∈ (KX w.params).map (·.1) := List.mem_map.mpr ⟨_, mem_of_lookupK e, rfl⟩
  rw [← kx_keys] at hm
  exact HH_of (K a o e) (by rintro rfl; revert hm; decide) (by rintro rfl; revert hm; decide)
theorem preH (P : Params) (es : Array (Int × Value)) (n : Nat) (t : SetTable) (vs : Array Value) (I : SInv 22 es t) : ∃ es' n' t', SInv 22 es' t' ∧ (HH P es n t vs).get? 39 = some (sO es' n' t') :=
  ⟨es, n, t, I, HH_of (hx_39 P es n t) (by decide) (by decide)⟩
noncomputable def fldsO (o : Obj) : Array Value := match o.data with | .fields vs => vs | _ => #[]
noncomputable def strV (v : Value) : Str := match v with | .str x _ => x | _ => ⟨#[]⟩
noncomputable def tokV (v : Value) : Tok := match v with | .str _ t => t | .int _ t => t | _ => 0
noncomputable def intV (v : Value) : Int := match v with | .int n _ => n | _ => 0
noncomputable def boolV (v : Value) : Bool := match v with | .bool b => b | _ => false
theorem lk68 (P : Params) : (KX P).lookup 68 = some (hB.o_115 P) := by kernel_rfl
theorem cd68 (P : Params) : ((hB.o_115 P).cls, (hB.o_115 P).data, (fldsO (hB.o_115 P))[11]?, (fldsO (hB.o_115 P)).getD 11 .none, (fldsO (hB.o_115 P)).getD 18 .none, (fldsO (hB.o_115 P)).getD 7 .none, (fldsO (hB.o_115 P)).getD 9 .none, (fldsO (hB.o_115 P)).getD 10 .none) =
    (.type "code", .fields (fldsO (hB.o_115 P)), some (.ref 64), .ref 64, .str (strV ((fldsO (hB.o_115 P)).getD 18 .none)) (tokV ((fldsO (hB.o_115 P)).getD 18 .none)), .int (intV ((fldsO (hB.o_115 P)).getD 7 .none)) (tokV ((fldsO (hB.o_115 P)).getD 7 .none)),
      .bool (boolV ((fldsO (hB.o_115 P)).getD 9 .none)), .int (intV ((fldsO (hB.o_115 P)).getD 10 .none)) (tokV ((fldsO (hB.o_115 P)).getD 10 .none))) := by kernel_rfl
theorem hd_of {h : Heap} {P : Params} (X : (KX P).In h) : CodeHd h 68 64 := by
  have e := cd68 P
  simp only [Prod.mk.injEq] at e
  obtain ⟨e1, e2, e3, e4, e5, e6, e7, e8⟩ := e
  exact ⟨_, _, _, _, _, _, _, _, _, X _ _ (lk68 P), e1, e2, e3, e4, e5, e6, e7, e8, by decide⟩
theorem lk200 (P : Params) : (KX P).lookup 200 = some (hB.o_292 P) := by kernel_rfl
theorem cd200 (P : Params) : ((hB.o_292 P).cls, (hB.o_292 P).data, (fldsO (hB.o_292 P))[11]?, (fldsO (hB.o_292 P)).getD 11 .none, (fldsO (hB.o_292 P)).getD 18 .none, (fldsO (hB.o_292 P)).getD 7 .none, (fldsO (hB.o_292 P)).getD 9 .none, (fldsO (hB.o_292 P)).getD 10 .none) =
    (.type "code", .fields (fldsO (hB.o_292 P)), some (.ref 196), .ref 196, .str (strV ((fldsO (hB.o_292 P)).getD 18 .none)) (tokV ((fldsO (hB.o_292 P)).getD 18 .none)), .int (intV ((fldsO (hB.o_292 P)).getD 7 .none)) (tokV ((fldsO (hB.o_292 P)).getD 7 .none)),
      .bool (boolV ((fldsO (hB.o_292 P)).getD 9 .none)), .int (intV ((fldsO (hB.o_292 P)).getD 10 .none)) (tokV ((fldsO (hB.o_292 P)).getD 10 .none))) := by kernel_rfl
theorem hd2_of {h : Heap} {P : Params} (X : (KX P).In h) : CodeHd h 200 196 := by
  have e := cd200 P
  simp only [Prod.mk.injEq] at e
  obtain ⟨e1, e2, e3, e4, e5, e6, e7, e8⟩ := e
  exact ⟨_, _, _, _, _, _, _, _, _, X _ _ (lk200 P), e1, e2, e3, e4, e5, e6, e7, e8, by decide⟩
theorem tab64 (P : Params) (es : Array (Int × Value)) (n : Nat) (t : SetTable) : ((HX P es n t).get? 64, (HX P es n t).get? 196) = (some (tabObj #[]), some (tabObj #[])) := by kernel_rfl
end Mine
end B1_text
section L4_text
open PySem PySem.W PyProof.Rows
namespace Mine
noncomputable def hexF (low : Bool) (n : Nat) : Nat := if low then hexL n else hexU n
theorem lowerOf_hex : ∀ n : Fin 16, Unicode.lowerOf (hexU n.val) = [hexL n.val] := by decide +kernel
theorem lowerAt_hex {s : Array Nat} {i n : Nat} (hn : n < 16) (h : s[i]? = some (hexU n)) : Unicode.lowerAt s i = [hexL n] := by
  unfold Unicode.lowerAt
  rw [h]
  have h3 : (hexU n == 0x3A3) = false := by unfold hexU; split <;> (simp; omega)
  simp only [h3, Bool.false_and, Bool.false_eq_true, if_false]
  exact lowerOf_hex ⟨n, hn⟩
theorem lower_hex {n0 n1 n2 n3 n4 n5 : Nat} (h0 : n0 < 16) (h1 : n1 < 16) (h2 : n2 < 16) (h3 : n3 < 16) (h4 : n4 < 16) (h5 : n5 < 16) :
    Txt.lower ⟨#[hexU n0, hexU n1, hexU n2, hexU n3, hexU n4, hexU n5]⟩ = ⟨#[hexL n0, hexL n1, hexL n2, hexL n3, hexL n4, hexL n5]⟩ := by
  have e0 := lowerAt_hex (s := #[hexU n0, hexU n1, hexU n2, hexU n3, hexU n4, hexU n5]) (i := 0) h0 rfl
  have e1 := lowerAt_hex (s := #[hexU n0, hexU n1, hexU n2, hexU n3, hexU n4, hexU n5]) (i := 1) h1 rfl
  have e2 := lowerAt_hex (s := #[hexU n0, hexU n1, hexU n2, hexU n3, hexU n4, hexU n5]) (i := 2) h2 rfl
  have e3 := lowerAt_hex (s := #[hexU n0, hexU n1, hexU n2, hexU n3, hexU n4, hexU n5]) (i := 3) h3 rfl
  have e4 := lowerAt_hex (s := #[hexU n0, hexU n1, hexU n2, hexU n3, hexU n4, hexU n5]) (i := 4) h4 rfl
  have e5 := lowerAt_hex (s := #[hexU n0, hexU n1, hexU n2, hexU n3, hexU n4, hexU n5]) (i := 5) h5 rfl
  show (⟨(#[(Unicode.lowerAt _ 0).toArray, (Unicode.lowerAt _ 1).toArray, (Unicode.lowerAt _ 2).toArray, (Unicode.lowerAt _ 3).toArray, (Unicode.lowerAt _ 4).toArray, (Unicode.lowerAt _ 5).toArray] : Array (Array Nat)).flatten⟩ : Str) = _
  rw [e0, e1, e2, e3, e4, e5]
  rfl
theorem hexU_u8 {n : Nat} (h : n < 16) : ((hexU n).toUInt8.toNat : Int) = (hexU n : Int) := by
  have : hexU n < 256 := by unfold hexU; split <;> omega
  simp [Nat.toUInt8, UInt8.toNat_ofNat, Nat.mod_eq_of_lt this]
theorem figs_ok {w : World} {n0 n1 n2 n3 n4 n5 : Nat} (h0 : n0 < 16) (h1 : n1 < 16) (h2 : n2 < 16) (h3 : n3 < 16) (h4 : n4 < 16) (h5 : n5 < 16) (tk : Tok) :
    CZ 380 w 227 ⟨[.bytes #[(hexU n0).toUInt8, (hexU n1).toUInt8, (hexU n2).toUInt8, (hexU n3).toUInt8, (hexU n4).toUInt8, (hexU n5).toUInt8] tk], []⟩ (fun _ v _ => ∃ t, v = .str ⟨#[hexU n0, hexU n1, hexU n2, hexU n3, hexU n4, hexU n5]⟩ t) :=
  text6 (w := w) _ (hexU n0) (hexU n1) (hexU n2) (hexU n3) (hexU n4) (hexU n5) (by
    show [((hexU n0).toUInt8.toNat : Int), ((hexU n1).toUInt8.toNat : Int), ((hexU n2).toUInt8.toNat : Int), ((hexU n3).toUInt8.toNat : Int), ((hexU n4).toUInt8.toNat : Int), ((hexU n5).toUInt8.toNat : Int)] = _
    rw [hexU_u8 h0, hexU_u8 h1, hexU_u8 h2, hexU_u8 h3, hexU_u8 h4, hexU_u8 h5]) tk
theorem u8d (c : UInt8) : c.toNat / 16 < 16 := (u8_16 c).1
theorem u8m (c : UInt8) : c.toNat % 16 < 16 := (u8_16 c).2
section
variable {prog : Program} {w : World} {A : Around} {E : Value → Shared → Prop} {s : Shared} {t u : Tok} {Q : Value → Shared → Prop}
theorem call_lower {c0 c1 c2 : UInt8} (h : Q (.str ⟨#[hexL (c0.toNat / 16), hexL (c0.toNat % 16), hexL (c1.toNat / 16), hexL (c1.toNat % 16), hexL (c2.toNat / 16), hexL (c2.toNat % 16)]⟩ s.toks) { s with toks := s.toks + 1 }) :
    wpAny (model prog w) A (call (.builtin "str.lower") [.str ⟨#[hexU (c0.toNat / 16), hexU (c0.toNat % 16), hexU (c1.toNat / 16), hexU (c1.toNat % 16), hexU (c2.toNat / 16), hexU (c2.toNat % 16)]⟩ t]) Q E s := by
  refine SC.lower (by rw [lower_hex (u8d _) (u8m _) (u8d _) (u8m _) (u8d _) (u8m _)]; rfl) ?_
  rw [lower_hex (u8d _) (u8m _) (u8d _) (u8m _) (u8d _) (u8m _)]
  exact h
end
theorem L4_lines1 : True := by
  k_with_none
  k_with "eval Name" => (k_here; k_dflt (refine' nameX_L ?zk1 ?zk2 ?_ ?za ?zb ?zc; (case za => rfl); (case zb => rfl); (case zc => decide); (case zk1 => k_asm); (case zk2 => first | exact rfl | assumption); k_whole); (try dsimp only))
  k_with "binaryOp FloorDiv int int" => ((with_reducible refine fdiv_g (by decide) (by assumption) (by assumption) ?_); (try dsimp only))
  k_with "binaryOp Mod int int" => ((with_reducible refine mod_g (by decide) (by assumption) ?_); (try dsimp only))
  k_with "call builtin:str.lower" => (k_dflt (refine' call_lower ?_); (try dsimp only))
  k_with "call ref" => (k_here; (with_reducible show wpAny _ _ (call (Value.ref 169) _ _) _ _ _); k_dflt (refine' useZ (b16e_ok _ _ _ _) ?zh0 ?zh1 ?zh2 ?zh3 ?zh4 ?zhB ?zhF ?zhf ?zhke ?zhX ?zhN ?zhT ?_; (case zh0 => rfl); (case zh1 => exact Nat.le_of_ble_eq_true rfl); (case zh2 => exact rfl); (case zh3 => exact rfl); (case zh4 => exact Nat.le_of_ble_eq_true rfl); (case zhB => k_asm); (case zhF => k_asm); (case zhf => exact rfl); (case zhke => exact rfl); (case zhX => k_asm); (case zhN => k_asm); (case zhT => k_asm)); intro v9 h9 tk9 hv9 F9 N9; obtain ⟨t9, hv9⟩ := hv9; subst hv9; (try dsimp only))
  k_with "call ref" => (k_here; (with_reducible show wpAny _ _ (call (Value.ref 227) _ _) _ _ _); k_dflt (refine' useZ (figs_ok (u8d _) (u8m _) (u8d _) (u8m _) (u8d _) (u8m _) _) ?zh0 ?zh1 ?zh2 ?zh3 ?zh4 ?zhB ?zhF ?zhf ?zhke ?zhX ?zhN ?zhT ?_; (case zh0 => rfl); (case zh1 => exact Nat.le_of_ble_eq_true rfl); (case zh2 => exact rfl); (case zh3 => exact rfl); (case zh4 => exact Nat.le_of_ble_eq_true rfl); (case zhB => k_asm); (case zhF => k_asm); (case zhf => exact rfl); (case zhke => exact rfl); (case zhX => k_asm); (case zhN => k_asm); (case zhT => k_asm)); intro v9 h9 tk9 hv9 F9 N9; obtain ⟨t9, hv9⟩ := hv9; subst hv9; (try dsimp only))
  trivial
noncomputable def ChunkDt (w : World) (qual : Str) (body : List Stmt) (scope : Scope) (cdv : Value) : Prop :=
  ∀ (mean : ExcName → Option Value) (mg mb : Str → Option Value) (base : Heap) (s : Shared) (m : Str → Option Value) (Q : Flow → Shared → Prop) (E : Value → Shared → Prop) (news : List (Addr × Obj)) (F0 : Addr) (x N q : Int) (c0 c1 c2 : UInt8) (t tn to : Tok),
    Below (topZ 301 []) base [] base → (KX w.params).In base → Top vR loose mean mg mb base → Fr base 241 s.heap m → News base 241 s.heap news → m "x" = some (.int x t) → m "number" = some (.int N tn) → m "octets" = some (.bytes #[c0, c1, c2] to) → m "fits" = some (.ref F0) →
    Builtin.divisionGoesByPylong x 32 = false → Int.fdiv x 32 = q → Int.fmod q 2 = 1 →
    (∀ h' tk' m' tf tt T, Fr base 241 h' m' → News base 241 h' news → m' "x" = some (.int x t) → m' "number" = some (.int N tn) → m' "fits" = some (.ref F0) → m' "figures" = some (.str ⟨#[hexL (c0.toNat / 16), hexL (c0.toNat % 16), hexL (c1.toNat / 16), hexL (c1.toNat % 16), hexL (c2.toNat / 16), hexL (c2.toNat % 16)]⟩ tf) →
      m' "text" = some (.str T tt) → T = ⟨#[92, 85, 48, 48, hexL (c0.toNat / 16), hexL (c0.toNat % 16), hexL (c1.toNat / 16), hexL (c1.toNat % 16), hexL (c2.toNat / 16), hexL (c2.toNat % 16), 102]⟩ → Q .next { s with heap := h', toks := tk' }) →

      wpAny (model PW w) ((topZ 301 []).deeper (lawE qual scope cdv)) (execs (((forBody body).drop 6).take 3) (lawE qual scope cdv)) Q E s
set_option maxHeartbeats 8000000 in
theorem chunkDt {w : World} {qual : Str} {body : List Stmt} {scope : Scope} {cdv : Value} (L : LawIs w qual body scope cdv) : ChunkDt w qual body scope cdv := by
  revert L
  dsimp only [LawIs, ChunkDt, PW]
  k_fill
  intro L
  k_dflt (refine' law_elim (P := ChunkDt w) ?h ?hP L; (case h => k_is))
  dsimp only [ChunkDt, PW]
  intro mean mg mb base s m Q E news F0 x N q c0 c1 c2 t tn to B X T F N0 hx hn ho hf p1 e1 e2 k
  dsimp only [innerFor, forBody, List.drop, List.take]
  (try k_fold)
  k_steps
  all_goals ((try dsimp only); k_dflt exact k _ _ _ _ _ _ (by k_asm) (by k_asm) (by exact hx) (by exact hn) (by exact hf) (by exact rfl) (by exact rfl) (by kernel_rfl))
noncomputable def ChunkDf (w : World) (qual : Str) (body : List Stmt) (scope : Scope) (cdv : Value) : Prop :=
  ∀ (mean : ExcName → Option Value) (mg mb : Str → Option Value) (base : Heap) (s : Shared) (m : Str → Option Value) (Q : Flow → Shared → Prop) (E : Value → Shared → Prop) (news : List (Addr × Obj)) (F0 : Addr) (x N q : Int) (c0 c1 c2 : UInt8) (t tn to : Tok),
    Below (topZ 301 []) base [] base → (KX w.params).In base → Top vR loose mean mg mb base → Fr base 241 s.heap m → News base 241 s.heap news → m "x" = some (.int x t) → m "number" = some (.int N tn) → m "octets" = some (.bytes #[c0, c1, c2] to) → m "fits" = some (.ref F0) →
    Builtin.divisionGoesByPylong x 32 = false → Int.fdiv x 32 = q → Int.fmod q 2 = 0 →
    (∀ h' tk' m' tf tt T, Fr base 241 h' m' → News base 241 h' news → m' "x" = some (.int x t) → m' "number" = some (.int N tn) → m' "fits" = some (.ref F0) → m' "figures" = some (.str ⟨#[hexU (c0.toNat / 16), hexU (c0.toNat % 16), hexU (c1.toNat / 16), hexU (c1.toNat % 16), hexU (c2.toNat / 16), hexU (c2.toNat % 16)]⟩ tf) →
      m' "text" = some (.str T tt) → T = ⟨#[92, 85, 48, 48, hexU (c0.toNat / 16), hexU (c0.toNat % 16), hexU (c1.toNat / 16), hexU (c1.toNat % 16), hexU (c2.toNat / 16), hexU (c2.toNat % 16), 102]⟩ → Q .next { s with heap := h', toks := tk' }) →

      wpAny (model PW w) ((topZ 301 []).deeper (lawE qual scope cdv)) (execs (((forBody body).drop 6).take 3) (lawE qual scope cdv)) Q E s
set_option maxHeartbeats 8000000 in
theorem chunkDf {w : World} {qual : Str} {body : List Stmt} {scope : Scope} {cdv : Value} (L : LawIs w qual body scope cdv) : ChunkDf w qual body scope cdv := by
  revert L
  dsimp only [LawIs, ChunkDf, PW]
  k_fill
  intro L
  k_dflt (refine' law_elim (P := ChunkDf w) ?h ?hP L; (case h => k_is))
  dsimp only [ChunkDf, PW]
  intro mean mg mb base s m Q E news F0 x N q c0 c1 c2 t tn to B X T F N0 hx hn ho hf p1 e1 e2 k
  dsimp only [innerFor, forBody, List.drop, List.take]
  (try k_fold)
  k_steps
  all_goals ((try dsimp only); k_dflt exact k _ _ _ _ _ _ (by k_asm) (by k_asm) (by exact hx) (by exact hn) (by exact hf) (by exact rfl) (by exact rfl) (by kernel_rfl))
end Mine
theorem Mine.L4_lines_end : True := by
  k_with_none
  trivial
end L4_text
section F12_text
open PySem PySem.W PyProof.Rows
namespace Mine
theorem F12_lines1 : True := by
  k_with_none
  k_with "call ref" => (k_here; (with_reducible show wpAny _ _ (call (Value.ref 62) _ _) _ _ _); k_dflt (refine' useP (phc_ok _ _ _ _ (by assumption) (by assumption) (by assumption) (by assumption) (by assumption) (by assumption) (by assumption) (by assumption) _ _ _) ?zh0 ?zh1 ?zh2 ?zh3 ?zh4 ?zhB ?zhF ?zhf ?zhke ?zhX ?zhN ?zhT ?zhp ?_; (case zh0 => rfl); (case zh1 => exact Nat.le_of_ble_eq_true rfl); (case zh2 => exact rfl); (case zh3 => exact rfl); (case zh4 => exact Nat.le_of_ble_eq_true rfl); (case zhB => k_asm); (case zhF => k_asm); (case zhf => exact rfl); (case zhke => exact rfl); (case zhX => k_asm); (case zhN => k_asm); (case zhT => k_asm); (case zhp => exact ⟨_, _, _, by assumption, Fr.keep (by k_asm) _ _ (by assumption)⟩)); intro v9 h9 tk9 hv9 F9 N9; obtain ⟨a9, t9, u9, hv9, ha9⟩ := hv9; subst hv9; (try dsimp only))
  trivial
set_option maxHeartbeats 8000000 in
theorem found_some {w : World} (x : Str) (place size : Int) (js : List Nat) (hj : ∀ j ∈ js, j < 22) (hl : (js.length : Int) = size) (h1 : 0 < js.length) (h2 : js.length ≤ 8) (hp : 0 ≤ place ∧ place ≤ 10) (hx : x.length ≤ 20) (hs : Txt.slice x (some place) (some (place + size)) = ⟨(js.map dg).toArray⟩)
    (hscal : isScal (hexval js) = true) (tk t1 t2 : Tok) : CP 350 w 234 ⟨[.str x tk, .int place t1, .int size t2], []⟩ Pre39 (fun _ v h' => ∃ a t3 t4, v = .ref a ∧ h'.get? a = some { cls := .type "tuple", data := .seq #[.int (place + size) t3, .str ⟨#[hexval js]⟩ t4] }) := by
  dsimp only [CP, PW]
  k_fill
  intro mean mg mb A₀ base fr s RR hPre B X T hret
  obtain ⟨es39, n39, s39, J39, h39⟩ := hPre
  k_dflt (refine' enterZ B X T ?k6 ?k7 ?k9 ?kB ?_ ?c2 ?c3 ?c4 ?c5 ?c6; (case c6 => decide); (case k6 => k_is); (case k7 => k_is); (case k9 => first | exact BindsTo.of_eq rfl | exact binds_K (by k_in) rfl (by k_is) rfl rfl rfl); (case c5 => decide); (case kB => exact locs rfl); (case c2 => exact rfl); (case c3 => exact rfl); (case c4 => exact rfl); k_whole)
  intro L' h' F' N'
  (try dsimp only)
  (try k_fold)
  k_steps
  all_goals ((try dsimp only); exact hret _ _ _ ⟨_, _, _, rfl, by assumption⟩ (Fr.keep (by k_asm)))
end Mine
theorem Mine.F12_lines_end : True := by
  k_with_none
  trivial
end F12_text
section L5_text
open PySem PySem.W PyProof.Rows
namespace Mine
noncomputable def NotTab (p : Addr × Obj) : Prop := p.1 ≠ 64 ∧ ∀ vs, p.2.data = .fields vs → ∃ n t, vs[1]? = some (.int n t)
theorem useT {d : Nat} {w : World} {f : Addr} {vs : List Value} {R : Heap → Value → Heap → Prop} (C : CT d w f ⟨vs, []⟩ R)
    {mean : ExcName → Option Value} {mg mb : Str → Option Value} {A A₀ : Around} {h₀ : Heap} {env : Env} {L c : Addr} {m : Str → Option Value} {o oc : Obj} {rest : List (Addr × Obj)} {s : Shared} {Q : Value → Shared → Prop} {E : Value → Shared → Prop}
    (h0 : A.handled = none) (h1 : A.depth ≤ d) (h2 : A.frames = some [env]) (h3 : A.guards = some []) (h4 : A.units ≤ 10 * d)
    (B : Below A₀ h₀ [] h₀) (F : Fr h₀ L s.heap m) (hf : env.frame = some L) (hke : env.scope.kind = .function) (X : (KX w.params).In h₀) (T : Top vR loose mean mg mb h₀) (C6 : CodeHd h₀ 68 64) (P : Pre39 h₀)
    (hT : TabOk o c oc) (hr : ∀ p ∈ rest, NotTab p) (N : News h₀ L s.heap ((64, o) :: (c, oc) :: rest))
    (h : ∀ v h' tk' o' c' oc', R s.heap v h' → TabOk o' c' oc' → Fr h₀ L h' m → News h₀ L h' ((64, o') :: (c', oc') :: rest) → Q v { s with heap := h', toks := tk' }) : wpAny (model PW w) A (call (.ref f) vs) Q E s := by
  have n64 := N _ (.head _)
  have nc := N _ (.tail _ (.head _))
  have N2 : News h₀ L s.heap [(64, o), (c, oc)] := fun p hp => N p (by
    rcases List.mem_cons.mp hp with rfl | hp
    · exact .head _
    · rw [List.mem_singleton.mp hp]; exact .tail _ (.head _))
  obtain ⟨FG, BG, st, lv⟩ := groundX (R := fun _ _ => True) B F N2 h2 hf hke
  have hcne : ∀ p ∈ rest, p.1 ≠ c := fun p hp q => by
    have e := (N p (.tail _ (.tail _ hp))).1
    rw [q, nc.1] at e
    obtain ⟨⟨vs', hd, hv⟩, _⟩ := hT
    have e' := Option.some.inj e
    obtain ⟨n, t, hn⟩ := (hr p hp).2 vs' (e' ▸ hd)
    exact hv n t hn
  obtain ⟨oL, es, ep, hL, hLd, hLk, hLf⟩ := FG.ns
  have D : KtsDicts ([env].filterMap (·.frame)) (hideAll s.heap ([(64, o), (c, oc)].map (·.1))) := fun b hb => by
    obtain ⟨e, he, hb⟩ := List.mem_filterMap.mp hb
    rw [List.mem_singleton.mp he, hf] at hb
    cases hb
    exact ⟨oL, es, ep, hL, hLd⟩
  refine wpAny_call (around_le h0 h1 h2 h3 h4 (C mean mg mb A h₀ _ [env] s _ BG X T C6 P D (fun b o e => of_hideAll _ e) (Nat.le_of_eq (hideAll_size _ _)) ⟨o, c, oc, n64.1, nc.1, hideAll_none _ (.head _), hideAll_none _ (.tail _ (.head _)), hT⟩ fun v h' tk' hR hS hTab => ?_))
  obtain ⟨o', c', oc', e1, e2, e3, e4, hT'⟩ := hTab
  have fr : [env].filterMap (·.frame) = [L] := by simp [List.filterMap, hf]
  rw [fr] at hS
  have keep : ∀ b ob, h₀.get? b = some ob → h'.get? b = some ob := fun b ob e => (hS b ob (st b ob e)).2 fun hb => by
    rw [List.mem_singleton.mp hb, Heap.get?_none_of_le F.above] at e; cases e
  have none_ : ∀ b, (hideAll s.heap ([(64, o), (c, oc)].map (·.1))).get? b = none → h₀.get? b = none := fun b e => by
    cases q : h₀.get? b with
    | none => rfl
    | some ob => rw [st b ob q] at e; cases e
  have neL : ∀ b, (hideAll s.heap ([(64, o), (c, oc)].map (·.1))).get? b = none → b ≠ L := fun b e q => by rw [q, hL] at e; cases e
  refine h v h' tk' o' c' oc' hR hT' ⟨?_, keep, F.above⟩ fun p hp => ?_
  · obtain ⟨sl, hL'⟩ := (hS L oL hL).1
    exact ⟨_, es, ep, hL', hLd, hLk, hLf⟩
  · rcases List.mem_cons.mp hp with rfl | hp
    · exact ⟨e1, neL _ e3, none_ _ e3⟩
    · rcases List.mem_cons.mp hp with rfl | hp
      · exact ⟨e2, neL _ e4, none_ _ e4⟩
      · have np := N p (.tail _ (.tail _ hp))
        refine ⟨(hS p.1 p.2 (hideAll_get _ np.1 fun hm => ?_)).2 fun hm => np.2.1 (List.mem_singleton.mp hm), np.2⟩
        rcases List.mem_cons.mp hm with q | hm
        · exact (hr p hp).1 q
        · exact hcne p hp (List.mem_singleton.mp hm)
end Mine
end L5_text
section L6_text
open PySem PySem.W PyProof.Rows PySem.SeqAt
namespace Mine
noncomputable def FoundSome (w : World) (x : Str) (p z : Int) (n : Nat) : Prop := ∀ tk t1 t2 : Tok, CP 350 w 234 ⟨[.str x tk, .int p t1, .int z t2], []⟩ Pre39 (fun _ v h' => ∃ a t3 t4, v = .ref a ∧ h'.get? a = some { cls := .type "tuple", data := .seq #[.int (p + z) t3, .str ⟨#[n]⟩ t4] })
noncomputable def FoundNone (w : World) (x : Str) (p z : Int) : Prop := ∀ tk t1 t2 : Tok, CT 350 w 234 ⟨[.str x tk, .int p t1, .int z t2], []⟩ (fun _ v _ => v = .none)
section
variable {prog : Program} {w : World} {A : Around} {E : Value → Shared → Prop} {s : Shared} {t u : Tok} {Q : Value → Shared → Prop}
theorem ne_pair {a b : Addr} {p : Int} {c : Str} {t1 t2 t3 t4 : Tok} (ha : s.heap.IsTuple a #[.int p t1, .str c t2]) (hb : s.heap.IsTuple b #[.int p t3, .str c t4]) (hu : A.units < cLine) (h : Q (.bool false) s) : wpAny (model prog w) A (compareOp .NotEq (.ref a) (.ref b)) Q E s := by
  have := RcNeAt.tuples (A := A) (e := fun _ => true) ha hb hu (fun j h1 h2 => by
    match j, h1, h2 with
    | 0, _, _ => exact (by have := EqAt.int_int (A := A.in1) (s := s) p t1 p t3; rwa [beq_self_eq_true] at this)
    | 1, _, _ => exact (by have := EqAt.str_str (A := A.in1) (s := s) c t2 c t4; rwa [beq_self_eq_true] at this)
    | n + 2, h1, _ => exact absurd h1 (by simp))
  exact this prog w E Q h
theorem ne_none (h : Q (.bool false) s) : wpAny (model prog w) A (compareOp .NotEq .none .none) Q E s := RcNeAt.none_none prog w E Q h
theorem useS {x : Str} {p z : Int} {n : Nat} {tk t1 t2 : Tok}
    {mean : ExcName → Option Value} {mg mb : Str → Option Value} {A A₀ : Around} {base h₀ : Heap} {outer : List Env} {env : Env} {L : Addr} {m : Str → Option Value} {news : List (Addr × Obj)} {s : Shared} {Q : Value → Shared → Prop} {E : Value → Shared → Prop}
    (C : FoundSome w x p z n) (h0 : A.handled = none) (h1 : A.depth ≤ 350) (h2 : A.frames = some (env :: outer)) (h3 : A.guards = some []) (h4 : A.units ≤ 10 * 350)
    (B : Below A₀ base outer h₀) (F : Fr h₀ L s.heap m) (hf : env.frame = some L) (hke : env.scope.kind = .function) (X : (KX w.params).In h₀) (N : News h₀ L s.heap news) (T : Top vR loose mean mg mb h₀) (P : Pre39 h₀)
    (h : ∀ h' tk' a t3 t4, h'.IsTuple a #[.int (p + z) t3, .str ⟨#[n]⟩ t4] → Fr h₀ L h' m → News h₀ L h' news → Q (.ref a) { s with heap := h', toks := tk' }) : wpAny (model PW w) A (call (.ref 234) [.str x tk, .int p t1, .int z t2]) Q E s :=
  useP (C tk t1 t2) h0 h1 h2 h3 h4 B F hf hke X N T (let ⟨es, n, t, I, e⟩ := P; ⟨es, n, t, I, F.keep _ _ e⟩) fun v h' tk' hv F' N' => by
    obtain ⟨a, t3, t4, rfl, ha⟩ := hv
    exact h h' tk' a t3 t4 ⟨_, ha, rfl, _, rfl⟩ F' N'
theorem useN {x : Str} {p z : Int} {tk t1 t2 : Tok}
    {mean : ExcName → Option Value} {mg mb : Str → Option Value} {A A₀ : Around} {h₀ : Heap} {env : Env} {L c : Addr} {m : Str → Option Value} {o oc : Obj} {rest : List (Addr × Obj)} {s : Shared} {Q : Value → Shared → Prop} {E : Value → Shared → Prop}
    (C : FoundNone w x p z) (hT : TabOk o c oc) (hr : ∀ p ∈ rest, NotTab p) (h0 : A.handled = none) (h1 : A.depth ≤ 350) (h2 : A.frames = some [env]) (h3 : A.guards = some []) (h4 : A.units ≤ 10 * 350)
    (B : Below A₀ h₀ [] h₀) (F : Fr h₀ L s.heap m) (hf : env.frame = some L) (hke : env.scope.kind = .function) (X : (KX w.params).In h₀) (T : Top vR loose mean mg mb h₀) (C6 : CodeHd h₀ 68 64) (P : Pre39 h₀)
    (N : News h₀ L s.heap ((64, o) :: (c, oc) :: rest))
    (h : ∀ h' tk' o' c' oc', TabOk o' c' oc' → Fr h₀ L h' m → News h₀ L h' ((64, o') :: (c', oc') :: rest) → Q .none { s with heap := h', toks := tk' }) : wpAny (model PW w) A (call (.ref 234) [.str x tk, .int p t1, .int z t2]) Q E s :=
  useT (C tk t1 t2) h0 h1 h2 h3 h4 B F hf hke X T C6 P hT hr N fun v h' tk' o' c' oc' e hT' F' N' => by subst e; exact h h' tk' o' c' oc' hT' F' N'
theorem add_str_is {a b y : Str} (e : a ++ b = y) (hl : y.length ≤ 20) (h : ∀ t' k, Q (.str y t') { s with toks := k }) : wpAny (model prog w) A (binaryOp .Add (.str a t) (.str b u)) Q E s := by
  have hz : (a ++ b).length = a.length + b.length := Array.size_append ..
  refine PyProof.Rows.add_str (fun t' k => e ▸ h t' k) ?_
  rw [← hz, e, sizeLine_eq]
  omega
end
theorem L6_lines1 : True := by
  k_with_none
  k_with "eval Name" => (k_here; k_dflt (refine' nameX_L ?zk1 ?zk2 ?_ ?za ?zb ?zc; (case za => rfl); (case zb => rfl); (case zc => decide); (case zk1 => k_asm); (case zk2 => first | exact rfl | assumption); k_whole); (try dsimp only))
  k_with "call ref" => (k_here; (with_reducible show wpAny _ _ (call (Value.ref 234) _ _) _ _ _); k_dflt (refine' useN (by assumption) (by assumption) (by assumption) ?zh0 ?zh1 ?zh2 ?zh3 ?zh4 ?zhB ?zhF ?zhf ?zhke ?zhX ?zhT ?zhC ?zhP ?zhN ?_; (case zh0 => rfl); (case zh1 => exact Nat.le_of_ble_eq_true rfl); (case zh2 => exact rfl); (case zh3 => exact rfl); (case zh4 => exact Nat.le_of_ble_eq_true rfl); (case zhB => k_asm); (case zhF => k_asm); (case zhf => exact rfl); (case zhke => exact rfl); (case zhX => k_asm); (case zhT => k_asm); (case zhC => assumption); (case zhP => assumption); (case zhN => exact fun p hp => (by k_asm : News _ _ _ _) p (by repeat (first | exact hp | apply List.mem_cons_of_mem)))); intro h9 tk9 o9 c9 oc9 T9 F9 N9; (try dsimp only))
  k_with "call ref" => (k_here; (with_reducible show wpAny _ _ (call (Value.ref 234) _ _) _ _ _); k_dflt (refine' useS (by assumption) ?zh0 ?zh1 ?zh2 ?zh3 ?zh4 ?zhB ?zhF ?zhf ?zhke ?zhX ?zhN ?zhT ?zhP ?_; (case zh0 => rfl); (case zh1 => exact Nat.le_of_ble_eq_true rfl); (case zh2 => exact rfl); (case zh3 => exact rfl); (case zh4 => exact Nat.le_of_ble_eq_true rfl); (case zhB => k_asm); (case zhF => k_asm); (case zhf => exact rfl); (case zhke => exact rfl); (case zhX => k_asm); (case zhN => k_asm); (case zhT => k_asm); (case zhP => assumption)); intro h9 tk9 a9 t9 u9 I9 F9 N9; (try dsimp only))
  k_with "compareOp NotEq ref ref" => (k_dflt (refine' ne_pair ?za ?zb ?zc ?_; (case za => assumption); (case zb => exact ⟨_, News.get (by k_asm) (by k_mem), rfl, _, rfl⟩); (case zc => exact Nat.lt_of_lt_of_le (Nat.lt_of_le_of_lt (Nat.le_refl _) (by decide)) (Nat.le_refl _))); (try dsimp only))
  k_with "compareOp NotEq none none" => (k_dflt (refine' ne_none ?_); (try dsimp only))
  k_with "call builtin:chr" => (k_here; refine chr_scal (by assumption) ?_; (try dsimp only))
  k_with "binaryOp Add str str" => (k_dflt (refine' add_str_is (by assumption) (by assumption) ?_); intro t9 k9; (try dsimp only))
  trivial
noncomputable def ChunkEs (w : World) (qual : Str) (body : List Stmt) (scope : Scope) (cdv : Value) : Prop :=
  ∀ (mean : ExcName → Option Value) (mg mb : Str → Option Value) (base : Heap) (s : Shared) (m : Str → Option Value) (Q : Flow → Shared → Prop) (E : Value → Shared → Prop) (rest : List (Addr × Obj)) (o oc : Obj) (c F0 : Addr) (N : Nat) (yk x : Int) (T G T2 : Str) (t tn tf tt ty : Tok),
    Below (topZ 301 []) base [] base → (KX w.params).In base → Top vR loose mean mg mb base → Fr base 241 s.heap m → CodeHd base 68 64 → Pre39 base → TabOk o c oc → (∀ p ∈ rest, NotTab p) → News base 241 s.heap ((F0, LCg.lst []) :: (64, o) :: (c, oc) :: rest) → m "x" = some (.int x t) → m "number" = some (.int N tn) → m "fits" = some (.ref F0) → m "figures" = some (.str G tf) → m "text" = some (.str T tt) →
    isScal N = true → FoundSome w T 2 8 N → FoundNone w T2 2 8 → Str.ofString "\\U10" ++ G = T2 → T2.length ≤ 20 →
    (∀ h' tk' m' o' c' oc', TabOk o' c' oc' → Fr base 241 h' m' → News base 241 h' ((64, o') :: (c', oc') :: rest) → m' "x" = some (.int x t) → m' "text" = some (.str T tt) → Q .next { s with heap := h', toks := tk' }) →

      wpAny (model PW w) ((topZ 301 []).deeper (lawE qual scope cdv)) (execs (((forBody body).drop 9).take 2) (lawE qual scope cdv)) Q E s
set_option maxHeartbeats 8000000 in
theorem chunkEs {w : World} {qual : Str} {body : List Stmt} {scope : Scope} {cdv : Value} (L : LawIs w qual body scope cdv) : ChunkEs w qual body scope cdv := by
  revert L
  dsimp only [LawIs, ChunkEs, PW]
  k_fill
  intro L
  k_dflt (refine' law_elim (P := ChunkEs w) ?h ?hP L; (case h => k_is))
  dsimp only [ChunkEs, PW]
  intro mean mg mb base s m Q E rest o oc c F0 N yk x T G T2 t tn tf tt ty B X T F C6 P39 hT hr N0 hx hn hf hg ht hs H1 H2 e2 l2 k
  dsimp only [innerFor, forBody, List.drop, List.take]
  (try k_fold)
  k_steps
  all_goals ((try dsimp only); k_dflt exact k _ _ _ _ _ _ (by assumption) (by k_asm) (by k_asm) (by exact hx) (by exact ht))
noncomputable def ChunkEn (w : World) (qual : Str) (body : List Stmt) (scope : Scope) (cdv : Value) : Prop :=
  ∀ (mean : ExcName → Option Value) (mg mb : Str → Option Value) (base : Heap) (s : Shared) (m : Str → Option Value) (Q : Flow → Shared → Prop) (E : Value → Shared → Prop) (rest : List (Addr × Obj)) (o oc : Obj) (c F0 : Addr) (N : Nat) (yk x : Int) (T G T2 : Str) (t tn tf tt ty : Tok),
    Below (topZ 301 []) base [] base → (KX w.params).In base → Top vR loose mean mg mb base → Fr base 241 s.heap m → CodeHd base 68 64 → Pre39 base → TabOk o c oc → (∀ p ∈ rest, NotTab p) → News base 241 s.heap ((F0, LCg.lst [.int yk ty]) :: (64, o) :: (c, oc) :: rest) → m "x" = some (.int x t) → m "number" = some (.int N tn) → m "fits" = some (.ref F0) → m "figures" = some (.str G tf) → m "text" = some (.str T tt) →
    FoundNone w T 2 8 → FoundNone w T2 2 8 → Str.ofString "\\U10" ++ G = T2 → T2.length ≤ 20 →
    (∀ h' tk' m' o' c' oc', TabOk o' c' oc' → Fr base 241 h' m' → News base 241 h' ((64, o') :: (c', oc') :: rest) → m' "x" = some (.int x t) → m' "text" = some (.str T tt) → Q .next { s with heap := h', toks := tk' }) →

      wpAny (model PW w) ((topZ 301 []).deeper (lawE qual scope cdv)) (execs (((forBody body).drop 9).take 2) (lawE qual scope cdv)) Q E s
set_option maxHeartbeats 8000000 in
theorem chunkEn {w : World} {qual : Str} {body : List Stmt} {scope : Scope} {cdv : Value} (L : LawIs w qual body scope cdv) : ChunkEn w qual body scope cdv := by
  revert L
  dsimp only [LawIs, ChunkEn, PW]
  k_fill
  intro L
  k_dflt (refine' law_elim (P := ChunkEn w) ?h ?hP L; (case h => k_is))
  dsimp only [ChunkEn, PW]
  intro mean mg mb base s m Q E rest o oc c F0 N yk x T G T2 t tn tf tt ty B X T F C6 P39 hT hr N0 hx hn hf hg ht H1 H2 e2 l2 k
  dsimp only [innerFor, forBody, List.drop, List.take]
  (try k_fold)
  k_steps
  all_goals (try (exfalso; have h9 := (by assumption : decide ([_] = []) = true); simp at h9; done))
  all_goals ((try dsimp only); k_dflt exact k _ _ _ _ _ _ (by assumption) (by k_asm) (by k_asm) (by exact hx) (by exact ht))
end Mine
theorem Mine.L6_lines_end : True := by
  k_with_none
  trivial
end L6_text
section Sc_text
open PySem PySem.W PyProof.Rows PySem.Calls
namespace Mine
section
variable {prog : Program} {w : World} {A : Around} {E : Value → Shared → Prop} {s : Shared} {h₀ : Heap} {L : Addr} {m : Str → Option Value} {env : Env}
open LCg in
noncomputable def SrcS (prog : Program) (w : World) (A : Around) (h₀ : Heap) (L : Addr) (m : Str → Option Value) (env : Env) (elt : Expr) (x : Str) (scope : Scope) (cl : List (Str × Addr)) (Fin : Shared → List Value → List (Addr × Obj) → Prop) (xv : Value) (s₁ : Shared) : Prop :=
  ∃ b t news, xv = .str b t ∧ A.handled = none ∧ Fr h₀ L s₁.heap m ∧ News h₀ L s₁.heap news ∧ b.cps.all (· < 128) = true ∧ b.cps.size ≤ sizeLine ∧
    ∀ g : Heap, CompRest prog w A h₀ L m env elt x scope cl { s₁ with heap := g } (fun _ => True) (SignAt b) (Fin { s₁ with heap := g }) b.cps.size 0 [] news
theorem str_st {I : Addr} {b : Str} {t : Tok} : ∀ i (h h' : Heap) (o : Obj) (nw : List (Addr × Obj)), h.IsStrIter I "str_ascii_iterator" b t i → h.get? I = some o → h'.get? I = some o → (∀ b o, h₀.get? b = some o → h'.get? b = some o) → News h₀ L h' nw → True → h'.IsStrIter I "str_ascii_iterator" b t i :=
  fun i h h' o nw st e e' _ _ _ => by
    obtain ⟨o', q, r⟩ := st
    rw [e] at q; cases q; exact ⟨o, e', r⟩
open LCg in
theorem ListComp_S {elt iter : Expr} {x : Str} {px : Pos} {scope : Scope} {cl : List (Str × Addr)} {pos : Pos} {Q : Value → Shared → Prop} (FzA : Fr h₀ L s.heap m)
    (hclos : closureFor scope env = pure cl) (hcell : ∀ y ∈ scope.names, y.2 ≠ .cell) (hkind : scope.kind = .function)
    (hnames : ∀ y ∈ scope.names, y.2 = .local → scope.names.lookup y.1 = some .local) (hx : scope.names.lookup x = some .local)
    (h : wpAny (model prog w) A (eval iter env) (SrcS prog w A h₀ L m env elt x scope cl (fun s₂ => FinE h₀ L m s₂ Q)) E s)
    (hs : ∀ x, foldedSetIterable iter env x = pure x := by intro _; rfl) :
    wpAny (model prog w) A (eval (.ListComp elt [⟨.Name x px, iter, [], 0⟩] scope pos) env) Q E s := by
  rw [eval_ListComp]
  refine wpAny_comprehension_free (use := none) rfl hs hclos hkind hnames (wpAny_mono h (fun xv s₁ h₁ => ?_) fun _ _ e => e)
  obtain ⟨b, t, news, rfl, hh, F, N, ha, hsz, R⟩ := h₁
  refine wpAny_pyIter_ascii ha ?_
  have up : ∀ b' o, s₁.heap.get? b' = some o → (s₁.heap.push { cls := .type "str_ascii_iterator", data := .fields #[.str b t, .int 0 0] }).get? b' = some o := fun b' o e => Heap.get?_push_of_some _ e
  refine block_U (Walks.strAscii hh s₁.heap.objs.size b t) hsz (fun i h st => by obtain ⟨o, e, _⟩ := st; exact ⟨o, e⟩) str_st hcell hkind hx ⟨_, Heap.get?_push_size _ rfl, rfl, rfl⟩ (fun b' hb => ?_)
    (F.keeps up) (N.grown up) (Nat.ne_of_lt F.ns.lt) (next_is_new F) (fun p hp => Nat.ne_of_lt (Heap.lt_size (N p hp).1)) trivial (R _) ?_
  · rw [List.mem_singleton.mp hb]
    show s₁.heap.objs.size < (s₁.heap.push _).objs.size
    rw [Heap.size_push]; exact Nat.lt_succ_self _
  · intro D C h tk m' ys news' F' N' o1 hn hC₀ hD₀ hCL hDL hCD offC fin
    refine ⟨m', hn, fun h'' hs'' => fin D h'' tk (F'.change hs'' hCL hC₀) (fun p hp => ?_) o1⟩
    refine ⟨hs''.extBut _ _ ?_ (N' p hp).1, (N' p hp).2⟩
    rcases List.mem_cons.mp hp with rfl | hp
    · exact Ne.symm hCD
    · exact offC p hp
open LCg in
theorem SrcS.intro {elt : Expr} {x : Str} {scope : Scope} {cl : List (Str × Addr)} {Fin : Shared → List Value → List (Addr × Obj) → Prop} {y : Str} {c0 c1 c2 c3 : Nat} {t : Tok} {news : List (Addr × Obj)} {s₁ : Shared}
    (hh : A.handled = none) (hy : y = ⟨#[c0, c1, c2, c3]⟩) (h0 : c0 < 128) (h1 : c1 < 128) (h2 : c2 < 128) (h3 : c3 < 128) (F : Fr h₀ L s₁.heap m) (N : News h₀ L s₁.heap news)
    (h : ∀ g : Heap, CompRest prog w A h₀ L m env elt x scope cl { s₁ with heap := g } (fun _ => True) (fun i v => ∃ u k, [c0, c1, c2, c3][i]? = some k ∧ v = .str ⟨#[k]⟩ u) (Fin { s₁ with heap := g }) 4 0 [] news) :
    SrcS prog w A h₀ L m env elt x scope cl Fin (.str y t) s₁ := by
  subst hy
  refine ⟨⟨#[c0, c1, c2, c3]⟩, t, news, rfl, hh, F, N, by simp [h0, h1, h2, h3], by rw [sizeLine_eq]; simp, fun g => ?_⟩
  have e : SignAt ⟨#[c0, c1, c2, c3]⟩ = (fun (i : Nat) (v : Value) => ∃ u k, [c0, c1, c2, c3][i]? = some k ∧ v = .str ⟨#[k]⟩ u) := by
    funext i v
    apply propext
    constructor
    · rintro ⟨c, u, hc, rfl⟩
      exact ⟨u, c, by simpa using hc, rfl⟩
    · rintro ⟨u, k, hk, rfl⟩
      exact ⟨k, u, by simpa using hk, rfl⟩
  rw [e]
  exact h g
end
end Mine
end Sc_text
section L7_text
open PySem PySem.W PyProof.Rows PySem.SeqAt
namespace Mine
noncomputable def B16Is (w : World) (b : Array UInt8) (low : Bool) (h l : Int) : Prop := ∀ tk : Tok, CZ 340 w 177 ⟨[.bytes b tk], [(Str.ofString "casefold", .bool low)]⟩ (fun _ v _ => ∃ t, v = .bytes (byteArr [h, l]) t)
theorem B16Is.at {w : World} {b : Array UInt8} {low : Bool} {h l : Int} (H : B16Is w b low h l) (tk : Tok) : CZ 340 w 177 ⟨[.bytes b tk], [(Str.ofString "casefold", .bool low)]⟩ (fun _ v _ => ∃ t, v = .bytes (byteArr [h, l]) t) := H tk
theorem in4n {a b c d : Nat} (h0 : a < 128) (h1 : b < 128) (h2 : c < 128) (h3 : d < 128) : KBa.In [(a : Int), (b : Int), (c : Int), (d : Int)] := by
  intro n hn
  simp only [List.mem_cons, List.not_mem_nil, or_false] at hn
  rcases hn with rfl | rfl | rfl | rfl <;> omega
theorem ints4n {a b c d : Nat} {t1 t2 t3 t4 : Tok} : IntsAre [.int (a : Int) t1, .int (b : Int) t2, .int (c : Int) t3, .int (d : Int) t4] [(a : Int), (b : Int), (c : Int), (d : Int)] := .cons _ _ (.cons _ _ (.cons _ _ (.cons _ _ .nil)))
section
variable {prog : Program} {w : World} {A : Around} {E : Value → Shared → Prop} {s : Shared} {t u : Tok} {Q : Value → Shared → Prop}
theorem call_kw {M : Model} {f : Value} {vs : List Value} {kw kw' : List (Str × Value)} (e : kw = kw') (h : wpAny M A (call f vs kw') Q E s) : wpAny M A (call f vs kw) Q E s := e ▸ h
theorem pair_0 {b : Array UInt8} {x y : Int} {ui : Tok} {value slice : PySem.Expr} (hk : KBw.bInts b = [x, y]) (h : ∀ t' k, Q (.int x t') { s with toks := k })
    (hs : subscripted slice false (.bytes b t) (.int 0 ui) = operate [.bytes b t, .int 0 ui] (getItem (.bytes b t) (.int 0 ui))) (ht : ∀ r, letTemporaryGo value (.bytes b t) r = pure ()) :
    wpAny (model prog w) A (subscriptTail value slice (.bytes b t) (.int 0 ui)) Q E s := KBw.item_K (ks := [x, y]) hk (by simp) (by decide) (by simp) (fun t' k _ _ => h t' k) hs ht
theorem pair_1 {b : Array UInt8} {x y : Int} {ui : Tok} {value slice : PySem.Expr} (hk : KBw.bInts b = [x, y]) (h : ∀ t' k, Q (.int y t') { s with toks := k })
    (hs : subscripted slice false (.bytes b t) (.int 1 ui) = operate [.bytes b t, .int 1 ui] (getItem (.bytes b t) (.int 1 ui))) (ht : ∀ r, letTemporaryGo value (.bytes b t) r = pure ()) :
    wpAny (model prog w) A (subscriptTail value slice (.bytes b t) (.int 1 ui)) Q E s := KBw.item_K (ks := [x, y]) hk (by simp) (by decide) (by simp) (fun t' k _ _ => h t' k) hs ht
theorem chr_is {n : Int} (h0 : 0 ≤ n ∧ n ≤ 1114111) (k : Q (.str ⟨#[n.toNat]⟩ s.toks) { s with toks := s.toks + 1 }) : wpAny (model prog w) A (call (.builtin "chr") [.int n t]) Q E s :=
  chr_of_range h0.1 h0.2 k
end
theorem L7_lines1 : True := by
  k_with_none
  k_with "eval Name" => (k_here; k_dflt (refine' nameX_L ?zk1 ?zk2 ?_ ?za ?zb ?zc; (case za => rfl); (case zb => rfl); (case zc => decide); (case zk1 => k_asm); (case zk2 => first | exact rfl | assumption); k_whole); (try dsimp only))
  k_with "call ref" => (k_here; (with_reducible show wpAny _ _ (call (Value.ref 234) _ _) _ _ _); k_dflt (refine' useN (by assumption) (by assumption) (by assumption) ?zh0 ?zh1 ?zh2 ?zh3 ?zh4 ?zhB ?zhF ?zhf ?zhke ?zhX ?zhT ?zhC ?zhP ?zhN ?_; (case zh0 => rfl); (case zh1 => exact Nat.le_of_ble_eq_true rfl); (case zh2 => exact rfl); (case zh3 => exact rfl); (case zh4 => exact Nat.le_of_ble_eq_true rfl); (case zhB => k_asm); (case zhF => k_asm); (case zhf => exact rfl); (case zhke => exact rfl); (case zhX => k_asm); (case zhT => k_asm); (case zhC => assumption); (case zhP => assumption); (case zhN => exact fun p hp => (by k_asm : News _ _ _ _) p (by repeat (first | exact hp | apply List.mem_cons_of_mem)))); intro h9 tk9 o9 c9 oc9 T9 F9 N9; (try dsimp only))
  k_with "call ref" => (k_here; (with_reducible show wpAny _ _ (call (Value.ref 234) _ _) _ _ _); k_dflt (refine' useS (by assumption) ?zh0 ?zh1 ?zh2 ?zh3 ?zh4 ?zhB ?zhF ?zhf ?zhke ?zhX ?zhN ?zhT ?zhP ?_; (case zh0 => rfl); (case zh1 => exact Nat.le_of_ble_eq_true rfl); (case zh2 => exact rfl); (case zh3 => exact rfl); (case zh4 => exact Nat.le_of_ble_eq_true rfl); (case zhB => k_asm); (case zhF => k_asm); (case zhf => exact rfl); (case zhke => exact rfl); (case zhX => k_asm); (case zhN => k_asm); (case zhT => k_asm); (case zhP => assumption)); intro h9 tk9 a9 t9 u9 I9 F9 N9; (try dsimp only))
  k_with "compareOp NotEq ref ref" => (k_dflt (refine' ne_pair ?za ?zb ?zc ?_; (case za => assumption); (case zb => exact ⟨_, News.get (by k_asm) (by k_mem), rfl, _, rfl⟩); (case zc => exact Nat.lt_of_lt_of_le (Nat.lt_of_le_of_lt (Nat.le_refl _) (by decide)) (Nat.le_refl _))); (try dsimp only))
  k_with "compareOp NotEq none none" => (k_dflt (refine' ne_none ?_); (try dsimp only))
  k_with "binaryOp Add str str" => (k_dflt (refine' add_str_is (by assumption) (by assumption) ?_); intro t9 k9; (try dsimp only))
  k_with "call ref" => (k_here; (with_reducible show wpAny _ _ (call (Value.ref 222) _ _) _ _ _); k_dflt (refine' useFits (News.isList (by k_asm) (by k_mem)) (by assumption) ?zh0 ?zh1 ?zh2 ?zh3 ?zh4 ?zhB ?zhF ?zhf ?zhke ?zhX ?zhN ?zhT ?_; (case zh0 => rfl); (case zh1 => exact Nat.le_of_ble_eq_true rfl); (case zh2 => exact rfl); (case zh3 => exact rfl); (case zh4 => exact Nat.le_of_ble_eq_true rfl); (case zhB => k_asm); (case zhF => k_asm); (case zhf => exact rfl); (case zhke => exact rfl); (case zhX => k_asm); (case zhN => k_asm); (case zhT => k_asm)); intro h9 tk9 F9 N9; (try dsimp only))
  k_with "subscriptTail Name Constant ref int" => (k_here; k_dflt (refine' item_listL (l := [_, _, _, _]) ?za ?zb ?zc ?zd ?_ ?ze ?zf; (case za => exact News.isList (by k_asm) (by k_mem)); (case zb => decide); (case zc => decide); (case zd => exact rfl); (case ze => with_unfolding_all rfl); (case zf => intro _; with_unfolding_all rfl)); (try dsimp only))
  k_with "eval ListComp" => (k_here; lcg_look; k_dflt (refine ListComp_S (FzA := by k_asm) (by rfl) (by decide) (by rfl) (by decide) (by rfl) ?_))
  k_with "SrcS" => (refine SrcS.intro (by rfl) (by assumption) (by assumption) (by assumption) (by assumption) (by assumption) (by k_asm) (by k_asm) ?_; intro g'; lcg_lit)
  k_with "CompRest" => (with_unfolding_all first
      | (refine LCg.CompRest.succ ?_; intro v' I' oI' C' oC' D' m' h' tk' E' hv' hC' hx' F' N' off' ne'; (obtain ⟨t9', k9', hk9', hv9'⟩ := hv'; cases (Option.some.inj hk9'); subst hv9'))
      | refine LCg.CompRest.zero ?_)
  k_with "CompEnd" => (k_dflt (refine' LCg.CompEnd.intro ?zF ?zN _ (fun p hp => hp) ?zoff ?zS ?_; (case zF => k_asm); (case zN => k_asm); (case zoff => assumption); (case zS => exact trivial)); (try dsimp only [List.nil_append, List.cons_append]))
  k_with "call type:bytes" => (k_here; (with_reducible show wpAny _ _ (call (Value.type "bytes") [Value.ref _]) _ _ _); k_dflt (refine' KBa.make_K ?zkbaF ?zkbaN ?zkbah ?zkbal ?zkbai ?zkbar ?zkban ?_; (case zkbaF => k_asm); (case zkbaN => k_asm); (case zkbah => rfl); (case zkbal => exact News.isList (by k_asm) (by k_mem)); (case zkbai => exact ints4n); (case zkbar => exact in4n (by assumption) (by assumption) (by assumption) (by assumption)); (case zkban => exact (by decide : 4 ≤ 16777216))); intro _ _ _ F' N' _; (try dsimp only))
  k_with "binaryOp FloorDiv int int" => ((with_reducible refine fdiv_g (by decide) (by assumption) (by assumption) ?_); (try dsimp only))
  k_with "binaryOp Mod int int" => ((with_reducible refine mod_g (by decide) (by assumption) ?_); (try dsimp only))
  k_with "call builtin:chr" => (k_here; refine chr_is (by assumption) ?_; (try dsimp only))
  k_with "subscriptTail Name Constant bytes int" => ((first | (with_reducible refine' pair_0 ?zsk ?_ ?zs2 ?zs3; (case zsk => assumption); (case zs2 => with_unfolding_all rfl); (case zs3 => intro _; with_unfolding_all rfl)) | (with_reducible refine' pair_1 ?zsk ?_ ?zs2 ?zs3; (case zsk => assumption); (case zs2 => with_unfolding_all rfl); (case zs3 => intro _; with_unfolding_all rfl))); intro _ _; (try dsimp only))
  k_with "call ref" => (k_here; (with_reducible show wpAny _ _ (call (Value.ref 162) _ _) _ _ _); k_dflt (refine' useZ (b64_2_ok _ _ _ (by assumption) _) ?zh0 ?zh1 ?zh2 ?zh3 ?zh4 ?zhB ?zhF ?zhf ?zhke ?zhX ?zhN ?zhT ?_; (case zh0 => rfl); (case zh1 => exact Nat.le_of_ble_eq_true rfl); (case zh2 => exact rfl); (case zh3 => exact rfl); (case zh4 => exact Nat.le_of_ble_eq_true rfl); (case zhB => k_asm); (case zhF => k_asm); (case zhf => exact rfl); (case zhke => exact rfl); (case zhX => k_asm); (case zhN => k_asm); (case zhT => k_asm)); intro v9 h9 tk9 hv9 F9 N9; obtain ⟨t9, hv9⟩ := hv9; subst hv9; (try dsimp only))
  k_with "call ref" => (k_here; (with_reducible show wpAny _ _ (call (Value.ref 227) _ _) _ _ _); k_dflt (refine' useZ (text4 _ _ _ _ _ (KBa.ints_make in_sig3) _) ?zh0 ?zh1 ?zh2 ?zh3 ?zh4 ?zhB ?zhF ?zhf ?zhke ?zhX ?zhN ?zhT ?_; (case zh0 => rfl); (case zh1 => exact Nat.le_of_ble_eq_true rfl); (case zh2 => exact rfl); (case zh3 => exact rfl); (case zh4 => exact Nat.le_of_ble_eq_true rfl); (case zhB => k_asm); (case zhF => k_asm); (case zhf => exact rfl); (case zhke => exact rfl); (case zhX => k_asm); (case zhN => k_asm); (case zhT => k_asm)); intro v9 h9 tk9 hv9 F9 N9; obtain ⟨t9, hv9⟩ := hv9; subst hv9; (try dsimp only))
  k_with "call ref" => (k_here; (with_reducible show wpAny _ _ (call (Value.ref 177) _ _) _ _ _); k_dflt (first | (refine' call_kw (kw' := [(Str.ofString "casefold", .bool true)]) ?ze ?_; (case ze => kernel_rfl); refine' useZ (B16Is.at (by assumption) _) ?zh0 ?zh1 ?zh2 ?zh3 ?zh4 ?zhB ?zhF ?zhf ?zhke ?zhX ?zhN ?zhT ?_; (case zh0 => rfl); (case zh1 => exact Nat.le_of_ble_eq_true rfl); (case zh2 => exact rfl); (case zh3 => exact rfl); (case zh4 => exact Nat.le_of_ble_eq_true rfl); (case zhB => k_asm); (case zhF => k_asm); (case zhf => exact rfl); (case zhke => exact rfl); (case zhX => k_asm); (case zhN => k_asm); (case zhT => k_asm)) | (refine' call_kw (kw' := [(Str.ofString "casefold", .bool false)]) ?ze ?_; (case ze => kernel_rfl); refine' useZ (B16Is.at (by assumption) _) ?zh0 ?zh1 ?zh2 ?zh3 ?zh4 ?zhB ?zhF ?zhf ?zhke ?zhX ?zhN ?zhT ?_; (case zh0 => rfl); (case zh1 => exact Nat.le_of_ble_eq_true rfl); (case zh2 => exact rfl); (case zh3 => exact rfl); (case zh4 => exact Nat.le_of_ble_eq_true rfl); (case zhB => k_asm); (case zhF => k_asm); (case zhf => exact rfl); (case zhke => exact rfl); (case zhX => k_asm); (case zhN => k_asm); (case zhT => k_asm))); intro v9 h9 tk9 hv9 F9 N9; obtain ⟨t9, hv9⟩ := hv9; subst hv9; (try dsimp only))
  trivial
noncomputable def ChunkGtn (w : World) (qual : Str) (body : List Stmt) (scope : Scope) (cdv : Value) : Prop :=
  ∀ (mean : ExcName → Option Value) (mg mb : Str → Option Value) (base : Heap) (s : Shared) (m : Str → Option Value) (Q : Flow → Shared → Prop) (E : Value → Shared → Prop) (rest : List (Addr × Obj)) (o oc cr : Obj) (c a0 a1 a2 a3 : Addr) (nr n3 : Nat) (p3 : Str × Str × Str × Str) (u0 u1 u2 u3 : Tok) (x p q h l : Int) (T : Str) (s0 s1 s2 s3 : Nat) (t tt tp : Tok),
    Below (topZ 301 []) base [] base → (KX w.params).In base → Top vR loose mean mg mb base → Fr base 241 s.heap m → CodeHd base 68 64 → Pre39 base → TabOk o c oc → (∀ p ∈ (242, cr) :: (253, refsO a0 a1 a2 a3 nr) :: (a3, rowO p3 u0 u1 u2 u3 n3) :: rest, NotTab p) → News base 241 s.heap ((64, o) :: (c, oc) :: (242, cr) :: (253, refsO a0 a1 a2 a3 nr) :: (a3, rowO p3 u0 u1 u2 u3 n3) :: rest) →
    cr.data = .cell (some (.ref 253)) → m "x" = some (.int x t) → m "text" = some (.str T tt) → m "place" = some (.int p tp) →
    Builtin.divisionGoesByPylong x 32 = false → Int.fdiv x 32 = q → Int.fmod q 2 = 1 →
    Txt.slice T (some p) (some (p + 4)) = ⟨#[s0, s1, s2, s3]⟩ → s0 < 128 → s1 < 128 → s2 < 128 → s3 < 128 → (0 ≤ p ∧ p ≤ 10) → T.length ≤ 20 →
    B16Is w (byteArr [(s0 : Int), (s1 : Int), (s2 : Int), (s3 : Int)]) true h l →
    KBw.bInts (byteArr [h, l]) = [h, l] → (0 ≤ h ∧ h < 256) → (0 ≤ l ∧ l < 256) →
    FitsIs w p3 ⟨#[(sig (h / 4)).toNat, (sig (h % 4 * 16 + l / 16)).toNat, (sig (l % 16 * 4)).toNat, (61 : Int).toNat]⟩ true → (0 ≤ h * 256 + l ∧ h * 256 + l ≤ 1114111) → FoundNone w T p 4 →
    (∀ h' tk' m' o' c' oc', TabOk o' c' oc' → Fr base 241 h' m' → News base 241 h' ((64, o') :: (c', oc') :: (242, cr) :: (253, refsO a0 a1 a2 a3 nr) :: (a3, rowO p3 u0 u1 u2 u3 n3) :: rest) → m' "x" = some (.int x t) → m' "text" = some (.str T tt) → Q .next { s with heap := h', toks := tk' }) →

      wpAny (model PW w) ((topZ 301 []).deeper (lawE qual scope cdv)) (execs (innerFor body) (lawE qual scope cdv)) Q E s
set_option maxHeartbeats 8000000 in
theorem chunkGtn {w : World} {qual : Str} {body : List Stmt} {scope : Scope} {cdv : Value} (L : LawIs w qual body scope cdv) : ChunkGtn w qual body scope cdv := by
  revert L
  dsimp only [LawIs, ChunkGtn, PW]
  k_fill
  intro L
  k_dflt (refine' law_elim (P := ChunkGtn w) ?h ?hP L; (case h => k_is))
  dsimp only [ChunkGtn, PW]
  intro mean mg mb base s m Q E rest o oc cr c a0 a1 a2 a3 nr n3 p3 u0 u1 u2 u3 x p q h l T s0 s1 s2 s3 t tt tp B X T F C6 P39 hT hr N0 hcr hx ht hp p1 e1 e2 hs l0 l1 l2 l3 hp2 hl H16 hbi bh bl hfit hP hF k
  dsimp only [innerFor, forBody, List.drop, List.take]
  (try k_fold)
  k_steps
  all_goals ((try dsimp only); k_dflt exact k _ _ _ _ _ _ (by assumption) (by k_asm) (fun p hp => (by k_asm : News _ _ _ _) p (by repeat (first | exact hp | apply List.mem_cons_of_mem))) (by exact hx) (by exact ht))
noncomputable def ChunkGts (w : World) (qual : Str) (body : List Stmt) (scope : Scope) (cdv : Value) : Prop :=
  ∀ (mean : ExcName → Option Value) (mg mb : Str → Option Value) (base : Heap) (s : Shared) (m : Str → Option Value) (Q : Flow → Shared → Prop) (E : Value → Shared → Prop) (rest : List (Addr × Obj)) (o oc cr : Obj) (c a0 a1 a2 a3 : Addr) (nr n3 : Nat) (p3 : Str × Str × Str × Str) (u0 u1 u2 u3 : Tok) (x p q h l : Int) (T : Str) (s0 s1 s2 s3 : Nat) (t tt tp : Tok),
    Below (topZ 301 []) base [] base → (KX w.params).In base → Top vR loose mean mg mb base → Fr base 241 s.heap m → CodeHd base 68 64 → Pre39 base → TabOk o c oc → (∀ p ∈ (242, cr) :: (253, refsO a0 a1 a2 a3 nr) :: (a3, rowO p3 u0 u1 u2 u3 n3) :: rest, NotTab p) → News base 241 s.heap ((64, o) :: (c, oc) :: (242, cr) :: (253, refsO a0 a1 a2 a3 nr) :: (a3, rowO p3 u0 u1 u2 u3 n3) :: rest) →
    cr.data = .cell (some (.ref 253)) → m "x" = some (.int x t) → m "text" = some (.str T tt) → m "place" = some (.int p tp) →
    Builtin.divisionGoesByPylong x 32 = false → Int.fdiv x 32 = q → Int.fmod q 2 = 1 →
    Txt.slice T (some p) (some (p + 4)) = ⟨#[s0, s1, s2, s3]⟩ → s0 < 128 → s1 < 128 → s2 < 128 → s3 < 128 → (0 ≤ p ∧ p ≤ 10) → T.length ≤ 20 →
    B16Is w (byteArr [(s0 : Int), (s1 : Int), (s2 : Int), (s3 : Int)]) true h l →
    KBw.bInts (byteArr [h, l]) = [h, l] → (0 ≤ h ∧ h < 256) → (0 ≤ l ∧ l < 256) →
    FitsIs w p3 ⟨#[(sig (h / 4)).toNat, (sig (h % 4 * 16 + l / 16)).toNat, (sig (l % 16 * 4)).toNat, (61 : Int).toNat]⟩ false → (0 ≤ h * 256 + l ∧ h * 256 + l ≤ 1114111) → FoundSome w T p 4 (h * 256 + l).toNat →
    (∀ h' tk' m' o' c' oc', TabOk o' c' oc' → Fr base 241 h' m' → News base 241 h' ((64, o') :: (c', oc') :: (242, cr) :: (253, refsO a0 a1 a2 a3 nr) :: (a3, rowO p3 u0 u1 u2 u3 n3) :: rest) → m' "x" = some (.int x t) → m' "text" = some (.str T tt) → Q .next { s with heap := h', toks := tk' }) →

      wpAny (model PW w) ((topZ 301 []).deeper (lawE qual scope cdv)) (execs (innerFor body) (lawE qual scope cdv)) Q E s
set_option maxHeartbeats 8000000 in
theorem chunkGts {w : World} {qual : Str} {body : List Stmt} {scope : Scope} {cdv : Value} (L : LawIs w qual body scope cdv) : ChunkGts w qual body scope cdv := by
  revert L
  dsimp only [LawIs, ChunkGts, PW]
  k_fill
  intro L
  k_dflt (refine' law_elim (P := ChunkGts w) ?h ?hP L; (case h => k_is))
  dsimp only [ChunkGts, PW]
  intro mean mg mb base s m Q E rest o oc cr c a0 a1 a2 a3 nr n3 p3 u0 u1 u2 u3 x p q h l T s0 s1 s2 s3 t tt tp B X T F C6 P39 hT hr N0 hcr hx ht hp p1 e1 e2 hs l0 l1 l2 l3 hp2 hl H16 hbi bh bl hfit hP hF k
  dsimp only [innerFor, forBody, List.drop, List.take]
  (try k_fold)
  k_steps
  all_goals ((try dsimp only); k_dflt exact k _ _ _ _ _ _ (by assumption) (by k_asm) (fun p hp => (by k_asm : News _ _ _ _) p (by repeat (first | exact hp | apply List.mem_cons_of_mem))) (by exact hx) (by exact ht))
noncomputable def ChunkGfn (w : World) (qual : Str) (body : List Stmt) (scope : Scope) (cdv : Value) : Prop :=
  ∀ (mean : ExcName → Option Value) (mg mb : Str → Option Value) (base : Heap) (s : Shared) (m : Str → Option Value) (Q : Flow → Shared → Prop) (E : Value → Shared → Prop) (rest : List (Addr × Obj)) (o oc cr : Obj) (c a0 a1 a2 a3 : Addr) (nr n3 : Nat) (p3 : Str × Str × Str × Str) (u0 u1 u2 u3 : Tok) (x p q h l : Int) (T : Str) (s0 s1 s2 s3 : Nat) (t tt tp : Tok),
    Below (topZ 301 []) base [] base → (KX w.params).In base → Top vR loose mean mg mb base → Fr base 241 s.heap m → CodeHd base 68 64 → Pre39 base → TabOk o c oc → (∀ p ∈ (242, cr) :: (253, refsO a0 a1 a2 a3 nr) :: (a3, rowO p3 u0 u1 u2 u3 n3) :: rest, NotTab p) → News base 241 s.heap ((64, o) :: (c, oc) :: (242, cr) :: (253, refsO a0 a1 a2 a3 nr) :: (a3, rowO p3 u0 u1 u2 u3 n3) :: rest) →
    cr.data = .cell (some (.ref 253)) → m "x" = some (.int x t) → m "text" = some (.str T tt) → m "place" = some (.int p tp) →
    Builtin.divisionGoesByPylong x 32 = false → Int.fdiv x 32 = q → Int.fmod q 2 = 0 →
    Txt.slice T (some p) (some (p + 4)) = ⟨#[s0, s1, s2, s3]⟩ → s0 < 128 → s1 < 128 → s2 < 128 → s3 < 128 → (0 ≤ p ∧ p ≤ 10) → T.length ≤ 20 →
    B16Is w (byteArr [(s0 : Int), (s1 : Int), (s2 : Int), (s3 : Int)]) false h l →
    KBw.bInts (byteArr [h, l]) = [h, l] → (0 ≤ h ∧ h < 256) → (0 ≤ l ∧ l < 256) →
    FitsIs w p3 ⟨#[(sig (h / 4)).toNat, (sig (h % 4 * 16 + l / 16)).toNat, (sig (l % 16 * 4)).toNat, (61 : Int).toNat]⟩ true → (0 ≤ h * 256 + l ∧ h * 256 + l ≤ 1114111) → FoundNone w T p 4 →
    (∀ h' tk' m' o' c' oc', TabOk o' c' oc' → Fr base 241 h' m' → News base 241 h' ((64, o') :: (c', oc') :: (242, cr) :: (253, refsO a0 a1 a2 a3 nr) :: (a3, rowO p3 u0 u1 u2 u3 n3) :: rest) → m' "x" = some (.int x t) → m' "text" = some (.str T tt) → Q .next { s with heap := h', toks := tk' }) →

      wpAny (model PW w) ((topZ 301 []).deeper (lawE qual scope cdv)) (execs (innerFor body) (lawE qual scope cdv)) Q E s
set_option maxHeartbeats 8000000 in
theorem chunkGfn {w : World} {qual : Str} {body : List Stmt} {scope : Scope} {cdv : Value} (L : LawIs w qual body scope cdv) : ChunkGfn w qual body scope cdv := by
  revert L
  dsimp only [LawIs, ChunkGfn, PW]
  k_fill
  intro L
  k_dflt (refine' law_elim (P := ChunkGfn w) ?h ?hP L; (case h => k_is))
  dsimp only [ChunkGfn, PW]
  intro mean mg mb base s m Q E rest o oc cr c a0 a1 a2 a3 nr n3 p3 u0 u1 u2 u3 x p q h l T s0 s1 s2 s3 t tt tp B X T F C6 P39 hT hr N0 hcr hx ht hp p1 e1 e2 hs l0 l1 l2 l3 hp2 hl H16 hbi bh bl hfit hP hF k
  dsimp only [innerFor, forBody, List.drop, List.take]
  (try k_fold)
  k_steps
  all_goals ((try dsimp only); k_dflt exact k _ _ _ _ _ _ (by assumption) (by k_asm) (fun p hp => (by k_asm : News _ _ _ _) p (by repeat (first | exact hp | apply List.mem_cons_of_mem))) (by exact hx) (by exact ht))
noncomputable def ChunkGfs (w : World) (qual : Str) (body : List Stmt) (scope : Scope) (cdv : Value) : Prop :=
  ∀ (mean : ExcName → Option Value) (mg mb : Str → Option Value) (base : Heap) (s : Shared) (m : Str → Option Value) (Q : Flow → Shared → Prop) (E : Value → Shared → Prop) (rest : List (Addr × Obj)) (o oc cr : Obj) (c a0 a1 a2 a3 : Addr) (nr n3 : Nat) (p3 : Str × Str × Str × Str) (u0 u1 u2 u3 : Tok) (x p q h l : Int) (T : Str) (s0 s1 s2 s3 : Nat) (t tt tp : Tok),
    Below (topZ 301 []) base [] base → (KX w.params).In base → Top vR loose mean mg mb base → Fr base 241 s.heap m → CodeHd base 68 64 → Pre39 base → TabOk o c oc → (∀ p ∈ (242, cr) :: (253, refsO a0 a1 a2 a3 nr) :: (a3, rowO p3 u0 u1 u2 u3 n3) :: rest, NotTab p) → News base 241 s.heap ((64, o) :: (c, oc) :: (242, cr) :: (253, refsO a0 a1 a2 a3 nr) :: (a3, rowO p3 u0 u1 u2 u3 n3) :: rest) →
    cr.data = .cell (some (.ref 253)) → m "x" = some (.int x t) → m "text" = some (.str T tt) → m "place" = some (.int p tp) →
    Builtin.divisionGoesByPylong x 32 = false → Int.fdiv x 32 = q → Int.fmod q 2 = 0 →
    Txt.slice T (some p) (some (p + 4)) = ⟨#[s0, s1, s2, s3]⟩ → s0 < 128 → s1 < 128 → s2 < 128 → s3 < 128 → (0 ≤ p ∧ p ≤ 10) → T.length ≤ 20 →
    B16Is w (byteArr [(s0 : Int), (s1 : Int), (s2 : Int), (s3 : Int)]) false h l →
    KBw.bInts (byteArr [h, l]) = [h, l] → (0 ≤ h ∧ h < 256) → (0 ≤ l ∧ l < 256) →
    FitsIs w p3 ⟨#[(sig (h / 4)).toNat, (sig (h % 4 * 16 + l / 16)).toNat, (sig (l % 16 * 4)).toNat, (61 : Int).toNat]⟩ false → (0 ≤ h * 256 + l ∧ h * 256 + l ≤ 1114111) → FoundSome w T p 4 (h * 256 + l).toNat →
    (∀ h' tk' m' o' c' oc', TabOk o' c' oc' → Fr base 241 h' m' → News base 241 h' ((64, o') :: (c', oc') :: (242, cr) :: (253, refsO a0 a1 a2 a3 nr) :: (a3, rowO p3 u0 u1 u2 u3 n3) :: rest) → m' "x" = some (.int x t) → m' "text" = some (.str T tt) → Q .next { s with heap := h', toks := tk' }) →

      wpAny (model PW w) ((topZ 301 []).deeper (lawE qual scope cdv)) (execs (innerFor body) (lawE qual scope cdv)) Q E s
set_option maxHeartbeats 8000000 in
theorem chunkGfs {w : World} {qual : Str} {body : List Stmt} {scope : Scope} {cdv : Value} (L : LawIs w qual body scope cdv) : ChunkGfs w qual body scope cdv := by
  revert L
  dsimp only [LawIs, ChunkGfs, PW]
  k_fill
  intro L
  k_dflt (refine' law_elim (P := ChunkGfs w) ?h ?hP L; (case h => k_is))
  dsimp only [ChunkGfs, PW]
  intro mean mg mb base s m Q E rest o oc cr c a0 a1 a2 a3 nr n3 p3 u0 u1 u2 u3 x p q h l T s0 s1 s2 s3 t tt tp B X T F C6 P39 hT hr N0 hcr hx ht hp p1 e1 e2 hs l0 l1 l2 l3 hp2 hl H16 hbi bh bl hfit hP hF k
  dsimp only [innerFor, forBody, List.drop, List.take]
  (try k_fold)
  k_steps
  all_goals ((try dsimp only); k_dflt exact k _ _ _ _ _ _ (by assumption) (by k_asm) (fun p hp => (by k_asm : News _ _ _ _) p (by repeat (first | exact hp | apply List.mem_cons_of_mem))) (by exact hx) (by exact ht))
end Mine
theorem Mine.L7_lines_end : True := by
  k_with_none
  trivial
end L7_text
section L8_text
open PySem PySem.W PyProof.Rows
namespace Mine
section
variable {prog : Program} {w : World} {A : Around} {h₀ : Heap} {env : Env} {x : Str} {body : List Stmt} {Q : Flow → Shared → Prop}
noncomputable abbrev Nev : Value → Shared → Prop := fun _ _ => False
noncomputable def OwnOk (p : Addr × Obj) : Prop := NotTab p ∧ ∀ v, p.2.data ≠ .cell v
noncomputable def Left64 (h₀ : Heap) (L : Addr) (own : List (Addr × Obj)) (K : List (Addr × Obj) → (Str → Option Value) → Prop) (s₁ : Shared) (fl : Flow) (s' : Shared) : Prop :=
  fl = .next ∧ ∃ h' tk' m' o' c' oc' rest', s' = { s₁ with heap := h', toks := tk' } ∧ TabOk o' c' oc' ∧ K rest' m' ∧ Fr h₀ L h' m' ∧ News h₀ L h' ((64, o') :: (c', oc') :: (rest' ++ own))
theorem loopT {s₂ : Shared} {I : Addr} {fp : List Addr} {n : Nat} {P : Nat → Value → Prop} {St : Nat → Heap → Prop} {m : Str → Option Value} {o oc : Obj} {c : Addr} {rest : List (Addr × Obj)} (K : Nat → List (Addr × Obj) → (Str → Option Value) → Prop)
    (W : Walks prog w A I fp [I] n P St) (hLf : env.locals ∉ fp) (hI : h₀.get? I = none) (hIf : I ∈ fp)
    (hst : St 0 s₂.heap) (hSt : ∀ i h, St i h → ∀ b ∈ fp, ∀ ob, h.get? b = some ob → b ≠ 64 ∧ (∀ vs, ob.data = .fields vs → ∃ n t, vs[1]? = some (.int n t)) ∧ ∀ v, ob.data ≠ .cell v) (hIo : ∀ i h, St i h → ∃ ob vs, h.get? I = some ob ∧ ob.data = .fields vs)
    (hKI : ∀ i r m, K i r m → ∀ p ∈ r, p.1 ≠ I) (hKN : ∀ i r m, K i r m → ∀ p ∈ r, NotTab p) (hT : TabOk o c oc) (hIn : I ≠ c)
    (F : Fr h₀ env.locals s₂.heap m) (N : News h₀ env.locals s₂.heap ((64, o) :: (c, oc) :: rest)) (hK : K 0 rest m)
    (turn : ∀ i v m₁ o c oc rest own s₁, i < n → P i v → TabOk o c oc → K i rest m₁ → (∀ p ∈ own, OwnOk p) → (∀ p ∈ rest ++ own, NotTab p) → Fr h₀ env.locals s₁.heap (fun y => if y = x then some v else m₁ y) → News h₀ env.locals s₁.heap ((64, o) :: (c, oc) :: (rest ++ own)) →
      wpAny (model prog w) A (execs body env) (Left64 h₀ env.locals own (K (i + 1)) s₁) Nev s₁)
    (done : ∀ h' tk m' o c oc rest, TabOk o c oc → K n rest m' → Fr h₀ env.locals h' m' → News h₀ env.locals h' ((64, o) :: (c, oc) :: rest) → Q .next { s₂ with heap := h', toks := tk }) :
    LoopAtV prog w A h₀ env x body Q Nev (.ref I) s₂ := by
  have I64 : I ≠ 64 := by obtain ⟨ob, vs, e, _⟩ := hIo 0 _ hst; exact (hSt 0 _ hst I hIf ob e).1
  refine ⟨I, fp, [I], n, P, St, m, _, fun i m' news' => ∃ o c oc rest, TabOk o c oc ∧ news' = (64, o) :: (c, oc) :: rest ∧ K i rest m', rfl, W, hLf, fun b hb => by rw [List.mem_singleton.mp hb]; exact hI, ?_, hst, F, N, ⟨o, c, oc, rest, hT, rfl, hK⟩, ?_, ?_⟩
  · intro p hp hw
    have hw := List.mem_singleton.mp hw
    rcases List.mem_cons.mp hp with rfl | hp
    · exact I64 hw.symm
    · rcases List.mem_cons.mp hp with rfl | hp
      · exact hIn hw.symm
      · exact hKI _ _ _ hK p hp hw
  · rintro i v m₁ news₁ s₁ own _ hi hP ⟨o, c, oc, rest, hT, rfl, hK⟩ hoff hown hget hall hst₁ F₁ N₁
    have hOO : ∀ p ∈ own, OwnOk p := fun p hp => have z := hSt _ _ hst₁ p.1 (hown p hp) p.2 (hget p hp); ⟨⟨z.1, z.2.1⟩, z.2.2⟩
    have hNT : ∀ p ∈ own, NotTab p := fun p hp => (hOO p hp).1
    have N₂ : News h₀ env.locals s₁.heap ((64, o) :: (c, oc) :: (rest ++ own)) := fun p hp => N₁ p (by
      rcases List.mem_cons.mp hp with rfl | hp
      · exact List.mem_append_right _ (.head _)
      · rcases List.mem_cons.mp hp with rfl | hp
        · exact List.mem_append_right _ (.tail _ (.head _))
        · rcases List.mem_append.mp hp with hp | hp
          · exact List.mem_append_right _ (.tail _ (.tail _ hp))
          · exact List.mem_append_left _ hp)
    have hNA : ∀ p ∈ rest ++ own, NotTab p := fun p hp => (List.mem_append.mp hp).elim (hKN _ _ _ hK p) (hNT p)
    refine wpAny_mono (turn i v m₁ o c oc rest own s₁ hi hP hT hK hOO hNA F₁ N₂) ?_ fun _ _ e => e
    rintro fl s' ⟨rfl, h', tk', m', o', c', oc', rest', rfl, hT', hK', F', N'⟩
    refine LoopStepV.next (LoopStepU.intro (news₂ := (64, o') :: (c', oc') :: rest') F' (fun p hp => N' p ?_) ?_ ⟨o', c', oc', rest', hT', rfl, hK'⟩)
    · rcases List.mem_append.mp hp with hp | hp
      · exact .tail _ (.tail _ (List.mem_append_right _ hp))
      · rcases List.mem_cons.mp hp with rfl | hp
        · exact .head _
        · rcases List.mem_cons.mp hp with rfl | hp
          · exact .tail _ (.head _)
          · exact .tail _ (.tail _ (List.mem_append_left _ hp))
    · intro p hp hw
      have hw := List.mem_singleton.mp hw
      rcases List.mem_cons.mp hp with rfl | hp
      · exact I64 hw.symm
      · rcases List.mem_cons.mp hp with rfl | hp
        · obtain ⟨ob, vs, e1, e2⟩ := hIo _ _ hst₁
          have hm := hall I hIf hI ob e1
          have g1 := (N' (I, ob) (.tail _ (.tail _ (List.mem_append_right _ hm)))).1
          have g2 := (N' (c', oc') (.tail _ (.head _))).1
          obtain ⟨⟨vs', hd, hv⟩, _⟩ := hT'
          have hw' : c' = I := hw
          rw [hw'] at g2
          have e : ob = oc' := Option.some.inj (g1.symm.trans g2)
          obtain ⟨k, t, hk⟩ := (hNT _ hm).2 vs' (e ▸ hd)
          exact hv k t hk
        · exact hKI _ _ _ hK' p hp hw
  · rintro h' tk m' news' F' N' _ ⟨o, c, oc, rest, hT, rfl, hK⟩
    exact done h' tk m' o c oc rest hT hK F' N'
end
end Mine
end L8_text
section L9_text
open PySem PySem.W PyProof.Rows
namespace Mine
section
variable {prog : Program} {w : World} {A : Around} {h₀ : Heap} {env : Env} {x : Str} {body : List Stmt} {Q : Flow → Shared → Prop} {s : Shared}
theorem place_loop {r : Addr} {t u v : Tok} {m : Str → Option Value} {o oc : Obj} {c : Addr} {rest : List (Addr × Obj)} {K : Nat → List (Addr × Obj) → (Str → Option Value) → Prop} {adr : List Addr}
    (hr : IsRange s.heap r 4 7 1 t u v) (hh : A.handled = none) (hKI : ∀ i r m, K i r m → r.map (·.1) = adr) (hKN : ∀ i r m, K i r m → ∀ p ∈ r, NotTab p) (hT : TabOk o c oc)
    (F : Fr h₀ env.locals s.heap m) (N : News h₀ env.locals s.heap ((64, o) :: (c, oc) :: rest)) (hK : K 0 rest m)
    (turn : ∀ i v m₁ o c oc rest own s₁, i < 3 → (∃ t, v = .int (4 + (i : Int)) t) → TabOk o c oc → K i rest m₁ → (∀ p ∈ own, NotTab p) → (∀ p ∈ rest ++ own, NotTab p) → Fr h₀ env.locals s₁.heap (fun y => if y = x then some v else m₁ y) → News h₀ env.locals s₁.heap ((64, o) :: (c, oc) :: (rest ++ own)) →
      wpAny (model prog w) A (execs body env) (Left64 h₀ env.locals own (K (i + 1)) s₁) Nev s₁)
    (done : ∀ h' tk m' o c oc rest, TabOk o c oc → K 3 rest m' → Fr h₀ env.locals h' m' → News h₀ env.locals h' ((64, o) :: (c, oc) :: rest) → Q .next { s with heap := h', toks := tk }) :
    wpAny (model prog w) A (pyIter (.ref r)) (fun it s₂ => LoopAtV prog w A h₀ env x body Q Nev it s₂) Nev s := by
  refine wpAny_pyIter_range hr (by decide) ?_
  have up : ∀ b ob, s.heap.get? b = some ob → (s.heap.push { cls := .type "range_iterator", data := .fields #[rawInt 4, rawInt (Builtin.Range.rangeSize 4 7 1), rawInt 1] }).get? b = some ob := fun b ob e => Heap.get?_push_of_some _ e
  have lt : ∀ p ∈ rest, p.1 < s.heap.objs.size := fun p hp => Heap.lt_size (N p (.tail _ (.tail _ hp))).1
  refine loopT K (LCg.range_walks hh 4 3) ?_ (next_is_new F) (.head _) ?_ ?_ ?_ ?_ hKN hT ?_ (F.keeps up) (N.grown up) hK (fun i v m₁ o c oc rest own s₁ h1 h2 h3 h4 h5 h6 h7 h8 => turn i v m₁ o c oc rest own s₁ h1 h2 h3 h4 (fun p hp => (h5 p hp).1) h6 h7 h8) done
  · intro hm
    exact absurd F.ns.lt ((List.mem_singleton.mp hm) ▸ Nat.lt_irrefl _)
  · exact Heap.get?_push_size _ rfl
  · intro i h st b hb ob e
    obtain rfl := List.mem_singleton.mp hb
    have st' : h.get? s.heap.objs.size = some _ := st
    rw [st'] at e
    cases e
    refine ⟨?_, ?_⟩
    · have := Heap.lt_size (N _ (.head _)).1
      exact Nat.ne_of_gt this
    · refine ⟨fun vs e => ?_, fun v e => by cases e⟩
      cases e; exact ⟨_, _, rfl⟩
  · intro i h st
    exact ⟨_, _, st, rfl⟩
  · intro i r' m' hk p hp e
    have h1 : p.1 ∈ r'.map (·.1) := List.mem_map.mpr ⟨p, hp, rfl⟩
    rw [hKI _ _ _ hk, ← hKI _ _ _ hK] at h1
    obtain ⟨q, hq, hq2⟩ := List.mem_map.mp h1
    have := lt q hq
    rw [hq2, e] at this
    exact Nat.lt_irrefl _ this
  · have := Heap.lt_size (N _ (.tail _ (.head _))).1
    exact Nat.ne_of_gt this
end
theorem L9_lines1 : True := by
  k_with_none
  k_with "eval Name" => (k_here; k_dflt (refine' nameX_L ?zk1 ?zk2 ?_ ?za ?zb ?zc; (case za => rfl); (case zb => rfl); (case zc => decide); (case zk1 => k_asm); (case zk2 => first | exact rfl | assumption); k_whole); (try dsimp only))
  k_with "pyIter ref" => (k_here; k_dflt (refine' place_loop ?za1 ?za2 ?za3 ?za4 ?za5 ?za6 ?za7 ?za8 ?za9 ?_; (case za1 => assumption); (case za2 => exact rfl); (case za3 => assumption); (case za4 => assumption); (case za5 => assumption); (case za6 => k_asm); (case za7 => exact (fun p hp => (by k_asm : News _ _ _ _) p (by repeat (first | exact hp | apply List.mem_cons_of_mem)))); (case za8 => assumption); (case za9 => assumption)))
  trivial
noncomputable def ChunkF (w : World) (qual : Str) (body : List Stmt) (scope : Scope) (cdv : Value) : Prop :=
  ∀ (mean : ExcName → Option Value) (mg mb : Str → Option Value) (base : Heap) (s : Shared) (m : Str → Option Value) (Q : Flow → Shared → Prop) (E : Value → Shared → Prop) (o oc : Obj) (c : Addr) (rest : List (Addr × Obj)) (K : Nat → List (Addr × Obj) → (Str → Option Value) → Prop) (adr : List Addr),
    Below (topZ 301 []) base [] base → (KX w.params).In base → Top vR loose mean mg mb base → Fr base 241 s.heap m → E = Nev → (∀ i r m, K i r m → r.map (·.1) = adr) → (∀ i r m, K i r m → ∀ p ∈ r, NotTab p) → TabOk o c oc → News base 241 s.heap ((64, o) :: (c, oc) :: rest) → K 0 rest m →
    (∀ (i : Nat) (v : Value) (m₁ : Str → Option Value) (o : Obj) (c : Addr) (oc : Obj) (rest own : List (Addr × Obj)) (s₁ : Shared), i < 3 → (∃ t, v = .int (4 + (i : Int)) t) → TabOk o c oc → K i rest m₁ → (∀ p ∈ own, NotTab p) → (∀ p ∈ rest ++ own, NotTab p) → Fr base 241 s₁.heap (fun y => if y = "place" then some v else m₁ y) → News base 241 s₁.heap ((64, o) :: (c, oc) :: (rest ++ own)) →
      wpAny (model PW w) ((topZ 301 []).deeper (lawE qual scope cdv)) (execs (innerFor body) (lawE qual scope cdv)) (Left64 base 241 own (K (i + 1)) s₁) Nev s₁) →
    (∀ h' tk m' o c oc rest, TabOk o c oc → K 3 rest m' → Fr base 241 h' m' → News base 241 h' ((64, o) :: (c, oc) :: rest) → Q .next { s with heap := h', toks := tk }) →

      wpAny (model PW w) ((topZ 301 []).deeper (lawE qual scope cdv)) (execs ((forBody body).drop 11) (lawE qual scope cdv)) Q E s
set_option maxHeartbeats 8000000 in
theorem chunkF {w : World} {qual : Str} {body : List Stmt} {scope : Scope} {cdv : Value} (L : LawIs w qual body scope cdv) : ChunkF w qual body scope cdv := by
  revert L
  dsimp only [LawIs, ChunkF, PW]
  k_fill
  intro L
  k_dflt (refine' law_elim (P := ChunkF w) ?h ?hP L; (case h => k_is))
  dsimp only [ChunkF, PW]
  intro mean mg mb base s m Q E o oc c rest K adr B X T F hE hKI hKN hT N0 hK turn done
  dsimp only [innerFor, forBody, List.drop, List.take]
  (try k_fold)
  subst hE
  refine wpAny_execs_cons ?_
  with_reducible refine For_invV base ?hx ?hp ?h ?hs ?hE
  case hx => exact rfl
  case hp => exact rfl
  case hs => exact fun _ => rfl
  case hE => exact PassesOwn.never
  k_steps
  all_goals k_dflt exact done _ _ _ _ _ _ _ (by assumption) (by assumption) (by assumption) (by assumption)
end Mine
theorem Mine.L9_lines_end : True := by
  k_with_none
  trivial
end L9_text
section L10_text
open PySem PySem.W PyProof.Rows
namespace Mine
noncomputable abbrev Row4 := Str × Str × Str × Str
set_option genInjectivity false in
set_option genSizeOfSpec false in
structure PlaceOk (w : World) (x : Int) (T : Str) (p3 : Row4) (p : Int) where
  q : Int
  h : Int
  l : Int
  s0 : Nat
  s1 : Nat
  s2 : Nat
  s3 : Nat
  low : Bool
  fit : Bool
  py : Builtin.divisionGoesByPylong x 32 = false
  e1 : Int.fdiv x 32 = q
  e2 : Int.fmod q 2 = if low then 1 else 0
  sl : Txt.slice T (some p) (some (p + 4)) = ⟨#[s0, s1, s2, s3]⟩
  l0 : s0 < 128
  l1 : s1 < 128
  l2 : s2 < 128
  l3 : s3 < 128
  hp : 0 ≤ p ∧ p ≤ 10
  hl : T.length ≤ 20
  b16 : B16Is w (byteArr [(s0 : Int), (s1 : Int), (s2 : Int), (s3 : Int)]) low h l
  bi : KBw.bInts (byteArr [h, l]) = [h, l]
  bh : 0 ≤ h ∧ h < 256
  bl : 0 ≤ l ∧ l < 256
  fits : FitsIs w p3 ⟨#[(sig (h / 4)).toNat, (sig (h % 4 * 16 + l / 16)).toNat, (sig (l % 16 * 4)).toNat, (61 : Int).toNat]⟩ fit
  hP : 0 ≤ h * 256 + l ∧ h * 256 + l ≤ 1114111
  found : if fit then FoundNone w T p 4 else FoundSome w T p 4 (h * 256 + l).toNat
section
variable {w : World} {qual : Str} {body : List Stmt} {scope : Scope} {cdv : Value}
theorem gturn (L : LawIs w qual body scope cdv) {mean : ExcName → Option Value} {mg mb : Str → Option Value} {base : Heap} {s : Shared} {m : Str → Option Value} {Q : Flow → Shared → Prop} {E : Value → Shared → Prop} {rest : List (Addr × Obj)} {o oc cr : Obj} {c a0 a1 a2 a3 : Addr} {nr n3 : Nat} {p3 : Row4} {u0 u1 u2 u3 : Tok} {x p : Int} {T : Str} {t tt tp : Tok}
    (B : Below (topZ 301 []) base [] base) (X : (KX w.params).In base) (Tp : Top vR loose mean mg mb base) (F : Fr base 241 s.heap m) (C6 : CodeHd base 68 64) (P39 : Pre39 base) (hT : TabOk o c oc) (hr : ∀ p ∈ (242, cr) :: (253, refsO a0 a1 a2 a3 nr) :: (a3, rowO p3 u0 u1 u2 u3 n3) :: rest, NotTab p)
    (N : News base 241 s.heap ((64, o) :: (c, oc) :: (242, cr) :: (253, refsO a0 a1 a2 a3 nr) :: (a3, rowO p3 u0 u1 u2 u3 n3) :: rest)) (hcr : cr.data = .cell (some (.ref 253))) (hx : m "x" = some (.int x t)) (ht : m "text" = some (.str T tt)) (hpl : m "place" = some (.int p tp)) (H : PlaceOk w x T p3 p)
    (k : ∀ h' tk' m' o' c' oc', TabOk o' c' oc' → Fr base 241 h' m' → News base 241 h' ((64, o') :: (c', oc') :: (242, cr) :: (253, refsO a0 a1 a2 a3 nr) :: (a3, rowO p3 u0 u1 u2 u3 n3) :: rest) → m' "x" = some (.int x t) → m' "text" = some (.str T tt) → Q .next { s with heap := h', toks := tk' }) :
    wpAny (model PW w) ((topZ 301 []).deeper (lawE qual scope cdv)) (execs (innerFor body) (lawE qual scope cdv)) Q E s := by
  obtain ⟨q, h, l, s0, s1, s2, s3, low, fit, py, e1, e2, sl, l0, l1, l2, l3, hp, hl, b16, bi, bh, bl, fits, hP, found⟩ := H
  cases low <;> cases fit
  · exact chunkGfs L mean mg mb base s m Q E rest o oc cr c a0 a1 a2 a3 nr n3 p3 u0 u1 u2 u3 x p q h l T s0 s1 s2 s3 t tt tp B X Tp F C6 P39 hT hr N hcr hx ht hpl py e1 e2 sl l0 l1 l2 l3 hp hl b16 bi bh bl fits hP found k
  · exact chunkGfn L mean mg mb base s m Q E rest o oc cr c a0 a1 a2 a3 nr n3 p3 u0 u1 u2 u3 x p q h l T s0 s1 s2 s3 t tt tp B X Tp F C6 P39 hT hr N hcr hx ht hpl py e1 e2 sl l0 l1 l2 l3 hp hl b16 bi bh bl fits hP found k
  · exact chunkGts L mean mg mb base s m Q E rest o oc cr c a0 a1 a2 a3 nr n3 p3 u0 u1 u2 u3 x p q h l T s0 s1 s2 s3 t tt tp B X Tp F C6 P39 hT hr N hcr hx ht hpl py e1 e2 sl l0 l1 l2 l3 hp hl b16 bi bh bl fits hP found k
  · exact chunkGtn L mean mg mb base s m Q E rest o oc cr c a0 a1 a2 a3 nr n3 p3 u0 u1 u2 u3 x p q h l T s0 s1 s2 s3 t tt tp B X Tp F C6 P39 hT hr N hcr hx ht hpl py e1 e2 sl l0 l1 l2 l3 hp hl b16 bi bh bl fits hP found k
theorem places (L : LawIs w qual body scope cdv) {mean : ExcName → Option Value} {mg mb : Str → Option Value} {base : Heap} {s : Shared} {m : Str → Option Value} {Q : Flow → Shared → Prop} {rest : List (Addr × Obj)} {o oc cr : Obj} {c a0 a1 a2 a3 : Addr} {nr n3 : Nat} {p3 : Row4} {u0 u1 u2 u3 : Tok} {x : Int} {T : Str} {t tt : Tok}
    (B : Below (topZ 301 []) base [] base) (X : (KX w.params).In base) (Tp : Top vR loose mean mg mb base) (F : Fr base 241 s.heap m) (C6 : CodeHd base 68 64) (P39 : Pre39 base) (hT : TabOk o c oc) (hr : ∀ p ∈ (242, cr) :: (253, refsO a0 a1 a2 a3 nr) :: (a3, rowO p3 u0 u1 u2 u3 n3) :: rest, NotTab p)
    (N : News base 241 s.heap ((64, o) :: (c, oc) :: (242, cr) :: (253, refsO a0 a1 a2 a3 nr) :: (a3, rowO p3 u0 u1 u2 u3 n3) :: rest)) (hcr : cr.data = .cell (some (.ref 253))) (hx : m "x" = some (.int x t)) (ht : m "text" = some (.str T tt)) (H : ∀ i : Nat, i < 3 → Nonempty (PlaceOk w x T p3 (4 + (i : Int))))
    (k : ∀ h' tk' m' o' c' oc', TabOk o' c' oc' → Fr base 241 h' m' → News base 241 h' ((64, o') :: (c', oc') :: (242, cr) :: (253, refsO a0 a1 a2 a3 nr) :: (a3, rowO p3 u0 u1 u2 u3 n3) :: rest) → Q .next { s with heap := h', toks := tk' }) :
    wpAny (model PW w) ((topZ 301 []).deeper (lawE qual scope cdv)) (execs ((forBody body).drop 11) (lawE qual scope cdv)) Q Nev s := by
  refine chunkF L mean mg mb base s m Q Nev o oc c _ (fun _ r m' => r = (242, cr) :: (253, refsO a0 a1 a2 a3 nr) :: (a3, rowO p3 u0 u1 u2 u3 n3) :: rest ∧ m' "x" = some (.int x t) ∧ m' "text" = some (.str T tt)) _ B X Tp F rfl (fun i r m' h => by rw [h.1]) (fun i r m' h => by rw [h.1]; exact hr) hT N ⟨rfl, hx, ht⟩ ?_ ?_
  · rintro i v m₁ o c oc _ own s₁ hi ⟨tv, rfl⟩ hT ⟨rfl, hx, ht⟩ hown hall F N
    obtain ⟨hp⟩ := H i hi
    refine gturn L (p := 4 + (i : Int)) (t := t) (tt := tt) (tp := tv) B X Tp F C6 P39 hT hall N hcr ?_ ?_ ?_ hp ?_
    · exact hx
    · exact ht
    · exact rfl
    · intro h' tk' m' o' c' oc' hT' F' N' hx' ht'
      exact ⟨rfl, h', tk', m', o', c', oc', _, rfl, hT', ⟨rfl, hx', ht'⟩, F', N'⟩
  · rintro h' tk m' o' c' oc' _ hT' ⟨rfl, _, _⟩ F' N'
    exact k h' tk m' o' c' oc' hT' F' N'
end
end Mine
end L10_text
section L11_text
open PySem PySem.W PyProof.Rows
namespace Mine
noncomputable abbrev lettersOf (a b c : Int) : Str := ⟨#[(sig (a / 4)).toNat, (sig (a % 4 * 16 + b / 16)).toNat, (sig (b % 16 * 4 + c / 64)).toNat, (sig (c % 64)).toNat]⟩
set_option genInjectivity false in
set_option genSizeOfSpec false in
structure XOk (w : World) (p0 p1 p2 p3 : Row4) (x : Int) where
  N : Nat
  a : Int
  b : Int
  c : Int
  q : Int
  qx : Int
  c0 : UInt8
  c1 : UInt8
  c2 : UInt8
  low : Bool
  hN : numOf x = (N : Int)
  y1 : Builtin.divisionGoesByPylong (N : Int) 65536 = false
  y2 : Builtin.divisionGoesByPylong (N : Int) 256 = false
  e1 : Int.fdiv (N : Int) 65536 = a
  e2 : Int.fdiv (N : Int) 256 = q
  e3 : Int.fmod q 256 = b
  e4 : Int.fmod (N : Int) 256 = c
  ha : 0 ≤ a ∧ a < 256
  hb : 0 ≤ b ∧ b < 256
  hc : 0 ≤ c ∧ c < 256
  bi : KBw.bInts (byteArr [a, b, c]) = [a, b, c]
  ar : byteArr [a, b, c] = #[c0, c1, c2]
  fits : (FitsIs w p0 (lettersOf a b c) false ∧ FitsIs w p1 (lettersOf a b c) false ∧ FitsIs w p2 (lettersOf a b c) false ∧ isScal (N : Int) = true) ∨
    (FitsIs w p0 (lettersOf a b c) true ∧ FitsIs w p1 (lettersOf a b c) false ∧ FitsIs w p2 (lettersOf a b c) false ∧ isScal (N : Int) = false) ∨
    (FitsIs w p0 (lettersOf a b c) false ∧ FitsIs w p1 (lettersOf a b c) true ∧ FitsIs w p2 (lettersOf a b c) false ∧ isScal (N : Int) = false) ∨
    (FitsIs w p0 (lettersOf a b c) false ∧ FitsIs w p1 (lettersOf a b c) false ∧ FitsIs w p2 (lettersOf a b c) true ∧ isScal (N : Int) = false)
  y3 : Builtin.divisionGoesByPylong x 32 = false
  e5 : Int.fdiv x 32 = qx
  e6 : Int.fmod qx 2 = if low then 1 else 0
  f0 : Nat
  f1 : Nat
  f2 : Nat
  f3 : Nat
  f4 : Nat
  f5 : Nat
  hf : #[f0, f1, f2, f3, f4, f5] = #[hexF low (c0.toNat / 16), hexF low (c0.toNat % 16), hexF low (c1.toNat / 16), hexF low (c1.toNat % 16), hexF low (c2.toNat / 16), hexF low (c2.toNat % 16)]
  found1 : if isScal (N : Int) then FoundSome w ⟨#[92, 85, 48, 48, f0, f1, f2, f3, f4, f5, 102]⟩ 2 8 N else FoundNone w ⟨#[92, 85, 48, 48, f0, f1, f2, f3, f4, f5, 102]⟩ 2 8
  found2 : FoundNone w ⟨#[92, 85, 49, 48, f0, f1, f2, f3, f4, f5]⟩ 2 8
  place : ∀ i : Nat, i < 3 → Nonempty (PlaceOk w x ⟨#[92, 85, 48, 48, f0, f1, f2, f3, f4, f5, 102]⟩ p3 (4 + (i : Int)))
section
variable {w : World} {qual : Str} {body : List Stmt} {scope : Scope} {cdv : Value}
theorem parts {M : Model} {A : Around} {env : Env} {E : Value → Shared → Prop} {Q : Flow → Shared → Prop} {s : Shared} {l : List Stmt} (n : Nat) (h : wpAny M A (execs (l.take n) env) (fun fl s' => match fl with | .next => wpAny M A (execs (l.drop n) env) Q E s' | fl => Q fl s') E s) : wpAny M A (execs l env) Q E s := by
  have := execs_app h
  rwa [List.take_append_drop] at this
theorem partsD {M : Model} {A : Around} {env : Env} {E : Value → Shared → Prop} {Q : Flow → Shared → Prop} {s : Shared} {l : List Stmt} (k n r : Nat) (e : k + n = r) (h : wpAny M A (execs ((l.drop k).take n) env) (fun fl s' => match fl with | .next => wpAny M A (execs (l.drop r) env) Q E s' | fl => Q fl s') E s) : wpAny M A (execs (l.drop k) env) Q E s := by
  refine parts n ?_
  rw [List.drop_drop, e]
  exact h
theorem fa_cons {α : Type} {P : α → Prop} {a : α} {l : List α} (h : P a) (k : ∀ p ∈ l, P p) : ∀ p ∈ a :: l, P p := List.forall_mem_cons.mpr ⟨h, k⟩
theorem pm1 {α : Type} {P : α → Prop} {x1 x2 x3 x4 x5 x6 x7 x8 x9 : α} {l : List α} (H : ∀ p ∈ x1 :: x2 :: x3 :: x4 :: x5 :: x6 :: x7 :: x8 :: x9 :: l, P p) : ∀ p ∈ x6 :: x1 :: x2 :: x3 :: x4 :: x5 :: x7 :: x8 :: x9 :: l, P p :=
  fa_cons (H _ (.tail _ (.tail _ (.tail _ (.tail _ (.tail _ (.head _))))))) (fa_cons (H _ (.head _)) (fa_cons (H _ (.tail _ (.head _))) (fa_cons (H _ (.tail _ (.tail _ (.head _)))) (fa_cons (H _ (.tail _ (.tail _ (.tail _ (.head _))))) (fa_cons (H _ (.tail _ (.tail _ (.tail _ (.tail _ (.head _)))))) (fa_cons (H _ (.tail _ (.tail _ (.tail _ (.tail _ (.tail _ (.tail _ (.head _)))))))) (fa_cons (H _ (.tail _ (.tail _ (.tail _ (.tail _ (.tail _ (.tail _ (.tail _ (.head _))))))))) (fa_cons (H _ (.tail _ (.tail _ (.tail _ (.tail _ (.tail _ (.tail _ (.tail _ (.tail _ (.head _)))))))))) (fun p hp => H p (.tail _ (.tail _ (.tail _ (.tail _ (.tail _ (.tail _ (.tail _ (.tail _ (.tail _ (hp)))))))))))))))))))
theorem pm2 {α : Type} {P : α → Prop} {x1 x2 x3 x4 x5 x6 x7 x8 x9 : α} {l : List α} (H : ∀ p ∈ x6 :: x1 :: x2 :: x3 :: x4 :: x5 :: x7 :: x8 :: x9 :: l, P p) : ∀ p ∈ x3 :: x6 :: x4 :: x7 :: x8 :: x9 :: x1 :: x2 :: x5 :: l, P p :=
  fa_cons (H _ (.tail _ (.tail _ (.tail _ (.head _))))) (fa_cons (H _ (.head _)) (fa_cons (H _ (.tail _ (.tail _ (.tail _ (.tail _ (.head _)))))) (fa_cons (H _ (.tail _ (.tail _ (.tail _ (.tail _ (.tail _ (.tail _ (.head _)))))))) (fa_cons (H _ (.tail _ (.tail _ (.tail _ (.tail _ (.tail _ (.tail _ (.tail _ (.head _))))))))) (fa_cons (H _ (.tail _ (.tail _ (.tail _ (.tail _ (.tail _ (.tail _ (.tail _ (.tail _ (.head _)))))))))) (fa_cons (H _ (.tail _ (.head _))) (fa_cons (H _ (.tail _ (.tail _ (.head _)))) (fa_cons (H _ (.tail _ (.tail _ (.tail _ (.tail _ (.tail _ (.head _))))))) (fun p hp => H p (.tail _ (.tail _ (.tail _ (.tail _ (.tail _ (.tail _ (.tail _ (.tail _ (.tail _ (hp)))))))))))))))))))
theorem pm3 {α : Type} {P : α → Prop} {x0 x1 x2 x3 x4 x5 x6 x7 x8 x9 : α} {l : List α} (H : ∀ p ∈ x0 :: x3 :: x6 :: x4 :: x7 :: x8 :: x9 :: x1 :: x2 :: x5 :: l, P p) : ∀ p ∈ x0 :: x1 :: x2 :: x3 :: x4 :: x5 :: x6 :: x7 :: x8 :: x9 :: l, P p :=
  fa_cons (H _ (.head _)) (fa_cons (H _ (.tail _ (.tail _ (.tail _ (.tail _ (.tail _ (.tail _ (.tail _ (.head _))))))))) (fa_cons (H _ (.tail _ (.tail _ (.tail _ (.tail _ (.tail _ (.tail _ (.tail _ (.tail _ (.head _)))))))))) (fa_cons (H _ (.tail _ (.head _))) (fa_cons (H _ (.tail _ (.tail _ (.tail _ (.head _))))) (fa_cons (H _ (.tail _ (.tail _ (.tail _ (.tail _ (.tail _ (.tail _ (.tail _ (.tail _ (.tail _ (.head _))))))))))) (fa_cons (H _ (.tail _ (.tail _ (.head _)))) (fa_cons (H _ (.tail _ (.tail _ (.tail _ (.tail _ (.head _)))))) (fa_cons (H _ (.tail _ (.tail _ (.tail _ (.tail _ (.tail _ (.head _))))))) (fa_cons (H _ (.tail _ (.tail _ (.tail _ (.tail _ (.tail _ (.tail _ (.head _)))))))) (fun p hp => H p (.tail _ (.tail _ (.tail _ (.tail _ (.tail _ (.tail _ (.tail _ (.tail _ (.tail _ (.tail _ (hp)))))))))))))))))))))
theorem turnX (L : LawIs w qual body scope cdv) {mean : ExcName → Option Value} {mg mb : Str → Option Value} {base : Heap} {s : Shared} {m : Str → Option Value} {Q : Flow → Shared → Prop} {own : List (Addr × Obj)} {o oc cr cle : Obj} {c a0 a1 a2 a3 : Addr} {nr n0 n1 n2 n3 : Nat} {p0 p1 p2 p3 : Row4} {u0 u1 u2 u3 v0 v1 v2 v3 w0 w1 w2 w3 z0 z1 z2 z3 : Tok} {x : Int} {t : Tok} {vc : Option Value}
    (B : Below (topZ 301 []) base [] base) (X : (KX w.params).In base) (Tp : Top vR loose mean mg mb base) (F : Fr base 241 s.heap m) (C6 : CodeHd base 68 64) (P39 : Pre39 base) (hT : TabOk o c oc)
    (hr : ∀ cl v, cl.data = .cell v → ∀ p ∈ (242, cr) :: (253, refsO a0 a1 a2 a3 nr) :: (a3, rowO p3 z0 z1 z2 z3 n3) :: (243, cl) :: (a0, rowO p0 u0 u1 u2 u3 n0) :: (a1, rowO p1 v0 v1 v2 v3 n1) :: (a2, rowO p2 w0 w1 w2 w3 n2) :: own, NotTab p)
    (N : News base 241 s.heap ((64, o) :: (c, oc) :: (242, cr) :: (253, refsO a0 a1 a2 a3 nr) :: (a3, rowO p3 z0 z1 z2 z3 n3) :: (243, cle) :: (a0, rowO p0 u0 u1 u2 u3 n0) :: (a1, rowO p1 v0 v1 v2 v3 n1) :: (a2, rowO p2 w0 w1 w2 w3 n2) :: own))
    (h243 : ∀ p ∈ (64, o) :: (c, oc) :: (242, cr) :: (253, refsO a0 a1 a2 a3 nr) :: (a3, rowO p3 z0 z1 z2 z3 n3) :: (a0, rowO p0 u0 u1 u2 u3 n0) :: (a1, rowO p1 v0 v1 v2 v3 n1) :: (a2, rowO p2 w0 w1 w2 w3 n2) :: own, p.1 ≠ 243)
    (hcr : cr.data = .cell (some (.ref 253))) (hcl : cle.data = .cell vc) (hx : m "x" = some (.int x t)) (H : XOk w p0 p1 p2 p3 x)
    (k : ∀ h' tk' m' o' c' oc' cle' vc', TabOk o' c' oc' → cle'.data = .cell vc' → Fr base 241 h' m' → News base 241 h' ((64, o') :: (c', oc') :: (242, cr) :: (253, refsO a0 a1 a2 a3 nr) :: (a3, rowO p3 z0 z1 z2 z3 n3) :: (243, cle') :: (a0, rowO p0 u0 u1 u2 u3 n0) :: (a1, rowO p1 v0 v1 v2 v3 n1) :: (a2, rowO p2 w0 w1 w2 w3 n2) :: own) → Q .next { s with heap := h', toks := tk' }) :
    wpAny (model PW w) ((topZ 301 []).deeper (lawE qual scope cdv)) (execs (forBody body) (lawE qual scope cdv)) Q Nev s := by
  obtain ⟨Nn, a, b, d, q, qx, c0, c1, c2, low, hN, y1, y2, e1, e2, e3, e4, ha, hb, hd, bi, ar, fits, y3, e5, e6, f0, f1, f2, f3, f4, f5, hf, found1, found2, place⟩ := H
  refine parts 2 ?_
  refine chunkA L mean mg mb base s m _ x t _ Nev B X Tp F N hx ?_
  intro h₁ tk₁ m₁ n₁ tn F₁ N₁ hx₁ hn₁ en
  rw [hN] at en
  subst en
  refine partsD 2 2 4 rfl ?_
  refine chunkB L mean mg mb base _ m₁ _ Nev ((64, o) :: (c, oc) :: (242, cr) :: (253, refsO a0 a1 a2 a3 nr) :: (a3, rowO p3 z0 z1 z2 z3 n3) :: (a0, rowO p0 u0 u1 u2 u3 n0) :: (a1, rowO p1 v0 v1 v2 v3 n1) :: (a2, rowO p2 w0 w1 w2 w3 n2) :: own) cle x Nn a b d q t tn vc B X Tp F₁ (pm1 N₁) h243 hcl hx₁ hn₁ y1 y2 e1 e2 e3 e4 ha hb hd bi ?_
  intro h₂ tk₂ m₂ cl₂ to tl F₂ N₂ hcl₂ hx₂ hn₂ ho₂
  refine partsD 4 2 6 rfl ?_
  have NC : News base 241 h₂ ((242, cr) :: (243, cl₂) :: (253, refsO a0 a1 a2 a3 nr) :: (a0, rowO p0 u0 u1 u2 u3 n0) :: (a1, rowO p1 v0 v1 v2 v3 n1) :: (a2, rowO p2 w0 w1 w2 w3 n2) :: (64, o) :: (c, oc) :: (a3, rowO p3 z0 z1 z2 z3 n3) :: own) := pm2 N₂
  have behind : ∀ (fl : List Value) h₃ tk₃ m₃ F0, (isScal (Nn : Int) = true ∧ fl = [] ∨ isScal (Nn : Int) = false ∧ ∃ yk ty, fl = [.int yk ty]) → Fr base 241 h₃ m₃ → News base 241 h₃ ((F0, LCg.lst fl) :: (242, cr) :: (243, cl₂) :: (253, refsO a0 a1 a2 a3 nr) :: (a0, rowO p0 u0 u1 u2 u3 n0) :: (a1, rowO p1 v0 v1 v2 v3 n1) :: (a2, rowO p2 w0 w1 w2 w3 n2) :: (64, o) :: (c, oc) :: (a3, rowO p3 z0 z1 z2 z3 n3) :: own) →
      m₃ "x" = some (.int x t) → m₃ "number" = some (.int (Nn : Int) tn) → m₃ "octets" = some (.bytes (byteArr [a, b, d]) to) → m₃ "fits" = some (.ref F0) →
      wpAny (model PW w) ((topZ 301 []).deeper (lawE qual scope cdv)) (execs ((forBody body).drop 6) (lawE qual scope cdv)) Q Nev { s with heap := h₃, toks := tk₃ } := by
    intro fl h₃ tk₃ m₃ F0 hfl F₃ N₃ hx₃ hn₃ ho₃ hf₃
    rw [ar] at ho₃
    have NE : News base 241 h₃ ((F0, LCg.lst fl) :: (64, o) :: (c, oc) :: (242, cr) :: (253, refsO a0 a1 a2 a3 nr) :: (a3, rowO p3 z0 z1 z2 z3 n3) :: (243, cl₂) :: (a0, rowO p0 u0 u1 u2 u3 n0) :: (a1, rowO p1 v0 v1 v2 v3 n1) :: (a2, rowO p2 w0 w1 w2 w3 n2) :: own) := pm3 N₃
    refine partsD 6 3 9 rfl ?_
    have D : ∀ h₄ tk₄ m₄ tf tt, Fr base 241 h₄ m₄ → News base 241 h₄ ((F0, LCg.lst fl) :: (64, o) :: (c, oc) :: (242, cr) :: (253, refsO a0 a1 a2 a3 nr) :: (a3, rowO p3 z0 z1 z2 z3 n3) :: (243, cl₂) :: (a0, rowO p0 u0 u1 u2 u3 n0) :: (a1, rowO p1 v0 v1 v2 v3 n1) :: (a2, rowO p2 w0 w1 w2 w3 n2) :: own) →
        m₄ "x" = some (.int x t) → m₄ "number" = some (.int (Nn : Int) tn) → m₄ "fits" = some (.ref F0) → m₄ "figures" = some (.str ⟨#[f0, f1, f2, f3, f4, f5]⟩ tf) → m₄ "text" = some (.str ⟨#[92, 85, 48, 48, f0, f1, f2, f3, f4, f5, 102]⟩ tt) →
        wpAny (model PW w) ((topZ 301 []).deeper (lawE qual scope cdv)) (execs ((forBody body).drop 9) (lawE qual scope cdv)) Q Nev { s with heap := h₄, toks := tk₄ } := by
      intro h₄ tk₄ m₄ tf tt F₄ N₄ hx₄ hn₄ hf₄ hg₄ ht₄
      refine partsD 9 2 11 rfl ?_
      have G : ∀ h₅ tk₅ m₅ o₅ c₅ oc₅, TabOk o₅ c₅ oc₅ → Fr base 241 h₅ m₅ → News base 241 h₅ ((64, o₅) :: (c₅, oc₅) :: (242, cr) :: (253, refsO a0 a1 a2 a3 nr) :: (a3, rowO p3 z0 z1 z2 z3 n3) :: (243, cl₂) :: (a0, rowO p0 u0 u1 u2 u3 n0) :: (a1, rowO p1 v0 v1 v2 v3 n1) :: (a2, rowO p2 w0 w1 w2 w3 n2) :: own) →
          m₅ "x" = some (.int x t) → m₅ "text" = some (.str ⟨#[92, 85, 48, 48, f0, f1, f2, f3, f4, f5, 102]⟩ tt) →
          wpAny (model PW w) ((topZ 301 []).deeper (lawE qual scope cdv)) (execs ((forBody body).drop 11) (lawE qual scope cdv)) Q Nev { s with heap := h₅, toks := tk₅ } := by
        intro h₅ tk₅ m₅ o₅ c₅ oc₅ hT₅ F₅ N₅ hx₅ ht₅
        refine places L B X Tp F₅ C6 P39 hT₅ (hr _ _ hcl₂) N₅ hcr hx₅ ht₅ place ?_
        intro h' tk' m' o' c' oc' hT' F' N'
        exact k h' tk' m' o' c' oc' cl₂ _ hT' hcl₂ F' N'
      rcases hfl with ⟨hs, rfl⟩ | ⟨hs, yk, ty, rfl⟩
      · rw [hs] at found1
        exact chunkEs L mean mg mb base _ m₄ _ Nev _ o oc c F0 Nn 0 x _ _ _ t tn tf tt 0 B X Tp F₄ C6 P39 hT (hr _ _ hcl₂) N₄ hx₄ hn₄ hf₄ hg₄ ht₄ hs found1 found2 rfl (by show (10 : Nat) ≤ 20; decide) G
      · rw [hs] at found1
        exact chunkEn L mean mg mb base _ m₄ _ Nev _ o oc c F0 Nn yk x _ _ _ t tn tf tt ty B X Tp F₄ C6 P39 hT (hr _ _ hcl₂) N₄ hx₄ hn₄ hf₄ hg₄ ht₄ found1 found2 rfl (by show (10 : Nat) ≤ 20; decide) G
    simp only [Array.mk.injEq, List.cons.injEq, and_true] at hf
    obtain ⟨g0, g1, g2, g3, g4, g5⟩ := hf
    subst g0 g1 g2 g3 g4 g5
    cases low
    · exact chunkDf L mean mg mb base _ m₃ _ Nev _ F0 x Nn qx c0 c1 c2 t tn to B X Tp F₃ NE hx₃ hn₃ ho₃ hf₃ y3 e5 e6 fun h₄ tk₄ m₄ tf tt T F₄ N₄ hx₄ hn₄ hf₄ hg₄ ht₄ eT => by subst eT; exact D h₄ tk₄ m₄ tf tt F₄ N₄ hx₄ hn₄ hf₄ hg₄ ht₄
    · exact chunkDt L mean mg mb base _ m₃ _ Nev _ F0 x Nn qx c0 c1 c2 t tn to B X Tp F₃ NE hx₃ hn₃ ho₃ hf₃ y3 e5 e6 fun h₄ tk₄ m₄ tf tt T F₄ N₄ hx₄ hn₄ hf₄ hg₄ ht₄ eT => by subst eT; exact D h₄ tk₄ m₄ tf tt F₄ N₄ hx₄ hn₄ hf₄ hg₄ ht₄
  rcases fits with ⟨g0, g1, g2, hs⟩ | ⟨g0, g1, g2, hs⟩ | ⟨g0, g1, g2, hs⟩ | ⟨g0, g1, g2, hs⟩
  · exact chunkCn L mean mg mb base _ m₂ _ Nev _ cr cl₂ _ p0 p1 p2 a0 a1 a2 a3 nr n0 n1 n2 u0 u1 u2 u3 v0 v1 v2 v3 w0 w1 w2 w3 x Nn _ t tn to tl B X Tp F₂ NC hcr hcl₂ hx₂ hn₂ ho₂ g0 g1 g2 hs fun h₃ tk₃ m₃ F0 F₃ N₃ hx₃ hn₃ ho₃ hf₃ => behind [] h₃ tk₃ m₃ F0 (.inl ⟨hs, rfl⟩) F₃ N₃ hx₃ hn₃ ho₃ hf₃
  · exact chunkC0 L mean mg mb base _ m₂ _ Nev _ cr cl₂ _ p0 p1 p2 a0 a1 a2 a3 nr n0 n1 n2 u0 u1 u2 u3 v0 v1 v2 v3 w0 w1 w2 w3 x Nn _ t tn to tl B X Tp F₂ NC hcr hcl₂ hx₂ hn₂ ho₂ g0 g1 g2 hs fun h₃ tk₃ m₃ F0 ty F₃ N₃ hx₃ hn₃ ho₃ hf₃ => behind [.int 0 ty] h₃ tk₃ m₃ F0 (.inr ⟨hs, _, _, rfl⟩) F₃ N₃ hx₃ hn₃ ho₃ hf₃
  · exact chunkC1 L mean mg mb base _ m₂ _ Nev _ cr cl₂ _ p0 p1 p2 a0 a1 a2 a3 nr n0 n1 n2 u0 u1 u2 u3 v0 v1 v2 v3 w0 w1 w2 w3 x Nn _ t tn to tl B X Tp F₂ NC hcr hcl₂ hx₂ hn₂ ho₂ g0 g1 g2 hs fun h₃ tk₃ m₃ F0 ty F₃ N₃ hx₃ hn₃ ho₃ hf₃ => behind [.int 1 ty] h₃ tk₃ m₃ F0 (.inr ⟨hs, _, _, rfl⟩) F₃ N₃ hx₃ hn₃ ho₃ hf₃
  · exact chunkC2 L mean mg mb base _ m₂ _ Nev _ cr cl₂ _ p0 p1 p2 a0 a1 a2 a3 nr n0 n1 n2 u0 u1 u2 u3 v0 v1 v2 v3 w0 w1 w2 w3 x Nn _ t tn to tl B X Tp F₂ NC hcr hcl₂ hx₂ hn₂ ho₂ g0 g1 g2 hs fun h₃ tk₃ m₃ F0 ty F₃ N₃ hx₃ hn₃ ho₃ hf₃ => behind [.int 2 ty] h₃ tk₃ m₃ F0 (.inr ⟨hs, _, _, rfl⟩) F₃ N₃ hx₃ hn₃ ho₃ hf₃
end
end Mine
end L11_text
section L12_text
open PySem PySem.W PyProof.Rows
namespace Mine
section
variable {prog : Program} {w : World} {A : Around} {h₀ : Heap} {env : Env} {x : Str} {body : List Stmt} {Q : Flow → Shared → Prop} {s : Shared}
theorem take5 {vs : List Value} {ns : List Int} (hi : IntsAre vs ns) : IntsAre (slicePick vs.toArray none (some 5) none).toList (ns.take 5) := kmk_upto hi (by decide)
theorem list_loop {l : Addr} {ws : List Value} {ks : List Int} {nn : Nat} {m : Str → Option Value} {o oc : Obj} {c : Addr} {rest : List (Addr × Obj)} {K : Nat → List (Addr × Obj) → (Str → Option Value) → Prop} {adr : List Addr}
    (hi : IntsAre ws ks) (hh : A.handled = none) (hKI : ∀ i r m, K i r m → r.map (·.1) = adr) (hKN : ∀ i r m, K i r m → ∀ p ∈ r, NotTab p) (hT : TabOk o c oc)
    (F : Fr h₀ env.locals s.heap m) (N : News h₀ env.locals s.heap ((l, listOf ws.toArray nn) :: (64, o) :: (c, oc) :: rest)) (hK : K 0 rest m)
    (turn : ∀ i k t m₁ o c oc rest own s₁, ks[i]? = some k → TabOk o c oc → K i rest m₁ → (∀ p ∈ own, OwnOk p) → (∀ p ∈ rest ++ own, NotTab p) → Fr h₀ env.locals s₁.heap (fun y => if y = x then some (.int k t) else m₁ y) → News h₀ env.locals s₁.heap ((64, o) :: (c, oc) :: (rest ++ own)) →
      wpAny (model prog w) A (execs body env) (Left64 h₀ env.locals own (K (i + 1)) s₁) Nev s₁)
    (done : ∀ h' tk m' o c oc rest, TabOk o c oc → K ks.length rest m' → Fr h₀ env.locals h' m' → News h₀ env.locals h' ((64, o) :: (c, oc) :: rest) → Q .next { s with heap := h', toks := tk }) :
    wpAny (model prog w) A (pyIter (.ref l)) (fun it s₂ => LoopAtV prog w A h₀ env x body Q Nev it s₂) Nev s := by
  have hl : s.heap.IsList l ws.toArray := N.isList (.head _)
  have l64 : l ≠ 64 := fun e => by
    have g1 := (N _ (.head _)).1
    have g2 := (N _ (.tail _ (.head _))).1
    have g1' : s.heap.get? l = some (listOf ws.toArray nn) := g1
    rw [e, g2] at g1'
    have e2 := Option.some.inj g1'
    rcases hT.2 with h | ⟨h, _⟩ <;> rw [h] at e2 <;> cases e2
  have Nt : News h₀ env.locals s.heap ((64, o) :: (c, oc) :: rest) := fun p hp => N p (.tail _ hp)
  refine wpAny_pyIter_list hl ?_
  have up : ∀ b ob, s.heap.get? b = some ob → (s.heap.push { cls := .type "list_iterator", data := .fields #[.ref l, .int 0 0] }).get? b = some ob := fun b ob e => Heap.get?_push_of_some _ e
  have lt : ∀ p ∈ rest, p.1 < s.heap.objs.size := fun p hp => Heap.lt_size (Nt p (.tail _ (.tail _ hp))).1
  have ll : l < s.heap.objs.size := Heap.lt_size (N _ (.head _)).1
  have W := Walks.list (prog := prog) (w := w) hh s.heap.objs.size l (Nat.ne_of_lt ll) ws.toArray
  have hlen : ws.toArray.size = ks.length := by simp [hi.length]
  rw [hlen] at W
  refine loopT K W ?_ (next_is_new F) (.head _) ⟨⟨_, Heap.get?_push_size _ rfl, rfl, rfl⟩, hl.push _⟩ ?_ ?_ ?_ hKN hT ?_ (F.keeps up) (Nt.grown up) hK ?_ done
  · intro hm
    rcases List.mem_cons.mp hm with e | hm
    · exact absurd F.ns.lt (e ▸ Nat.lt_irrefl _)
    · exact (N _ (.head _)).2.1 (List.mem_singleton.mp hm).symm
  · intro i h st b hb ob e
    obtain ⟨⟨oi, e1, _, e3⟩, ⟨ol, f1, _, nl, f3⟩⟩ := st
    rcases List.mem_cons.mp hb with rfl | hb
    · rw [e1] at e
      cases e
      refine ⟨?_, fun vs e => ?_, fun v e => by rw [e3] at e; cases e⟩
      · have := Heap.lt_size (Nt _ (.head _)).1
        exact Nat.ne_of_gt this
      · rw [e3] at e; cases e; exact ⟨_, _, rfl⟩
    · obtain rfl := List.mem_singleton.mp hb
      rw [f1] at e
      cases e
      exact ⟨l64, fun vs e => (by rw [f3] at e; cases e), fun v e => (by rw [f3] at e; cases e)⟩
  · intro i h st
    obtain ⟨⟨oi, e1, _, e3⟩, _⟩ := st
    exact ⟨_, _, e1, e3⟩
  · intro i r' m' hk p hp e
    have h1 : p.1 ∈ r'.map (·.1) := List.mem_map.mpr ⟨p, hp, rfl⟩
    rw [hKI _ _ _ hk, ← hKI _ _ _ hK] at h1
    obtain ⟨q, hq, hq2⟩ := List.mem_map.mp h1
    have := lt q hq
    rw [hq2, e] at this
    exact Nat.lt_irrefl _ this
  · have := Heap.lt_size (Nt _ (.tail _ (.head _))).1
    exact Nat.ne_of_gt this
  · intro i v m₁ o c oc rest own s₁ hin hP hT hK hown hall F₁ N₁
    obtain ⟨t, hx⟩ := hi.get i ks[i] (by simp [hin])
    have hv : v = .int ks[i] t := by
      have hP' : ws[i]? = some v := by simpa using hP
      rw [hx] at hP'; exact (Option.some.inj hP').symm
    subst hv
    exact turn i ks[i] t m₁ o c oc rest own s₁ (by simp [hin]) hT hK hown hall F₁ N₁
end
theorem L12_lines1 : True := by
  k_with_none
  k_with "eval Name" => (k_here; k_dflt (refine' nameX_L ?zk1 ?zk2 ?_ ?za ?zb ?zc; (case za => rfl); (case zb => rfl); (case zc => decide); (case zk1 => k_asm); (case zk2 => first | exact rfl | assumption); k_whole); (try dsimp only))
  k_with "eval Constant int" => (k_dflt (refine wpAny_Constant_int ?_); (try dsimp only))
  k_with "subscriptTail Name Slice ref ref" => (k_here; (with_reducible show wpAny _ _ (subscriptTail _ (PySem.Expr.Slice _ _ none _) (Value.ref _) (Value.ref _)) _ _ _); k_dflt (refine' kmk_slice_ints ?zF ?zN ?zl ?zp ?zq ?zi ?zm ?zc ?_ ?zs ?zt ?zz; (case zF => k_asm); (case zN => k_asm); (case zi => assumption); (case zl => exact Heap.IsList.at (by assumption) fun o e => Fr.keep (by k_asm) _ _ e); (case zp => exact IsPart.none); (case zq => exact IsPart.int _ _); (case zm => exact take5 (by assumption)); (case zc => exact rfl); (case zs => with_unfolding_all rfl); (case zt => (intro _; with_unfolding_all rfl)); (case zz => assumption)); intro D' ws' h' F' N' l1 hI' hC' hL'; (try dsimp only))
  k_with "binaryOp Add ref ref" => (k_here; (with_reducible show wpAny _ _ (binaryOp _ (Value.ref _) (Value.ref _)) _ _ _); k_dflt (refine' kmk_add_ints ?zF ?zN ?za ?zb ?zi ?zj ?_ ?zz; (case zF => k_asm); (case zN => k_asm); (case za => exact News.isList (by k_asm) (by k_mem)); (case zb => exact News.isList (by k_asm) (by k_mem)); (case zi => l_ints); (case zj => assumption); (case zz => (simp only [sizeLine_eq, List.length_cons, List.length_nil, List.length_take]; omega))); intro D' ws' h' F' N' l1 hI'; (try dsimp only))
  k_with "pyIter ref" => (k_here; k_dflt (refine' list_loop ?za1 ?za2 ?za3 ?za4 ?za5 ?za6 ?za7 ?za8 ?za9 ?_; (case za1 => assumption); (case za2 => exact rfl); (case za3 => assumption); (case za4 => assumption); (case za5 => assumption); (case za6 => k_asm); (case za7 => exact (fun p hp => (by k_asm : News _ _ _ _) p (by first | exact hp | (rcases List.mem_cons.mp hp with h9 | h9; (· exact h9 ▸ List.mem_cons_self); (· exact List.mem_cons_of_mem _ (List.mem_cons_of_mem _ (List.mem_cons_of_mem _ h9))))))); (case za8 => assumption); (case za9 => assumption)))
  trivial
noncomputable def ChunkZ (w : World) (qual : Str) (body : List Stmt) (scope : Scope) (cdv : Value) : Prop :=
  ∀ (mean : ExcName → Option Value) (mg mb : Str → Option Value) (base : Heap) (s : Shared) (m : Str → Option Value) (Q : Flow → Shared → Prop) (E : Value → Shared → Prop) (o oc : Obj) (c : Addr) (rest : List (Addr × Obj)) (K : Nat → List (Addr × Obj) → (Str → Option Value) → Prop) (adr : List Addr) (vs : List Value) (ns : List Int),
    Below (topZ 301 []) base [] base → (KX w.params).In base → Top vR loose mean mg mb base → Fr base 241 s.heap m → E = Nev → base.IsList 240 vs.toArray → IntsAre vs ns → vs.toArray.size ≤ sizeLine → m "script" = some (.ref 240) → (∀ i r m, K i r m → r.map (·.1) = adr) → (∀ i r m, K i r m → ∀ p ∈ r, NotTab p) → TabOk o c oc → News base 241 s.heap ((64, o) :: (c, oc) :: rest) → K 0 rest m →
    (∀ (i : Nat) (k : Int) (t : Tok) (m₁ : Str → Option Value) (o : Obj) (c : Addr) (oc : Obj) (rest own : List (Addr × Obj)) (s₁ : Shared), ([13, 17, 14, 18, 15, 19, 4 * 11259375] ++ ns.take 5)[i]? = some k → TabOk o c oc → K i rest m₁ → (∀ p ∈ own, OwnOk p) → (∀ p ∈ rest ++ own, NotTab p) → Fr base 241 s₁.heap (fun y => if y = "x" then some (.int k t) else m₁ y) → News base 241 s₁.heap ((64, o) :: (c, oc) :: (rest ++ own)) →
      wpAny (model PW w) ((topZ 301 []).deeper (lawE qual scope cdv)) (execs (forBody body) (lawE qual scope cdv)) (Left64 base 241 own (K (i + 1)) s₁) Nev s₁) →
    (∀ h' tk m' o c oc rest, TabOk o c oc → K ([13, 17, 14, 18, 15, 19, 4 * 11259375] ++ ns.take 5).length rest m' → Fr base 241 h' m' → News base 241 h' ((64, o) :: (c, oc) :: rest) → Q (.ret (.bool true)) { s with heap := h', toks := tk }) →

      wpAny (model PW w) ((topZ 301 []).deeper (lawE qual scope cdv)) (execs (body.drop 3) (lawE qual scope cdv)) Q E s
set_option maxHeartbeats 8000000 in
theorem chunkZ {w : World} {qual : Str} {body : List Stmt} {scope : Scope} {cdv : Value} (L : LawIs w qual body scope cdv) : ChunkZ w qual body scope cdv := by
  revert L
  dsimp only [LawIs, ChunkZ, PW]
  k_fill
  intro L
  k_dflt (refine' law_elim (P := ChunkZ w) ?h ?hP L; (case h => k_is))
  dsimp only [ChunkZ, PW]
  intro mean mg mb base s m Q E o oc c rest K adr vs ns B X T F hE hl hi hsz hs hKI hKN hT N0 hK turn done
  dsimp only [innerFor, forBody, List.drop, List.take]
  (try k_fold)
  subst hE
  refine wpAny_execs_cons ?_
  with_reducible refine For_invV base ?hx ?hp ?h ?hs ?hE
  case hx => exact rfl
  case hp => exact rfl
  case hs => exact fun _ => rfl
  case hE => exact PassesOwn.never
  k_steps
  all_goals ((try dsimp only); k_dflt exact done _ _ _ _ _ _ _ (by assumption) (by assumption) (by assumption) (by assumption))
end Mine
theorem Mine.L12_lines_end : True := by
  k_with_none
  trivial
end L12_text
section F3_text
open PySem PySem.W PyProof.Rows
namespace Mine
theorem tk_0_in : (PySem.Str.ofString "g-z0-9+/").cps = #[103, 45, 122, 48, 45, 57, 43, 47] := by decide +kernel
theorem F3_lines1 : True := by
  k_with_none
  k_with "eval BoolOp" => (k_here; (with_reducible rename Fr _ _ _ _ => F0); (first
      | (refine' held_range F0 ?zhh ?zhi ?zhk ?zhs ?zh0 ?zhf ?zha ?zhb ?_; (case zhh => k_dflt (exact rfl)); (case zhi => k_dflt (exact rfl)); (case zhk => k_dflt (exact rfl)); (case zhs => k_dflt (exact rfl)); (case zh0 => decide); (case zhf => decide); (case zha => rw [tk_0_in]; k_dflt (exact rfl)); (case zhb => rw [tk_0_in]; k_dflt (exact rfl)))
      | (refine' held_one F0 ?zhh ?zhi ?zhk ?zhs ?zh0 ?zhf ?zha ?_; (case zhh => k_dflt (exact rfl)); (case zhi => k_dflt (exact rfl)); (case zhk => k_dflt (exact rfl)); (case zhs => k_dflt (exact rfl)); (case zh0 => decide); (case zhf => decide); (case zha => rw [tk_0_in]; k_dflt (exact rfl)))); intro tk0; (try dsimp only))
  trivial
set_option maxHeartbeats 8000000 in
theorem tk_0 {w : World} (c : Nat) (tk tk2 : Tok) : CZ 380 w 215 ⟨[.str (PySem.Str.ofString "[g-z0-9+/]") tk, .str ⟨#[c]⟩ tk2], []⟩ (fun _ v _ => v = .bool (((((false || (decide (103 ≤ c) && decide (c ≤ 122))) || (decide (48 ≤ c) && decide (c ≤ 57))) || decide (43 = c)) || decide (47 = c)) != false)) := by
  dsimp only [CZ, PW]
  k_fill
  intro mean mg mb A₀ base fr s RR B X T hret
  k_dflt (refine' enterZ B X T ?k6 ?k7 ?k9 ?kB ?_ ?c2 ?c3 ?c4 ?c5 ?c6; (case c6 => decide); (case k6 => k_is); (case k7 => k_is); (case k9 => first | exact BindsTo.of_eq rfl | exact binds_K (by k_in) rfl (by k_is) rfl rfl rfl); (case c5 => decide); (case kB => exact locs rfl); (case c2 => exact rfl); (case c3 => exact rfl); (case c4 => exact rfl); k_whole)
  intro L' h' F' N'
  (try dsimp only)
  (try k_fold)
  k_steps
  all_goals (dsimp only; refine hret _ _ _ rfl (Fr.keep (by assumption)))
theorem tk_1_in : (PySem.Str.ofString "Q-Za-z0-9+/").cps = #[81, 45, 90, 97, 45, 122, 48, 45, 57, 43, 47] := by decide +kernel
theorem F3_lines2 : True := by
  k_with "eval BoolOp" => (k_here; (with_reducible rename Fr _ _ _ _ => F0); (first
      | (refine' held_range F0 ?zhh ?zhi ?zhk ?zhs ?zh0 ?zhf ?zha ?zhb ?_; (case zhh => k_dflt (exact rfl)); (case zhi => k_dflt (exact rfl)); (case zhk => k_dflt (exact rfl)); (case zhs => k_dflt (exact rfl)); (case zh0 => decide); (case zhf => decide); (case zha => rw [tk_1_in]; k_dflt (exact rfl)); (case zhb => rw [tk_1_in]; k_dflt (exact rfl)))
      | (refine' held_one F0 ?zhh ?zhi ?zhk ?zhs ?zh0 ?zhf ?zha ?_; (case zhh => k_dflt (exact rfl)); (case zhi => k_dflt (exact rfl)); (case zhk => k_dflt (exact rfl)); (case zhs => k_dflt (exact rfl)); (case zh0 => decide); (case zhf => decide); (case zha => rw [tk_1_in]; k_dflt (exact rfl)))); intro tk0; (try dsimp only))
  trivial
set_option maxHeartbeats 8000000 in
theorem tk_1 {w : World} (c : Nat) (tk tk2 : Tok) : CZ 380 w 215 ⟨[.str (PySem.Str.ofString "[Q-Za-z0-9+/]") tk, .str ⟨#[c]⟩ tk2], []⟩ (fun _ v _ => v = .bool ((((((false || (decide (81 ≤ c) && decide (c ≤ 90))) || (decide (97 ≤ c) && decide (c ≤ 122))) || (decide (48 ≤ c) && decide (c ≤ 57))) || decide (43 = c)) || decide (47 = c)) != false)) := by
  dsimp only [CZ, PW]
  k_fill
  intro mean mg mb A₀ base fr s RR B X T hret
  k_dflt (refine' enterZ B X T ?k6 ?k7 ?k9 ?kB ?_ ?c2 ?c3 ?c4 ?c5 ?c6; (case c6 => decide); (case k6 => k_is); (case k7 => k_is); (case k9 => first | exact BindsTo.of_eq rfl | exact binds_K (by k_in) rfl (by k_is) rfl rfl rfl); (case c5 => decide); (case kB => exact locs rfl); (case c2 => exact rfl); (case c3 => exact rfl); (case c4 => exact rfl); k_whole)
  intro L' h' F' N'
  (try dsimp only)
  (try k_fold)
  k_steps
  all_goals (dsimp only; refine hret _ _ _ rfl (Fr.keep (by assumption)))
theorem tk_2_in : (PySem.Str.ofString "F-Za-z0-9+/").cps = #[70, 45, 90, 97, 45, 122, 48, 45, 57, 43, 47] := by decide +kernel
theorem F3_lines3 : True := by
  k_with "eval BoolOp" => (k_here; (with_reducible rename Fr _ _ _ _ => F0); (first
      | (refine' held_range F0 ?zhh ?zhi ?zhk ?zhs ?zh0 ?zhf ?zha ?zhb ?_; (case zhh => k_dflt (exact rfl)); (case zhi => k_dflt (exact rfl)); (case zhk => k_dflt (exact rfl)); (case zhs => k_dflt (exact rfl)); (case zh0 => decide); (case zhf => decide); (case zha => rw [tk_2_in]; k_dflt (exact rfl)); (case zhb => rw [tk_2_in]; k_dflt (exact rfl)))
      | (refine' held_one F0 ?zhh ?zhi ?zhk ?zhs ?zh0 ?zhf ?zha ?_; (case zhh => k_dflt (exact rfl)); (case zhi => k_dflt (exact rfl)); (case zhk => k_dflt (exact rfl)); (case zhs => k_dflt (exact rfl)); (case zh0 => decide); (case zhf => decide); (case zha => rw [tk_2_in]; k_dflt (exact rfl)))); intro tk0; (try dsimp only))
  trivial
set_option maxHeartbeats 8000000 in
theorem tk_2 {w : World} (c : Nat) (tk tk2 : Tok) : CZ 380 w 215 ⟨[.str (PySem.Str.ofString "[F-Za-z0-9+/]") tk, .str ⟨#[c]⟩ tk2], []⟩ (fun _ v _ => v = .bool ((((((false || (decide (70 ≤ c) && decide (c ≤ 90))) || (decide (97 ≤ c) && decide (c ≤ 122))) || (decide (48 ≤ c) && decide (c ≤ 57))) || decide (43 = c)) || decide (47 = c)) != false)) := by
  dsimp only [CZ, PW]
  k_fill
  intro mean mg mb A₀ base fr s RR B X T hret
  k_dflt (refine' enterZ B X T ?k6 ?k7 ?k9 ?kB ?_ ?c2 ?c3 ?c4 ?c5 ?c6; (case c6 => decide); (case k6 => k_is); (case k7 => k_is); (case k9 => first | exact BindsTo.of_eq rfl | exact binds_K (by k_in) rfl (by k_is) rfl rfl rfl); (case c5 => decide); (case kB => exact locs rfl); (case c2 => exact rfl); (case c3 => exact rfl); (case c4 => exact rfl); k_whole)
  intro L' h' F' N'
  (try dsimp only)
  (try k_fold)
  k_steps
  all_goals (dsimp only; refine hret _ _ _ rfl (Fr.keep (by assumption)))
theorem tk_3_in : (PySem.Str.ofString "23").cps = #[50, 51] := by decide +kernel
theorem F3_lines4 : True := by
  k_with "eval BoolOp" => (k_here; (with_reducible rename Fr _ _ _ _ => F0); (first
      | (refine' held_range F0 ?zhh ?zhi ?zhk ?zhs ?zh0 ?zhf ?zha ?zhb ?_; (case zhh => k_dflt (exact rfl)); (case zhi => k_dflt (exact rfl)); (case zhk => k_dflt (exact rfl)); (case zhs => k_dflt (exact rfl)); (case zh0 => decide); (case zhf => decide); (case zha => rw [tk_3_in]; k_dflt (exact rfl)); (case zhb => rw [tk_3_in]; k_dflt (exact rfl)))
      | (refine' held_one F0 ?zhh ?zhi ?zhk ?zhs ?zh0 ?zhf ?zha ?_; (case zhh => k_dflt (exact rfl)); (case zhi => k_dflt (exact rfl)); (case zhk => k_dflt (exact rfl)); (case zhs => k_dflt (exact rfl)); (case zh0 => decide); (case zhf => decide); (case zha => rw [tk_3_in]; k_dflt (exact rfl)))); intro tk0; (try dsimp only))
  trivial
set_option maxHeartbeats 8000000 in
theorem tk_3 {w : World} (c : Nat) (tk tk2 : Tok) : CZ 380 w 215 ⟨[.str (PySem.Str.ofString "[23]") tk, .str ⟨#[c]⟩ tk2], []⟩ (fun _ v _ => v = .bool (((false || decide (50 = c)) || decide (51 = c)) != false)) := by
  dsimp only [CZ, PW]
  k_fill
  intro mean mg mb A₀ base fr s RR B X T hret
  k_dflt (refine' enterZ B X T ?k6 ?k7 ?k9 ?kB ?_ ?c2 ?c3 ?c4 ?c5 ?c6; (case c6 => decide); (case k6 => k_is); (case k7 => k_is); (case k9 => first | exact BindsTo.of_eq rfl | exact binds_K (by k_in) rfl (by k_is) rfl rfl rfl); (case c5 => decide); (case kB => exact locs rfl); (case c2 => exact rfl); (case c3 => exact rfl); (case c4 => exact rfl); k_whole)
  intro L' h' F' N'
  (try dsimp only)
  (try k_fold)
  k_steps
  all_goals (dsimp only; refine hret _ _ _ rfl (Fr.keep (by assumption)))
theorem tk_4_in : (PySem.Str.ofString "A-Za-f").cps = #[65, 45, 90, 97, 45, 102] := by decide +kernel
theorem F3_lines5 : True := by
  k_with "eval BoolOp" => (k_here; (with_reducible rename Fr _ _ _ _ => F0); (first
      | (refine' held_range F0 ?zhh ?zhi ?zhk ?zhs ?zh0 ?zhf ?zha ?zhb ?_; (case zhh => k_dflt (exact rfl)); (case zhi => k_dflt (exact rfl)); (case zhk => k_dflt (exact rfl)); (case zhs => k_dflt (exact rfl)); (case zh0 => decide); (case zhf => decide); (case zha => rw [tk_4_in]; k_dflt (exact rfl)); (case zhb => rw [tk_4_in]; k_dflt (exact rfl)))
      | (refine' held_one F0 ?zhh ?zhi ?zhk ?zhs ?zh0 ?zhf ?zha ?_; (case zhh => k_dflt (exact rfl)); (case zhi => k_dflt (exact rfl)); (case zhk => k_dflt (exact rfl)); (case zhs => k_dflt (exact rfl)); (case zh0 => decide); (case zhf => decide); (case zha => rw [tk_4_in]; k_dflt (exact rfl)))); intro tk0; (try dsimp only))
  trivial
set_option maxHeartbeats 8000000 in
theorem tk_4 {w : World} (c : Nat) (tk tk2 : Tok) : CZ 380 w 215 ⟨[.str (PySem.Str.ofString "[^A-Za-f]") tk, .str ⟨#[c]⟩ tk2], []⟩ (fun _ v _ => v = .bool (((false || (decide (65 ≤ c) && decide (c ≤ 90))) || (decide (97 ≤ c) && decide (c ≤ 102))) != true)) := by
  dsimp only [CZ, PW]
  k_fill
  intro mean mg mb A₀ base fr s RR B X T hret
  k_dflt (refine' enterZ B X T ?k6 ?k7 ?k9 ?kB ?_ ?c2 ?c3 ?c4 ?c5 ?c6; (case c6 => decide); (case k6 => k_is); (case k7 => k_is); (case k9 => first | exact BindsTo.of_eq rfl | exact binds_K (by k_in) rfl (by k_is) rfl rfl rfl); (case c5 => decide); (case kB => exact locs rfl); (case c2 => exact rfl); (case c3 => exact rfl); (case c4 => exact rfl); k_whole)
  intro L' h' F' N'
  (try dsimp only)
  (try k_fold)
  k_steps
  all_goals (dsimp only; refine hret _ _ _ rfl (Fr.keep (by assumption)))
theorem tk_5_in : (PySem.Str.ofString "A-P").cps = #[65, 45, 80] := by decide +kernel
theorem F3_lines6 : True := by
  k_with "eval BoolOp" => (k_here; (with_reducible rename Fr _ _ _ _ => F0); (first
      | (refine' held_range F0 ?zhh ?zhi ?zhk ?zhs ?zh0 ?zhf ?zha ?zhb ?_; (case zhh => k_dflt (exact rfl)); (case zhi => k_dflt (exact rfl)); (case zhk => k_dflt (exact rfl)); (case zhs => k_dflt (exact rfl)); (case zh0 => decide); (case zhf => decide); (case zha => rw [tk_5_in]; k_dflt (exact rfl)); (case zhb => rw [tk_5_in]; k_dflt (exact rfl)))
      | (refine' held_one F0 ?zhh ?zhi ?zhk ?zhs ?zh0 ?zhf ?zha ?_; (case zhh => k_dflt (exact rfl)); (case zhi => k_dflt (exact rfl)); (case zhk => k_dflt (exact rfl)); (case zhs => k_dflt (exact rfl)); (case zh0 => decide); (case zhf => decide); (case zha => rw [tk_5_in]; k_dflt (exact rfl)))); intro tk0; (try dsimp only))
  trivial
set_option maxHeartbeats 8000000 in
theorem tk_5 {w : World} (c : Nat) (tk tk2 : Tok) : CZ 380 w 215 ⟨[.str (PySem.Str.ofString "[^A-P]") tk, .str ⟨#[c]⟩ tk2], []⟩ (fun _ v _ => v = .bool ((false || (decide (65 ≤ c) && decide (c ≤ 80))) != true)) := by
  dsimp only [CZ, PW]
  k_fill
  intro mean mg mb A₀ base fr s RR B X T hret
  k_dflt (refine' enterZ B X T ?k6 ?k7 ?k9 ?kB ?_ ?c2 ?c3 ?c4 ?c5 ?c6; (case c6 => decide); (case k6 => k_is); (case k7 => k_is); (case k9 => first | exact BindsTo.of_eq rfl | exact binds_K (by k_in) rfl (by k_is) rfl rfl rfl); (case c5 => decide); (case kB => exact locs rfl); (case c2 => exact rfl); (case c3 => exact rfl); (case c4 => exact rfl); k_whole)
  intro L' h' F' N'
  (try dsimp only)
  (try k_fold)
  k_steps
  all_goals (dsimp only; refine hret _ _ _ rfl (Fr.keep (by assumption)))
theorem tk_6_in : (PySem.Str.ofString "A-E").cps = #[65, 45, 69] := by decide +kernel
theorem F3_lines7 : True := by
  k_with "eval BoolOp" => (k_here; (with_reducible rename Fr _ _ _ _ => F0); (first
      | (refine' held_range F0 ?zhh ?zhi ?zhk ?zhs ?zh0 ?zhf ?zha ?zhb ?_; (case zhh => k_dflt (exact rfl)); (case zhi => k_dflt (exact rfl)); (case zhk => k_dflt (exact rfl)); (case zhs => k_dflt (exact rfl)); (case zh0 => decide); (case zhf => decide); (case zha => rw [tk_6_in]; k_dflt (exact rfl)); (case zhb => rw [tk_6_in]; k_dflt (exact rfl)))
      | (refine' held_one F0 ?zhh ?zhi ?zhk ?zhs ?zh0 ?zhf ?zha ?_; (case zhh => k_dflt (exact rfl)); (case zhi => k_dflt (exact rfl)); (case zhk => k_dflt (exact rfl)); (case zhs => k_dflt (exact rfl)); (case zh0 => decide); (case zhf => decide); (case zha => rw [tk_6_in]; k_dflt (exact rfl)))); intro tk0; (try dsimp only))
  trivial
set_option maxHeartbeats 8000000 in
theorem tk_6 {w : World} (c : Nat) (tk tk2 : Tok) : CZ 380 w 215 ⟨[.str (PySem.Str.ofString "[^A-E]") tk, .str ⟨#[c]⟩ tk2], []⟩ (fun _ v _ => v = .bool ((false || (decide (65 ≤ c) && decide (c ≤ 69))) != true)) := by
  dsimp only [CZ, PW]
  k_fill
  intro mean mg mb A₀ base fr s RR B X T hret
  k_dflt (refine' enterZ B X T ?k6 ?k7 ?k9 ?kB ?_ ?c2 ?c3 ?c4 ?c5 ?c6; (case c6 => decide); (case k6 => k_is); (case k7 => k_is); (case k9 => first | exact BindsTo.of_eq rfl | exact binds_K (by k_in) rfl (by k_is) rfl rfl rfl); (case c5 => decide); (case kB => exact locs rfl); (case c2 => exact rfl); (case c3 => exact rfl); (case c4 => exact rfl); k_whole)
  intro L' h' F' N'
  (try dsimp only)
  (try k_fold)
  k_steps
  all_goals (dsimp only; refine hret _ _ _ rfl (Fr.keep (by assumption)))
theorem tk_7_in : (PySem.Str.ofString "A-Z014-9a-z+/").cps = #[65, 45, 90, 48, 49, 52, 45, 57, 97, 45, 122, 43, 47] := by decide +kernel
theorem F3_lines8 : True := by
  k_with "eval BoolOp" => (k_here; (with_reducible rename Fr _ _ _ _ => F0); (first
      | (refine' held_range F0 ?zhh ?zhi ?zhk ?zhs ?zh0 ?zhf ?zha ?zhb ?_; (case zhh => k_dflt (exact rfl)); (case zhi => k_dflt (exact rfl)); (case zhk => k_dflt (exact rfl)); (case zhs => k_dflt (exact rfl)); (case zh0 => decide); (case zhf => decide); (case zha => rw [tk_7_in]; k_dflt (exact rfl)); (case zhb => rw [tk_7_in]; k_dflt (exact rfl)))
      | (refine' held_one F0 ?zhh ?zhi ?zhk ?zhs ?zh0 ?zhf ?zha ?_; (case zhh => k_dflt (exact rfl)); (case zhi => k_dflt (exact rfl)); (case zhk => k_dflt (exact rfl)); (case zhs => k_dflt (exact rfl)); (case zh0 => decide); (case zhf => decide); (case zha => rw [tk_7_in]; k_dflt (exact rfl)))); intro tk0; (try dsimp only))
  trivial
set_option maxHeartbeats 8000000 in
theorem tk_7 {w : World} (c : Nat) (tk tk2 : Tok) : CZ 380 w 215 ⟨[.str (PySem.Str.ofString "[^A-Z014-9a-z+/]") tk, .str ⟨#[c]⟩ tk2], []⟩ (fun _ v _ => v = .bool ((((((((false || (decide (65 ≤ c) && decide (c ≤ 90))) || decide (48 = c)) || decide (49 = c)) || (decide (52 ≤ c) && decide (c ≤ 57))) || (decide (97 ≤ c) && decide (c ≤ 122))) || decide (43 = c)) || decide (47 = c)) != true)) := by
  dsimp only [CZ, PW]
  k_fill
  intro mean mg mb A₀ base fr s RR B X T hret
  k_dflt (refine' enterZ B X T ?k6 ?k7 ?k9 ?kB ?_ ?c2 ?c3 ?c4 ?c5 ?c6; (case c6 => decide); (case k6 => k_is); (case k7 => k_is); (case k9 => first | exact BindsTo.of_eq rfl | exact binds_K (by k_in) rfl (by k_is) rfl rfl rfl); (case c5 => decide); (case kB => exact locs rfl); (case c2 => exact rfl); (case c3 => exact rfl); (case c4 => exact rfl); k_whole)
  intro L' h' F' N'
  (try dsimp only)
  (try k_fold)
  k_steps
  all_goals (dsimp only; refine hret _ _ _ rfl (Fr.keep (by assumption)))
theorem tk_8_any (c : Nat) : ([PySem.Str.ofString ".", (⟨#[c]⟩ : Str)].any fun x => x == PySem.Str.ofString "A") = (decide (65 = c)) := by
  rw [show PySem.Str.ofString "." = ⟨#[46]⟩ from by decide +kernel, show PySem.Str.ofString "A" = ⟨#[65]⟩ from by decide +kernel]
  simp only [List.any_cons, List.any_nil, one_eq]
  simp [eq_comm]
set_option maxHeartbeats 8000000 in
theorem tk_8 {w : World} (c : Nat) (tk tk2 : Tok) : CZ 380 w 215 ⟨[.str (PySem.Str.ofString "A") tk, .str ⟨#[c]⟩ tk2], []⟩ (fun _ v _ => v = .bool (decide (65 = c))) := by
  dsimp only [CZ, PW]
  k_fill
  intro mean mg mb A₀ base fr s RR B X T hret
  k_dflt (refine' enterZ B X T ?k6 ?k7 ?k9 ?kB ?_ ?c2 ?c3 ?c4 ?c5 ?c6; (case c6 => decide); (case k6 => k_is); (case k7 => k_is); (case k9 => first | exact BindsTo.of_eq rfl | exact binds_K (by k_in) rfl (by k_is) rfl rfl rfl); (case c5 => decide); (case kB => exact locs rfl); (case c2 => exact rfl); (case c3 => exact rfl); (case c4 => exact rfl); k_whole)
  intro L' h' F' N'
  (try dsimp only)
  (try k_fold)
  k_steps
  all_goals ((try dsimp only); exact hret _ _ _ (congrArg Value.bool (tk_8_any c)) (Fr.keep (by assumption)))
theorem tk_9_any (c : Nat) : ([PySem.Str.ofString ".", (⟨#[c]⟩ : Str)].any fun x => x == PySem.Str.ofString "N") = (decide (78 = c)) := by
  rw [show PySem.Str.ofString "." = ⟨#[46]⟩ from by decide +kernel, show PySem.Str.ofString "N" = ⟨#[78]⟩ from by decide +kernel]
  simp only [List.any_cons, List.any_nil, one_eq]
  simp [eq_comm]
set_option maxHeartbeats 8000000 in
theorem tk_9 {w : World} (c : Nat) (tk tk2 : Tok) : CZ 380 w 215 ⟨[.str (PySem.Str.ofString "N") tk, .str ⟨#[c]⟩ tk2], []⟩ (fun _ v _ => v = .bool (decide (78 = c))) := by
  dsimp only [CZ, PW]
  k_fill
  intro mean mg mb A₀ base fr s RR B X T hret
  k_dflt (refine' enterZ B X T ?k6 ?k7 ?k9 ?kB ?_ ?c2 ?c3 ?c4 ?c5 ?c6; (case c6 => decide); (case k6 => k_is); (case k7 => k_is); (case k9 => first | exact BindsTo.of_eq rfl | exact binds_K (by k_in) rfl (by k_is) rfl rfl rfl); (case c5 => decide); (case kB => exact locs rfl); (case c2 => exact rfl); (case c3 => exact rfl); (case c4 => exact rfl); k_whole)
  intro L' h' F' N'
  (try dsimp only)
  (try k_fold)
  k_steps
  all_goals ((try dsimp only); exact hret _ _ _ (congrArg Value.bool (tk_9_any c)) (Fr.keep (by assumption)))
theorem tk_10_any (c : Nat) : ([PySem.Str.ofString ".", (⟨#[c]⟩ : Str)].any fun x => x == PySem.Str.ofString "E") = (decide (69 = c)) := by
  rw [show PySem.Str.ofString "." = ⟨#[46]⟩ from by decide +kernel, show PySem.Str.ofString "E" = ⟨#[69]⟩ from by decide +kernel]
  simp only [List.any_cons, List.any_nil, one_eq]
  simp [eq_comm]
set_option maxHeartbeats 8000000 in
theorem tk_10 {w : World} (c : Nat) (tk tk2 : Tok) : CZ 380 w 215 ⟨[.str (PySem.Str.ofString "E") tk, .str ⟨#[c]⟩ tk2], []⟩ (fun _ v _ => v = .bool (decide (69 = c))) := by
  dsimp only [CZ, PW]
  k_fill
  intro mean mg mb A₀ base fr s RR B X T hret
  k_dflt (refine' enterZ B X T ?k6 ?k7 ?k9 ?kB ?_ ?c2 ?c3 ?c4 ?c5 ?c6; (case c6 => decide); (case k6 => k_is); (case k7 => k_is); (case k9 => first | exact BindsTo.of_eq rfl | exact binds_K (by k_in) rfl (by k_is) rfl rfl rfl); (case c5 => decide); (case kB => exact locs rfl); (case c2 => exact rfl); (case c3 => exact rfl); (case c4 => exact rfl); k_whole)
  intro L' h' F' N'
  (try dsimp only)
  (try k_fold)
  k_steps
  all_goals ((try dsimp only); exact hret _ _ _ (congrArg Value.bool (tk_10_any c)) (Fr.keep (by assumption)))
theorem tk_11_any (c : Nat) : ([PySem.Str.ofString ".", (⟨#[c]⟩ : Str)].any fun x => x == PySem.Str.ofString ".") = true := by simp
set_option maxHeartbeats 8000000 in
theorem tk_11 {w : World} (c : Nat) (tk tk2 : Tok) : CZ 380 w 215 ⟨[.str (PySem.Str.ofString ".") tk, .str ⟨#[c]⟩ tk2], []⟩ (fun _ v _ => v = .bool true) := by
  dsimp only [CZ, PW]
  k_fill
  intro mean mg mb A₀ base fr s RR B X T hret
  k_dflt (refine' enterZ B X T ?k6 ?k7 ?k9 ?kB ?_ ?c2 ?c3 ?c4 ?c5 ?c6; (case c6 => decide); (case k6 => k_is); (case k7 => k_is); (case k9 => first | exact BindsTo.of_eq rfl | exact binds_K (by k_in) rfl (by k_is) rfl rfl rfl); (case c5 => decide); (case kB => exact locs rfl); (case c2 => exact rfl); (case c3 => exact rfl); (case c4 => exact rfl); k_whole)
  intro L' h' F' N'
  (try dsimp only)
  (try k_fold)
  k_steps
  all_goals ((try dsimp only); exact hret _ _ _ (congrArg Value.bool (tk_11_any c)) (Fr.keep (by assumption)))
theorem tk_12_any (c : Nat) : ([PySem.Str.ofString ".", (⟨#[c]⟩ : Str)].any fun x => x == PySem.Str.ofString "=") = (decide (61 = c)) := by
  rw [show PySem.Str.ofString "." = ⟨#[46]⟩ from by decide +kernel, show PySem.Str.ofString "=" = ⟨#[61]⟩ from by decide +kernel]
  simp only [List.any_cons, List.any_nil, one_eq]
  simp [eq_comm]
set_option maxHeartbeats 8000000 in
theorem tk_12 {w : World} (c : Nat) (tk tk2 : Tok) : CZ 380 w 215 ⟨[.str (PySem.Str.ofString "=") tk, .str ⟨#[c]⟩ tk2], []⟩ (fun _ v _ => v = .bool (decide (61 = c))) := by
  dsimp only [CZ, PW]
  k_fill
  intro mean mg mb A₀ base fr s RR B X T hret
  k_dflt (refine' enterZ B X T ?k6 ?k7 ?k9 ?kB ?_ ?c2 ?c3 ?c4 ?c5 ?c6; (case c6 => decide); (case k6 => k_is); (case k7 => k_is); (case k9 => first | exact BindsTo.of_eq rfl | exact binds_K (by k_in) rfl (by k_is) rfl rfl rfl); (case c5 => decide); (case kB => exact locs rfl); (case c2 => exact rfl); (case c3 => exact rfl); (case c4 => exact rfl); k_whole)
  intro L' h' F' N'
  (try dsimp only)
  (try k_fold)
  k_steps
  all_goals ((try dsimp only); exact hret _ _ _ (congrArg Value.bool (tk_12_any c)) (Fr.keep (by assumption)))
end Mine
theorem Mine.F3_lines_end : True := by
  k_with_none
  trivial
end F3_text
section P1_text
open PySem PySem.W PyProof.Rows
namespace Mine
noncomputable def TakesIs (w : World) (p : Str) (f : Nat → Bool) : Prop := ∀ (c : Nat) (tk tk2 : Tok), CZ 380 w 215 ⟨[.str p tk, .str ⟨#[c]⟩ tk2], []⟩ (fun _ v _ => v = .bool (f c))
theorem fitsIs {w : World} {p0 p1 p2 p3 : Str} {gg0 gg1 gg2 gg3 : Nat → Bool} (h0 : TakesIs w p0 gg0) (h1 : TakesIs w p1 gg1) (h2 : TakesIs w p2 gg2) (h3 : TakesIs w p3 gg3) (c0 c1 c2 c3 : Nat) {b : Bool} (e : (gg0 c0 && gg1 c1 && gg2 c2 && gg3 c3) = b) : FitsIs w (p0, p1, p2, p3) ⟨#[c0, c1, c2, c3]⟩ b := by
  intro D t0 t1 t2 t3 tk
  subst e
  exact fits_ok (n := 0) (h0 c0) (h1 c1) (h2 c2) (h3 c3) tk
noncomputable def sg (k : Nat) : Nat := (sigs.getD k 0).toNat
theorem sig_sg {e : Int} {k : Nat} (h : e = (k : Int)) : (sig e).toNat = sg k := by subst h; rfl
noncomputable def gg0 (c : Nat) : Bool := (((((false || (decide (103 ≤ c) && decide (c ≤ 122))) || (decide (48 ≤ c) && decide (c ≤ 57))) || decide (43 = c)) || decide (47 = c)) != false)
noncomputable def gg1 (c : Nat) : Bool := ((((((false || (decide (81 ≤ c) && decide (c ≤ 90))) || (decide (97 ≤ c) && decide (c ≤ 122))) || (decide (48 ≤ c) && decide (c ≤ 57))) || decide (43 = c)) || decide (47 = c)) != false)
noncomputable def gg2 (c : Nat) : Bool := ((((((false || (decide (70 ≤ c) && decide (c ≤ 90))) || (decide (97 ≤ c) && decide (c ≤ 122))) || (decide (48 ≤ c) && decide (c ≤ 57))) || decide (43 = c)) || decide (47 = c)) != false)
noncomputable def gg3 (c : Nat) : Bool := (((false || decide (50 = c)) || decide (51 = c)) != false)
noncomputable def gg4 (c : Nat) : Bool := (((false || (decide (65 ≤ c) && decide (c ≤ 90))) || (decide (97 ≤ c) && decide (c ≤ 102))) != true)
noncomputable def gg5 (c : Nat) : Bool := ((false || (decide (65 ≤ c) && decide (c ≤ 80))) != true)
noncomputable def gg6 (c : Nat) : Bool := ((false || (decide (65 ≤ c) && decide (c ≤ 69))) != true)
noncomputable def gg7 (c : Nat) : Bool := ((((((((false || (decide (65 ≤ c) && decide (c ≤ 90))) || decide (48 = c)) || decide (49 = c)) || (decide (52 ≤ c) && decide (c ≤ 57))) || (decide (97 ≤ c) && decide (c ≤ 122))) || decide (43 = c)) || decide (47 = c)) != true)
theorem ss0 : ∀ k : Fin 64, gg0 (sg k) = decide (32 ≤ k.val) := by decide +kernel
theorem ss1 : ∀ k : Fin 64, gg1 (sg k) = decide (16 ≤ k.val) := by decide +kernel
theorem ss2 : ∀ k : Fin 64, gg2 (sg k) = decide (5 ≤ k.val) := by decide +kernel
theorem ss3 : ∀ k : Fin 64, gg3 (sg k) = decide (k.val = 54 ∨ k.val = 55) := by decide +kernel
theorem ss4 : ∀ k : Fin 64, gg4 (sg k) = decide (32 ≤ k.val) := by decide +kernel
theorem ss5 : ∀ k : Fin 64, gg5 (sg k) = decide (16 ≤ k.val) := by decide +kernel
theorem ss6 : ∀ k : Fin 64, gg6 (sg k) = decide (5 ≤ k.val) := by decide +kernel
theorem ss7 : ∀ k : Fin 64, gg7 (sg k) = decide (k.val = 54 ∨ k.val = 55) := by decide +kernel
theorem ss8 : ∀ k : Fin 64, decide (65 = sg k) = decide (k.val = 0) := by decide +kernel
theorem ss9 : ∀ k : Fin 64, decide (78 = sg k) = decide (k.val = 13) := by decide +kernel
theorem ss10 : ∀ k : Fin 64, decide (69 = sg k) = decide (k.val = 4) := by decide +kernel
section
variable {w : World}
theorem kk0 : TakesIs w ⟨#[91, 103, 45, 122, 48, 45, 57, 43, 47, 93]⟩ gg0 := fun c tk tk2 => (show Str.ofString "[g-z0-9+/]" = ⟨#[91, 103, 45, 122, 48, 45, 57, 43, 47, 93]⟩ by decide +kernel) ▸ tk_0 c tk tk2
theorem kk1 : TakesIs w ⟨#[91, 81, 45, 90, 97, 45, 122, 48, 45, 57, 43, 47, 93]⟩ gg1 := fun c tk tk2 => (show Str.ofString "[Q-Za-z0-9+/]" = ⟨#[91, 81, 45, 90, 97, 45, 122, 48, 45, 57, 43, 47, 93]⟩ by decide +kernel) ▸ tk_1 c tk tk2
theorem kk2 : TakesIs w ⟨#[91, 70, 45, 90, 97, 45, 122, 48, 45, 57, 43, 47, 93]⟩ gg2 := fun c tk tk2 => (show Str.ofString "[F-Za-z0-9+/]" = ⟨#[91, 70, 45, 90, 97, 45, 122, 48, 45, 57, 43, 47, 93]⟩ by decide +kernel) ▸ tk_2 c tk tk2
theorem kk3 : TakesIs w ⟨#[91, 50, 51, 93]⟩ gg3 := fun c tk tk2 => (show Str.ofString "[23]" = ⟨#[91, 50, 51, 93]⟩ by decide +kernel) ▸ tk_3 c tk tk2
theorem kk4 : TakesIs w ⟨#[91, 94, 65, 45, 90, 97, 45, 102, 93]⟩ gg4 := fun c tk tk2 => (show Str.ofString "[^A-Za-f]" = ⟨#[91, 94, 65, 45, 90, 97, 45, 102, 93]⟩ by decide +kernel) ▸ tk_4 c tk tk2
theorem kk5 : TakesIs w ⟨#[91, 94, 65, 45, 80, 93]⟩ gg5 := fun c tk tk2 => (show Str.ofString "[^A-P]" = ⟨#[91, 94, 65, 45, 80, 93]⟩ by decide +kernel) ▸ tk_5 c tk tk2
theorem kk6 : TakesIs w ⟨#[91, 94, 65, 45, 69, 93]⟩ gg6 := fun c tk tk2 => (show Str.ofString "[^A-E]" = ⟨#[91, 94, 65, 45, 69, 93]⟩ by decide +kernel) ▸ tk_6 c tk tk2
theorem kk7 : TakesIs w ⟨#[91, 94, 65, 45, 90, 48, 49, 52, 45, 57, 97, 45, 122, 43, 47, 93]⟩ gg7 := fun c tk tk2 => (show Str.ofString "[^A-Z014-9a-z+/]" = ⟨#[91, 94, 65, 45, 90, 48, 49, 52, 45, 57, 97, 45, 122, 43, 47, 93]⟩ by decide +kernel) ▸ tk_7 c tk tk2
theorem kk8 : TakesIs w ⟨#[65]⟩ (fun c => decide (65 = c)) := fun c tk tk2 => (show Str.ofString "A" = ⟨#[65]⟩ by decide +kernel) ▸ tk_8 c tk tk2
theorem kk9 : TakesIs w ⟨#[78]⟩ (fun c => decide (78 = c)) := fun c tk tk2 => (show Str.ofString "N" = ⟨#[78]⟩ by decide +kernel) ▸ tk_9 c tk tk2
theorem kk10 : TakesIs w ⟨#[69]⟩ (fun c => decide (69 = c)) := fun c tk tk2 => (show Str.ofString "E" = ⟨#[69]⟩ by decide +kernel) ▸ tk_10 c tk tk2
theorem kk11 : TakesIs w ⟨#[46]⟩ (fun _ => true) := fun c tk tk2 => (show Str.ofString "." = ⟨#[46]⟩ by decide +kernel) ▸ tk_11 c tk tk2
theorem kk12 : TakesIs w ⟨#[61]⟩ (fun c => decide (61 = c)) := fun c tk tk2 => (show Str.ofString "=" = ⟨#[61]⟩ by decide +kernel) ▸ tk_12 c tk tk2
end
end Mine
end P1_text
section P2_text
open PySem PySem.W PyProof.Rows
namespace Mine
noncomputable def jx (low : Bool) (n : Nat) : Nat := if low then n else if n < 10 then n else n + 6
theorem jx_ok : ∀ (low : Bool) (n : Fin 16), jx low n.val < 22 ∧ dg (jx low n.val) = hexF low n.val ∧ dv (jx low n.val) = n.val ∧ hexF low n.val < 128 ∧ hexF low n.val ≠ 10 := by decide +kernel
theorem jx_lt (low : Bool) {n : Nat} (h : n < 16) : jx low n < 22 := (jx_ok low ⟨n, h⟩).1
theorem jx_dg (low : Bool) {n : Nat} (h : n < 16) : dg (jx low n) = hexF low n := (jx_ok low ⟨n, h⟩).2.1
theorem jx_dv (low : Bool) {n : Nat} (h : n < 16) : dv (jx low n) = n := (jx_ok low ⟨n, h⟩).2.2.1
theorem hexF_lt (low : Bool) {n : Nat} (h : n < 16) : hexF low n < 128 := (jx_ok low ⟨n, h⟩).2.2.2.1
theorem hexF_ne (low : Bool) {n : Nat} (h : n < 16) : hexF low n ≠ 10 := (jx_ok low ⟨n, h⟩).2.2.2.2
theorem u8_hexF : ∀ n : Fin 16, Builtin.Bytes.toUpper (hexL n.val).toUInt8 = (hexU n.val).toUInt8 ∧ (hexU n.val).toUInt8.toNat = hexU n.val := by decide +kernel
section
variable {w : World}
theorem b16_four (low : Bool) {d0 d1 d2 d3 : Nat} (h0 : d0 < 16) (h1 : d1 < 16) (h2 : d2 < 16) (h3 : d3 < 16) :
    B16Is w (byteArr [(hexF low d0 : Int), (hexF low d1 : Int), (hexF low d2 : Int), (hexF low d3 : Int)]) low ((d0 : Int) * 16 + d1) ((d2 : Int) * 16 + d3) := by
  intro tk
  cases low
  · exact b16d_false (hexU d0).toUInt8 (hexU d1).toUInt8 (hexU d2).toUInt8 (hexU d3).toUInt8 d0 d1 d2 d3 (u8_hexF ⟨d0, h0⟩).2 (u8_hexF ⟨d1, h1⟩).2 (u8_hexF ⟨d2, h2⟩).2 (u8_hexF ⟨d3, h3⟩).2 h0 h1 h2 h3 tk
  · exact b16d_true (hexL d0).toUInt8 (hexL d1).toUInt8 (hexL d2).toUInt8 (hexL d3).toUInt8 (hexU d0).toUInt8 (hexU d1).toUInt8 (hexU d2).toUInt8 (hexU d3).toUInt8 d0 d1 d2 d3
      (u8_hexF ⟨d0, h0⟩).1 (u8_hexF ⟨d1, h1⟩).1 (u8_hexF ⟨d2, h2⟩).1 (u8_hexF ⟨d3, h3⟩).1 (u8_hexF ⟨d0, h0⟩).2 (u8_hexF ⟨d1, h1⟩).2 (u8_hexF ⟨d2, h2⟩).2 (u8_hexF ⟨d3, h3⟩).2 h0 h1 h2 h3 tk
theorem found_big (low : Bool) {n0 n1 n2 n3 n4 n5 : Nat} (h0 : n0 < 16) (h1 : n1 < 16) (h2 : n2 < 16) (h3 : n3 < 16) (h4 : n4 < 16) (h5 : n5 < 16) {N : Nat} (hN : N = ((((n0 * 16 + n1) * 16 + n2) * 16 + n3) * 16 + n4) * 16 + n5) :
    if isScal (N : Int) then FoundSome w ⟨#[92, 85, 48, 48, hexF low n0, hexF low n1, hexF low n2, hexF low n3, hexF low n4, hexF low n5, 102]⟩ 2 8 N
      else FoundNone w ⟨#[92, 85, 48, 48, hexF low n0, hexF low n1, hexF low n2, hexF low n3, hexF low n4, hexF low n5, 102]⟩ 2 8 := by
  have hj : ∀ j ∈ [0, 0, jx low n0, jx low n1, jx low n2, jx low n3, jx low n4, jx low n5], j < 22 := by
    intro j hj
    simp only [List.mem_cons, List.not_mem_nil, or_false] at hj
    rcases hj with rfl | rfl | rfl | rfl | rfl | rfl | rfl | rfl <;> first | decide | exact jx_lt low (by assumption)
  have hv : hexval [0, 0, jx low n0, jx low n1, jx low n2, jx low n3, jx low n4, jx low n5] = N := by
    simp only [hexval, List.foldl, jx_dv low h0, jx_dv low h1, jx_dv low h2, jx_dv low h3, jx_dv low h4, jx_dv low h5]
    have : dv 0 = 0 := rfl
    rw [this, hN]; omega
  have hs : Txt.slice ⟨#[92, 85, 48, 48, hexF low n0, hexF low n1, hexF low n2, hexF low n3, hexF low n4, hexF low n5, 102]⟩ (some 2) (some (2 + 8)) = ⟨([0, 0, jx low n0, jx low n1, jx low n2, jx low n3, jx low n4, jx low n5].map dg).toArray⟩ := by
    simp only [List.map_cons, List.map_nil, jx_dg low h0, jx_dg low h1, jx_dg low h2, jx_dg low h3, jx_dg low h4, jx_dg low h5]
    kernel_rfl
  split
  · rename_i hsc
    rw [← hv] at hsc ⊢
    intro tk t1 t2
    exact found_some _ 2 8 _ hj rfl (by simp) (by simp) (by decide) (by show (11 : Nat) ≤ 20; decide) hs hsc tk t1 t2
  · rename_i hsc
    intro tk t1 t2
    refine found_none2 _ 2 8 11 _ hj rfl (by simp) (by simp) (by decide) rfl (by decide) (by decide) ?_ hs (by rw [hv]; simpa using hsc) tk t1 t2
    intro i hi
    have hi : i < 11 := hi
    match i, hi with
    | 0, _ => simp
    | 1, _ => simp
    | 2, _ => simp
    | 3, _ => simp
    | 4, _ => simpa using hexF_ne low h0
    | 5, _ => simpa using hexF_ne low h1
    | 6, _ => simpa using hexF_ne low h2
    | 7, _ => simpa using hexF_ne low h3
    | 8, _ => simpa using hexF_ne low h4
    | 9, _ => simpa using hexF_ne low h5
    | 10, _ => simp
    | n + 11, h => exact absurd h (by omega)
theorem found_ten (low : Bool) {n0 n1 n2 n3 n4 n5 : Nat} (h0 : n0 < 16) (h1 : n1 < 16) (h2 : n2 < 16) (h3 : n3 < 16) (h4 : n4 < 16) (h5 : n5 < 16) :
    FoundNone w ⟨#[92, 85, 49, 48, hexF low n0, hexF low n1, hexF low n2, hexF low n3, hexF low n4, hexF low n5]⟩ 2 8 := by
  have hj : ∀ j ∈ [1, 0, jx low n0, jx low n1, jx low n2, jx low n3, jx low n4, jx low n5], j < 22 := by
    intro j hj
    simp only [List.mem_cons, List.not_mem_nil, or_false] at hj
    rcases hj with rfl | rfl | rfl | rfl | rfl | rfl | rfl | rfl <;> first | decide | exact jx_lt low (by assumption)
  have hv : 1114111 < hexval [1, 0, jx low n0, jx low n1, jx low n2, jx low n3, jx low n4, jx low n5] := by
    simp only [hexval, List.foldl, jx_dv low h0, jx_dv low h1, jx_dv low h2, jx_dv low h3, jx_dv low h4, jx_dv low h5]
    have e0 : dv 0 = 0 := rfl
    have e1 : dv 1 = 1 := rfl
    rw [e0, e1]; omega
  have hs : Txt.slice ⟨#[92, 85, 49, 48, hexF low n0, hexF low n1, hexF low n2, hexF low n3, hexF low n4, hexF low n5]⟩ (some 2) (some (2 + 8)) = ⟨([1, 0, jx low n0, jx low n1, jx low n2, jx low n3, jx low n4, jx low n5].map dg).toArray⟩ := by
    simp only [List.map_cons, List.map_nil, jx_dg low h0, jx_dg low h1, jx_dg low h2, jx_dg low h3, jx_dg low h4, jx_dg low h5]
    kernel_rfl
  intro tk t1 t2
  exact found_none1 _ 2 8 10 _ hj rfl (by simp) (by simp) (by decide) rfl (by decide) (by decide) hs (by unfold isScal; rw [decide_eq_false_iff_not]; omega) tk t1 t2
theorem found_four (low : Bool) {T : Str} {p : Int} {d0 d1 d2 d3 : Nat} (h0 : d0 < 16) (h1 : d1 < 16) (h2 : d2 < 16) (h3 : d3 < 16) (hp : 0 ≤ p ∧ p ≤ 6) (hT : T.length = 11) (hnl : ∀ i, i < T.length → T.cps[i]? ≠ some 10)
    (sl : Txt.slice T (some p) (some (p + 4)) = ⟨#[hexF low d0, hexF low d1, hexF low d2, hexF low d3]⟩) {P : Nat} (hP : P = ((d0 * 16 + d1) * 16 + d2) * 16 + d3) :
    if isScal (P : Int) then FoundSome w T p 4 P else FoundNone w T p 4 := by
  have hj : ∀ j ∈ [jx low d0, jx low d1, jx low d2, jx low d3], j < 22 := by
    intro j hj
    simp only [List.mem_cons, List.not_mem_nil, or_false] at hj
    rcases hj with rfl | rfl | rfl | rfl <;> exact jx_lt low (by assumption)
  have hv : hexval [jx low d0, jx low d1, jx low d2, jx low d3] = P := by
    simp only [hexval, List.foldl, jx_dv low h0, jx_dv low h1, jx_dv low h2, jx_dv low h3]
    rw [hP]; omega
  have hs : Txt.slice T (some p) (some (p + 4)) = ⟨([jx low d0, jx low d1, jx low d2, jx low d3].map dg).toArray⟩ := by
    simp only [List.map_cons, List.map_nil, jx_dg low h0, jx_dg low h1, jx_dg low h2, jx_dg low h3]
    exact sl
  split
  · rename_i hsc
    rw [← hv] at hsc ⊢
    intro tk t1 t2
    exact found_some _ p 4 _ hj rfl (by simp) (by simp) (by omega) (by omega) hs hsc tk t1 t2
  · rename_i hsc
    intro tk t1 t2
    exact found_none2 _ p 4 11 _ hj rfl (by simp) (by simp) (by omega) hT (by decide) (by omega) hnl hs (by rw [hv]; simpa using hsc) tk t1 t2
end
end Mine
end P2_text
section P3_text
open PySem PySem.W PyProof.Rows
namespace Mine
theorem numOf_in (x : Int) : 0 ≤ numOf x ∧ numOf x < 16777216 := by
  have e1 : Int.fmod x 4 = x % 4 := Int.fmod_eq_emod_of_nonneg x (by decide)
  have e2 : Int.fmod (Int.fdiv x 4) 16777216 = (Int.fdiv x 4) % 16777216 := Int.fmod_eq_emod_of_nonneg _ (by decide)
  have e3 : Int.fmod (Int.fdiv x 4) 8 = (Int.fdiv x 4) % 8 := Int.fmod_eq_emod_of_nonneg _ (by decide)
  unfold numOf
  rw [e1, e2, e3]
  split
  · omega
  · split
    · omega
    · split <;> omega
theorem nopy (y x : Int) (h : y.natAbs < 1000000) : Builtin.divisionGoesByPylong x y = false := by
  unfold Builtin.divisionGoesByPylong
  have : ¬ ((if (y == 0) = true then 0 else y.natAbs.log2 / 30 + 1) > 300) := by
    split
    · omega
    · have h2 : y.natAbs.log2 ≤ y.natAbs := Nat.log2_le_self _
      have : y.natAbs.log2 < 100 := by
        rename_i h0
        have h0' : y.natAbs ≠ 0 := by simpa using h0
        rw [Nat.log2_lt h0']
        exact Nat.lt_of_lt_of_le h (by decide)
      omega
  simp only [this, decide_false, Bool.false_and]
noncomputable def tok (w : World) (pa : Str) (k : Nat → Bool) : Prop := ∃ g, TakesIs w pa g ∧ ∀ i : Fin 64, g (sg i) = k i
section
variable {w : World} {x : Int} {pa pb pc pd : Str}
theorem tok.at {pa : Str} {k : Nat → Bool} {g : Nat → Bool} (h : ∀ i : Fin 64, g (sg i) = k i) {i : Nat} (hi : i < 64) : g (sg i) = k i := h ⟨i, hi⟩
noncomputable abbrev P0 (pa : Str) : Row4 := (⟨#[65]⟩, ⟨#[78]⟩, pa, ⟨#[46]⟩)
noncomputable abbrev P1 (pb : Str) : Row4 := (⟨#[69]⟩, pb, ⟨#[46]⟩, ⟨#[46]⟩)
noncomputable abbrev P2 (pc : Str) : Row4 := (pc, ⟨#[46]⟩, ⟨#[46]⟩, ⟨#[46]⟩)
noncomputable abbrev P3 (pd : Str) : Row4 := (pd, ⟨#[46]⟩, ⟨#[46]⟩, ⟨#[61]⟩)
theorem fits0 (ha : tok w pa fun k => decide (32 ≤ k)) {k0 k1 k2 k3 : Nat} (h0 : k0 < 64) (h1 : k1 < 64) (h2 : k2 < 64) {b : Bool} (e : (decide (k0 = 0) && decide (k1 = 13) && decide (32 ≤ k2)) = b) : FitsIs w (P0 pa) ⟨#[sg k0, sg k1, sg k2, sg k3]⟩ b := by
  obtain ⟨g, hg, hk⟩ := ha
  refine fitsIs kk8 kk9 hg kk11 _ _ _ _ ?_
  rw [ss8 ⟨k0, h0⟩, ss9 ⟨k1, h1⟩, hk ⟨k2, h2⟩, Bool.and_true]
  exact e
theorem fits1 (hb : tok w pb fun k => decide (16 ≤ k)) {k0 k1 k2 k3 : Nat} (h0 : k0 < 64) (h1 : k1 < 64) {b : Bool} (e : (decide (k0 = 4) && decide (16 ≤ k1)) = b) : FitsIs w (P1 pb) ⟨#[sg k0, sg k1, sg k2, sg k3]⟩ b := by
  obtain ⟨g, hg, hk⟩ := hb
  refine fitsIs kk10 hg kk11 kk11 _ _ _ _ ?_
  rw [ss10 ⟨k0, h0⟩, hk ⟨k1, h1⟩, Bool.and_true, Bool.and_true]
  exact e
theorem fits2 (hc : tok w pc fun k => decide (5 ≤ k)) {k0 k1 k2 k3 : Nat} (h0 : k0 < 64) {b : Bool} (e : decide (5 ≤ k0) = b) : FitsIs w (P2 pc) ⟨#[sg k0, sg k1, sg k2, sg k3]⟩ b := by
  obtain ⟨g, hg, hk⟩ := hc
  refine fitsIs hg kk11 kk11 kk11 _ _ _ _ ?_
  rw [hk ⟨k0, h0⟩, Bool.and_true, Bool.and_true, Bool.and_true]
  exact e
theorem fits3 (hd : tok w pd fun k => decide (k = 54 ∨ k = 55)) {k0 : Nat} {c1 c2 : Nat} (h0 : k0 < 64) {b : Bool} (e : decide (k0 = 54 ∨ k0 = 55) = b) : FitsIs w (P3 pd) ⟨#[sg k0, c1, c2, (61 : Int).toNat]⟩ b := by
  obtain ⟨g, hg, hk⟩ := hd
  refine fitsIs hg kk11 kk11 kk12 _ _ _ _ ?_
  rw [hk ⟨k0, h0⟩, Bool.and_true, Bool.and_true]
  rw [show decide (61 = (61 : Int).toNat) = true from rfl, Bool.and_true]
  exact e
theorem pl_le {p : Int} (hp : 0 ≤ p ∧ p ≤ 6) : 0 ≤ p ∧ p ≤ 10 := ⟨hp.1, Int.le_trans hp.2 (by decide)⟩
theorem pl_len {T : Str} (hT : T.length = 11) : T.length ≤ 20 := by rw [hT]; decide
theorem pl_by {a b : Nat} (h0 : a < 16) (h1 : b < 16) : 0 ≤ (a : Int) * 16 + b ∧ (a : Int) * 16 + b < 256 := by omega
theorem pl_all {d0 d1 d2 d3 : Nat} (h0 : d0 < 16) (h1 : d1 < 16) (h2 : d2 < 16) (h3 : d3 < 16) : 0 ≤ ((d0 : Int) * 16 + d1) * 256 + ((d2 : Int) * 16 + d3) ∧ ((d0 : Int) * 16 + d1) * 256 + ((d2 : Int) * 16 + d3) ≤ 1114111 := by omega
theorem pl_div (a b : Nat) : ((a : Int) * 16 + b) / 4 = (((a * 16 + b) / 4 : Nat) : Int) := by omega
theorem pl_lt {a b : Nat} (h0 : a < 16) (h1 : b < 16) : (a * 16 + b) / 4 < 64 := by omega
theorem pl_num (d0 d1 d2 d3 : Nat) : (((d0 : Int) * 16 + d1) * 256 + ((d2 : Int) * 16 + d3)).toNat = ((d0 * 16 + d1) * 16 + d2) * 16 + d3 := by omega
theorem pl_fit {d0 d1 d2 d3 : Nat} (h0 : d0 < 16) (h1 : d1 < 16) (h2 : d2 < 16) (h3 : d3 < 16) : decide ((d0 * 16 + d1) / 4 = 54 ∨ (d0 * 16 + d1) / 4 = 55) = !(isScal ((((d0 * 16 + d1) * 16 + d2) * 16 + d3 : Nat) : Int)) := by
  by_cases h : (d0 * 16 + d1) / 4 = 54 ∨ (d0 * 16 + d1) / 4 = 55
  · rw [decide_eq_true h, show isScal ((((d0 * 16 + d1) * 16 + d2) * 16 + d3 : Nat) : Int) = false by unfold isScal; rw [decide_eq_false_iff_not]; omega]; rfl
  · rw [decide_eq_false h, show isScal ((((d0 * 16 + d1) * 16 + d2) * 16 + d3 : Nat) : Int) = true by unfold isScal; rw [decide_eq_true_iff]; omega]; rfl
theorem place_ok (hd : tok w pd fun k => decide (k = 54 ∨ k = 55)) (low : Bool) {T : Str} {p : Int} {d0 d1 d2 d3 : Nat} (h0 : d0 < 16) (h1 : d1 < 16) (h2 : d2 < 16) (h3 : d3 < 16) (hp : 0 ≤ p ∧ p ≤ 6) (hT : T.length = 11) (hnl : ∀ i, i < T.length → T.cps[i]? ≠ some 10)
    (hlow : Int.fmod (Int.fdiv x 32) 2 = if low then 1 else 0) (sl : Txt.slice T (some p) (some (p + 4)) = ⟨#[hexF low d0, hexF low d1, hexF low d2, hexF low d3]⟩) : Nonempty (PlaceOk w x T (P3 pd) p) := by
  have F := found_four (w := w) low h0 h1 h2 h3 hp hT hnl sl (P := ((d0 * 16 + d1) * 16 + d2) * 16 + d3) rfl
  have eP := pl_num d0 d1 d2 d3
  have hfit := pl_fit h0 h1 h2 h3
  refine ⟨⟨_, (d0 : Int) * 16 + d1, (d2 : Int) * 16 + d3, hexF low d0, hexF low d1, hexF low d2, hexF low d3, low, decide ((d0 * 16 + d1) / 4 = 54 ∨ (d0 * 16 + d1) / 4 = 55), nopy _ _ (by decide), rfl, hlow, sl, hexF_lt low h0, hexF_lt low h1, hexF_lt low h2, hexF_lt low h3, pl_le hp, pl_len hT, b16_four low h0 h1 h2 h3,
    KBa.ints_make (in2 (pl_by h0 h1).1 (pl_by h0 h1).2 (pl_by h2 h3).1 (pl_by h2 h3).2), pl_by h0 h1, pl_by h2 h3, ?_, pl_all h0 h1 h2 h3, ?_⟩⟩
  · rw [sig_sg (pl_div d0 d1)]
    exact fits3 hd (pl_lt h0 h1) rfl
  · rw [hfit, eP]
    cases hs : isScal ((((d0 * 16 + d1) * 16 + d2) * 16 + d3 : Nat) : Int)
    · rw [hs] at F; exact F
    · rw [hs] at F; exact F
theorem b3 {p q r : Prop} [Decidable p] [Decidable q] [Decidable r] (h : p ∧ q ∧ r) : (decide p && decide q && decide r) = true := by
  rw [decide_eq_true h.1, decide_eq_true h.2.1, decide_eq_true h.2.2]; rfl
theorem nb3 {p q r : Prop} [Decidable p] [Decidable q] [Decidable r] (h : ¬ (p ∧ q ∧ r)) : (decide p && decide q && decide r) = false := by
  rw [← Bool.decide_and, ← Bool.decide_and]
  exact decide_eq_false fun x => h ⟨x.1.1, x.1.2, x.2⟩
theorem b2 {p q : Prop} [Decidable p] [Decidable q] (h : p ∧ q) : (decide p && decide q) = true := by
  rw [decide_eq_true h.1, decide_eq_true h.2]; rfl
theorem nb2 {p q : Prop} [Decidable p] [Decidable q] (h : ¬ (p ∧ q)) : (decide p && decide q) = false := by
  rw [← Bool.decide_and]
  exact decide_eq_false h
theorem sc_no {N : Nat} (h : ¬ (N ≤ 55295 ∨ (57344 ≤ N ∧ N ≤ 1114111))) : isScal (N : Int) = false := by
  unfold isScal; rw [decide_eq_false_iff_not]; omega
theorem sc_yes {N : Nat} (h : N ≤ 55295 ∨ (57344 ≤ N ∧ N ≤ 1114111)) : isScal (N : Int) = true := by
  unfold isScal; rw [decide_eq_true_iff]; omega
theorem sc0 {k2 k3 : Nat} (z2 : k2 < 64) (z3 : k3 < 64) (q : 32 ≤ k2) : isScal ((((0 * 64 + 13) * 64 + k2) * 64 + k3 : Nat) : Int) = false := sc_no (by omega)
theorem sc1 {k1 k2 k3 : Nat} (z1 : k1 < 64) (q : 16 ≤ k1) : isScal ((((4 * 64 + k1) * 64 + k2) * 64 + k3 : Nat) : Int) = false := sc_no (by omega)
theorem sc2 {k0 k1 k2 k3 : Nat} (q : 5 ≤ k0) : isScal ((((k0 * 64 + k1) * 64 + k2) * 64 + k3 : Nat) : Int) = false := sc_no (by omega)
theorem sc_n {k0 k1 k2 k3 : Nat} (z1 : k1 < 64) (z2 : k2 < 64) (z3 : k3 < 64) (q0 : ¬ (k0 = 0 ∧ k1 = 13 ∧ 32 ≤ k2)) (q1 : ¬ (k0 = 4 ∧ 16 ≤ k1)) (q2 : ¬ 5 ≤ k0) : isScal ((((k0 * 64 + k1) * 64 + k2) * 64 + k3 : Nat) : Int) = true := sc_yes (by omega)
theorem fitsAll (ha : tok w pa fun k => decide (32 ≤ k)) (hb : tok w pb fun k => decide (16 ≤ k)) (hc : tok w pc fun k => decide (5 ≤ k)) {k0 k1 k2 k3 N : Nat} (z0 : k0 < 64) (z1 : k1 < 64) (z2 : k2 < 64) (z3 : k3 < 64) (hN : N = ((k0 * 64 + k1) * 64 + k2) * 64 + k3) :
    (FitsIs w (P0 pa) ⟨#[sg k0, sg k1, sg k2, sg k3]⟩ false ∧ FitsIs w (P1 pb) ⟨#[sg k0, sg k1, sg k2, sg k3]⟩ false ∧ FitsIs w (P2 pc) ⟨#[sg k0, sg k1, sg k2, sg k3]⟩ false ∧ isScal (N : Int) = true) ∨
    (FitsIs w (P0 pa) ⟨#[sg k0, sg k1, sg k2, sg k3]⟩ true ∧ FitsIs w (P1 pb) ⟨#[sg k0, sg k1, sg k2, sg k3]⟩ false ∧ FitsIs w (P2 pc) ⟨#[sg k0, sg k1, sg k2, sg k3]⟩ false ∧ isScal (N : Int) = false) ∨
    (FitsIs w (P0 pa) ⟨#[sg k0, sg k1, sg k2, sg k3]⟩ false ∧ FitsIs w (P1 pb) ⟨#[sg k0, sg k1, sg k2, sg k3]⟩ true ∧ FitsIs w (P2 pc) ⟨#[sg k0, sg k1, sg k2, sg k3]⟩ false ∧ isScal (N : Int) = false) ∨
    (FitsIs w (P0 pa) ⟨#[sg k0, sg k1, sg k2, sg k3]⟩ false ∧ FitsIs w (P1 pb) ⟨#[sg k0, sg k1, sg k2, sg k3]⟩ false ∧ FitsIs w (P2 pc) ⟨#[sg k0, sg k1, sg k2, sg k3]⟩ true ∧ isScal (N : Int) = false) := by
  subst hN
  by_cases q0 : k0 = 0 ∧ k1 = 13 ∧ 32 ≤ k2
  · obtain ⟨rfl, rfl, q⟩ := q0
    exact .inr (.inl ⟨fits0 ha z0 z1 z2 (b3 ⟨rfl, rfl, q⟩), fits1 hb z0 z1 (nb2 fun h => absurd h.1 (by decide)), fits2 hc z0 rfl, sc0 z2 z3 q⟩)
  · by_cases q1 : k0 = 4 ∧ 16 ≤ k1
    · obtain ⟨rfl, q⟩ := q1
      exact .inr (.inr (.inl ⟨fits0 ha z0 z1 z2 (nb3 q0), fits1 hb z0 z1 (b2 ⟨rfl, q⟩), fits2 hc z0 rfl, sc1 z1 q⟩))
    · by_cases q2 : 5 ≤ k0
      · exact .inr (.inr (.inr ⟨fits0 ha z0 z1 z2 (nb3 q0), fits1 hb z0 z1 (nb2 q1), fits2 hc z0 (decide_eq_true q2), sc2 q2⟩))
      · exact .inl ⟨fits0 ha z0 z1 z2 (nb3 q0), fits1 hb z0 z1 (nb2 q1), fits2 hc z0 (decide_eq_false q2), sc_n z1 z2 z3 q0 q1 q2⟩
theorem digs_of {N : Nat} (h : N < 16777216) : ∃ A B C, A < 256 ∧ B < 256 ∧ C < 256 ∧ N = (A * 256 + B) * 256 + C := ⟨N / 65536, N / 256 % 256, N % 256, by omega, by omega, by omega, by omega⟩
theorem dg1 {A B C : Nat} (hB : B < 256) (hC : C < 256) : Int.fdiv (((A * 256 + B) * 256 + C : Nat) : Int) 65536 = (A : Int) := by rw [Int.fdiv_eq_ediv_of_nonneg _ (by decide)]; omega
theorem dg2 {A B C : Nat} (hC : C < 256) : Int.fdiv (((A * 256 + B) * 256 + C : Nat) : Int) 256 = ((A * 256 + B : Nat) : Int) := by rw [Int.fdiv_eq_ediv_of_nonneg _ (by decide)]; omega
theorem dg3 {A B : Nat} (hB : B < 256) : Int.fmod ((A * 256 + B : Nat) : Int) 256 = (B : Int) := by rw [Int.fmod_eq_emod_of_nonneg _ (by decide)]; omega
theorem dg4 {A C : Nat} (hC : C < 256) : Int.fmod ((A * 256 + C : Nat) : Int) 256 = (C : Int) := by rw [Int.fmod_eq_emod_of_nonneg _ (by decide)]; omega
theorem in01 {A : Nat} (hA : A < 256) : 0 ≤ (A : Int) ∧ (A : Int) < 256 := by omega
theorem sx1 {A : Nat} : (A : Int) / 4 = ((A / 4 : Nat) : Int) := by omega
theorem sx2 {A B : Nat} : (A : Int) % 4 * 16 + (B : Int) / 16 = ((A % 4 * 16 + B / 16 : Nat) : Int) := by omega
theorem sx3 {A B : Nat} : (A : Int) % 16 * 4 + (B : Int) / 64 = ((A % 16 * 4 + B / 64 : Nat) : Int) := by omega
theorem sx4 {A : Nat} : (A : Int) % 64 = ((A % 64 : Nat) : Int) := by omega
theorem letters_sg {A B C : Nat} : lettersOf (A : Int) (B : Int) (C : Int) = ⟨#[sg (A / 4), sg (A % 4 * 16 + B / 16), sg (B % 16 * 4 + C / 64), sg (C % 64)]⟩ := by
  unfold lettersOf
  rw [sig_sg sx1, sig_sg sx2, sig_sg sx3, sig_sg sx4]
theorem q_a {A : Nat} (hA : A < 256) : A / 4 < 64 := by omega
theorem q_b {A B : Nat} (hB : B < 256) : A % 4 * 16 + B / 16 < 64 := by omega
theorem q_c {A B : Nat} (hB : B < 256) : A % 16 * 4 + B / 64 < 64 := by omega
theorem q_d {A : Nat} : A % 64 < 64 := by omega
theorem six {A B C : Nat} : (A * 256 + B) * 256 + C = ((A / 4 * 64 + (A % 4 * 16 + B / 16)) * 64 + (B % 16 * 4 + C / 64)) * 64 + C % 64 := by omega
theorem fou {A B C : Nat} : (A * 256 + B) * 256 + C = ((((A / 16 * 16 + A % 16) * 16 + B / 16) * 16 + B % 16) * 16 + C / 16) * 16 + C % 16 := by omega
theorem n_a {A : Nat} (hA : A < 256) : A / 16 < 16 := by omega
theorem n_b {A : Nat} : A % 16 < 16 := Nat.mod_lt _ (by decide)
theorem u8 {n : Nat} (h : n < 256) : (n.toUInt8).toNat = n := by simp [Nat.toUInt8, Nat.mod_eq_of_lt h]
theorem no_nl (low : Bool) {d0 d1 d2 d3 d4 d5 : Nat} (a0 : d0 < 16) (a1 : d1 < 16) (a2 : d2 < 16) (a3 : d3 < 16) (a4 : d4 < 16) (a5 : d5 < 16) : ∀ i, i < (⟨#[92, 85, 48, 48, hexF low d0, hexF low d1, hexF low d2, hexF low d3, hexF low d4, hexF low d5, 102]⟩ : Str).length → (⟨#[92, 85, 48, 48, hexF low d0, hexF low d1, hexF low d2, hexF low d3, hexF low d4, hexF low d5, 102]⟩ : Str).cps[i]? ≠ some 10 := by
  have k : ∀ {a : Nat}, a ≠ 10 → some a ≠ some 10 := fun h e => h (Option.some.inj e)
  intro i hi
  have hi : i < 11 := hi
  match i, hi with
  | 0, _ => exact k (a := 92) (by decide)
  | 1, _ => exact k (a := 85) (by decide)
  | 2, _ => exact k (a := 48) (by decide)
  | 3, _ => exact k (a := 48) (by decide)
  | 4, _ => exact k (hexF_ne low a0)
  | 5, _ => exact k (hexF_ne low a1)
  | 6, _ => exact k (hexF_ne low a2)
  | 7, _ => exact k (hexF_ne low a3)
  | 8, _ => exact k (hexF_ne low a4)
  | 9, _ => exact k (hexF_ne low a5)
  | 10, _ => exact k (a := 102) (by decide)
  | n + 11, h => exact absurd h (by omega)
theorem low_is (x : Int) : ∃ low : Bool, Int.fmod (Int.fdiv x 32) 2 = if low then 1 else 0 := by
  have e : Int.fmod (Int.fdiv x 32) 2 = (Int.fdiv x 32) % 2 := Int.fmod_eq_emod_of_nonneg _ (by decide)
  rcases Int.emod_two_eq (Int.fdiv x 32) with h | h
  · exact ⟨false, by rw [e, h]; rfl⟩
  · exact ⟨true, by rw [e, h]; rfl⟩
theorem num_is (x : Int) : ∃ A B C : Nat, A < 256 ∧ B < 256 ∧ C < 256 ∧ numOf x = (((A * 256 + B) * 256 + C : Nat) : Int) := by
  obtain ⟨hx0, hx1⟩ := numOf_in x
  obtain ⟨A, B, C, hA, hB, hC, e⟩ := digs_of (N := (numOf x).toNat) (by omega)
  exact ⟨A, B, C, hA, hB, hC, by rw [← e, Int.toNat_of_nonneg hx0]⟩
theorem x_ok (ha : tok w pa fun k => decide (32 ≤ k)) (hb : tok w pb fun k => decide (16 ≤ k)) (hc : tok w pc fun k => decide (5 ≤ k)) (hd : tok w pd fun k => decide (k = 54 ∨ k = 55)) (x : Int) : Nonempty (XOk w (P0 pa) (P1 pb) (P2 pc) (P3 pd) x) := by
  obtain ⟨A, B, C, hA, hB, hC, hN⟩ := num_is x
  obtain ⟨low, hlow⟩ := low_is x
  have hnl := no_nl low (n_a hA) (n_b (A := A)) (n_a hB) (n_b (A := B)) (n_a hC) (n_b (A := C))
  refine ⟨⟨_, _, _, _, _, _, A.toUInt8, B.toUInt8, C.toUInt8, low, hN, nopy _ _ (by decide), nopy _ _ (by decide), dg1 hB hC, dg2 hC, dg3 hB, dg4 hC, in01 hA, in01 hB, in01 hC, KBa.ints_make (in3 (in01 hA) (in01 hB) (in01 hC)), rfl, ?_, nopy _ _ (by decide), rfl, hlow,
    hexF low (A / 16), hexF low (A % 16), hexF low (B / 16), hexF low (B % 16), hexF low (C / 16), hexF low (C % 16), by rw [u8 hA, u8 hB, u8 hC],
    found_big low (n_a hA) n_b (n_a hB) n_b (n_a hC) n_b fou, found_ten low (n_a hA) n_b (n_a hB) n_b (n_a hC) n_b, ?_⟩⟩
  · rw [letters_sg]
    exact fitsAll ha hb hc (q_a hA) (q_b hB) (q_c hC) q_d six
  · intro i hi
    match i, hi with
    | 0, _ => exact place_ok hd low (n_a hA) (n_b (A := A)) (n_a hB) (n_b (A := B)) (by decide) rfl hnl hlow (by kernel_rfl)
    | 1, _ => exact place_ok hd low (n_b (A := A)) (n_a hB) (n_b (A := B)) (n_a hC) (by decide) rfl hnl hlow (by kernel_rfl)
    | 2, _ => exact place_ok hd low (n_a hB) (n_b (A := B)) (n_a hC) (n_b (A := C)) (by decide) rfl hnl hlow (by kernel_rfl)
    | n + 3, h => exact absurd h (by omega)
theorem rows02 (x : Int) : Nonempty (XOk w (P0 ⟨#[91, 103, 45, 122, 48, 45, 57, 43, 47, 93]⟩) (P1 ⟨#[91, 81, 45, 90, 97, 45, 122, 48, 45, 57, 43, 47, 93]⟩) (P2 ⟨#[91, 70, 45, 90, 97, 45, 122, 48, 45, 57, 43, 47, 93]⟩) (P3 ⟨#[91, 50, 51, 93]⟩) x) :=
  x_ok ⟨_, kk0, ss0⟩ ⟨_, kk1, ss1⟩ ⟨_, kk2, ss2⟩ ⟨_, kk3, ss3⟩ x
theorem rows1 (x : Int) : Nonempty (XOk w (P0 ⟨#[91, 94, 65, 45, 90, 97, 45, 102, 93]⟩) (P1 ⟨#[91, 94, 65, 45, 80, 93]⟩) (P2 ⟨#[91, 94, 65, 45, 69, 93]⟩) (P3 ⟨#[91, 94, 65, 45, 90, 48, 49, 52, 45, 57, 97, 45, 122, 43, 47, 93]⟩) x) :=
  x_ok ⟨_, kk4, ss4⟩ ⟨_, kk5, ss5⟩ ⟨_, kk6, ss6⟩ ⟨_, kk7, ss7⟩ x
end
end Mine
end P3_text
section G1_text
open PySem PySem.W PyProof.Rows
namespace Mine
noncomputable def funcO (o : Obj) : FuncData := match o.data with | .func f => f | _ => default
noncomputable def bodyO (f : FuncData) : List Stmt := match f.body with | .stmts b => b | _ => []
noncomputable abbrev lawF (P : Params) : FuncData := funcO (hB.o_331 P)
theorem lk239 (P : Params) : (KX P).lookup 239 = some (hB.o_331 P) := by kernel_rfl
theorem lawO (P : Params) : hB.o_331 P = ⟨(hB.o_331 P).cls, (hB.o_331 P).dict, .func (fnOf (lawF P).name (lawF P).qualname (lawF P).params (bodyO (lawF P)) (lawF P).scope (lawF P).defaults (lawF P).kwdefaults (lawF P).doc (lawF P).pyModule (lawF P).annotations (lawF P).code (lawF P).closureTuple), (hB.o_331 P).slots⟩ := by kernel_rfl
theorem lawIs (w : World) : LawIs w (lawF w.params).qualname (bodyO (lawF w.params)) (lawF w.params).scope (lawF w.params).code :=
  ⟨_, _, _, _, _, _, _, _, _, _, _, (lk239 w.params).trans (congrArg some (lawO w.params))⟩
set_option maxHeartbeats 0 in
theorem law_env (e : Env0) : (thA e).code = .func (bodyO (lawF e.w.params)) (lawE (lawF e.w.params).qualname (lawF e.w.params).scope (lawF e.w.params).code) := by kernel_rfl
theorem atFor_is (e : Env1) (p : Pos) : atFor e p = ⟨(execs ((bodyO (lawF e.w.params)).drop 3) (lawE (lawF e.w.params).qualname (lawF e.w.params).scope (lawF e.w.params).code)).onRaise («leaving» (lawE (lawF e.w.params).qualname (lawF e.w.params).scope (lawF e.w.params).code)) >>= fun f => match f with
    | .ret v => ret v
    | _ => ret .none, .func (bodyO (lawF e.w.params)) (lawE (lawF e.w.params).qualname (lawF e.w.params).scope (lawF e.w.params).code), p, [FL caC default]⟩ := by
  unfold atFor lawStm lawEnv
  rw [law_env e.toEnv0, ← R.bindR_eq, ← R.onRaiseR_eq, ← Fast.te12563942051412417395, ← Fast.te9442747609961115081, ← Fast.te6905046200447255374]
  rfl
theorem law_in (body : List Stmt) (qual : Str) (scope : Scope) (cdv : Value) : (Ctx.of (.func body (lawE qual scope cdv)) [FL caC default]).In ((topZ 301 []).deeper (lawE qual scope cdv)) := by
  refine ⟨rfl, Nat.le_of_ble_eq_true rfl, ?_, ?_, Nat.le_of_ble_eq_true rfl⟩
  · intro l h; cases h; rfl
  · intro g h; cases h; rfl
theorem gens_spent {g : Array GenState} (h : spent g = true) : AllBare g ∧ leftWithCleanup g = false := by
  have b : AllBare g := fun y hy => by
    unfold spent at h
    rw [Array.all_eq_true'] at h
    have := h y hy
    cases y <;> first | rfl | (simp at this)
  exact ⟨b, leftWithCleanup_false_of_bare b⟩
theorem hal_for {w : World} {body stm : List Stmt} {qual : Str} {scope : Scope} {cdv : Value} {s : Shared} {p : Pos} {R : Result → Shared → Prop} (hg : leftWithCleanup s.gens = false)
    (h : wpAny (mR w) ((topZ 301 []).deeper (lawE qual scope cdv)) (execs stm (lawE qual scope cdv)) (fun f s' => ∃ v h' tk', f = .ret v ∧ s' = { s with heap := h', toks := tk' } ∧ R (.ok (.ret v)) s') Nev s) :
    Hal w s ⟨(execs stm (lawE qual scope cdv)).onRaise («leaving» (lawE qual scope cdv)) >>= fun f => match f with
      | .ret v => ret v
      | _ => ret .none, .func body (lawE qual scope cdv), p, [FL caC default]⟩ R := by
  refine hal_wp ?_
  have k : wpAny (mR w) ((topZ 301 []).deeper (lawE qual scope cdv)) ((execs stm (lawE qual scope cdv)).onRaise («leaving» (lawE qual scope cdv)) >>= fun f => match f with
      | .ret v => ret v
      | _ => ret .none) (fun fin s' => ∃ v h' tk', fin = .done (.ret v) ∧ s' = { s with heap := h', toks := tk' } ∧ R (.ok (.ret v)) s') Nev s := by
    refine wpAny_bind (wpAny_onRaise (wpAny_mono h (fun f s' h' => ?_) fun _ _ h' => h'.elim))
    obtain ⟨v, h₁, tk₁, rfl, rfl, hR⟩ := h'
    exact wpAny_pure ⟨v, h₁, tk₁, rfl, rfl, hR⟩
  refine Sem.wp_mono _ _ _ (fun fin p' s' h' => ?_) (fun e p' s' h' => h'.elim) _ _ (k _ p (law_in body qual scope cdv))
  obtain ⟨v, h₁, tk₁, rfl, rfl, hR⟩ := h'
  exact fun c' p' => hal_leaf1 hg hR
end Mine
end G1_text
section G2_text
open PySem PySem.W PyProof.Rows
namespace Mine
theorem abs_same {T T' : BT} {n n' : Nat} {life life' : Life} {b : Nat} (h : b < n) (h' : b < n') (e : T.get b = T'.get b) : (absHeap T n life).get? b = (absHeap T' n' life').get? b := by
  unfold Heap.get?
  rw [absHeap_at, absHeap_at, if_pos h, if_pos h', e]
theorem push_lt {h : Heap} {x : Obj} {b : Addr} (hb : b < h.objs.size) : (h.push x).get? b = h.get? b := by
  unfold Heap.get? Heap.push
  dsimp only
  rw [Array.getElem?_push, if_neg (Nat.ne_of_lt hb)]
theorem old_get {e : Env1} {S : SharedT} (old : oldL.map S.tree.get = oldL.map (old0 e).get) {b : Nat} (hb : b < 240) (h2 : b ≠ 196) : S.tree.get b = (old0 e).get b :=
  List.map_inj_left.mp old b (List.mem_filter.mpr ⟨List.mem_range.mpr hb, by simpa using h2⟩)
theorem in_S {e : Env1} {S : SharedT} {es : Array (Int × Value)} {n : Nat} {t : SetTable} (hx : e.x39 = setO es n t) (size : 254 ≤ S.n) (script : S.tree.get 240 = some (lsO e.vs)) (old : oldL.map S.tree.get = oldL.map (old0 e).get) :
    ∀ b o, (HH e.w.params es n t e.vs).get? b = some o → S.abs.heap.get? b = some o := by
  intro b o h
  have hlt : b < 241 := by have := Heap.lt_size h; rwa [HH_size] at this
  have n64 : b ≠ 64 := by rintro rfl; rw [hideAll_none _ (by simp)] at h; cases h
  have n196 : b ≠ 196 := by rintro rfl; rw [hideAll_none _ (by simp)] at h; cases h
  have h1 := of_hideAll _ h
  by_cases hb : b = 240
  · subst hb
    have e2 := Heap.get?_push_size (h := HX e.w.params es n t) (o := lsB e.vs) rfl
    rw [HX_size] at e2
    rw [e2] at h1
    cases h1
    exact abs_at (Nat.lt_of_lt_of_le (by decide) size) (script.trans (congrArg some (lsO_eq e.vs))) rfl
  · have hb' : b < 240 := Nat.lt_of_le_of_ne (Nat.le_of_lt_succ hlt) hb
    rw [push_lt (by rw [HX_size]; exact hb'), ← abs_HX, ← hx] at h1
    rw [abs_heap, ← h1]
    exact abs_same (Nat.lt_of_lt_of_le hb' (Nat.le_trans (by decide) size)) hb' (old_get old hb' n196)
theorem none_H {P : Params} {es : Array (Int × Value)} {n : Nat} {t : SetTable} {vs : Array Value} {b : Addr} (h : 241 ≤ b) : (HH P es n t vs).get? b = none := Heap.get?_none_of_le (by rw [HH_size]; exact h)
theorem old64 (e : Env1) : (old0 e).get 64 = some (tabObj #[]) := by kernel_rfl
theorem tab_of3 {S : SharedT} {a : Nat} (h : tab3 S a = true) : ∃ ps, S.tree.get a = some (tabObj ps) ∧ ∃ n t, ps[1]? = some (.int n t) := by
  unfold tab3 at h
  split at h
  · rename_i vs sl hg
    rw [Bool.and_eq_true] at h
    obtain ⟨h1, h2⟩ := h
    have e1 : sl = #[] := by simpa using h1
    subst e1
    refine ⟨vs, hg, ?_⟩
    split at h2
    · rename_i n t hv
      exact ⟨n, t, hv⟩
    · cases h2
  · cases h
theorem dict_ns {es : Array DictEntry} {r : Int} {u v y : Tok} (h : es.toList.map (fun x => (x.key, x.val)) = [(.str ⟨#[115, 99, 114, 105, 112, 116]⟩ u, .ref 240), (.str ⟨#[100, 114, 101, 115, 115]⟩ v, .int r y)]) :
    StrKeys es ∧ nsFind es "script" = some (.ref 240) := by
  obtain ⟨l⟩ := es
  rcases l with _ | ⟨e1, _ | ⟨e2, _ | ⟨e3, l⟩⟩⟩
  · exact absurd (congrArg List.length h) (by simp)
  · exact absurd (congrArg List.length h) (by simp)
  · simp only [List.map_cons, List.map_nil, List.cons.injEq, Prod.mk.injEq, and_true] at h
    obtain ⟨_, k1, v1⟩ := e1
    obtain ⟨_, k2, v2⟩ := e2
    obtain ⟨⟨h1, h2⟩, h3, h4⟩ := h
    dsimp only at h1 h2 h3 h4
    refine ⟨fun e he => ?_, ?_⟩
    · simp only [List.mem_toArray, List.mem_cons, List.not_mem_nil, or_false] at he
      rcases he with rfl | rfl
      · exact ⟨_, _, h1⟩
      · exact ⟨_, _, h3⟩
    · have q : k1.isStr "script" = true := by
        rw [h1]
        show (((⟨#[115, 99, 114, 105, 112, 116]⟩ : Str)) == Str.ofString "script") = true
        decide +kernel
      unfold nsFind findBy
      simp only [List.find?_toArray, List.find?_cons, q, Option.map_some, h2]
  · exact absurd (congrArg List.length h) (by simp)
theorem data_of {o : Option Obj} {d : Data} (h : o.map (·.data) = some d) : ∃ c, o = some c ∧ c.data = d := Option.map_eq_some_iff.mp h
theorem list_F {S : SharedT} {a n : Nat} {vs : List Value} (h : faceOf S a = listF vs n) : S.tree.get a = some { cls := .type "list", data := .seq vs.toArray n } := h.trans (by unfold listF; rw [← SL.e9222952809800978799x4])
end Mine
end G2_text
section N2_text
open PySem PySem.W PyProof.Rows
namespace Mine
theorem row_in {S : SharedT} {a n : Nat} {x0 x1 x2 x3 : Str} {t0 t1 t2 t3 : Tok} (ha : a < S.n) (h : faceOf S a = listF [.str x0 t0, .str x1 t1, .str x2 t2, .str x3 t3] n) : S.abs.heap.get? a = some (rowO (x0, x1, x2, x3) t0 t1 t2 t3 n) := abs_at ha (list_F h) rfl
theorem d2_cut {w : World} {R : Result → Shared → Prop} {S : SharedT} {T : Thread} {x0 x1 x2 x3 y0 y1 y2 y3 z0 z1 z2 z3 q0 q1 q2 q3 : Str} {t0 t1 t2 t3 u0 u1 u2 u3 v0 v1 v2 v3 w0 w1 w2 w3 t0' t1' t2' t3' u0' u1' u2' u3' v0' v1' v2' v3' w0' w1' w2' w3' : Tok} {n0 n1 n2 n3 m0 m1 m2 m3 nl ml : Nat}
    (hT : T = ⟨.call (.call (.builtin "list.__ne__") ⟨[.ref 253, .ref 401], []⟩) none (gOf T) (lOf T) (kOf T), T.code, T.pos, T.stack⟩) (hn : (S.n, Nat.blt (Ctx.of T.code T.stack).units 900) = (511, true))
    (f0 : faceOf S 256 = listF [.str x0 t0, .str x1 t1, .str x2 t2, .str x3 t3] n0) (f1 : faceOf S 301 = listF [.str y0 u0, .str y1 u1, .str y2 u2, .str y3 u3] n1) (f2 : faceOf S 335 = listF [.str z0 v0, .str z1 v1, .str z2 v2, .str z3 v3] n2) (f3 : faceOf S 366 = listF [.str q0 w0, .str q1 w1, .str q2 w2, .str q3 w3] n3)
    (g0 : faceOf S 404 = listF [.str x0 t0', .str x1 t1', .str x2 t2', .str x3 t3'] m0) (g1 : faceOf S 437 = listF [.str y0 u0', .str y1 u1', .str y2 u2', .str y3 u3'] m1) (g2 : faceOf S 468 = listF [.str z0 v0', .str z1 v1', .str z2 v2', .str z3 v3'] m2) (g3 : faceOf S 496 = listF [.str q0 w0', .str q1 w1', .str q2 w2', .str q3 w3'] m3)
    (l1 : faceOf S 253 = listF [.ref 256, .ref 301, .ref 335, .ref 366] nl) (l2 : faceOf S 401 = listF [.ref 404, .ref 437, .ref 468, .ref 496] ml)
    (K : Hal w S.abs ⟨kOf T (.ok (.ret (.bool false))), T.code, T.pos, T.stack⟩ R) : Hal w S.abs T R := by
  obtain ⟨hS, hu⟩ := Prod.mk.inj hn
  have hu' : (Ctx.of T.code T.stack).units < 900 := Nat.le_of_ble_eq_true hu
  have lt : ∀ a : Nat, a < 511 → a < S.n := fun a h => by rw [hS]; exact h
  rw [hT]
  have hA : (inA (Ctx.of T.code T.stack)).in1.units < cLine := Nat.lt_of_lt_of_le (Nat.succ_lt_succ hu') (by decide)
  refine hal_call (in_self _) ?_
  exact ne_rows (abs_at (lt 253 (by decide)) (list_F l1) rfl) (abs_at (lt 401 (by decide)) (list_F l2) rfl)
    (rows_eq (by decide) hA (row_in (lt 256 (by decide)) f0) (row_in (lt 404 (by decide)) g0)) (rows_eq (by decide) hA (row_in (lt 301 (by decide)) f1) (row_in (lt 437 (by decide)) g1))
    (rows_eq (by decide) hA (row_in (lt 335 (by decide)) f2) (row_in (lt 468 (by decide)) g2)) (rows_eq (by decide) hA (row_in (lt 366 (by decide)) f3) (row_in (lt 496 (by decide)) g3)) (fun _ => K)
end Mine
end N2_text
section K14d2_text
open PySem PySem.W PyProof.Rows
namespace Mine
theorem d2_g1 (e : Env1) (z : Int) (t : Tok) : d2S1 e z t := (d2_eqs e z t 0 0 0 0 0 0 0 0).1
theorem d2_g2 (e : Env1) (z : Int) (t : Tok) : d2S2 e z t := (d2_eqs e z t 0 0 0 0 0 0 0 0).2.1
theorem d2_g3 (e : Env1) (z : Int) (t : Tok) (k1 : Nat) : d2S3 e z t k1 := (d2_eqs e z t k1 0 0 0 0 0 0 0).2.2.1
theorem d2_g4 (e : Env1) (z : Int) (t : Tok) (k1 : Nat) : d2S4 e z t k1 := (d2_eqs e z t k1 0 0 0 0 0 0 0).2.2.2.1
theorem d2_g5 (e : Env1) (z : Int) (t : Tok) (k1 : Nat) (k2 : Nat) : d2S5 e z t k1 k2 := (d2_eqs e z t k1 k2 0 0 0 0 0 0).2.2.2.2.1
theorem d2_g6 (e : Env1) (z : Int) (t : Tok) (k1 : Nat) (k2 : Nat) : d2S6 e z t k1 k2 := (d2_eqs e z t k1 k2 0 0 0 0 0 0).2.2.2.2.2.1
theorem d2_g7 (e : Env1) (z : Int) (t : Tok) (k1 : Nat) (k2 : Nat) (k3 : Nat) : d2S7 e z t k1 k2 k3 := (d2_eqs e z t k1 k2 k3 0 0 0 0 0).2.2.2.2.2.2.1
theorem d2_g8 (e : Env1) (z : Int) (t : Tok) (k1 : Nat) (k2 : Nat) (k3 : Nat) : d2S8 e z t k1 k2 k3 := (d2_eqs e z t k1 k2 k3 0 0 0 0 0).2.2.2.2.2.2.2.1
theorem d2_g9 (e : Env1) (z : Int) (t : Tok) (k1 : Nat) (k2 : Nat) (k3 : Nat) (k4 : Nat) : d2S9 e z t k1 k2 k3 k4 := (d2_eqs e z t k1 k2 k3 k4 0 0 0 0).2.2.2.2.2.2.2.2.1
theorem d2_g10 (e : Env1) (z : Int) (t : Tok) (k1 : Nat) (k2 : Nat) (k3 : Nat) (k4 : Nat) : d2S10 e z t k1 k2 k3 k4 := (d2_eqs e z t k1 k2 k3 k4 0 0 0 0).2.2.2.2.2.2.2.2.2.1
theorem d2_g11 (e : Env1) (z : Int) (t : Tok) (k1 : Nat) (k2 : Nat) (k3 : Nat) (k4 : Nat) : d2S11 e z t k1 k2 k3 k4 := (d2_eqs e z t k1 k2 k3 k4 0 0 0 0).2.2.2.2.2.2.2.2.2.2.1
theorem d2_g12 (e : Env1) (z : Int) (t : Tok) (k1 : Nat) (k2 : Nat) (k3 : Nat) (k4 : Nat) (k5 : Nat) : d2S12 e z t k1 k2 k3 k4 k5 := (d2_eqs e z t k1 k2 k3 k4 k5 0 0 0).2.2.2.2.2.2.2.2.2.2.2.1
theorem d2_g13 (e : Env1) (z : Int) (t : Tok) (k1 : Nat) (k2 : Nat) (k3 : Nat) (k4 : Nat) (k5 : Nat) : d2S13 e z t k1 k2 k3 k4 k5 := (d2_eqs e z t k1 k2 k3 k4 k5 0 0 0).2.2.2.2.2.2.2.2.2.2.2.2.1
theorem d2_g14 (e : Env1) (z : Int) (t : Tok) (k1 : Nat) (k2 : Nat) (k3 : Nat) (k4 : Nat) (k5 : Nat) (k6 : Nat) : d2S14 e z t k1 k2 k3 k4 k5 k6 := (d2_eqs e z t k1 k2 k3 k4 k5 k6 0 0).2.2.2.2.2.2.2.2.2.2.2.2.2.1
theorem d2_g15 (e : Env1) (z : Int) (t : Tok) (k1 : Nat) (k2 : Nat) (k3 : Nat) (k4 : Nat) (k5 : Nat) (k6 : Nat) : d2S15 e z t k1 k2 k3 k4 k5 k6 := (d2_eqs e z t k1 k2 k3 k4 k5 k6 0 0).2.2.2.2.2.2.2.2.2.2.2.2.2.2.1
theorem d2_g16 (e : Env1) (z : Int) (t : Tok) (k1 : Nat) (k2 : Nat) (k3 : Nat) (k4 : Nat) (k5 : Nat) (k6 : Nat) (k7 : Nat) : d2S16 e z t k1 k2 k3 k4 k5 k6 k7 := (d2_eqs e z t k1 k2 k3 k4 k5 k6 k7 0).2.2.2.2.2.2.2.2.2.2.2.2.2.2.2.1
theorem d2_g17 (e : Env1) (z : Int) (t : Tok) (k1 : Nat) (k2 : Nat) (k3 : Nat) (k4 : Nat) (k5 : Nat) (k6 : Nat) (k7 : Nat) (k8 : Nat) : d2S17 e z t k1 k2 k3 k4 k5 k6 k7 k8 := (d2_eqs e z t k1 k2 k3 k4 k5 k6 k7 k8).2.2.2.2.2.2.2.2.2.2.2.2.2.2.2.2.1
theorem d2_g18 (e : Env1) (z : Int) (t : Tok) (k1 : Nat) (k2 : Nat) (k3 : Nat) (k4 : Nat) (k5 : Nat) (k6 : Nat) (k7 : Nat) (k8 : Nat) : d2S18 e z t k1 k2 k3 k4 k5 k6 k7 k8 := (d2_eqs e z t k1 k2 k3 k4 k5 k6 k7 k8).2.2.2.2.2.2.2.2.2.2.2.2.2.2.2.2.2.1
theorem d2_g19 (e : Env1) (z : Int) (t : Tok) (k1 : Nat) (k2 : Nat) (k3 : Nat) (k4 : Nat) (k5 : Nat) (k6 : Nat) (k7 : Nat) (k8 : Nat) : d2S19 e z t k1 k2 k3 k4 k5 k6 k7 k8 := (d2_eqs e z t k1 k2 k3 k4 k5 k6 k7 k8).2.2.2.2.2.2.2.2.2.2.2.2.2.2.2.2.2.2
set_option maxHeartbeats 4000000 in
theorem d2_chain (e : Env1) (z : Int) (t : Tok) {R : Result → Shared → Prop} (K : ∀ S p, ForSt e 2 (⟨#[65]⟩, ⟨#[78]⟩, ⟨#[91, 103, 45, 122, 48, 45, 57, 43, 47, 93]⟩, ⟨#[46]⟩) (⟨#[69]⟩, ⟨#[91, 81, 45, 90, 97, 45, 122, 48, 45, 57, 43, 47, 93]⟩, ⟨#[46]⟩, ⟨#[46]⟩) (⟨#[91, 70, 45, 90, 97, 45, 122, 48, 45, 57, 43, 47, 93]⟩, ⟨#[46]⟩, ⟨#[46]⟩, ⟨#[46]⟩) (⟨#[91, 50, 51, 93]⟩, ⟨#[46]⟩, ⟨#[46]⟩, ⟨#[61]⟩) S → Hal e.w S.abs (atFor e p) R) : Hal e.w (sD e).abs (thD e z t 2) R := by
  show Hal e.w (d2s0 e z t).abs (d2t0 e z t) R
  refine seg_go (n := 66) (s := d2s0 e z t) (t := d2t0 e z t) (s' := d2sx1 e z t) (t' := d2tx1 e z t) (some_of (a := sD e) (b := t0) (d2_g1 e z t).1) (d2_g1 e z t).2.1 ?_
  refine seg_C (S := d2sx1 e z t) (T := d2tx1 e z t) (s' := d2s1 e z t) (t' := d2t1 e z t) (some_of (a := sD e) (b := t0) (d2_g1 e z t).2.2.1) (d2_g1 e z t).2.2.2.1 (d2_g1 e z t).2.2.2.2.1 (d2_g1 e z t).2.2.2.2.2 ?_
  refine seg_go (n := 2056) (s := d2s1 e z t) (t := d2t1 e z t) (s' := d2sx2 e z t) (t' := d2tx2 e z t) (some_of (a := sD e) (b := t0) (d2_g2 e z t).1) (d2_g2 e z t).2.1 ?_
  refine seg_C (S := d2sx2 e z t) (T := d2tx2 e z t) (s' := d2s2 e z t) (t' := d2t2 e z t) (some_of (a := sD e) (b := t0) (d2_g2 e z t).2.2.1) (d2_g2 e z t).2.2.2.1 (d2_g2 e z t).2.2.2.2.1 (d2_g2 e z t).2.2.2.2.2 ?_
  refine seg_go (n := 360) (s := d2s2 e z t) (t := d2t2 e z t) (s' := d2sx3 e z t) (t' := d2tx3 e z t) (some_of (a := sD e) (b := t0) (d2_g3 e z t 0).1) (d2_g3 e z t 0).2.1 ?_
  refine seg_F (S := d2sx3 e z t) (T := d2tx3 e z t) (sf := d2s3 e z t) (tf := d2t3 e z t) (fun k => some_of (a := sD e) (b := t0) (d2_g3 e z t k).2.2.1) (fun k => (d2_g3 e z t k).2.2.2.1) (fun k => (d2_g3 e z t k).2.2.2.2.1) (fun k => (d2_g3 e z t k).2.2.2.2.2) fun k1 => ?_
  refine seg_go (n := 2316) (s := d2s3 e z t k1) (t := d2t3 e z t k1) (s' := d2sx4 e z t k1) (t' := d2tx4 e z t k1) (some_of (a := sD e) (b := t0) (d2_g4 e z t k1).1) (d2_g4 e z t k1).2.1 ?_
  refine seg_C (S := d2sx4 e z t k1) (T := d2tx4 e z t k1) (s' := d2s4 e z t k1) (t' := d2t4 e z t k1) (some_of (a := sD e) (b := t0) (d2_g4 e z t k1).2.2.1) (d2_g4 e z t k1).2.2.2.1 (d2_g4 e z t k1).2.2.2.2.1 (d2_g4 e z t k1).2.2.2.2.2 ?_
  refine seg_go (n := 402) (s := d2s4 e z t k1) (t := d2t4 e z t k1) (s' := d2sx5 e z t k1) (t' := d2tx5 e z t k1) (some_of (a := sD e) (b := t0) (d2_g5 e z t k1 0).1) (d2_g5 e z t k1 0).2.1 ?_
  refine seg_F (S := d2sx5 e z t k1) (T := d2tx5 e z t k1) (sf := d2s5 e z t k1) (tf := d2t5 e z t k1) (fun k => some_of (a := sD e) (b := t0) (d2_g5 e z t k1 k).2.2.1) (fun k => (d2_g5 e z t k1 k).2.2.2.1) (fun k => (d2_g5 e z t k1 k).2.2.2.2.1) (fun k => (d2_g5 e z t k1 k).2.2.2.2.2) fun k2 => ?_
  refine seg_go (n := 2239) (s := d2s5 e z t k1 k2) (t := d2t5 e z t k1 k2) (s' := d2sx6 e z t k1 k2) (t' := d2tx6 e z t k1 k2) (some_of (a := sD e) (b := t0) (d2_g6 e z t k1 k2).1) (d2_g6 e z t k1 k2).2.1 ?_
  refine seg_C (S := d2sx6 e z t k1 k2) (T := d2tx6 e z t k1 k2) (s' := d2s6 e z t k1 k2) (t' := d2t6 e z t k1 k2) (some_of (a := sD e) (b := t0) (d2_g6 e z t k1 k2).2.2.1) (d2_g6 e z t k1 k2).2.2.2.1 (d2_g6 e z t k1 k2).2.2.2.2.1 (d2_g6 e z t k1 k2).2.2.2.2.2 ?_
  refine seg_go (n := 402) (s := d2s6 e z t k1 k2) (t := d2t6 e z t k1 k2) (s' := d2sx7 e z t k1 k2) (t' := d2tx7 e z t k1 k2) (some_of (a := sD e) (b := t0) (d2_g7 e z t k1 k2 0).1) (d2_g7 e z t k1 k2 0).2.1 ?_
  refine seg_F (S := d2sx7 e z t k1 k2) (T := d2tx7 e z t k1 k2) (sf := d2s7 e z t k1 k2) (tf := d2t7 e z t k1 k2) (fun k => some_of (a := sD e) (b := t0) (d2_g7 e z t k1 k2 k).2.2.1) (fun k => (d2_g7 e z t k1 k2 k).2.2.2.1) (fun k => (d2_g7 e z t k1 k2 k).2.2.2.2.1) (fun k => (d2_g7 e z t k1 k2 k).2.2.2.2.2) fun k3 => ?_
  refine seg_go (n := 1418) (s := d2s7 e z t k1 k2 k3) (t := d2t7 e z t k1 k2 k3) (s' := d2sx8 e z t k1 k2 k3) (t' := d2tx8 e z t k1 k2 k3) (some_of (a := sD e) (b := t0) (d2_g8 e z t k1 k2 k3).1) (d2_g8 e z t k1 k2 k3).2.1 ?_
  refine seg_C (S := d2sx8 e z t k1 k2 k3) (T := d2tx8 e z t k1 k2 k3) (s' := d2s8 e z t k1 k2 k3) (t' := d2t8 e z t k1 k2 k3) (some_of (a := sD e) (b := t0) (d2_g8 e z t k1 k2 k3).2.2.1) (d2_g8 e z t k1 k2 k3).2.2.2.1 (d2_g8 e z t k1 k2 k3).2.2.2.2.1 (d2_g8 e z t k1 k2 k3).2.2.2.2.2 ?_
  refine seg_go (n := 231) (s := d2s8 e z t k1 k2 k3) (t := d2t8 e z t k1 k2 k3) (s' := d2sx9 e z t k1 k2 k3) (t' := d2tx9 e z t k1 k2 k3) (some_of (a := sD e) (b := t0) (d2_g9 e z t k1 k2 k3 0).1) (d2_g9 e z t k1 k2 k3 0).2.1 ?_
  refine seg_F (S := d2sx9 e z t k1 k2 k3) (T := d2tx9 e z t k1 k2 k3) (sf := d2s9 e z t k1 k2 k3) (tf := d2t9 e z t k1 k2 k3) (fun k => some_of (a := sD e) (b := t0) (d2_g9 e z t k1 k2 k3 k).2.2.1) (fun k => (d2_g9 e z t k1 k2 k3 k).2.2.2.1) (fun k => (d2_g9 e z t k1 k2 k3 k).2.2.2.2.1) (fun k => (d2_g9 e z t k1 k2 k3 k).2.2.2.2.2) fun k4 => ?_
  refine seg_go (n := 447) (s := d2s9 e z t k1 k2 k3 k4) (t := d2t9 e z t k1 k2 k3 k4) (s' := d2sx10 e z t k1 k2 k3 k4) (t' := d2tx10 e z t k1 k2 k3 k4) (some_of (a := sD e) (b := t0) (d2_g10 e z t k1 k2 k3 k4).1) (d2_g10 e z t k1 k2 k3 k4).2.1 ?_
  refine seg_C (S := d2sx10 e z t k1 k2 k3 k4) (T := d2tx10 e z t k1 k2 k3 k4) (s' := d2s10 e z t k1 k2 k3 k4) (t' := d2t10 e z t k1 k2 k3 k4) (some_of (a := sD e) (b := t0) (d2_g10 e z t k1 k2 k3 k4).2.2.1) (d2_g10 e z t k1 k2 k3 k4).2.2.2.1 (d2_g10 e z t k1 k2 k3 k4).2.2.2.2.1 (d2_g10 e z t k1 k2 k3 k4).2.2.2.2.2 ?_
  refine seg_go (n := 1643) (s := d2s10 e z t k1 k2 k3 k4) (t := d2t10 e z t k1 k2 k3 k4) (s' := d2sx11 e z t k1 k2 k3 k4) (t' := d2tx11 e z t k1 k2 k3 k4) (some_of (a := sD e) (b := t0) (d2_g11 e z t k1 k2 k3 k4).1) (d2_g11 e z t k1 k2 k3 k4).2.1 ?_
  refine seg_C (S := d2sx11 e z t k1 k2 k3 k4) (T := d2tx11 e z t k1 k2 k3 k4) (s' := d2s11 e z t k1 k2 k3 k4) (t' := d2t11 e z t k1 k2 k3 k4) (some_of (a := sD e) (b := t0) (d2_g11 e z t k1 k2 k3 k4).2.2.1) (d2_g11 e z t k1 k2 k3 k4).2.2.2.1 (d2_g11 e z t k1 k2 k3 k4).2.2.2.2.1 (d2_g11 e z t k1 k2 k3 k4).2.2.2.2.2 ?_
  refine seg_go (n := 345) (s := d2s11 e z t k1 k2 k3 k4) (t := d2t11 e z t k1 k2 k3 k4) (s' := d2sx12 e z t k1 k2 k3 k4) (t' := d2tx12 e z t k1 k2 k3 k4) (some_of (a := sD e) (b := t0) (d2_g12 e z t k1 k2 k3 k4 0).1) (d2_g12 e z t k1 k2 k3 k4 0).2.1 ?_
  refine seg_F (S := d2sx12 e z t k1 k2 k3 k4) (T := d2tx12 e z t k1 k2 k3 k4) (sf := d2s12 e z t k1 k2 k3 k4) (tf := d2t12 e z t k1 k2 k3 k4) (fun k => some_of (a := sD e) (b := t0) (d2_g12 e z t k1 k2 k3 k4 k).2.2.1) (fun k => (d2_g12 e z t k1 k2 k3 k4 k).2.2.2.1) (fun k => (d2_g12 e z t k1 k2 k3 k4 k).2.2.2.2.1) (fun k => (d2_g12 e z t k1 k2 k3 k4 k).2.2.2.2.2) fun k5 => ?_
  refine seg_go (n := 1914) (s := d2s12 e z t k1 k2 k3 k4 k5) (t := d2t12 e z t k1 k2 k3 k4 k5) (s' := d2sx13 e z t k1 k2 k3 k4 k5) (t' := d2tx13 e z t k1 k2 k3 k4 k5) (some_of (a := sD e) (b := t0) (d2_g13 e z t k1 k2 k3 k4 k5).1) (d2_g13 e z t k1 k2 k3 k4 k5).2.1 ?_
  refine seg_C (S := d2sx13 e z t k1 k2 k3 k4 k5) (T := d2tx13 e z t k1 k2 k3 k4 k5) (s' := d2s13 e z t k1 k2 k3 k4 k5) (t' := d2t13 e z t k1 k2 k3 k4 k5) (some_of (a := sD e) (b := t0) (d2_g13 e z t k1 k2 k3 k4 k5).2.2.1) (d2_g13 e z t k1 k2 k3 k4 k5).2.2.2.1 (d2_g13 e z t k1 k2 k3 k4 k5).2.2.2.2.1 (d2_g13 e z t k1 k2 k3 k4 k5).2.2.2.2.2 ?_
  refine seg_go (n := 402) (s := d2s13 e z t k1 k2 k3 k4 k5) (t := d2t13 e z t k1 k2 k3 k4 k5) (s' := d2sx14 e z t k1 k2 k3 k4 k5) (t' := d2tx14 e z t k1 k2 k3 k4 k5) (some_of (a := sD e) (b := t0) (d2_g14 e z t k1 k2 k3 k4 k5 0).1) (d2_g14 e z t k1 k2 k3 k4 k5 0).2.1 ?_
  refine seg_F (S := d2sx14 e z t k1 k2 k3 k4 k5) (T := d2tx14 e z t k1 k2 k3 k4 k5) (sf := d2s14 e z t k1 k2 k3 k4 k5) (tf := d2t14 e z t k1 k2 k3 k4 k5) (fun k => some_of (a := sD e) (b := t0) (d2_g14 e z t k1 k2 k3 k4 k5 k).2.2.1) (fun k => (d2_g14 e z t k1 k2 k3 k4 k5 k).2.2.2.1) (fun k => (d2_g14 e z t k1 k2 k3 k4 k5 k).2.2.2.2.1) (fun k => (d2_g14 e z t k1 k2 k3 k4 k5 k).2.2.2.2.2) fun k6 => ?_
  refine seg_go (n := 1837) (s := d2s14 e z t k1 k2 k3 k4 k5 k6) (t := d2t14 e z t k1 k2 k3 k4 k5 k6) (s' := d2sx15 e z t k1 k2 k3 k4 k5 k6) (t' := d2tx15 e z t k1 k2 k3 k4 k5 k6) (some_of (a := sD e) (b := t0) (d2_g15 e z t k1 k2 k3 k4 k5 k6).1) (d2_g15 e z t k1 k2 k3 k4 k5 k6).2.1 ?_
  refine seg_C (S := d2sx15 e z t k1 k2 k3 k4 k5 k6) (T := d2tx15 e z t k1 k2 k3 k4 k5 k6) (s' := d2s15 e z t k1 k2 k3 k4 k5 k6) (t' := d2t15 e z t k1 k2 k3 k4 k5 k6) (some_of (a := sD e) (b := t0) (d2_g15 e z t k1 k2 k3 k4 k5 k6).2.2.1) (d2_g15 e z t k1 k2 k3 k4 k5 k6).2.2.2.1 (d2_g15 e z t k1 k2 k3 k4 k5 k6).2.2.2.2.1 (d2_g15 e z t k1 k2 k3 k4 k5 k6).2.2.2.2.2 ?_
  refine seg_go (n := 402) (s := d2s15 e z t k1 k2 k3 k4 k5 k6) (t := d2t15 e z t k1 k2 k3 k4 k5 k6) (s' := d2sx16 e z t k1 k2 k3 k4 k5 k6) (t' := d2tx16 e z t k1 k2 k3 k4 k5 k6) (some_of (a := sD e) (b := t0) (d2_g16 e z t k1 k2 k3 k4 k5 k6 0).1) (d2_g16 e z t k1 k2 k3 k4 k5 k6 0).2.1 ?_
  refine seg_F (S := d2sx16 e z t k1 k2 k3 k4 k5 k6) (T := d2tx16 e z t k1 k2 k3 k4 k5 k6) (sf := d2s16 e z t k1 k2 k3 k4 k5 k6) (tf := d2t16 e z t k1 k2 k3 k4 k5 k6) (fun k => some_of (a := sD e) (b := t0) (d2_g16 e z t k1 k2 k3 k4 k5 k6 k).2.2.1) (fun k => (d2_g16 e z t k1 k2 k3 k4 k5 k6 k).2.2.2.1) (fun k => (d2_g16 e z t k1 k2 k3 k4 k5 k6 k).2.2.2.2.1) (fun k => (d2_g16 e z t k1 k2 k3 k4 k5 k6 k).2.2.2.2.2) fun k7 => ?_
  refine seg_go (n := 886) (s := d2s16 e z t k1 k2 k3 k4 k5 k6 k7) (t := d2t16 e z t k1 k2 k3 k4 k5 k6 k7) (s' := d2sx17 e z t k1 k2 k3 k4 k5 k6 k7) (t' := d2tx17 e z t k1 k2 k3 k4 k5 k6 k7) (some_of (a := sD e) (b := t0) (d2_g17 e z t k1 k2 k3 k4 k5 k6 k7 0).1) (d2_g17 e z t k1 k2 k3 k4 k5 k6 k7 0).2.1 ?_
  refine seg_F (S := d2sx17 e z t k1 k2 k3 k4 k5 k6 k7) (T := d2tx17 e z t k1 k2 k3 k4 k5 k6 k7) (sf := d2s17 e z t k1 k2 k3 k4 k5 k6 k7) (tf := d2t17 e z t k1 k2 k3 k4 k5 k6 k7) (fun k => some_of (a := sD e) (b := t0) (d2_g17 e z t k1 k2 k3 k4 k5 k6 k7 k).2.2.1) (fun k => (d2_g17 e z t k1 k2 k3 k4 k5 k6 k7 k).2.2.2.1) (fun k => (d2_g17 e z t k1 k2 k3 k4 k5 k6 k7 k).2.2.2.2.1) (fun k => (d2_g17 e z t k1 k2 k3 k4 k5 k6 k7 k).2.2.2.2.2) fun k8 => ?_
  refine seg_go (n := 389) (s := d2s17 e z t k1 k2 k3 k4 k5 k6 k7 k8) (t := d2t17 e z t k1 k2 k3 k4 k5 k6 k7 k8) (s' := d2sx18 e z t k1 k2 k3 k4 k5 k6 k7 k8) (t' := d2tx18 e z t k1 k2 k3 k4 k5 k6 k7 k8) (some_of (a := sD e) (b := t0) (d2_g18 e z t k1 k2 k3 k4 k5 k6 k7 k8).1) (d2_g18 e z t k1 k2 k3 k4 k5 k6 k7 k8).2.1 ?_
  refine d2_cut (S := d2sx18 e z t k1 k2 k3 k4 k5 k6 k7 k8) (T := d2tx18 e z t k1 k2 k3 k4 k5 k6 k7 k8) (d2_g18 e z t k1 k2 k3 k4 k5 k6 k7 k8).2.2.1 (d2_g18 e z t k1 k2 k3 k4 k5 k6 k7 k8).2.2.2.1 (d2_g18 e z t k1 k2 k3 k4 k5 k6 k7 k8).2.2.2.2.1 (d2_g18 e z t k1 k2 k3 k4 k5 k6 k7 k8).2.2.2.2.2.1 (d2_g18 e z t k1 k2 k3 k4 k5 k6 k7 k8).2.2.2.2.2.2.1 (d2_g18 e z t k1 k2 k3 k4 k5 k6 k7 k8).2.2.2.2.2.2.2.1 (d2_g18 e z t k1 k2 k3 k4 k5 k6 k7 k8).2.2.2.2.2.2.2.2.1 (d2_g18 e z t k1 k2 k3 k4 k5 k6 k7 k8).2.2.2.2.2.2.2.2.2.1 (d2_g18 e z t k1 k2 k3 k4 k5 k6 k7 k8).2.2.2.2.2.2.2.2.2.2.1 (d2_g18 e z t k1 k2 k3 k4 k5 k6 k7 k8).2.2.2.2.2.2.2.2.2.2.2.1 (d2_g18 e z t k1 k2 k3 k4 k5 k6 k7 k8).2.2.2.2.2.2.2.2.2.2.2.2.1 (d2_g18 e z t k1 k2 k3 k4 k5 k6 k7 k8).2.2.2.2.2.2.2.2.2.2.2.2.2 ?_
  show Hal e.w (d2s18 e z t k1 k2 k3 k4 k5 k6 k7 k8).abs (d2t18 e z t k1 k2 k3 k4 k5 k6 k7 k8) R
  refine seg_go (n := 1) (s := d2s18 e z t k1 k2 k3 k4 k5 k6 k7 k8) (t := d2t18 e z t k1 k2 k3 k4 k5 k6 k7 k8) (s' := d2sx19 e z t k1 k2 k3 k4 k5 k6 k7 k8) (t' := d2tx19 e z t k1 k2 k3 k4 k5 k6 k7 k8) (some_of (a := sD e) (b := t0) (d2_g19 e z t k1 k2 k3 k4 k5 k6 k7 k8).1) (d2_g19 e z t k1 k2 k3 k4 k5 k6 k7 k8).2.1 ?_
  rw [(d2_g19 e z t k1 k2 k3 k4 k5 k6 k7 k8).2.2.2.2.2.2.2.2.2.2.2.2.2.2.2.2]
  have hn := (Prod.mk.inj (d2_g19 e z t k1 k2 k3 k4 k5 k6 k7 k8).2.2.1).1
  have hl := (Prod.mk.inj (Prod.mk.inj (d2_g19 e z t k1 k2 k3 k4 k5 k6 k7 k8).2.2.1).2).1
  have ho := (Prod.mk.inj (Prod.mk.inj (d2_g19 e z t k1 k2 k3 k4 k5 k6 k7 k8).2.2.1).2).2
  exact K _ _ ⟨hl, by rw [hn]; decide, ⟨_, _, _, _, _, (d2_g19 e z t k1 k2 k3 k4 k5 k6 k7 k8).2.2.2.2.2.2.2.1, ⟨by decide, by rw [hn]; decide, _, _, _, _, _, (d2_g19 e z t k1 k2 k3 k4 k5 k6 k7 k8).2.2.2.1⟩, ⟨by decide, by rw [hn]; decide, _, _, _, _, _, (d2_g19 e z t k1 k2 k3 k4 k5 k6 k7 k8).2.2.2.2.1⟩, ⟨by decide, by rw [hn]; decide, _, _, _, _, _, (d2_g19 e z t k1 k2 k3 k4 k5 k6 k7 k8).2.2.2.2.2.1⟩, ⟨by decide, by rw [hn]; decide, _, _, _, _, _, (d2_g19 e z t k1 k2 k3 k4 k5 k6 k7 k8).2.2.2.2.2.2.1⟩⟩, (d2_g19 e z t k1 k2 k3 k4 k5 k6 k7 k8).2.2.2.2.2.2.2.2.1, (d2_g19 e z t k1 k2 k3 k4 k5 k6 k7 k8).2.2.2.2.2.2.2.2.2.1, (d2_g19 e z t k1 k2 k3 k4 k5 k6 k7 k8).2.2.2.2.2.2.2.2.2.2.1, ⟨_, _, (d2_g19 e z t k1 k2 k3 k4 k5 k6 k7 k8).2.2.2.2.2.2.2.2.2.2.2.1, _, _, _, (d2_g19 e z t k1 k2 k3 k4 k5 k6 k7 k8).2.2.2.2.2.2.2.2.2.2.2.2.1⟩, (d2_g19 e z t k1 k2 k3 k4 k5 k6 k7 k8).2.2.2.2.2.2.2.2.2.2.2.2.2.1, (d2_g19 e z t k1 k2 k3 k4 k5 k6 k7 k8).2.2.2.2.2.2.2.2.2.2.2.2.2.2.1, (d2_g19 e z t k1 k2 k3 k4 k5 k6 k7 k8).2.2.2.2.2.2.2.2.2.2.2.2.2.2.2.1, ho⟩
end Mine
end K14d2_text
section G3_text
open PySem PySem.W PyProof.Rows
namespace Mine
theorem al_dict {o : Obj} {es : Array DictEntry} {n : Nat} (h : o.data = .dict es n) : alive o = some o := by obtain ⟨_, _, _, _⟩ := o; cases h; rfl
theorem al_cell {o : Obj} {v : Option Value} (h : o.data = .cell v) : alive o = some o := by obtain ⟨_, _, _, _⟩ := o; cases h; rfl
theorem row_at {S : SharedT} {a : Nat} {p : Row4} (h : RowAt S a p) : 253 < a ∧ ∃ t0 t1 t2 t3 n, S.abs.heap.get? a = some (rowO p t0 t1 t2 t3 n) := by
  obtain ⟨h1, h2, t0, t1, t2, t3, n, e⟩ := h
  exact ⟨h1, t0, t1, t2, t3, n, abs_at h2 (list_F e) rfl⟩
theorem ne_lt {a b : Nat} (h : b < a) : a ≠ b := Nat.ne_of_gt h
theorem cls_table : (tabObj #[]).data = .fields #[] := by kernel_rfl
theorem not_tab {a : Addr} {o : Obj} (h : a ≠ 64) (hd : ∀ vs, o.data ≠ .fields vs) : NotTab (a, o) := ⟨h, fun vs e => absurd e (hd vs)⟩
section
variable {w : World} {qual : Str} {body : List Stmt} {scope : Scope} {cdv : Value}
set_option maxHeartbeats 4000000 in
theorem for_any (L : LawIs w qual body scope cdv) {base : Heap} {s : Shared} {p0 p1 p2 p3 : Row4} {R : Result → Shared → Prop} {vs : Array Value} {ns : List Int} {a0 a1 a2 a3 : Addr} {nr n0 n1 n2 n3 : Nat} {u0 u1 u2 u3 v0 v1 v2 v3 w0 w1 w2 w3 z0 z1 z2 z3 : Tok} {cr cle : Obj} {ps : Array Value} {tn : Int} {tt : Tok} {m : Str → Option Value}
    (hs : base.objs.size = 241) (kx : (KX w.params).In base) (tp : Top vR loose (ExcName.means base) (base.nsMap mainGlobals) (base.nsMap builtinsNs) base) (p39 : Pre39 base) (l240 : base.IsList 240 vs)
    (h64 : base.get? 64 = none) (h196 : base.get? 196 = none) (F0 : Fr base 241 s.heap m) (hm : m "script" = some (.ref 240)) (hi : IntsAre vs.toList ns) (hz : vs.size ≤ sizeLine) (X : ∀ x, Nonempty (XOk w p0 p1 p2 p3 x))
    (l0 : 253 < a0) (l1 : 253 < a1) (l2 : 253 < a2) (l3 : 253 < a3) (g0 : s.heap.get? a0 = some (rowO p0 u0 u1 u2 u3 n0)) (g1 : s.heap.get? a1 = some (rowO p1 v0 v1 v2 v3 n1)) (g2 : s.heap.get? a2 = some (rowO p2 w0 w1 w2 w3 n2)) (g3 : s.heap.get? a3 = some (rowO p3 z0 z1 z2 z3 n3))
    (gr : s.heap.get? 253 = some (refsO a0 a1 a2 a3 nr)) (gcr : s.heap.get? 242 = some cr) (dcr : cr.data = .cell (some (.ref 253))) (gcl : s.heap.get? 243 = some cle) (dcl : cle.data = .cell none)
    (g196 : s.heap.get? 196 = some (tabObj ps)) (hpt : ps[1]? = some (.int tn tt)) (g64 : s.heap.get? 64 = some (tabObj #[]))
    (K : ∀ h' tk', (∀ b o, base.get? b = some o → h'.get? b = some o) → (∃ ps, h'.get? 64 = some (tabObj ps)) → (∃ ps, h'.get? 196 = some (tabObj ps)) → R (.ok (.ret (.bool true))) { s with heap := h', toks := tk' }) :
    wpAny (model PW w) ((topZ 301 []).deeper (lawE qual scope cdv)) (execs (body.drop 3) (lawE qual scope cdv)) (fun f s' => ∃ v h' tk', f = .ret v ∧ s' = { s with heap := h', toks := tk' } ∧ R (.ok (.ret v)) s') Nev s := by
  have nb : ∀ b : Nat, 241 ≤ b → base.get? b = none := fun b h => Heap.get?_none_of_le (by rw [hs]; exact h)
  have n0' : base.get? a0 = none := nb _ (Nat.le_trans (by decide) l0)
  have n1' : base.get? a1 = none := nb _ (Nat.le_trans (by decide) l1)
  have n2' : base.get? a2 = none := nb _ (Nat.le_trans (by decide) l2)
  have n3' : base.get? a3 = none := nb _ (Nat.le_trans (by decide) l3)
  have gt : ∀ {a : Nat} (b : Nat), 253 < a → b ≤ 253 → a ≠ b := fun b h h' => Nat.ne_of_gt (Nat.lt_of_le_of_lt h' h)
  have nt : ∀ c v, c.data = .cell v → ∀ q ∈ (242, cr) :: (253, refsO a0 a1 a2 a3 nr) :: (a3, rowO p3 z0 z1 z2 z3 n3) :: (243, c) :: (a0, rowO p0 u0 u1 u2 u3 n0) :: (a1, rowO p1 v0 v1 v2 v3 n1) :: (a2, rowO p2 w0 w1 w2 w3 n2) :: (196, tabObj ps) :: [], NotTab q := by
    intro c v hc q hq
    simp only [List.mem_cons, List.not_mem_nil, or_false] at hq
    rcases hq with rfl | rfl | rfl | rfl | rfl | rfl | rfl | rfl
    · exact not_tab (by decide) fun _ e => by rw [dcr] at e; cases e
    · exact not_tab (by decide) fun _ e => by cases e
    · exact not_tab (gt _ l3 (by decide)) fun _ e => by cases e
    · exact not_tab (by decide) fun _ e => by rw [hc] at e; cases e
    · exact not_tab (gt _ l0 (by decide)) fun _ e => by cases e
    · exact not_tab (gt _ l1 (by decide)) fun _ e => by cases e
    · exact not_tab (gt _ l2 (by decide)) fun _ e => by cases e
    · refine ⟨show (196 : Nat) ≠ 64 by decide, fun vs e => ?_⟩
      cases e
      exact ⟨_, _, hpt⟩
  refine chunkZ L _ _ _ base s m _ Nev (tabObj #[]) (tabObj #[]) 64
    ((242, cr) :: (253, refsO a0 a1 a2 a3 nr) :: (a3, rowO p3 z0 z1 z2 z3 n3) :: (243, cle) :: (a0, rowO p0 u0 u1 u2 u3 n0) :: (a1, rowO p1 v0 v1 v2 v3 n1) :: (a2, rowO p2 w0 w1 w2 w3 n2) :: (196, tabObj ps) :: [])
    (fun _ r _ => ∃ c v, c.data = .cell v ∧ r = (242, cr) :: (253, refsO a0 a1 a2 a3 nr) :: (a3, rowO p3 z0 z1 z2 z3 n3) :: (243, c) :: (a0, rowO p0 u0 u1 u2 u3 n0) :: (a1, rowO p1 v0 v1 v2 v3 n1) :: (a2, rowO p2 w0 w1 w2 w3 n2) :: (196, tabObj ps) :: [])
    [242, 253, a3, 243, a0, a1, a2, 196] vs.toList ns ⟨rfl, fun _ _ h => h, trivial⟩ kx tp F0 rfl l240 hi hz hm ?_ ?_ ⟨⟨_, rfl, fun n t e => by cases e⟩, .inl rfl⟩ ?_ ⟨cle, _, dcl, rfl⟩ ?_ ?_
  · rintro _ r _ ⟨c, v, hc, rfl⟩
    rfl
  · rintro _ r _ ⟨c, v, hc, rfl⟩
    exact nt c v hc
  · intro q hq
    simp only [List.mem_cons, List.not_mem_nil, or_false] at hq
    rcases hq with rfl | rfl | rfl | rfl | rfl | rfl | rfl | rfl | rfl | rfl
    · exact ⟨g64, by decide, h64⟩
    · exact ⟨g64, by decide, h64⟩
    · exact ⟨gcr, show (242 : Nat) ≠ 241 by decide, nb 242 (by decide)⟩
    · exact ⟨gr, show (253 : Nat) ≠ 241 by decide, nb 253 (by decide)⟩
    · exact ⟨g3, gt _ l3 (by decide), n3'⟩
    · exact ⟨gcl, show (243 : Nat) ≠ 241 by decide, nb 243 (by decide)⟩
    · exact ⟨g0, gt _ l0 (by decide), n0'⟩
    · exact ⟨g1, gt _ l1 (by decide), n1'⟩
    · exact ⟨g2, gt _ l2 (by decide), n2'⟩
    · exact ⟨g196, show (196 : Nat) ≠ 241 by decide, h196⟩
  · rintro i k t m₁ o c oc _ own s₁ hk hT ⟨cl₁, v₁, hcl₁, rfl⟩ hown hall F₁ N₁
    obtain ⟨H⟩ := X k
    have c243 : c ≠ 243 := by
      intro e
      have q1 : s₁.heap.get? c = some oc := (N₁ (c, oc) (by simp)).1
      have q2 : s₁.heap.get? 243 = some cl₁ := (N₁ (243, cl₁) (by simp)).1
      rw [e, q2] at q1
      obtain ⟨⟨vs, hv, _⟩, _⟩ := hT
      cases q1
      rw [hcl₁] at hv
      cases hv
    refine turnX L (own := (196, tabObj ps) :: own) (cle := cl₁) (vc := v₁) ⟨rfl, fun _ _ h => h, trivial⟩ kx tp F₁ (hd_of kx) p39 hT ?_ N₁ ?_ dcr hcl₁ (t := t) (if_pos rfl) H ?_
    · intro cl v hc q hq
      simp only [List.mem_cons] at hq
      have mem : q ∈ ((242, cr) :: (253, refsO a0 a1 a2 a3 nr) :: (a3, rowO p3 z0 z1 z2 z3 n3) :: (243, cl) :: (a0, rowO p0 u0 u1 u2 u3 n0) :: (a1, rowO p1 v0 v1 v2 v3 n1) :: (a2, rowO p2 w0 w1 w2 w3 n2) :: (196, tabObj ps) :: []) ∨ q ∈ own := by
        simp only [List.mem_cons, List.not_mem_nil, or_false]
        rcases hq with h | h | h | h | h | h | h | h | h <;> simp only [h, true_or, or_true]
      rcases mem with h | h
      · exact nt cl v hc q h
      · exact (hown q h).1
    · intro q hq
      simp only [List.mem_cons] at hq
      rcases hq with rfl | rfl | rfl | rfl | rfl | rfl | rfl | rfl | rfl | hq
      · exact show (64 : Nat) ≠ 243 by decide
      · exact c243
      · exact show (242 : Nat) ≠ 243 by decide
      · exact show (253 : Nat) ≠ 243 by decide
      · exact gt _ l3 (by decide)
      · exact gt _ l0 (by decide)
      · exact gt _ l1 (by decide)
      · exact gt _ l2 (by decide)
      · exact show (196 : Nat) ≠ 243 by decide
      · intro e
        have q1 : s₁.heap.get? q.1 = some q.2 := (N₁ q (by simp [hq])).1
        have q2 : s₁.heap.get? 243 = some cl₁ := (N₁ (243, cl₁) (by simp)).1
        rw [e, q2] at q1
        cases q1
        exact (hown q hq).2 _ hcl₁
    · intro h' tk' m' o' c' oc' cle' vc' hT' hc' F' N'
      exact ⟨rfl, h', tk', m', o', c', oc', _, rfl, hT', ⟨cle', vc', hc', rfl⟩, F', N'⟩
  · rintro h' tk m' o c oc _ hT ⟨cl₁, v₁, hcl₁, rfl⟩ F' N'
    refine ⟨_, h', tk, rfl, rfl, K h' tk F'.keep ?_ ⟨ps, (N' (196, tabObj ps) (by simp)).1⟩⟩
    have q : h'.get? 64 = some o := (N' (64, o) (by simp)).1
    rcases hT.2 with h | ⟨h, _⟩
    · exact ⟨_, q.trans (congrArg some h)⟩
    · exact ⟨_, q.trans (congrArg some h)⟩
end
section
variable {R : Result → Shared → Prop}
set_option maxHeartbeats 4000000 in
theorem for_hal (e : Env1) {r : Int} {p0 p1 p2 p3 : Row4} {S : SharedT} {p : Pos} {es : Array (Int × Value)} {n : Nat} {t : SetTable} {ns : List Int} (st : ForSt e r p0 p1 p2 p3 S) (hx : e.x39 = setO es n t) (hI : SInv 22 es t)
    (hi : IntsAre e.vs.toList ns) (hz : e.vs.size ≤ sizeLine) (X : ∀ x, Nonempty (XOk e.w p0 p1 p2 p3 x))
    (K : ∀ h' tk', (∀ b o, (HH e.w.params es n t e.vs).get? b = some o → h'.get? b = some o) → (∃ ps, h'.get? 64 = some (tabObj ps)) → (∃ ps, h'.get? 196 = some (tabObj ps)) → R (.ok (.ret (.bool true))) { S.abs with heap := h', toks := tk' }) :
    Hal e.w S.abs (atFor e p) R := by
  obtain ⟨life, size, ⟨a0, a1, a2, a3, nr, hr, r0, r1, r2, r3⟩, cell, cell2, script, ⟨ds, dn, hd, u, v, y, hd2⟩, gens, old, tab, _⟩ := st
  obtain ⟨l0, u0, u1, u2, u3, n0, g0⟩ := row_at r0
  obtain ⟨l1, v0, v1, v2, v3, n1, g1⟩ := row_at r1
  obtain ⟨l2, w0, w1, w2, w3, n2, g2⟩ := row_at r2
  obtain ⟨l3, z0, z1, z2, z3, n3, g3⟩ := row_at r3
  have sz : ∀ i : Nat, i < 254 → i < S.n := fun i hi => Nat.lt_of_lt_of_le hi size
  obtain ⟨cr, hcr, dcr⟩ := data_of cell
  obtain ⟨cle, hcl, dcl⟩ := data_of cell2
  obtain ⟨od, hod, dod⟩ := data_of hd
  obtain ⟨sk, hs⟩ := dict_ns hd2
  obtain ⟨ps, hps, tn, tt, hpt⟩ := tab_of3 tab
  have in0 := in_S hx size script old
  have gr := abs_at (sz 253 (by decide)) (list_F hr) rfl
  have gcr := abs_at (sz 242 (by decide)) hcr (al_cell dcr)
  have gcl := abs_at (sz 243 (by decide)) hcl (al_cell dcl)
  have gd := abs_at (sz 241 (by decide)) hod (al_dict dod)
  have g196 := abs_at (sz 196 (by decide)) hps rfl
  have g64 : S.abs.heap.get? 64 = some (tabObj #[]) := abs_at (sz 64 (by decide)) ((old_get old (by decide) (by decide)).trans (old64 e)) rfl
  obtain ⟨gb, gl⟩ := gens_spent gens
  rw [atFor_is]
  refine hal_for gl ?_
  have kx := kxH e.w es n t e.vs
  have tp := topB e.w.params es n t e.vs
  have p39 := preH e.w.params es n t e.vs hI
  have hsz := HH_size e.w.params es n t e.vs
  have l240 : (HH e.w.params es n t e.vs).IsList 240 e.vs := ⟨_, HH_240 _ _ _ _ _, rfl, ⟨_, rfl⟩⟩
  have h64n : (HH e.w.params es n t e.vs).get? 64 = none := hideAll_none _ (by simp)
  have h196n : (HH e.w.params es n t e.vs).get? 196 = none := hideAll_none _ (by simp)
  have L := lawIs e.w
  revert kx tp p39 hsz l240 h64n h196n in0 K L
  generalize HH e.w.params es n t e.vs = base
  generalize (lawF e.w.params).qualname = qual
  generalize (lawF e.w.params).scope = scope
  generalize (lawF e.w.params).code = cdv
  generalize bodyO (lawF e.w.params) = body
  intro K in0 kx tp p39 hsz l240 h64n h196n L
  exact for_any L hsz kx tp p39 l240 h64n h196n ⟨⟨od, ds, dn, gd, dod, sk, fun _ => rfl⟩, in0, by rw [hsz]; exact Nat.le_refl _⟩ hs hi hz X l0 l1 l2 l3 g0 g1 g2 g3 gr gcr dcr gcl dcl g196 hpt g64 K
end
end Mine
end G3_text
section Z1_text
open PySem PySem.W PySem.Spec PySem.Calls PyProof.Rows
namespace Mine
theorem from_run {c : ClaimW} {tree : List Value → Sem Fin} {w : World} {s : Shared} {free : Addr → Prop} {gens : Prop} {kept : Heap → Prop} (hz : s.asleep) (hgens : s.gens = #[])
    (H : ∀ args, c.pre args = true → WData.layableAll args = true → ∀ ord : List DictEntry → List DictEntry, (∀ l, (ord l).Perm l) →
      ∃ vs s₁, layAllW c.records (classAt s.heap) w.params ord args s = some (vs, s₁) ∧ ∃ n r s', (model c.prog w).runN n s₁ ⟨tree vs, caC, default, []⟩ = .halted (outcomeOf r) s' ∧ c.Ends s args vs s₁ r s' ∧ s'.os = s.os ∧ kept s'.heap) :
    c.CallFrom (fun vs => ⟨tree vs, .builtin "claim.caller" {}, default, []⟩) w free gens kept s := by
  intro args hpre hlay ord hord
  obtain ⟨vs, s₁, hlaid, n, r, s', hrun, hends, hos, hkp⟩ := H args hpre hlay ord hord
  obtain ⟨_, _, _, hlife⟩ := layAllW_rest _ _ _ hlaid
  obtain ⟨s₂, hsched, hr, hfo⟩ := runNI_full _ _ _ hrun (outcomeOf_ends r) (Shared.asleep_of_life hlife hz)
  obtain ⟨eh, _, _, eo, _⟩ := Shared.forget_eq hfo
  have hcase := hends.congr eh
  have hkp' : kept s₂.heap := by rw [eh]; exact hkp
  have hlife' : s₂.heap.life = s.heap.life := (runN_life _ _ _ hr).trans hlife
  refine ⟨vs, s₁, hlaid, n, _, s₂, hsched, ?_, (fun _ i x hx => by rw [hgens] at hx; simp at hx), hkp', by rw [hlife'], Shared.rest_eq (eo.trans hos)⟩
  rcases hcase with ⟨v, rfl, d1, d2, d3, d4, d5⟩ | ⟨e, ob, cls, rfl, d1, d2, d3, d4, d5⟩
  · exact .inl ⟨v, rfl, d1, d2, d3, fun b o y _ => d4 b o y, d5⟩
  · exact .inr ⟨e, ob, cls, rfl, d1, d2, d3, d4, fun b o y _ => d5 b o y⟩
theorem open_at {r : RowW} {tree : List Value → Sem Fin} {q : Program} {lo' defs kps : List Str} {writes : Bool} {Xt : Shared → Bool} {XP : (Str → Option Value) → Heap → Prop} {α : Type} {Yf : Shared → α} {Ya : World → α} {N : Nat}
    (left : LeftO r.prog q lo' Xt Yf Ya N) (hX : ∀ s, Xt s = true → XP (s.heap.nsMap mainGlobals) s.heap)
    (hRf : ∀ s, Xt s = true → RecFacts r.records s.heap) (hwr : (!writes || r.records.isEmpty) = true) (ok : (chainsOk q && opensWell r.prog && (frees r && r.within.isEmpty)) = true) (hb : r.prog.bare) (hw : r.promised)
    (pin : ∀ w s, s.heap.isNs mainGlobals = true → Ground q lo' [] XP w s (s.heap.nsMap mainGlobals) (s.heap.nsMap builtinsNs) s.heap → ∀ n ∈ defs, isTheDefsW r.prog s.heap n)
    (hXk : ∀ mg h h', XP mg h → (∀ b o, h.get? b = some o → h'.get? b = some o) → XP mg h')
    (call : ∀ (w : World) (s₀ s₁ : Shared), Yf s₀ = Ya w → s₁.heap.Ns mainGlobals (s₀.heap.nsMap mainGlobals) → ∀ (args : List WData) (vs : List Value) (as : List Addr), r.claim.pre args = true → WData.layableAll args = true → Laid r.records w s₀ s₁ args vs as →
      ∃ n res s', (model r.prog w).runN n s₁ ⟨tree vs, caC, default, []⟩ = .halted (outcomeOf res) s' ∧ GoodWG r.claim (classAt s₀.heap) (ExcName.means s₀.heap) args s₁ res s') :
    r.claim.HoldsOpenBy (fun vs => ⟨tree vs, .builtin "claim.caller" {}, default, []⟩) defs kps writes := by
  simp only [Bool.and_eq_true] at ok
  obtain ⟨⟨hch, o1⟩, k5, k6⟩ := ok
  obtain ⟨hsame, hu, ha, hap, hm⟩ := frees_parts k5
  have hwi : r.claim.within = [] := List.isEmpty_iff.mp k6
  have hi := ident_freeW hu ha hap
  refine ⟨⟨hb, o1, by show r.makers.map _ = []; rw [hm]; rfl⟩, hw.witness, fun w => ⟨(left.behind hX hch w).1, fun s' hs' => ?_⟩⟩
  obtain ⟨s₀, hf, hg0, s, hT, hz, hgens, hg, GR, y⟩ := (left.behind (XP := fun mg h => XP mg h ∧ RecFacts r.records h) (fun s hs => ⟨hX s hs, hRf s hs⟩) hch w).2 s' hs'
  obtain ⟨hXs, RF⟩ := GR.X
  have G0 : Ground q lo' [] XP w s (s.heap.nsMap mainGlobals) (s.heap.nsMap builtinsNs) s.heap := ⟨GR.T, GR.B, GR.D, GR.TE, GR.TD, GR.W, hXs, GR.cls, GR.has, GR.apart, GR.once, GR.K⟩
  have G : Ground q lo' r.records XP w s _ _ s.heap := RF.ground G0
  have hgens' : s.gens = #[] := Array.eq_empty_of_size_eq_zero (beq_iff_eq.mp hgens)
  refine ⟨s₀, hf, hg0, s, hT, pin w s hg G0, RF.1, RF.2.1, from_run (c := r.claim) hz hgens' fun args hpre hlay ord hord => ?_⟩
  obtain ⟨⟨vs, s₁⟩, hlaid⟩ := Option.isSome_iff_exists.mp (layAllW_isSome (P := w.params) (ord := ord) G.has args r.args s (pre_splitW hpre).1)
  have keeps := layAllW_keeps _ _ _ hlaid
  obtain ⟨hg1, _, ho1, _⟩ := layAllW_rest _ _ _ hlaid
  obtain ⟨as, hrd, hin, hold⟩ := reads_layAllW hord _ _ _ hlaid hlay s₁.heap (fun _ _ e => e)
  have L : Laid r.records w s s₁ args vs as := ⟨⟨ord, hord, hlaid⟩, hrd, hin, hold, keeps, hg1.trans hgens', ho1⟩
  obtain ⟨n, res, sf, hrun, g⟩ := call w s s₁ y (G.keeps hXk keeps).T.g args vs as hpre hlay L
  have z := g.laid (c := r.claim) hsame hwi hi L
  exact ⟨vs, s₁, hlaid, n, res, sf, hrun, z.1, z.2.1, fun q => ⟨namesKept_of hT hg kps keeps g.2.1.old, noTable hwr q⟩⟩
section
variable {w : World} {R R' : Result → Shared → Prop}
theorem hal_tree {name : Str} {mg : Str → Option Value} {f : Value} {vs : List Value} {s : Shared} (hg : s.heap.Ns mainGlobals mg) (hf : mg name = some f)
    (hR : ∀ r s', R' r s' → leftWithCleanup s'.gens = false ∧ ∃ v, r = .ok (.ret v) ∧ R (.ok (.ret v)) s')
    (H : Hal w s ⟨denote table (.call f ⟨vs, []⟩), .call f ⟨vs, []⟩, default, [FL caC default]⟩ R') :
    Hal w s ⟨(do match ← nsGet mainNs name with
      | some f => do ret (← PySem.call f vs)
      | none => unsupported "claim.caller:no-such-global"), caC, default, []⟩ R := by
  refine hal_wp ?_
  rw [Sem.wp_bind']
  refine (Sem.wp_nsGet _ _ _ _ s hg name _).mpr ?_
  rw [hf]
  dsimp only
  rw [Sem.wp_bind']
  unfold PySem.call
  rw [Sem.wp_runValue, wpCode_iff_wp, ← of_enter (k := leafOf) (g := false) (l := []) (kp := [])]
  refine Sem.wp_mono _ _ _ (fun fin p' s' h' => finPost_mono (fun r s' hr => ?_) h') (fun e p' s' hr => ?_) _ _ (wp_of_hal H)
  · obtain ⟨h1, v, rfl, h3⟩ := hR _ _ hr
    exact fun c' p' => hal_leaf h1 h3
  · obtain ⟨_, v, h, _⟩ := hR _ _ hr
    cases h
end
end Mine
end Z1_text
section Z2_text
open PySem PySem.W PySem.Spec PySem.Calls PyProof.Rows
namespace Mine
theorem absB (P : Params) (es : Array (Int × Value)) (n : Nat) (t : SetTable) (vs : Array Value) : absHeap ((pt (hB.tree_331 P) (setO es n t) o40 o41 o42).ins 240 (lsO vs)) 241 {} = (HX P es n t).push (lsB vs) := by
  unfold HX
  kernel_rfl
theorem lay_is {R : WRecords} {cl : Str → Option Addr} {P : Params} {ord : List DictEntry → List DictEntry} : ∀ (ns : List Int) (s : Shared) (r : List Value × Shared), layAllW R cl P ord (ofPys (ns.map PyData.int)) s = some r → IntsAre r.1 ns ∧ ∃ tk, r.2 = { s with toks := tk }
  | [], s, r, e => by
    have : layAllW R cl P ord (ofPys (List.map PyData.int [])) s = some ([], s) := by simp [ofPys, layAllW]
    rw [this] at e
    cases e
    exact ⟨.nil, _, rfl⟩
  | n :: ns, s, r, e => by
    simp only [List.map_cons, ofPys, ofPy, layAllW, layW] at e
    cases q : layAllW R cl P ord (ofPys (List.map PyData.int ns)) { s with toks := s.toks + 1 } with
    | none => rw [q] at e; cases e
    | some r' =>
      rw [q] at e
      cases e
      obtain ⟨h1, tk, h2⟩ := lay_is ns _ r' q
      exact ⟨by first | exact .cons _ h1 | exact .cons _ _ h1, tk, h2⟩
theorem laid_is {R : WRecords} {w : World} {s₀ s₁ : Shared} {ns : List Int} {vs : List Value} {as : List Addr} {es : Array (Int × Value)} {n : Nat} {t : SetTable} (L : Laid R w s₀ s₁ [ofPy (PyData.list (ns.map PyData.int))] vs as) (h : s₀.heap = HX w.params es n t) :
    vs = [.ref 240] ∧ ∃ us, IntsAre us.toList ns ∧ s₁ = (S0 ⟨w, setO es n t, us, s₁.drawn, s₁.toks, s₁.os⟩).abs := by
  obtain ⟨ord, _, e⟩ := L.laid
  have hgen := L.gens
  simp only [ofPy, layAllW, layW] at e
  cases q : layAllW R (classAt s₀.heap) w.params ord (ofPys (List.map PyData.int ns)) s₀ with
  | none => rw [q] at e; cases e
  | some r =>
    rw [q] at e
    obtain ⟨hi, tk, hr⟩ := lay_is ns s₀ r q
    simp only [Option.some.injEq, Prod.mk.injEq] at e
    obtain ⟨ea, es'⟩ := e
    have hh : r.2.heap = HX w.params es n t := by rw [hr]; exact h
    refine ⟨?_, r.1.toArray, hi, ?_⟩
    · rw [← ea, hh, HX_size]
    · subst es'
      have a := absB w.params es n t r.1.toArray
      dsimp only at hgen
      show ({ r.2 with heap := r.2.heap.push { cls := .type "list", data := .seq r.1.toArray } } : Shared) = { heap := absHeap ((pt (hB.tree_331 w.params) (setO es n t) o40 o41 o42).ins 240 (lsO r.1.toArray)) 241 {}, gens := #[], drawn := r.2.drawn, toks := r.2.toks, os := r.2.os }
      rw [a, hh]
      dsimp only
      rw [hgen]
      rfl
section
variable {args : List WData}
theorem args_are (hpre : PySem.Challenge.rw_in0263_01.row.toRowW.claim.pre args = true) (hlay : WData.layableAll args = true) : ∃ ns : List Int, args = [ofPy (PyData.list (ns.map PyData.int))] ∧ ns.length ≤ 63 := by
  have hsh := (pre_splitW hpre).1
  have hcond := (pre_splitW hpre).2
  wrow_hasAll hsh hlay
  w_cond hcond
  exact ⟨_, rfl, by omega⟩
end
end Mine
end Z2_text
section K8d0_text
open PySem PySem.W PyProof.Rows
namespace Mine
noncomputable def d0s0 (e : Env1) (z : Int) (t : Tok) : SharedT := sD e
noncomputable def d0t0 (e : Env1) (z : Int) (t : Tok) : Thread := thD e z t 0
noncomputable def d0X1 (e : Env1) (z : Int) (t : Tok) := goSF e.w e.w 57 (d0s0 e z t) (d0t0 e z t)
noncomputable def d0sx1 (e : Env1) (z : Int) (t : Tok) : SharedT := fstO (d0X1 e z t).2 (sD e)
noncomputable def d0tx1 (e : Env1) (z : Int) (t : Tok) : Thread := sndO (d0X1 e z t).2 t0
noncomputable def d0Y1 (e : Env1) (z : Int) (t : Tok) := goSF e.w (e.w.withFollow rowC true) 3 (d0sx1 e z t) (d0tx1 e z t)
noncomputable def d0Z1 (e : Env1) (z : Int) (t : Tok) := goSF e.w (e.w.withFollow rowC false) 13 (d0sx1 e z t) (d0tx1 e z t)
noncomputable def d0s1 (e : Env1) (z : Int) (t : Tok) : SharedT := fstO (d0Y1 e z t).2 (sD e)
noncomputable def d0t1 (e : Env1) (z : Int) (t : Tok) : Thread := sndO (d0Y1 e z t).2 t0
noncomputable def d0X2 (e : Env1) (z : Int) (t : Tok) := goSF e.w e.w 1654 (d0s1 e z t) (d0t1 e z t)
noncomputable def d0sx2 (e : Env1) (z : Int) (t : Tok) : SharedT := fstO (d0X2 e z t).2 (sD e)
noncomputable def d0tx2 (e : Env1) (z : Int) (t : Tok) : Thread := sndO (d0X2 e z t).2 t0
noncomputable def d0Y2 (e : Env1) (z : Int) (t : Tok) := goSF e.w (e.w.withFollow rowC true) 3 (d0sx2 e z t) (d0tx2 e z t)
noncomputable def d0Z2 (e : Env1) (z : Int) (t : Tok) := goSF e.w (e.w.withFollow rowC false) 13 (d0sx2 e z t) (d0tx2 e z t)
noncomputable def d0s2 (e : Env1) (z : Int) (t : Tok) : SharedT := fstO (d0Y2 e z t).2 (sD e)
noncomputable def d0t2 (e : Env1) (z : Int) (t : Tok) : Thread := sndO (d0Y2 e z t).2 t0
noncomputable def d0X3 (e : Env1) (z : Int) (t : Tok) := goSF e.w e.w 360 (d0s2 e z t) (d0t2 e z t)
noncomputable def d0sx3 (e : Env1) (z : Int) (t : Tok) : SharedT := fstO (d0X3 e z t).2 (sD e)
noncomputable def d0tx3 (e : Env1) (z : Int) (t : Tok) : Thread := sndO (d0X3 e z t).2 t0
noncomputable def d0Y3 (e : Env1) (z : Int) (t : Tok) (k1 : Nat) := goSF e.w (e.w.withFollow rowF false) 3 { d0sx3 e z t with toks := k1 } (d0tx3 e z t)
noncomputable def d0Z3 (e : Env1) (z : Int) (t : Tok) (k1 : Nat) := goSF e.w (e.w.withFollow rowF true) 4 { d0sx3 e z t with toks := k1 } (d0tx3 e z t)
noncomputable def d0s3 (e : Env1) (z : Int) (t : Tok) (k1 : Nat) : SharedT := fstO (d0Y3 e z t k1).2 (sD e)
noncomputable def d0t3 (e : Env1) (z : Int) (t : Tok) (k1 : Nat) : Thread := sndO (d0Y3 e z t k1).2 t0
noncomputable def d0X4 (e : Env1) (z : Int) (t : Tok) (k1 : Nat) := goSF e.w e.w 1914 (d0s3 e z t k1) (d0t3 e z t k1)
noncomputable def d0sx4 (e : Env1) (z : Int) (t : Tok) (k1 : Nat) : SharedT := fstO (d0X4 e z t k1).2 (sD e)
noncomputable def d0tx4 (e : Env1) (z : Int) (t : Tok) (k1 : Nat) : Thread := sndO (d0X4 e z t k1).2 t0
noncomputable def d0Y4 (e : Env1) (z : Int) (t : Tok) (k1 : Nat) := goSF e.w (e.w.withFollow rowC true) 3 (d0sx4 e z t k1) (d0tx4 e z t k1)
noncomputable def d0Z4 (e : Env1) (z : Int) (t : Tok) (k1 : Nat) := goSF e.w (e.w.withFollow rowC false) 13 (d0sx4 e z t k1) (d0tx4 e z t k1)
noncomputable def d0s4 (e : Env1) (z : Int) (t : Tok) (k1 : Nat) : SharedT := fstO (d0Y4 e z t k1).2 (sD e)
noncomputable def d0t4 (e : Env1) (z : Int) (t : Tok) (k1 : Nat) : Thread := sndO (d0Y4 e z t k1).2 t0
noncomputable def d0X5 (e : Env1) (z : Int) (t : Tok) (k1 : Nat) := goSF e.w e.w 402 (d0s4 e z t k1) (d0t4 e z t k1)
noncomputable def d0sx5 (e : Env1) (z : Int) (t : Tok) (k1 : Nat) : SharedT := fstO (d0X5 e z t k1).2 (sD e)
noncomputable def d0tx5 (e : Env1) (z : Int) (t : Tok) (k1 : Nat) : Thread := sndO (d0X5 e z t k1).2 t0
noncomputable def d0Y5 (e : Env1) (z : Int) (t : Tok) (k1 : Nat) (k2 : Nat) := goSF e.w (e.w.withFollow rowF false) 3 { d0sx5 e z t k1 with toks := k2 } (d0tx5 e z t k1)
noncomputable def d0Z5 (e : Env1) (z : Int) (t : Tok) (k1 : Nat) (k2 : Nat) := goSF e.w (e.w.withFollow rowF true) 4 { d0sx5 e z t k1 with toks := k2 } (d0tx5 e z t k1)
noncomputable def d0s5 (e : Env1) (z : Int) (t : Tok) (k1 : Nat) (k2 : Nat) : SharedT := fstO (d0Y5 e z t k1 k2).2 (sD e)
noncomputable def d0t5 (e : Env1) (z : Int) (t : Tok) (k1 : Nat) (k2 : Nat) : Thread := sndO (d0Y5 e z t k1 k2).2 t0
noncomputable def d0X6 (e : Env1) (z : Int) (t : Tok) (k1 : Nat) (k2 : Nat) := goSF e.w e.w 1837 (d0s5 e z t k1 k2) (d0t5 e z t k1 k2)
noncomputable def d0sx6 (e : Env1) (z : Int) (t : Tok) (k1 : Nat) (k2 : Nat) : SharedT := fstO (d0X6 e z t k1 k2).2 (sD e)
noncomputable def d0tx6 (e : Env1) (z : Int) (t : Tok) (k1 : Nat) (k2 : Nat) : Thread := sndO (d0X6 e z t k1 k2).2 t0
noncomputable def d0Y6 (e : Env1) (z : Int) (t : Tok) (k1 : Nat) (k2 : Nat) := goSF e.w (e.w.withFollow rowC true) 3 (d0sx6 e z t k1 k2) (d0tx6 e z t k1 k2)
noncomputable def d0Z6 (e : Env1) (z : Int) (t : Tok) (k1 : Nat) (k2 : Nat) := goSF e.w (e.w.withFollow rowC false) 13 (d0sx6 e z t k1 k2) (d0tx6 e z t k1 k2)
noncomputable def d0s6 (e : Env1) (z : Int) (t : Tok) (k1 : Nat) (k2 : Nat) : SharedT := fstO (d0Y6 e z t k1 k2).2 (sD e)
noncomputable def d0t6 (e : Env1) (z : Int) (t : Tok) (k1 : Nat) (k2 : Nat) : Thread := sndO (d0Y6 e z t k1 k2).2 t0
noncomputable def d0X7 (e : Env1) (z : Int) (t : Tok) (k1 : Nat) (k2 : Nat) := goSF e.w e.w 402 (d0s6 e z t k1 k2) (d0t6 e z t k1 k2)
noncomputable def d0sx7 (e : Env1) (z : Int) (t : Tok) (k1 : Nat) (k2 : Nat) : SharedT := fstO (d0X7 e z t k1 k2).2 (sD e)
noncomputable def d0tx7 (e : Env1) (z : Int) (t : Tok) (k1 : Nat) (k2 : Nat) : Thread := sndO (d0X7 e z t k1 k2).2 t0
noncomputable def d0Y7 (e : Env1) (z : Int) (t : Tok) (k1 : Nat) (k2 : Nat) (k3 : Nat) := goSF e.w (e.w.withFollow rowF false) 3 { d0sx7 e z t k1 k2 with toks := k3 } (d0tx7 e z t k1 k2)
noncomputable def d0Z7 (e : Env1) (z : Int) (t : Tok) (k1 : Nat) (k2 : Nat) (k3 : Nat) := goSF e.w (e.w.withFollow rowF true) 4 { d0sx7 e z t k1 k2 with toks := k3 } (d0tx7 e z t k1 k2)
noncomputable def d0s7 (e : Env1) (z : Int) (t : Tok) (k1 : Nat) (k2 : Nat) (k3 : Nat) : SharedT := fstO (d0Y7 e z t k1 k2 k3).2 (sD e)
noncomputable def d0t7 (e : Env1) (z : Int) (t : Tok) (k1 : Nat) (k2 : Nat) (k3 : Nat) : Thread := sndO (d0Y7 e z t k1 k2 k3).2 t0
noncomputable def d0X8 (e : Env1) (z : Int) (t : Tok) (k1 : Nat) (k2 : Nat) (k3 : Nat) := goSF e.w e.w 886 (d0s7 e z t k1 k2 k3) (d0t7 e z t k1 k2 k3)
noncomputable def d0sx8 (e : Env1) (z : Int) (t : Tok) (k1 : Nat) (k2 : Nat) (k3 : Nat) : SharedT := fstO (d0X8 e z t k1 k2 k3).2 (sD e)
noncomputable def d0tx8 (e : Env1) (z : Int) (t : Tok) (k1 : Nat) (k2 : Nat) (k3 : Nat) : Thread := sndO (d0X8 e z t k1 k2 k3).2 t0
noncomputable def d0Y8 (e : Env1) (z : Int) (t : Tok) (k1 : Nat) (k2 : Nat) (k3 : Nat) (k4 : Nat) := goSF e.w (e.w.withFollow rowF false) 3 { d0sx8 e z t k1 k2 k3 with toks := k4 } (d0tx8 e z t k1 k2 k3)
noncomputable def d0Z8 (e : Env1) (z : Int) (t : Tok) (k1 : Nat) (k2 : Nat) (k3 : Nat) (k4 : Nat) := goSF e.w (e.w.withFollow rowF true) 4 { d0sx8 e z t k1 k2 k3 with toks := k4 } (d0tx8 e z t k1 k2 k3)
noncomputable def d0s8 (e : Env1) (z : Int) (t : Tok) (k1 : Nat) (k2 : Nat) (k3 : Nat) (k4 : Nat) : SharedT := fstO (d0Y8 e z t k1 k2 k3 k4).2 (sD e)
noncomputable def d0t8 (e : Env1) (z : Int) (t : Tok) (k1 : Nat) (k2 : Nat) (k3 : Nat) (k4 : Nat) : Thread := sndO (d0Y8 e z t k1 k2 k3 k4).2 t0
noncomputable def d0X9 (e : Env1) (z : Int) (t : Tok) (k1 : Nat) (k2 : Nat) (k3 : Nat) (k4 : Nat) := goSF e.w e.w 397 (d0s8 e z t k1 k2 k3 k4) (d0t8 e z t k1 k2 k3 k4)
noncomputable def d0sx9 (e : Env1) (z : Int) (t : Tok) (k1 : Nat) (k2 : Nat) (k3 : Nat) (k4 : Nat) : SharedT := fstO (d0X9 e z t k1 k2 k3 k4).2 (sD e)
noncomputable def d0tx9 (e : Env1) (z : Int) (t : Tok) (k1 : Nat) (k2 : Nat) (k3 : Nat) (k4 : Nat) : Thread := sndO (d0X9 e z t k1 k2 k3 k4).2 t0
noncomputable def d0S1 (e : Env1) (z : Int) (t : Tok) : Prop :=
    (d0X1 e z t).2.isSome = true ∧
    chkS e.w (d0X1 e z t) ∧
    (d0Y1 e z t).2.isSome = true ∧
    chkS (e.w.withFollow rowC true) (d0Y1 e z t) ∧
    (d0Z1 e z t).2 = some (d0s1 e z t, d0t1 e z t) ∧
    chkS (e.w.withFollow rowC false) (d0Z1 e z t)
noncomputable def d0S2 (e : Env1) (z : Int) (t : Tok) : Prop :=
    (d0X2 e z t).2.isSome = true ∧
    chkS e.w (d0X2 e z t) ∧
    (d0Y2 e z t).2.isSome = true ∧
    chkS (e.w.withFollow rowC true) (d0Y2 e z t) ∧
    (d0Z2 e z t).2 = some (d0s2 e z t, d0t2 e z t) ∧
    chkS (e.w.withFollow rowC false) (d0Z2 e z t)
noncomputable def d0S3 (e : Env1) (z : Int) (t : Tok) (k1 : Nat) : Prop :=
    (d0X3 e z t).2.isSome = true ∧
    chkS e.w (d0X3 e z t) ∧
    (d0Y3 e z t k1).2.isSome = true ∧
    chkS (e.w.withFollow rowF false) (d0Y3 e z t k1) ∧
    (d0Z3 e z t k1).2 = some (d0s3 e z t (k1 + 1), d0t3 e z t (k1 + 1)) ∧
    chkS (e.w.withFollow rowF true) (d0Z3 e z t k1)
noncomputable def d0S4 (e : Env1) (z : Int) (t : Tok) (k1 : Nat) : Prop :=
    (d0X4 e z t k1).2.isSome = true ∧
    chkS e.w (d0X4 e z t k1) ∧
    (d0Y4 e z t k1).2.isSome = true ∧
    chkS (e.w.withFollow rowC true) (d0Y4 e z t k1) ∧
    (d0Z4 e z t k1).2 = some (d0s4 e z t k1, d0t4 e z t k1) ∧
    chkS (e.w.withFollow rowC false) (d0Z4 e z t k1)
noncomputable def d0S5 (e : Env1) (z : Int) (t : Tok) (k1 : Nat) (k2 : Nat) : Prop :=
    (d0X5 e z t k1).2.isSome = true ∧
    chkS e.w (d0X5 e z t k1) ∧
    (d0Y5 e z t k1 k2).2.isSome = true ∧
    chkS (e.w.withFollow rowF false) (d0Y5 e z t k1 k2) ∧
    (d0Z5 e z t k1 k2).2 = some (d0s5 e z t k1 (k2 + 1), d0t5 e z t k1 (k2 + 1)) ∧
    chkS (e.w.withFollow rowF true) (d0Z5 e z t k1 k2)
noncomputable def d0S6 (e : Env1) (z : Int) (t : Tok) (k1 : Nat) (k2 : Nat) : Prop :=
    (d0X6 e z t k1 k2).2.isSome = true ∧
    chkS e.w (d0X6 e z t k1 k2) ∧
    (d0Y6 e z t k1 k2).2.isSome = true ∧
    chkS (e.w.withFollow rowC true) (d0Y6 e z t k1 k2) ∧
    (d0Z6 e z t k1 k2).2 = some (d0s6 e z t k1 k2, d0t6 e z t k1 k2) ∧
    chkS (e.w.withFollow rowC false) (d0Z6 e z t k1 k2)
noncomputable def d0S7 (e : Env1) (z : Int) (t : Tok) (k1 : Nat) (k2 : Nat) (k3 : Nat) : Prop :=
    (d0X7 e z t k1 k2).2.isSome = true ∧
    chkS e.w (d0X7 e z t k1 k2) ∧
    (d0Y7 e z t k1 k2 k3).2.isSome = true ∧
    chkS (e.w.withFollow rowF false) (d0Y7 e z t k1 k2 k3) ∧
    (d0Z7 e z t k1 k2 k3).2 = some (d0s7 e z t k1 k2 (k3 + 1), d0t7 e z t k1 k2 (k3 + 1)) ∧
    chkS (e.w.withFollow rowF true) (d0Z7 e z t k1 k2 k3)
noncomputable def d0S8 (e : Env1) (z : Int) (t : Tok) (k1 : Nat) (k2 : Nat) (k3 : Nat) (k4 : Nat) : Prop :=
    (d0X8 e z t k1 k2 k3).2.isSome = true ∧
    chkS e.w (d0X8 e z t k1 k2 k3) ∧
    (d0Y8 e z t k1 k2 k3 k4).2.isSome = true ∧
    chkS (e.w.withFollow rowF false) (d0Y8 e z t k1 k2 k3 k4) ∧
    (d0Z8 e z t k1 k2 k3 k4).2 = some (d0s8 e z t k1 k2 k3 (k4 + 1), d0t8 e z t k1 k2 k3 (k4 + 1)) ∧
    chkS (e.w.withFollow rowF true) (d0Z8 e z t k1 k2 k3 k4)
noncomputable def d0S9 (e : Env1) (z : Int) (t : Tok) (k1 : Nat) (k2 : Nat) (k3 : Nat) (k4 : Nat) : Prop :=
    (d0X9 e z t k1 k2 k3 k4).2.isSome = true ∧
    chkS e.w (d0X9 e z t k1 k2 k3 k4) ∧
    ((d0sx9 e z t k1 k2 k3 k4).n, (d0sx9 e z t k1 k2 k3 k4).life, (d0sx9 e z t k1 k2 k3 k4).os) = (372, {}, e.os) ∧
    faceOf (d0sx9 e z t k1 k2 k3 k4) 256 = listF [.str ⟨#[65]⟩ (tkAt (d0sx9 e z t k1 k2 k3 k4) 256 0), .str ⟨#[78]⟩ (tkAt (d0sx9 e z t k1 k2 k3 k4) 256 1), .str ⟨#[91, 103, 45, 122, 48, 45, 57, 43, 47, 93]⟩ (tkAt (d0sx9 e z t k1 k2 k3 k4) 256 2), .str ⟨#[46]⟩ (tkAt (d0sx9 e z t k1 k2 k3 k4) 256 3)] (epOf (d0sx9 e z t k1 k2 k3 k4) 256) ∧
    faceOf (d0sx9 e z t k1 k2 k3 k4) 298 = listF [.str ⟨#[69]⟩ (tkAt (d0sx9 e z t k1 k2 k3 k4) 298 0), .str ⟨#[91, 81, 45, 90, 97, 45, 122, 48, 45, 57, 43, 47, 93]⟩ (tkAt (d0sx9 e z t k1 k2 k3 k4) 298 1), .str ⟨#[46]⟩ (tkAt (d0sx9 e z t k1 k2 k3 k4) 298 2), .str ⟨#[46]⟩ (tkAt (d0sx9 e z t k1 k2 k3 k4) 298 3)] (epOf (d0sx9 e z t k1 k2 k3 k4) 298) ∧
    faceOf (d0sx9 e z t k1 k2 k3 k4) 329 = listF [.str ⟨#[91, 70, 45, 90, 97, 45, 122, 48, 45, 57, 43, 47, 93]⟩ (tkAt (d0sx9 e z t k1 k2 k3 k4) 329 0), .str ⟨#[46]⟩ (tkAt (d0sx9 e z t k1 k2 k3 k4) 329 1), .str ⟨#[46]⟩ (tkAt (d0sx9 e z t k1 k2 k3 k4) 329 2), .str ⟨#[46]⟩ (tkAt (d0sx9 e z t k1 k2 k3 k4) 329 3)] (epOf (d0sx9 e z t k1 k2 k3 k4) 329) ∧
    faceOf (d0sx9 e z t k1 k2 k3 k4) 357 = listF [.str ⟨#[91, 50, 51, 93]⟩ (tkAt (d0sx9 e z t k1 k2 k3 k4) 357 0), .str ⟨#[46]⟩ (tkAt (d0sx9 e z t k1 k2 k3 k4) 357 1), .str ⟨#[46]⟩ (tkAt (d0sx9 e z t k1 k2 k3 k4) 357 2), .str ⟨#[61]⟩ (tkAt (d0sx9 e z t k1 k2 k3 k4) 357 3)] (epOf (d0sx9 e z t k1 k2 k3 k4) 357) ∧
    faceOf (d0sx9 e z t k1 k2 k3 k4) 253 = listF [.ref 256, .ref 298, .ref 329, .ref 357] (epOf (d0sx9 e z t k1 k2 k3 k4) 253) ∧
    (faceOf (d0sx9 e z t k1 k2 k3 k4) 242).map (·.data) = some (.cell (some (.ref 253))) ∧
    (faceOf (d0sx9 e z t k1 k2 k3 k4) 243).map (·.data) = some (.cell none) ∧
    (d0sx9 e z t k1 k2 k3 k4).tree.get 240 = some (lsO e.vs) ∧
    (faceOf (d0sx9 e z t k1 k2 k3 k4) 241).map (·.data) = some (.dict (esOf (d0sx9 e z t k1 k2 k3 k4) 241) (epOf (d0sx9 e z t k1 k2 k3 k4) 241)) ∧
    (esOf (d0sx9 e z t k1 k2 k3 k4) 241).toList.map (fun x => (x.key, x.val)) = [(.str ⟨#[115, 99, 114, 105, 112, 116]⟩ (keyTok (d0sx9 e z t k1 k2 k3 k4) 241 0), .ref 240), (.str ⟨#[100, 114, 101, 115, 115]⟩ (keyTok (d0sx9 e z t k1 k2 k3 k4) 241 1), .int 0 (e.tk1 + 1))] ∧
    spent (d0sx9 e z t k1 k2 k3 k4).gens = true ∧
    oldL.map (d0sx9 e z t k1 k2 k3 k4).tree.get = oldL.map (old0 e).get ∧
    tab3 (d0sx9 e z t k1 k2 k3 k4) 196 = true ∧
    (d0tx9 e z t k1 k2 k3 k4) = atFor e (d0tx9 e z t k1 k2 k3 k4).pos
set_option maxHeartbeats 0 in
theorem d0_eqs (e : Env1) (z : Int) (t : Tok) (k1 : Nat) (k2 : Nat) (k3 : Nat) (k4 : Nat) : d0S1 e z t ∧ d0S2 e z t ∧ d0S3 e z t k1 ∧ d0S4 e z t k1 ∧ d0S5 e z t k1 k2 ∧ d0S6 e z t k1 k2 ∧ d0S7 e z t k1 k2 k3 ∧ d0S8 e z t k1 k2 k3 k4 ∧ d0S9 e z t k1 k2 k3 k4 := by
  refine ⟨⟨?_, ?_, ?_, ?_, ?_, ?_⟩, ⟨?_, ?_, ?_, ?_, ?_, ?_⟩, ⟨?_, ?_, ?_, ?_, ?_, ?_⟩, ⟨?_, ?_, ?_, ?_, ?_, ?_⟩, ⟨?_, ?_, ?_, ?_, ?_, ?_⟩, ⟨?_, ?_, ?_, ?_, ?_, ?_⟩, ⟨?_, ?_, ?_, ?_, ?_, ?_⟩, ⟨?_, ?_, ?_, ?_, ?_, ?_⟩, ⟨?_, ?_, ?_, ?_, ?_, ?_, ?_, ?_, ?_, ?_, ?_, ?_, ?_, ?_, ?_, ?_, ?_⟩⟩ <;> kernel_rfl
end Mine
end K8d0_text
section K14d0_text
open PySem PySem.W PyProof.Rows
namespace Mine
theorem d0_g1 (e : Env1) (z : Int) (t : Tok) : d0S1 e z t := (d0_eqs e z t 0 0 0 0).1
theorem d0_g2 (e : Env1) (z : Int) (t : Tok) : d0S2 e z t := (d0_eqs e z t 0 0 0 0).2.1
theorem d0_g3 (e : Env1) (z : Int) (t : Tok) (k1 : Nat) : d0S3 e z t k1 := (d0_eqs e z t k1 0 0 0).2.2.1
theorem d0_g4 (e : Env1) (z : Int) (t : Tok) (k1 : Nat) : d0S4 e z t k1 := (d0_eqs e z t k1 0 0 0).2.2.2.1
theorem d0_g5 (e : Env1) (z : Int) (t : Tok) (k1 : Nat) (k2 : Nat) : d0S5 e z t k1 k2 := (d0_eqs e z t k1 k2 0 0).2.2.2.2.1
theorem d0_g6 (e : Env1) (z : Int) (t : Tok) (k1 : Nat) (k2 : Nat) : d0S6 e z t k1 k2 := (d0_eqs e z t k1 k2 0 0).2.2.2.2.2.1
theorem d0_g7 (e : Env1) (z : Int) (t : Tok) (k1 : Nat) (k2 : Nat) (k3 : Nat) : d0S7 e z t k1 k2 k3 := (d0_eqs e z t k1 k2 k3 0).2.2.2.2.2.2.1
theorem d0_g8 (e : Env1) (z : Int) (t : Tok) (k1 : Nat) (k2 : Nat) (k3 : Nat) (k4 : Nat) : d0S8 e z t k1 k2 k3 k4 := (d0_eqs e z t k1 k2 k3 k4).2.2.2.2.2.2.2.1
theorem d0_g9 (e : Env1) (z : Int) (t : Tok) (k1 : Nat) (k2 : Nat) (k3 : Nat) (k4 : Nat) : d0S9 e z t k1 k2 k3 k4 := (d0_eqs e z t k1 k2 k3 k4).2.2.2.2.2.2.2.2
set_option maxHeartbeats 4000000 in
theorem d0_chain (e : Env1) (z : Int) (t : Tok) {R : Result → Shared → Prop} (K : ∀ S p, ForSt e 0 (⟨#[65]⟩, ⟨#[78]⟩, ⟨#[91, 103, 45, 122, 48, 45, 57, 43, 47, 93]⟩, ⟨#[46]⟩) (⟨#[69]⟩, ⟨#[91, 81, 45, 90, 97, 45, 122, 48, 45, 57, 43, 47, 93]⟩, ⟨#[46]⟩, ⟨#[46]⟩) (⟨#[91, 70, 45, 90, 97, 45, 122, 48, 45, 57, 43, 47, 93]⟩, ⟨#[46]⟩, ⟨#[46]⟩, ⟨#[46]⟩) (⟨#[91, 50, 51, 93]⟩, ⟨#[46]⟩, ⟨#[46]⟩, ⟨#[61]⟩) S → Hal e.w S.abs (atFor e p) R) : Hal e.w (sD e).abs (thD e z t 0) R := by
  show Hal e.w (d0s0 e z t).abs (d0t0 e z t) R
  refine seg_go (n := 57) (s := d0s0 e z t) (t := d0t0 e z t) (s' := d0sx1 e z t) (t' := d0tx1 e z t) (some_of (a := sD e) (b := t0) (d0_g1 e z t).1) (d0_g1 e z t).2.1 ?_
  refine seg_C (S := d0sx1 e z t) (T := d0tx1 e z t) (s' := d0s1 e z t) (t' := d0t1 e z t) (some_of (a := sD e) (b := t0) (d0_g1 e z t).2.2.1) (d0_g1 e z t).2.2.2.1 (d0_g1 e z t).2.2.2.2.1 (d0_g1 e z t).2.2.2.2.2 ?_
  refine seg_go (n := 1654) (s := d0s1 e z t) (t := d0t1 e z t) (s' := d0sx2 e z t) (t' := d0tx2 e z t) (some_of (a := sD e) (b := t0) (d0_g2 e z t).1) (d0_g2 e z t).2.1 ?_
  refine seg_C (S := d0sx2 e z t) (T := d0tx2 e z t) (s' := d0s2 e z t) (t' := d0t2 e z t) (some_of (a := sD e) (b := t0) (d0_g2 e z t).2.2.1) (d0_g2 e z t).2.2.2.1 (d0_g2 e z t).2.2.2.2.1 (d0_g2 e z t).2.2.2.2.2 ?_
  refine seg_go (n := 360) (s := d0s2 e z t) (t := d0t2 e z t) (s' := d0sx3 e z t) (t' := d0tx3 e z t) (some_of (a := sD e) (b := t0) (d0_g3 e z t 0).1) (d0_g3 e z t 0).2.1 ?_
  refine seg_F (S := d0sx3 e z t) (T := d0tx3 e z t) (sf := d0s3 e z t) (tf := d0t3 e z t) (fun k => some_of (a := sD e) (b := t0) (d0_g3 e z t k).2.2.1) (fun k => (d0_g3 e z t k).2.2.2.1) (fun k => (d0_g3 e z t k).2.2.2.2.1) (fun k => (d0_g3 e z t k).2.2.2.2.2) fun k1 => ?_
  refine seg_go (n := 1914) (s := d0s3 e z t k1) (t := d0t3 e z t k1) (s' := d0sx4 e z t k1) (t' := d0tx4 e z t k1) (some_of (a := sD e) (b := t0) (d0_g4 e z t k1).1) (d0_g4 e z t k1).2.1 ?_
  refine seg_C (S := d0sx4 e z t k1) (T := d0tx4 e z t k1) (s' := d0s4 e z t k1) (t' := d0t4 e z t k1) (some_of (a := sD e) (b := t0) (d0_g4 e z t k1).2.2.1) (d0_g4 e z t k1).2.2.2.1 (d0_g4 e z t k1).2.2.2.2.1 (d0_g4 e z t k1).2.2.2.2.2 ?_
  refine seg_go (n := 402) (s := d0s4 e z t k1) (t := d0t4 e z t k1) (s' := d0sx5 e z t k1) (t' := d0tx5 e z t k1) (some_of (a := sD e) (b := t0) (d0_g5 e z t k1 0).1) (d0_g5 e z t k1 0).2.1 ?_
  refine seg_F (S := d0sx5 e z t k1) (T := d0tx5 e z t k1) (sf := d0s5 e z t k1) (tf := d0t5 e z t k1) (fun k => some_of (a := sD e) (b := t0) (d0_g5 e z t k1 k).2.2.1) (fun k => (d0_g5 e z t k1 k).2.2.2.1) (fun k => (d0_g5 e z t k1 k).2.2.2.2.1) (fun k => (d0_g5 e z t k1 k).2.2.2.2.2) fun k2 => ?_
  refine seg_go (n := 1837) (s := d0s5 e z t k1 k2) (t := d0t5 e z t k1 k2) (s' := d0sx6 e z t k1 k2) (t' := d0tx6 e z t k1 k2) (some_of (a := sD e) (b := t0) (d0_g6 e z t k1 k2).1) (d0_g6 e z t k1 k2).2.1 ?_
  refine seg_C (S := d0sx6 e z t k1 k2) (T := d0tx6 e z t k1 k2) (s' := d0s6 e z t k1 k2) (t' := d0t6 e z t k1 k2) (some_of (a := sD e) (b := t0) (d0_g6 e z t k1 k2).2.2.1) (d0_g6 e z t k1 k2).2.2.2.1 (d0_g6 e z t k1 k2).2.2.2.2.1 (d0_g6 e z t k1 k2).2.2.2.2.2 ?_
  refine seg_go (n := 402) (s := d0s6 e z t k1 k2) (t := d0t6 e z t k1 k2) (s' := d0sx7 e z t k1 k2) (t' := d0tx7 e z t k1 k2) (some_of (a := sD e) (b := t0) (d0_g7 e z t k1 k2 0).1) (d0_g7 e z t k1 k2 0).2.1 ?_
  refine seg_F (S := d0sx7 e z t k1 k2) (T := d0tx7 e z t k1 k2) (sf := d0s7 e z t k1 k2) (tf := d0t7 e z t k1 k2) (fun k => some_of (a := sD e) (b := t0) (d0_g7 e z t k1 k2 k).2.2.1) (fun k => (d0_g7 e z t k1 k2 k).2.2.2.1) (fun k => (d0_g7 e z t k1 k2 k).2.2.2.2.1) (fun k => (d0_g7 e z t k1 k2 k).2.2.2.2.2) fun k3 => ?_
  refine seg_go (n := 886) (s := d0s7 e z t k1 k2 k3) (t := d0t7 e z t k1 k2 k3) (s' := d0sx8 e z t k1 k2 k3) (t' := d0tx8 e z t k1 k2 k3) (some_of (a := sD e) (b := t0) (d0_g8 e z t k1 k2 k3 0).1) (d0_g8 e z t k1 k2 k3 0).2.1 ?_
  refine seg_F (S := d0sx8 e z t k1 k2 k3) (T := d0tx8 e z t k1 k2 k3) (sf := d0s8 e z t k1 k2 k3) (tf := d0t8 e z t k1 k2 k3) (fun k => some_of (a := sD e) (b := t0) (d0_g8 e z t k1 k2 k3 k).2.2.1) (fun k => (d0_g8 e z t k1 k2 k3 k).2.2.2.1) (fun k => (d0_g8 e z t k1 k2 k3 k).2.2.2.2.1) (fun k => (d0_g8 e z t k1 k2 k3 k).2.2.2.2.2) fun k4 => ?_
  refine seg_go (n := 397) (s := d0s8 e z t k1 k2 k3 k4) (t := d0t8 e z t k1 k2 k3 k4) (s' := d0sx9 e z t k1 k2 k3 k4) (t' := d0tx9 e z t k1 k2 k3 k4) (some_of (a := sD e) (b := t0) (d0_g9 e z t k1 k2 k3 k4).1) (d0_g9 e z t k1 k2 k3 k4).2.1 ?_
  rw [(d0_g9 e z t k1 k2 k3 k4).2.2.2.2.2.2.2.2.2.2.2.2.2.2.2.2]
  have hn := (Prod.mk.inj (d0_g9 e z t k1 k2 k3 k4).2.2.1).1
  have hl := (Prod.mk.inj (Prod.mk.inj (d0_g9 e z t k1 k2 k3 k4).2.2.1).2).1
  have ho := (Prod.mk.inj (Prod.mk.inj (d0_g9 e z t k1 k2 k3 k4).2.2.1).2).2
  exact K _ _ ⟨hl, by rw [hn]; decide, ⟨_, _, _, _, _, (d0_g9 e z t k1 k2 k3 k4).2.2.2.2.2.2.2.1, ⟨by decide, by rw [hn]; decide, _, _, _, _, _, (d0_g9 e z t k1 k2 k3 k4).2.2.2.1⟩, ⟨by decide, by rw [hn]; decide, _, _, _, _, _, (d0_g9 e z t k1 k2 k3 k4).2.2.2.2.1⟩, ⟨by decide, by rw [hn]; decide, _, _, _, _, _, (d0_g9 e z t k1 k2 k3 k4).2.2.2.2.2.1⟩, ⟨by decide, by rw [hn]; decide, _, _, _, _, _, (d0_g9 e z t k1 k2 k3 k4).2.2.2.2.2.2.1⟩⟩, (d0_g9 e z t k1 k2 k3 k4).2.2.2.2.2.2.2.2.1, (d0_g9 e z t k1 k2 k3 k4).2.2.2.2.2.2.2.2.2.1, (d0_g9 e z t k1 k2 k3 k4).2.2.2.2.2.2.2.2.2.2.1, ⟨_, _, (d0_g9 e z t k1 k2 k3 k4).2.2.2.2.2.2.2.2.2.2.2.1, _, _, _, (d0_g9 e z t k1 k2 k3 k4).2.2.2.2.2.2.2.2.2.2.2.2.1⟩, (d0_g9 e z t k1 k2 k3 k4).2.2.2.2.2.2.2.2.2.2.2.2.2.1, (d0_g9 e z t k1 k2 k3 k4).2.2.2.2.2.2.2.2.2.2.2.2.2.2.1, (d0_g9 e z t k1 k2 k3 k4).2.2.2.2.2.2.2.2.2.2.2.2.2.2.2.1, ho⟩
end Mine
end K14d0_text
section K8d1_text
open PySem PySem.W PyProof.Rows
namespace Mine
noncomputable def d1s0 (e : Env1) (z : Int) (t : Tok) : SharedT := sD e
noncomputable def d1t0 (e : Env1) (z : Int) (t : Tok) : Thread := thD e z t 1
noncomputable def d1X1 (e : Env1) (z : Int) (t : Tok) := goSF e.w e.w 66 (d1s0 e z t) (d1t0 e z t)
noncomputable def d1sx1 (e : Env1) (z : Int) (t : Tok) : SharedT := fstO (d1X1 e z t).2 (sD e)
noncomputable def d1tx1 (e : Env1) (z : Int) (t : Tok) : Thread := sndO (d1X1 e z t).2 t0
noncomputable def d1Y1 (e : Env1) (z : Int) (t : Tok) := goSF e.w (e.w.withFollow rowC true) 3 (d1sx1 e z t) (d1tx1 e z t)
noncomputable def d1Z1 (e : Env1) (z : Int) (t : Tok) := goSF e.w (e.w.withFollow rowC false) 13 (d1sx1 e z t) (d1tx1 e z t)
noncomputable def d1s1 (e : Env1) (z : Int) (t : Tok) : SharedT := fstO (d1Y1 e z t).2 (sD e)
noncomputable def d1t1 (e : Env1) (z : Int) (t : Tok) : Thread := sndO (d1Y1 e z t).2 t0
noncomputable def d1X2 (e : Env1) (z : Int) (t : Tok) := goSF e.w e.w 1588 (d1s1 e z t) (d1t1 e z t)
noncomputable def d1sx2 (e : Env1) (z : Int) (t : Tok) : SharedT := fstO (d1X2 e z t).2 (sD e)
noncomputable def d1tx2 (e : Env1) (z : Int) (t : Tok) : Thread := sndO (d1X2 e z t).2 t0
noncomputable def d1Y2 (e : Env1) (z : Int) (t : Tok) := goSF e.w (e.w.withFollow rowC true) 3 (d1sx2 e z t) (d1tx2 e z t)
noncomputable def d1Z2 (e : Env1) (z : Int) (t : Tok) := goSF e.w (e.w.withFollow rowC false) 13 (d1sx2 e z t) (d1tx2 e z t)
noncomputable def d1s2 (e : Env1) (z : Int) (t : Tok) : SharedT := fstO (d1Y2 e z t).2 (sD e)
noncomputable def d1t2 (e : Env1) (z : Int) (t : Tok) : Thread := sndO (d1Y2 e z t).2 t0
noncomputable def d1X3 (e : Env1) (z : Int) (t : Tok) := goSF e.w e.w 359 (d1s2 e z t) (d1t2 e z t)
noncomputable def d1sx3 (e : Env1) (z : Int) (t : Tok) : SharedT := fstO (d1X3 e z t).2 (sD e)
noncomputable def d1tx3 (e : Env1) (z : Int) (t : Tok) : Thread := sndO (d1X3 e z t).2 t0
noncomputable def d1Y3 (e : Env1) (z : Int) (t : Tok) (k1 : Nat) := goSF e.w (e.w.withFollow rowF false) 3 { d1sx3 e z t with toks := k1 } (d1tx3 e z t)
noncomputable def d1Z3 (e : Env1) (z : Int) (t : Tok) (k1 : Nat) := goSF e.w (e.w.withFollow rowF true) 4 { d1sx3 e z t with toks := k1 } (d1tx3 e z t)
noncomputable def d1s3 (e : Env1) (z : Int) (t : Tok) (k1 : Nat) : SharedT := fstO (d1Y3 e z t k1).2 (sD e)
noncomputable def d1t3 (e : Env1) (z : Int) (t : Tok) (k1 : Nat) : Thread := sndO (d1Y3 e z t k1).2 t0
noncomputable def d1X4 (e : Env1) (z : Int) (t : Tok) (k1 : Nat) := goSF e.w e.w 1248 (d1s3 e z t k1) (d1t3 e z t k1)
noncomputable def d1sx4 (e : Env1) (z : Int) (t : Tok) (k1 : Nat) : SharedT := fstO (d1X4 e z t k1).2 (sD e)
noncomputable def d1tx4 (e : Env1) (z : Int) (t : Tok) (k1 : Nat) : Thread := sndO (d1X4 e z t k1).2 t0
noncomputable def d1Y4 (e : Env1) (z : Int) (t : Tok) (k1 : Nat) := goSF e.w (e.w.withFollow rowC true) 3 (d1sx4 e z t k1) (d1tx4 e z t k1)
noncomputable def d1Z4 (e : Env1) (z : Int) (t : Tok) (k1 : Nat) := goSF e.w (e.w.withFollow rowC false) 13 (d1sx4 e z t k1) (d1tx4 e z t k1)
noncomputable def d1s4 (e : Env1) (z : Int) (t : Tok) (k1 : Nat) : SharedT := fstO (d1Y4 e z t k1).2 (sD e)
noncomputable def d1t4 (e : Env1) (z : Int) (t : Tok) (k1 : Nat) : Thread := sndO (d1Y4 e z t k1).2 t0
noncomputable def d1X5 (e : Env1) (z : Int) (t : Tok) (k1 : Nat) := goSF e.w e.w 287 (d1s4 e z t k1) (d1t4 e z t k1)
noncomputable def d1sx5 (e : Env1) (z : Int) (t : Tok) (k1 : Nat) : SharedT := fstO (d1X5 e z t k1).2 (sD e)
noncomputable def d1tx5 (e : Env1) (z : Int) (t : Tok) (k1 : Nat) : Thread := sndO (d1X5 e z t k1).2 t0
noncomputable def d1Y5 (e : Env1) (z : Int) (t : Tok) (k1 : Nat) (k2 : Nat) := goSF e.w (e.w.withFollow rowF false) 3 { d1sx5 e z t k1 with toks := k2 } (d1tx5 e z t k1)
noncomputable def d1Z5 (e : Env1) (z : Int) (t : Tok) (k1 : Nat) (k2 : Nat) := goSF e.w (e.w.withFollow rowF true) 4 { d1sx5 e z t k1 with toks := k2 } (d1tx5 e z t k1)
noncomputable def d1s5 (e : Env1) (z : Int) (t : Tok) (k1 : Nat) (k2 : Nat) : SharedT := fstO (d1Y5 e z t k1 k2).2 (sD e)
noncomputable def d1t5 (e : Env1) (z : Int) (t : Tok) (k1 : Nat) (k2 : Nat) : Thread := sndO (d1Y5 e z t k1 k2).2 t0
noncomputable def d1X6 (e : Env1) (z : Int) (t : Tok) (k1 : Nat) (k2 : Nat) := goSF e.w e.w 1171 (d1s5 e z t k1 k2) (d1t5 e z t k1 k2)
noncomputable def d1sx6 (e : Env1) (z : Int) (t : Tok) (k1 : Nat) (k2 : Nat) : SharedT := fstO (d1X6 e z t k1 k2).2 (sD e)
noncomputable def d1tx6 (e : Env1) (z : Int) (t : Tok) (k1 : Nat) (k2 : Nat) : Thread := sndO (d1X6 e z t k1 k2).2 t0
noncomputable def d1Y6 (e : Env1) (z : Int) (t : Tok) (k1 : Nat) (k2 : Nat) := goSF e.w (e.w.withFollow rowC true) 3 (d1sx6 e z t k1 k2) (d1tx6 e z t k1 k2)
noncomputable def d1Z6 (e : Env1) (z : Int) (t : Tok) (k1 : Nat) (k2 : Nat) := goSF e.w (e.w.withFollow rowC false) 13 (d1sx6 e z t k1 k2) (d1tx6 e z t k1 k2)
noncomputable def d1s6 (e : Env1) (z : Int) (t : Tok) (k1 : Nat) (k2 : Nat) : SharedT := fstO (d1Y6 e z t k1 k2).2 (sD e)
noncomputable def d1t6 (e : Env1) (z : Int) (t : Tok) (k1 : Nat) (k2 : Nat) : Thread := sndO (d1Y6 e z t k1 k2).2 t0
noncomputable def d1X7 (e : Env1) (z : Int) (t : Tok) (k1 : Nat) (k2 : Nat) := goSF e.w e.w 287 (d1s6 e z t k1 k2) (d1t6 e z t k1 k2)
noncomputable def d1sx7 (e : Env1) (z : Int) (t : Tok) (k1 : Nat) (k2 : Nat) : SharedT := fstO (d1X7 e z t k1 k2).2 (sD e)
noncomputable def d1tx7 (e : Env1) (z : Int) (t : Tok) (k1 : Nat) (k2 : Nat) : Thread := sndO (d1X7 e z t k1 k2).2 t0
noncomputable def d1Y7 (e : Env1) (z : Int) (t : Tok) (k1 : Nat) (k2 : Nat) (k3 : Nat) := goSF e.w (e.w.withFollow rowF false) 3 { d1sx7 e z t k1 k2 with toks := k3 } (d1tx7 e z t k1 k2)
noncomputable def d1Z7 (e : Env1) (z : Int) (t : Tok) (k1 : Nat) (k2 : Nat) (k3 : Nat) := goSF e.w (e.w.withFollow rowF true) 4 { d1sx7 e z t k1 k2 with toks := k3 } (d1tx7 e z t k1 k2)
noncomputable def d1s7 (e : Env1) (z : Int) (t : Tok) (k1 : Nat) (k2 : Nat) (k3 : Nat) : SharedT := fstO (d1Y7 e z t k1 k2 k3).2 (sD e)
noncomputable def d1t7 (e : Env1) (z : Int) (t : Tok) (k1 : Nat) (k2 : Nat) (k3 : Nat) : Thread := sndO (d1Y7 e z t k1 k2 k3).2 t0
noncomputable def d1X8 (e : Env1) (z : Int) (t : Tok) (k1 : Nat) (k2 : Nat) (k3 : Nat) := goSF e.w e.w 2014 (d1s7 e z t k1 k2 k3) (d1t7 e z t k1 k2 k3)
noncomputable def d1sx8 (e : Env1) (z : Int) (t : Tok) (k1 : Nat) (k2 : Nat) (k3 : Nat) : SharedT := fstO (d1X8 e z t k1 k2 k3).2 (sD e)
noncomputable def d1tx8 (e : Env1) (z : Int) (t : Tok) (k1 : Nat) (k2 : Nat) (k3 : Nat) : Thread := sndO (d1X8 e z t k1 k2 k3).2 t0
noncomputable def d1Y8 (e : Env1) (z : Int) (t : Tok) (k1 : Nat) (k2 : Nat) (k3 : Nat) := goSF e.w (e.w.withFollow rowC true) 3 (d1sx8 e z t k1 k2 k3) (d1tx8 e z t k1 k2 k3)
noncomputable def d1Z8 (e : Env1) (z : Int) (t : Tok) (k1 : Nat) (k2 : Nat) (k3 : Nat) := goSF e.w (e.w.withFollow rowC false) 13 (d1sx8 e z t k1 k2 k3) (d1tx8 e z t k1 k2 k3)
noncomputable def d1s8 (e : Env1) (z : Int) (t : Tok) (k1 : Nat) (k2 : Nat) (k3 : Nat) : SharedT := fstO (d1Y8 e z t k1 k2 k3).2 (sD e)
noncomputable def d1t8 (e : Env1) (z : Int) (t : Tok) (k1 : Nat) (k2 : Nat) (k3 : Nat) : Thread := sndO (d1Y8 e z t k1 k2 k3).2 t0
noncomputable def d1X9 (e : Env1) (z : Int) (t : Tok) (k1 : Nat) (k2 : Nat) (k3 : Nat) := goSF e.w e.w 401 (d1s8 e z t k1 k2 k3) (d1t8 e z t k1 k2 k3)
noncomputable def d1sx9 (e : Env1) (z : Int) (t : Tok) (k1 : Nat) (k2 : Nat) (k3 : Nat) : SharedT := fstO (d1X9 e z t k1 k2 k3).2 (sD e)
noncomputable def d1tx9 (e : Env1) (z : Int) (t : Tok) (k1 : Nat) (k2 : Nat) (k3 : Nat) : Thread := sndO (d1X9 e z t k1 k2 k3).2 t0
noncomputable def d1Y9 (e : Env1) (z : Int) (t : Tok) (k1 : Nat) (k2 : Nat) (k3 : Nat) (k4 : Nat) := goSF e.w (e.w.withFollow rowF false) 3 { d1sx9 e z t k1 k2 k3 with toks := k4 } (d1tx9 e z t k1 k2 k3)
noncomputable def d1Z9 (e : Env1) (z : Int) (t : Tok) (k1 : Nat) (k2 : Nat) (k3 : Nat) (k4 : Nat) := goSF e.w (e.w.withFollow rowF true) 4 { d1sx9 e z t k1 k2 k3 with toks := k4 } (d1tx9 e z t k1 k2 k3)
noncomputable def d1s9 (e : Env1) (z : Int) (t : Tok) (k1 : Nat) (k2 : Nat) (k3 : Nat) (k4 : Nat) : SharedT := fstO (d1Y9 e z t k1 k2 k3 k4).2 (sD e)
noncomputable def d1t9 (e : Env1) (z : Int) (t : Tok) (k1 : Nat) (k2 : Nat) (k3 : Nat) (k4 : Nat) : Thread := sndO (d1Y9 e z t k1 k2 k3 k4).2 t0
noncomputable def d1X10 (e : Env1) (z : Int) (t : Tok) (k1 : Nat) (k2 : Nat) (k3 : Nat) (k4 : Nat) := goSF e.w e.w 397 (d1s9 e z t k1 k2 k3 k4) (d1t9 e z t k1 k2 k3 k4)
noncomputable def d1sx10 (e : Env1) (z : Int) (t : Tok) (k1 : Nat) (k2 : Nat) (k3 : Nat) (k4 : Nat) : SharedT := fstO (d1X10 e z t k1 k2 k3 k4).2 (sD e)
noncomputable def d1tx10 (e : Env1) (z : Int) (t : Tok) (k1 : Nat) (k2 : Nat) (k3 : Nat) (k4 : Nat) : Thread := sndO (d1X10 e z t k1 k2 k3 k4).2 t0
noncomputable def d1S1 (e : Env1) (z : Int) (t : Tok) : Prop :=
    (d1X1 e z t).2.isSome = true ∧
    chkS e.w (d1X1 e z t) ∧
    (d1Y1 e z t).2.isSome = true ∧
    chkS (e.w.withFollow rowC true) (d1Y1 e z t) ∧
    (d1Z1 e z t).2 = some (d1s1 e z t, d1t1 e z t) ∧
    chkS (e.w.withFollow rowC false) (d1Z1 e z t)
noncomputable def d1S2 (e : Env1) (z : Int) (t : Tok) : Prop :=
    (d1X2 e z t).2.isSome = true ∧
    chkS e.w (d1X2 e z t) ∧
    (d1Y2 e z t).2.isSome = true ∧
    chkS (e.w.withFollow rowC true) (d1Y2 e z t) ∧
    (d1Z2 e z t).2 = some (d1s2 e z t, d1t2 e z t) ∧
    chkS (e.w.withFollow rowC false) (d1Z2 e z t)
noncomputable def d1S3 (e : Env1) (z : Int) (t : Tok) (k1 : Nat) : Prop :=
    (d1X3 e z t).2.isSome = true ∧
    chkS e.w (d1X3 e z t) ∧
    (d1Y3 e z t k1).2.isSome = true ∧
    chkS (e.w.withFollow rowF false) (d1Y3 e z t k1) ∧
    (d1Z3 e z t k1).2 = some (d1s3 e z t (k1 + 1), d1t3 e z t (k1 + 1)) ∧
    chkS (e.w.withFollow rowF true) (d1Z3 e z t k1)
noncomputable def d1S4 (e : Env1) (z : Int) (t : Tok) (k1 : Nat) : Prop :=
    (d1X4 e z t k1).2.isSome = true ∧
    chkS e.w (d1X4 e z t k1) ∧
    (d1Y4 e z t k1).2.isSome = true ∧
    chkS (e.w.withFollow rowC true) (d1Y4 e z t k1) ∧
    (d1Z4 e z t k1).2 = some (d1s4 e z t k1, d1t4 e z t k1) ∧
    chkS (e.w.withFollow rowC false) (d1Z4 e z t k1)
noncomputable def d1S5 (e : Env1) (z : Int) (t : Tok) (k1 : Nat) (k2 : Nat) : Prop :=
    (d1X5 e z t k1).2.isSome = true ∧
    chkS e.w (d1X5 e z t k1) ∧
    (d1Y5 e z t k1 k2).2.isSome = true ∧
    chkS (e.w.withFollow rowF false) (d1Y5 e z t k1 k2) ∧
    (d1Z5 e z t k1 k2).2 = some (d1s5 e z t k1 (k2 + 1), d1t5 e z t k1 (k2 + 1)) ∧
    chkS (e.w.withFollow rowF true) (d1Z5 e z t k1 k2)
noncomputable def d1S6 (e : Env1) (z : Int) (t : Tok) (k1 : Nat) (k2 : Nat) : Prop :=
    (d1X6 e z t k1 k2).2.isSome = true ∧
    chkS e.w (d1X6 e z t k1 k2) ∧
    (d1Y6 e z t k1 k2).2.isSome = true ∧
    chkS (e.w.withFollow rowC true) (d1Y6 e z t k1 k2) ∧
    (d1Z6 e z t k1 k2).2 = some (d1s6 e z t k1 k2, d1t6 e z t k1 k2) ∧
    chkS (e.w.withFollow rowC false) (d1Z6 e z t k1 k2)
noncomputable def d1S7 (e : Env1) (z : Int) (t : Tok) (k1 : Nat) (k2 : Nat) (k3 : Nat) : Prop :=
    (d1X7 e z t k1 k2).2.isSome = true ∧
    chkS e.w (d1X7 e z t k1 k2) ∧
    (d1Y7 e z t k1 k2 k3).2.isSome = true ∧
    chkS (e.w.withFollow rowF false) (d1Y7 e z t k1 k2 k3) ∧
    (d1Z7 e z t k1 k2 k3).2 = some (d1s7 e z t k1 k2 (k3 + 1), d1t7 e z t k1 k2 (k3 + 1)) ∧
    chkS (e.w.withFollow rowF true) (d1Z7 e z t k1 k2 k3)
noncomputable def d1S8 (e : Env1) (z : Int) (t : Tok) (k1 : Nat) (k2 : Nat) (k3 : Nat) : Prop :=
    (d1X8 e z t k1 k2 k3).2.isSome = true ∧
    chkS e.w (d1X8 e z t k1 k2 k3) ∧
    (d1Y8 e z t k1 k2 k3).2.isSome = true ∧
    chkS (e.w.withFollow rowC true) (d1Y8 e z t k1 k2 k3) ∧
    (d1Z8 e z t k1 k2 k3).2 = some (d1s8 e z t k1 k2 k3, d1t8 e z t k1 k2 k3) ∧
    chkS (e.w.withFollow rowC false) (d1Z8 e z t k1 k2 k3)
noncomputable def d1S9 (e : Env1) (z : Int) (t : Tok) (k1 : Nat) (k2 : Nat) (k3 : Nat) (k4 : Nat) : Prop :=
    (d1X9 e z t k1 k2 k3).2.isSome = true ∧
    chkS e.w (d1X9 e z t k1 k2 k3) ∧
    (d1Y9 e z t k1 k2 k3 k4).2.isSome = true ∧
    chkS (e.w.withFollow rowF false) (d1Y9 e z t k1 k2 k3 k4) ∧
    (d1Z9 e z t k1 k2 k3 k4).2 = some (d1s9 e z t k1 k2 k3 (k4 + 1), d1t9 e z t k1 k2 k3 (k4 + 1)) ∧
    chkS (e.w.withFollow rowF true) (d1Z9 e z t k1 k2 k3 k4)
noncomputable def d1S10 (e : Env1) (z : Int) (t : Tok) (k1 : Nat) (k2 : Nat) (k3 : Nat) (k4 : Nat) : Prop :=
    (d1X10 e z t k1 k2 k3 k4).2.isSome = true ∧
    chkS e.w (d1X10 e z t k1 k2 k3 k4) ∧
    ((d1sx10 e z t k1 k2 k3 k4).n, (d1sx10 e z t k1 k2 k3 k4).life, (d1sx10 e z t k1 k2 k3 k4).os) = (385, {}, e.os) ∧
    faceOf (d1sx10 e z t k1 k2 k3 k4) 256 = listF [.str ⟨#[65]⟩ (tkAt (d1sx10 e z t k1 k2 k3 k4) 256 0), .str ⟨#[78]⟩ (tkAt (d1sx10 e z t k1 k2 k3 k4) 256 1), .str ⟨#[91, 94, 65, 45, 90, 97, 45, 102, 93]⟩ (tkAt (d1sx10 e z t k1 k2 k3 k4) 256 2), .str ⟨#[46]⟩ (tkAt (d1sx10 e z t k1 k2 k3 k4) 256 3)] (epOf (d1sx10 e z t k1 k2 k3 k4) 256) ∧
    faceOf (d1sx10 e z t k1 k2 k3 k4) 298 = listF [.str ⟨#[69]⟩ (tkAt (d1sx10 e z t k1 k2 k3 k4) 298 0), .str ⟨#[91, 94, 65, 45, 80, 93]⟩ (tkAt (d1sx10 e z t k1 k2 k3 k4) 298 1), .str ⟨#[46]⟩ (tkAt (d1sx10 e z t k1 k2 k3 k4) 298 2), .str ⟨#[46]⟩ (tkAt (d1sx10 e z t k1 k2 k3 k4) 298 3)] (epOf (d1sx10 e z t k1 k2 k3 k4) 298) ∧
    faceOf (d1sx10 e z t k1 k2 k3 k4) 327 = listF [.str ⟨#[91, 94, 65, 45, 69, 93]⟩ (tkAt (d1sx10 e z t k1 k2 k3 k4) 327 0), .str ⟨#[46]⟩ (tkAt (d1sx10 e z t k1 k2 k3 k4) 327 1), .str ⟨#[46]⟩ (tkAt (d1sx10 e z t k1 k2 k3 k4) 327 2), .str ⟨#[46]⟩ (tkAt (d1sx10 e z t k1 k2 k3 k4) 327 3)] (epOf (d1sx10 e z t k1 k2 k3 k4) 327) ∧
    faceOf (d1sx10 e z t k1 k2 k3 k4) 353 = listF [.str ⟨#[91, 94, 65, 45, 90, 48, 49, 52, 45, 57, 97, 45, 122, 43, 47, 93]⟩ (tkAt (d1sx10 e z t k1 k2 k3 k4) 353 0), .str ⟨#[46]⟩ (tkAt (d1sx10 e z t k1 k2 k3 k4) 353 1), .str ⟨#[46]⟩ (tkAt (d1sx10 e z t k1 k2 k3 k4) 353 2), .str ⟨#[61]⟩ (tkAt (d1sx10 e z t k1 k2 k3 k4) 353 3)] (epOf (d1sx10 e z t k1 k2 k3 k4) 353) ∧
    faceOf (d1sx10 e z t k1 k2 k3 k4) 253 = listF [.ref 256, .ref 298, .ref 327, .ref 353] (epOf (d1sx10 e z t k1 k2 k3 k4) 253) ∧
    (faceOf (d1sx10 e z t k1 k2 k3 k4) 242).map (·.data) = some (.cell (some (.ref 253))) ∧
    (faceOf (d1sx10 e z t k1 k2 k3 k4) 243).map (·.data) = some (.cell none) ∧
    (d1sx10 e z t k1 k2 k3 k4).tree.get 240 = some (lsO e.vs) ∧
    (faceOf (d1sx10 e z t k1 k2 k3 k4) 241).map (·.data) = some (.dict (esOf (d1sx10 e z t k1 k2 k3 k4) 241) (epOf (d1sx10 e z t k1 k2 k3 k4) 241)) ∧
    (esOf (d1sx10 e z t k1 k2 k3 k4) 241).toList.map (fun x => (x.key, x.val)) = [(.str ⟨#[115, 99, 114, 105, 112, 116]⟩ (keyTok (d1sx10 e z t k1 k2 k3 k4) 241 0), .ref 240), (.str ⟨#[100, 114, 101, 115, 115]⟩ (keyTok (d1sx10 e z t k1 k2 k3 k4) 241 1), .int 1 (e.tk1 + 1))] ∧
    spent (d1sx10 e z t k1 k2 k3 k4).gens = true ∧
    oldL.map (d1sx10 e z t k1 k2 k3 k4).tree.get = oldL.map (old0 e).get ∧
    tab3 (d1sx10 e z t k1 k2 k3 k4) 196 = true ∧
    (d1tx10 e z t k1 k2 k3 k4) = atFor e (d1tx10 e z t k1 k2 k3 k4).pos
set_option maxHeartbeats 0 in
theorem d1_eqs (e : Env1) (z : Int) (t : Tok) (k1 : Nat) (k2 : Nat) (k3 : Nat) (k4 : Nat) : d1S1 e z t ∧ d1S2 e z t ∧ d1S3 e z t k1 ∧ d1S4 e z t k1 ∧ d1S5 e z t k1 k2 ∧ d1S6 e z t k1 k2 ∧ d1S7 e z t k1 k2 k3 ∧ d1S8 e z t k1 k2 k3 ∧ d1S9 e z t k1 k2 k3 k4 ∧ d1S10 e z t k1 k2 k3 k4 := by
  refine ⟨⟨?_, ?_, ?_, ?_, ?_, ?_⟩, ⟨?_, ?_, ?_, ?_, ?_, ?_⟩, ⟨?_, ?_, ?_, ?_, ?_, ?_⟩, ⟨?_, ?_, ?_, ?_, ?_, ?_⟩, ⟨?_, ?_, ?_, ?_, ?_, ?_⟩, ⟨?_, ?_, ?_, ?_, ?_, ?_⟩, ⟨?_, ?_, ?_, ?_, ?_, ?_⟩, ⟨?_, ?_, ?_, ?_, ?_, ?_⟩, ⟨?_, ?_, ?_, ?_, ?_, ?_⟩, ⟨?_, ?_, ?_, ?_, ?_, ?_, ?_, ?_, ?_, ?_, ?_, ?_, ?_, ?_, ?_, ?_, ?_⟩⟩ <;> kernel_rfl
end Mine
end K8d1_text
section K14d1_text
open PySem PySem.W PyProof.Rows
namespace Mine
theorem d1_g1 (e : Env1) (z : Int) (t : Tok) : d1S1 e z t := (d1_eqs e z t 0 0 0 0).1
theorem d1_g2 (e : Env1) (z : Int) (t : Tok) : d1S2 e z t := (d1_eqs e z t 0 0 0 0).2.1
theorem d1_g3 (e : Env1) (z : Int) (t : Tok) (k1 : Nat) : d1S3 e z t k1 := (d1_eqs e z t k1 0 0 0).2.2.1
theorem d1_g4 (e : Env1) (z : Int) (t : Tok) (k1 : Nat) : d1S4 e z t k1 := (d1_eqs e z t k1 0 0 0).2.2.2.1
theorem d1_g5 (e : Env1) (z : Int) (t : Tok) (k1 : Nat) (k2 : Nat) : d1S5 e z t k1 k2 := (d1_eqs e z t k1 k2 0 0).2.2.2.2.1
theorem d1_g6 (e : Env1) (z : Int) (t : Tok) (k1 : Nat) (k2 : Nat) : d1S6 e z t k1 k2 := (d1_eqs e z t k1 k2 0 0).2.2.2.2.2.1
theorem d1_g7 (e : Env1) (z : Int) (t : Tok) (k1 : Nat) (k2 : Nat) (k3 : Nat) : d1S7 e z t k1 k2 k3 := (d1_eqs e z t k1 k2 k3 0).2.2.2.2.2.2.1
theorem d1_g8 (e : Env1) (z : Int) (t : Tok) (k1 : Nat) (k2 : Nat) (k3 : Nat) : d1S8 e z t k1 k2 k3 := (d1_eqs e z t k1 k2 k3 0).2.2.2.2.2.2.2.1
theorem d1_g9 (e : Env1) (z : Int) (t : Tok) (k1 : Nat) (k2 : Nat) (k3 : Nat) (k4 : Nat) : d1S9 e z t k1 k2 k3 k4 := (d1_eqs e z t k1 k2 k3 k4).2.2.2.2.2.2.2.2.1
theorem d1_g10 (e : Env1) (z : Int) (t : Tok) (k1 : Nat) (k2 : Nat) (k3 : Nat) (k4 : Nat) : d1S10 e z t k1 k2 k3 k4 := (d1_eqs e z t k1 k2 k3 k4).2.2.2.2.2.2.2.2.2
set_option maxHeartbeats 4000000 in
theorem d1_chain (e : Env1) (z : Int) (t : Tok) {R : Result → Shared → Prop} (K : ∀ S p, ForSt e 1 (⟨#[65]⟩, ⟨#[78]⟩, ⟨#[91, 94, 65, 45, 90, 97, 45, 102, 93]⟩, ⟨#[46]⟩) (⟨#[69]⟩, ⟨#[91, 94, 65, 45, 80, 93]⟩, ⟨#[46]⟩, ⟨#[46]⟩) (⟨#[91, 94, 65, 45, 69, 93]⟩, ⟨#[46]⟩, ⟨#[46]⟩, ⟨#[46]⟩) (⟨#[91, 94, 65, 45, 90, 48, 49, 52, 45, 57, 97, 45, 122, 43, 47, 93]⟩, ⟨#[46]⟩, ⟨#[46]⟩, ⟨#[61]⟩) S → Hal e.w S.abs (atFor e p) R) : Hal e.w (sD e).abs (thD e z t 1) R := by
  show Hal e.w (d1s0 e z t).abs (d1t0 e z t) R
  refine seg_go (n := 66) (s := d1s0 e z t) (t := d1t0 e z t) (s' := d1sx1 e z t) (t' := d1tx1 e z t) (some_of (a := sD e) (b := t0) (d1_g1 e z t).1) (d1_g1 e z t).2.1 ?_
  refine seg_C (S := d1sx1 e z t) (T := d1tx1 e z t) (s' := d1s1 e z t) (t' := d1t1 e z t) (some_of (a := sD e) (b := t0) (d1_g1 e z t).2.2.1) (d1_g1 e z t).2.2.2.1 (d1_g1 e z t).2.2.2.2.1 (d1_g1 e z t).2.2.2.2.2 ?_
  refine seg_go (n := 1588) (s := d1s1 e z t) (t := d1t1 e z t) (s' := d1sx2 e z t) (t' := d1tx2 e z t) (some_of (a := sD e) (b := t0) (d1_g2 e z t).1) (d1_g2 e z t).2.1 ?_
  refine seg_C (S := d1sx2 e z t) (T := d1tx2 e z t) (s' := d1s2 e z t) (t' := d1t2 e z t) (some_of (a := sD e) (b := t0) (d1_g2 e z t).2.2.1) (d1_g2 e z t).2.2.2.1 (d1_g2 e z t).2.2.2.2.1 (d1_g2 e z t).2.2.2.2.2 ?_
  refine seg_go (n := 359) (s := d1s2 e z t) (t := d1t2 e z t) (s' := d1sx3 e z t) (t' := d1tx3 e z t) (some_of (a := sD e) (b := t0) (d1_g3 e z t 0).1) (d1_g3 e z t 0).2.1 ?_
  refine seg_F (S := d1sx3 e z t) (T := d1tx3 e z t) (sf := d1s3 e z t) (tf := d1t3 e z t) (fun k => some_of (a := sD e) (b := t0) (d1_g3 e z t k).2.2.1) (fun k => (d1_g3 e z t k).2.2.2.1) (fun k => (d1_g3 e z t k).2.2.2.2.1) (fun k => (d1_g3 e z t k).2.2.2.2.2) fun k1 => ?_
  refine seg_go (n := 1248) (s := d1s3 e z t k1) (t := d1t3 e z t k1) (s' := d1sx4 e z t k1) (t' := d1tx4 e z t k1) (some_of (a := sD e) (b := t0) (d1_g4 e z t k1).1) (d1_g4 e z t k1).2.1 ?_
  refine seg_C (S := d1sx4 e z t k1) (T := d1tx4 e z t k1) (s' := d1s4 e z t k1) (t' := d1t4 e z t k1) (some_of (a := sD e) (b := t0) (d1_g4 e z t k1).2.2.1) (d1_g4 e z t k1).2.2.2.1 (d1_g4 e z t k1).2.2.2.2.1 (d1_g4 e z t k1).2.2.2.2.2 ?_
  refine seg_go (n := 287) (s := d1s4 e z t k1) (t := d1t4 e z t k1) (s' := d1sx5 e z t k1) (t' := d1tx5 e z t k1) (some_of (a := sD e) (b := t0) (d1_g5 e z t k1 0).1) (d1_g5 e z t k1 0).2.1 ?_
  refine seg_F (S := d1sx5 e z t k1) (T := d1tx5 e z t k1) (sf := d1s5 e z t k1) (tf := d1t5 e z t k1) (fun k => some_of (a := sD e) (b := t0) (d1_g5 e z t k1 k).2.2.1) (fun k => (d1_g5 e z t k1 k).2.2.2.1) (fun k => (d1_g5 e z t k1 k).2.2.2.2.1) (fun k => (d1_g5 e z t k1 k).2.2.2.2.2) fun k2 => ?_
  refine seg_go (n := 1171) (s := d1s5 e z t k1 k2) (t := d1t5 e z t k1 k2) (s' := d1sx6 e z t k1 k2) (t' := d1tx6 e z t k1 k2) (some_of (a := sD e) (b := t0) (d1_g6 e z t k1 k2).1) (d1_g6 e z t k1 k2).2.1 ?_
  refine seg_C (S := d1sx6 e z t k1 k2) (T := d1tx6 e z t k1 k2) (s' := d1s6 e z t k1 k2) (t' := d1t6 e z t k1 k2) (some_of (a := sD e) (b := t0) (d1_g6 e z t k1 k2).2.2.1) (d1_g6 e z t k1 k2).2.2.2.1 (d1_g6 e z t k1 k2).2.2.2.2.1 (d1_g6 e z t k1 k2).2.2.2.2.2 ?_
  refine seg_go (n := 287) (s := d1s6 e z t k1 k2) (t := d1t6 e z t k1 k2) (s' := d1sx7 e z t k1 k2) (t' := d1tx7 e z t k1 k2) (some_of (a := sD e) (b := t0) (d1_g7 e z t k1 k2 0).1) (d1_g7 e z t k1 k2 0).2.1 ?_
  refine seg_F (S := d1sx7 e z t k1 k2) (T := d1tx7 e z t k1 k2) (sf := d1s7 e z t k1 k2) (tf := d1t7 e z t k1 k2) (fun k => some_of (a := sD e) (b := t0) (d1_g7 e z t k1 k2 k).2.2.1) (fun k => (d1_g7 e z t k1 k2 k).2.2.2.1) (fun k => (d1_g7 e z t k1 k2 k).2.2.2.2.1) (fun k => (d1_g7 e z t k1 k2 k).2.2.2.2.2) fun k3 => ?_
  refine seg_go (n := 2014) (s := d1s7 e z t k1 k2 k3) (t := d1t7 e z t k1 k2 k3) (s' := d1sx8 e z t k1 k2 k3) (t' := d1tx8 e z t k1 k2 k3) (some_of (a := sD e) (b := t0) (d1_g8 e z t k1 k2 k3).1) (d1_g8 e z t k1 k2 k3).2.1 ?_
  refine seg_C (S := d1sx8 e z t k1 k2 k3) (T := d1tx8 e z t k1 k2 k3) (s' := d1s8 e z t k1 k2 k3) (t' := d1t8 e z t k1 k2 k3) (some_of (a := sD e) (b := t0) (d1_g8 e z t k1 k2 k3).2.2.1) (d1_g8 e z t k1 k2 k3).2.2.2.1 (d1_g8 e z t k1 k2 k3).2.2.2.2.1 (d1_g8 e z t k1 k2 k3).2.2.2.2.2 ?_
  refine seg_go (n := 401) (s := d1s8 e z t k1 k2 k3) (t := d1t8 e z t k1 k2 k3) (s' := d1sx9 e z t k1 k2 k3) (t' := d1tx9 e z t k1 k2 k3) (some_of (a := sD e) (b := t0) (d1_g9 e z t k1 k2 k3 0).1) (d1_g9 e z t k1 k2 k3 0).2.1 ?_
  refine seg_F (S := d1sx9 e z t k1 k2 k3) (T := d1tx9 e z t k1 k2 k3) (sf := d1s9 e z t k1 k2 k3) (tf := d1t9 e z t k1 k2 k3) (fun k => some_of (a := sD e) (b := t0) (d1_g9 e z t k1 k2 k3 k).2.2.1) (fun k => (d1_g9 e z t k1 k2 k3 k).2.2.2.1) (fun k => (d1_g9 e z t k1 k2 k3 k).2.2.2.2.1) (fun k => (d1_g9 e z t k1 k2 k3 k).2.2.2.2.2) fun k4 => ?_
  refine seg_go (n := 397) (s := d1s9 e z t k1 k2 k3 k4) (t := d1t9 e z t k1 k2 k3 k4) (s' := d1sx10 e z t k1 k2 k3 k4) (t' := d1tx10 e z t k1 k2 k3 k4) (some_of (a := sD e) (b := t0) (d1_g10 e z t k1 k2 k3 k4).1) (d1_g10 e z t k1 k2 k3 k4).2.1 ?_
  rw [(d1_g10 e z t k1 k2 k3 k4).2.2.2.2.2.2.2.2.2.2.2.2.2.2.2.2]
  have hn := (Prod.mk.inj (d1_g10 e z t k1 k2 k3 k4).2.2.1).1
  have hl := (Prod.mk.inj (Prod.mk.inj (d1_g10 e z t k1 k2 k3 k4).2.2.1).2).1
  have ho := (Prod.mk.inj (Prod.mk.inj (d1_g10 e z t k1 k2 k3 k4).2.2.1).2).2
  exact K _ _ ⟨hl, by rw [hn]; decide, ⟨_, _, _, _, _, (d1_g10 e z t k1 k2 k3 k4).2.2.2.2.2.2.2.1, ⟨by decide, by rw [hn]; decide, _, _, _, _, _, (d1_g10 e z t k1 k2 k3 k4).2.2.2.1⟩, ⟨by decide, by rw [hn]; decide, _, _, _, _, _, (d1_g10 e z t k1 k2 k3 k4).2.2.2.2.1⟩, ⟨by decide, by rw [hn]; decide, _, _, _, _, _, (d1_g10 e z t k1 k2 k3 k4).2.2.2.2.2.1⟩, ⟨by decide, by rw [hn]; decide, _, _, _, _, _, (d1_g10 e z t k1 k2 k3 k4).2.2.2.2.2.2.1⟩⟩, (d1_g10 e z t k1 k2 k3 k4).2.2.2.2.2.2.2.2.1, (d1_g10 e z t k1 k2 k3 k4).2.2.2.2.2.2.2.2.2.1, (d1_g10 e z t k1 k2 k3 k4).2.2.2.2.2.2.2.2.2.2.1, ⟨_, _, (d1_g10 e z t k1 k2 k3 k4).2.2.2.2.2.2.2.2.2.2.2.1, _, _, _, (d1_g10 e z t k1 k2 k3 k4).2.2.2.2.2.2.2.2.2.2.2.2.1⟩, (d1_g10 e z t k1 k2 k3 k4).2.2.2.2.2.2.2.2.2.2.2.2.2.1, (d1_g10 e z t k1 k2 k3 k4).2.2.2.2.2.2.2.2.2.2.2.2.2.2.1, (d1_g10 e z t k1 k2 k3 k4).2.2.2.2.2.2.2.2.2.2.2.2.2.2.2.1, ho⟩
end Mine
end K14d1_text
section Z3_text
open PySem PySem.W PySem.Spec PySem.Calls PyProof.Rows
namespace Mine
theorem hx_tabs (P : Params) (es : Array (Int × Value)) (n : Nat) (t : SetTable) (vs : Array Value) : ((HX P es n t).push (lsB vs)).get? 64 = some (tabObj #[]) ∧ ((HX P es n t).push (lsB vs)).get? 196 = some (tabObj #[]) :=
  ⟨Heap.get?_push_of_some _ (Prod.mk.inj (tab64 P es n t)).1, Heap.get?_push_of_some _ (Prod.mk.inj (tab64 P es n t)).2⟩
theorem grown {h h' : Heap} {c P : Addr} {ps : Array Value} (C : CodeHd h c P) (h0 : h.get? P = some (tabObj #[])) (h1 : h'.get? P = some (tabObj ps)) : asItWas h h' P (tabObj #[]) :=
  .inr (.inl ⟨(C.tab h0).isCodeTable, rfl, #[], ps, rfl, by rw [h1]; simp⟩)
theorem old_k (w : World) (es : Array (Int × Value)) (n : Nat) (t : SetTable) (vs : Array Value) {h' : Heap} (k : ∀ b o, (HH w.params es n t vs).get? b = some o → h'.get? b = some o) (h64 : ∃ ps, h'.get? 64 = some (tabObj ps)) (h196 : ∃ ps, h'.get? 196 = some (tabObj ps)) :
    OldK ((HX w.params es n t).push (lsB vs)) h' := by
  obtain ⟨g64, g196⟩ := hx_tabs w.params es n t vs
  obtain ⟨p1, h64⟩ := h64
  obtain ⟨p2, h196⟩ := h196
  have kx : (KX w.params).In ((HX w.params es n t).push (lsB vs)) := fun a o e => of_hideAll _ (kxH w es n t vs a o e)
  have main : ∀ b o, ((HX w.params es n t).push (lsB vs)).get? b = some o → asItWas ((HX w.params es n t).push (lsB vs)) h' b o ∧ ∃ o', h'.get? b = some o' := by
    intro b o e
    by_cases e1 : b = 64
    · subst e1
      obtain rfl := Option.some.inj (e.symm.trans g64)
      exact ⟨grown (hd_of kx) g64 h64, _, h64⟩
    · by_cases e2 : b = 196
      · subst e2
        obtain rfl := Option.some.inj (e.symm.trans g196)
        exact ⟨grown (hd2_of kx) g196 h196, _, h196⟩
      · have := k b o (hideAll_get _ e (by simp [e1, e2]))
        exact ⟨.inl this, _, this⟩
  exact ⟨fun b o e => (main b o e).1, fun b o e => (main b o e).2⟩
noncomputable abbrev lawC : ClaimW := PySem.Challenge.rw_in0263_01.row.toRowW.claim
theorem good_end {cl : Str → Option Addr} {mean : ExcName → Option Value} {ns : List Int} {s₁ s' : Shared} (k : OldK s₁.heap s'.heap) (ho : s'.os = s₁.os) (hg : AllBare s'.gens) :
    GoodWG lawC cl mean [ofPy (PyData.list (ns.map PyData.int))] s₁ (.ok (.ret (.bool true))) s' := by
  refine ⟨.inl ⟨_, .bool true, [], rfl, raisesW_false (by wrow_none_raised), by constructor, ?_, fun _ => ⟨by simp, by simp⟩⟩, k, ho, hg⟩
  wrow_post
end Mine
end Z3_text
section Z4_text
open PySem PySem.W PySem.Spec PySem.Calls PyProof.Rows
namespace Mine
noncomputable abbrev lawTree (vs : List Value) : Sem PySem.Fin := do match ← nsGet mainNs (Str.ofString "law") with
  | some f => do ret (← PySem.call f vs)
  | none => unsupported "claim.caller:no-such-global"
theorem law_at (P : Params) (es : Array (Int × Value)) (n : Nat) (t : SetTable) : (HX P es n t).nsMap mainGlobals (Str.ofString "law") = some (.ref 239) := by
  unfold HX
  kernel_rfl
theorem mod3 (z : Int) : Int.fmod z 3 = 0 ∨ Int.fmod z 3 = 1 ∨ Int.fmod z 3 = 2 := by
  have h1 := Int.fmod_nonneg_of_pos (a := z) (b := 3) (by decide)
  have h2 := Int.fmod_lt_of_pos (a := z) (b := 3) (by decide)
  omega
noncomputable def D2 : Prop := ∀ (e : Env1) (z : Int) (t : Tok) (R : Result → Shared → Prop), (∀ S p, ForSt e 2 (⟨#[65]⟩, ⟨#[78]⟩, ⟨#[91, 103, 45, 122, 48, 45, 57, 43, 47, 93]⟩, ⟨#[46]⟩) (⟨#[69]⟩, ⟨#[91, 81, 45, 90, 97, 45, 122, 48, 45, 57, 43, 47, 93]⟩, ⟨#[46]⟩, ⟨#[46]⟩) (⟨#[91, 70, 45, 90, 97, 45, 122, 48, 45, 57, 43, 47, 93]⟩, ⟨#[46]⟩, ⟨#[46]⟩, ⟨#[46]⟩) (⟨#[91, 50, 51, 93]⟩, ⟨#[46]⟩, ⟨#[46]⟩, ⟨#[61]⟩) S → Hal e.w S.abs (atFor e p) R) → Hal e.w (sD e).abs (thD e z t 2) R
theorem law_run (d2 : D2) {w : World} {s₀ s₁ : Shared} {ns : List Int} {vs : List Value} {as : List Addr} {R : WRecords} (Y : s₀.heap = YaR w) (hg : s₁.heap.Ns mainGlobals (s₀.heap.nsMap mainGlobals)) (hn : ns.length ≤ 63) (L : Laid R w s₀ s₁ [ofPy (PyData.list (ns.map PyData.int))] vs as) :
    Hal w s₁ ⟨lawTree vs, caC, default, []⟩ (fun res s' => GoodWG lawC (classAt s₀.heap) (ExcName.means s₀.heap) [ofPy (PyData.list (ns.map PyData.int))] s₁ res s') := by
  obtain ⟨es, n, t, I, hY⟩ := YaR_is w
  have h0 : s₀.heap = HX w.params es n t := Y.trans hY
  obtain ⟨rfl, us, hi, hs⟩ := laid_is L h0
  have hheap : s₁.heap = (HX w.params es n t).push (lsB us) := by
    rw [hs]
    exact absB w.params es n t us
  have hf : s₀.heap.nsMap mainGlobals (Str.ofString "law") = some (.ref 239) := by rw [h0]; exact law_at ..
  refine hal_tree (f := .ref 239) (R' := fun res s' => res = .ok (.ret (.bool true)) ∧ leftWithCleanup s'.gens = false ∧ GoodWG lawC (classAt s₀.heap) (ExcName.means s₀.heap) [ofPy (PyData.list (ns.map PyData.int))] s₁ (.ok (.ret (.bool true))) s') hg hf ?_ ?_
  · rintro r s' ⟨rfl, h1, h2⟩
    exact ⟨h1, _, rfl, h2⟩
  have hsz : us.size ≤ 63 := by
    have := hi.length
    simp at this
    omega
  revert hheap
  generalize hOld : (fun (h' : Heap) => OldK s₁.heap h') = Old
  generalize hG : (fun (s' : Shared) => GoodWG lawC (classAt s₀.heap) (ExcName.means s₀.heap) [ofPy (PyData.list (ns.map PyData.int))] s₁ (.ok (.ret (.bool true))) s') = G
  have end_ : ∀ s' : Shared, OldK s₁.heap s'.heap → s'.os = s₁.os → AllBare s'.gens → G s' := by
    intro s' h1 h2 h3
    subst hG
    exact good_end h1 h2 h3
  subst hOld
  intro hheap
  have fin : ∀ (e1 : Env1) (S : SharedT) (p : Pos) (r : Int) (p0 p1 p2 p3 : Row4), e1.toEnv0 = ⟨w, setO es n t, us, s₁.drawn, s₁.toks, s₁.os⟩ → ForSt e1 r p0 p1 p2 p3 S → (∀ x, Nonempty (XOk w p0 p1 p2 p3 x)) → Hal w S.abs (atFor e1 p) (fun res s' => res = .ok (.ret (.bool true)) ∧ leftWithCleanup s'.gens = false ∧ G s') := by
    intro e1 S p r p0 p1 p2 p3 he st X
    obtain ⟨e0, y, x246, x247, x248, x249, tk1, c1, q1⟩ := e1
    dsimp only at he
    subst he
    refine for_hal _ st (es := es) (n := n) (t := t) rfl I (ns := ns) hi (Nat.le_trans hsz (by decide)) X fun h' tk' k k64 k196 => ?_
    obtain ⟨gb, gl⟩ := gens_spent st.gens
    refine ⟨rfl, gl, end_ _ ?_ st.os gb⟩
    rw [hheap]
    exact old_k w es n t us k k64 k196
  have go : Hal w (S0 ⟨w, setO es n t, us, s₁.drawn, s₁.toks, s₁.os⟩).abs t0 (fun res s' => res = .ok (.ret (.bool true)) ∧ leftWithCleanup s'.gens = false ∧ G s') := by
    refine stage1 ⟨w, setO es n t, us, s₁.drawn, s₁.toks, s₁.os⟩ rfl (Nat.le_trans hsz (by decide)) (fun i v h => ?_) fun e1 z t' he => ?_
    · obtain ⟨z, t', rfl, _⟩ := IntsAre.at hi i v (by simpa using h)
      exact ⟨z, t', rfl⟩
    · have hw : w = e1.w := by rw [he]
      rcases mod3 z with h | h | h
      · rw [h]
        exact hw ▸ d0_chain e1 z t' fun S p st => hw ▸ fin e1 S p _ _ _ _ _ he st fun x => rows02 x
      · rw [h]
        exact hw ▸ d1_chain e1 z t' fun S p st => hw ▸ fin e1 S p _ _ _ _ _ he st fun x => rows1 x
      · rw [h]
        exact hw ▸ d2 e1 z t' _ fun S p st => hw ▸ fin e1 S p _ _ _ _ _ he st fun x => rows02 x
  rw [← hs, show t0 = ⟨denote table cL, cL, default, [FL caC default]⟩ by unfold t0; rw [denF_eq]] at go
  subst hG
  exact go
end Mine
end Z4_text
section Z5_text
open PySem PySem.W PySem.Spec PySem.Calls PyProof.Rows
namespace Mine
theorem def_law : ∃ d kwd, defOf vR (Str.ofString "law") = some (d, kwd) ∧ pR.theDef (Str.ofString "law") = some (d.params, d.body, d.scope) ∧ kwWritten? d.params.kwonlyargs d.params.kw_defaults = some kwd := by
  have h1 : (defOf vR (Str.ofString "law")).isSome = true := by kernel_rfl
  have h2 : pR.theDef (Str.ofString "law") = (defOf vR (Str.ofString "law")).map fun x => (x.1.params, x.1.body, x.1.scope) := by kernel_rfl
  have h3 : ((defOf vR (Str.ofString "law")).bind fun x => kwWritten? x.1.params.kwonlyargs x.1.params.kw_defaults) = (defOf vR (Str.ofString "law")).map fun x => x.2 := by kernel_rfl
  obtain ⟨⟨d, kwd⟩, hd⟩ := Option.isSome_iff_exists.mp h1
  rw [hd] at h2 h3
  exact ⟨d, kwd, hd, h2, h3⟩
theorem well_said : OpenLaw.wellSaid PySem.Challenge.rw_in0263_01 = true := by rw [Fast.te9446332074065402090]; kernel_rfl
set_option maxHeartbeats 0 in
theorem holds_of (d2 : D2) : PySem.Challenge.rw_in0263_01.Holds := by
  refine holds_law well_said fun said => ?_
  refine ⟨by assumption, ?hw, open_at (r := PySem.Challenge.rw_in0263_01.row.toRowW) (tree := lawTree) (q := vR) (lo' := lo) (Xt := XtR) (XP := XL vR xlR) (Yf := fun s => s.heap) (Ya := YaR) (N := 6000) leftR (fun s e => xl_of s (Bool.and_eq_true_iff.mp e).1) (fun s e => recFacts_of (Bool.and_eq_true_iff.mp e).2) (by rfl) (by decide +kernel) ⟨rfl, rfl, rfl, rfl, rfl, by decide +kernel⟩ ?hw2 ?pin XL.keeps ?call⟩
  case hw => w_witness2
  case hw2 => w_witness2
  case pin =>
    intro w s hg G n hn
    obtain ⟨d, kwd, hdef, hp, hk⟩ := def_law
    obtain rfl : n = Str.ofString "law" := by
      split at hn
      · exact List.mem_singleton.mp hn
      · cases hn
    exact pinned_of_view hg G hdef hp hk
  case call =>
    intro w s₀ s₁ Y hg args vs as hpre hlay L
    obtain ⟨ns, rfl, hn⟩ := args_are hpre hlay
    exact law_run d2 Y hg hn L
end Mine
end Z5_text
section Z6_text
open PySem PySem.W PyProof.Rows
namespace Mine
theorem all_holds : PySem.Challenge.rw_in0263_01.Holds := holds_of fun e z t _ K => d2_chain e z t K
end Mine
end Z6_text
theorem PySem.Challenge.cw_in0263_01_holds : PySem.Challenge.rw_in0263_01.Holds :=
  Mine.all_holds
