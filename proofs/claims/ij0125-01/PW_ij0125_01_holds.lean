import PyProof.Rows.All
import Wide.All
import OpenK.AllK
import Wide.FinOn
import Lean
import PySem.Challenge.RW_ij0125_01
set_option Elab.async false
set_option maxRecDepth 100000
set_option maxHeartbeats 8000000
namespace Mine
section
open PySem PySem.W PySem.W.X PyProof.Rows
noncomputable def fnB : Stmt → List Stmt | .FunctionDef _ _ b _ _ _ _ _ _ _ => b | _ => []
noncomputable def fnP : Stmt → Arguments | .FunctionDef _ p _ _ _ _ _ _ _ _ => p | _ => { posonlyargs := [], args := [], vararg := none, kwonlyargs := [], kw_defaults := [], kwarg := none, defaults := [] }
noncomputable def fnS : Stmt → Scope | .FunctionDef _ _ _ _ _ _ s _ _ _ => s | _ => default
noncomputable def clB : Stmt → List Stmt | .ClassDef _ _ _ b _ _ _ _ _ _ _ => b | _ => []
noncomputable def stN (b : List Stmt) (i : Nat) : Stmt := b.getD i (.Pass default)
noncomputable def top : List Stmt := PySem.Challenge.pw_ij0125_01.main.body
noncomputable def st28 : Stmt := stN top 2
noncomputable def st35 : Stmt := stN top 3
noncomputable def st50 : Stmt := stN (clB (stN top 4)) 1
noncomputable def st57 : Stmt := stN (clB (stN top 4)) 2
noncomputable def st64 : Stmt := stN (clB (stN top 4)) 3
noncomputable def st82 : Stmt := stN top 6
noncomputable def st89 : Stmt := stN top 9
noncomputable def st96 : Stmt := stN top 10
noncomputable def st103 : Stmt := stN top 11
noncomputable def st110 : Stmt := stN top 13
noncomputable def st125 : Stmt := stN (clB (stN top 17)) 1
noncomputable def st162 : Stmt := stN (clB (stN top 19)) 0
noncomputable def st169 : Stmt := stN (clB (stN top 19)) 1
noncomputable def st176 : Stmt := stN (clB (stN top 19)) 2
noncomputable def st181 : Stmt := stN (clB (stN top 19)) 3
noncomputable def st188 : Stmt := stN (clB (stN top 19)) 4
noncomputable def st195 : Stmt := stN (clB (stN top 19)) 5
noncomputable def st209 : Stmt := stN (clB (stN top 19)) 7
noncomputable def st216 : Stmt := stN (clB (stN top 19)) 8
noncomputable def st237 : Stmt := stN top 21
noncomputable def st244 : Stmt := stN top 22
noncomputable def st249 : Stmt := stN top 23
noncomputable def st_wall : Stmt := stN top 0
noncomputable def st_bool : Stmt := stN (clB (stN top 19)) 6
noncomputable def st_so : Stmt := stN (clB (stN top 19)) 9
noncomputable def de (P : Params) (k : Str) (t : Nat) (v : Value) : DictEntry := ⟨PyData.keyHash P k, .str k t, v⟩
noncomputable def s0 : Str := ⟨#[95, 95, 110, 97, 109, 101, 95, 95]⟩
noncomputable def s2 : Str := ⟨#[95, 95, 100, 111, 99, 95, 95]⟩
noncomputable def s3 : Str := ⟨#[95, 95, 112, 97, 99, 107, 97, 103, 101, 95, 95]⟩
noncomputable def s4 : Str := ⟨#[95, 95, 108, 111, 97, 100, 101, 114, 95, 95]⟩
noncomputable def s5 : Str := ⟨#[95, 95, 115, 112, 101, 99, 95, 95]⟩
noncomputable def s160 : Str := ⟨#[95, 95, 109, 97, 105, 110, 95, 95]⟩
noncomputable def s161 : Str := ⟨#[108, 97, 119, 95, 105, 106, 48, 49, 50, 53, 95, 48, 49]⟩
noncomputable def s162 : Str := ⟨#[95, 95, 97, 110, 110, 111, 116, 97, 116, 105, 111, 110, 115, 95, 95]⟩
noncomputable def s163 : Str := ⟨#[95, 95, 98, 117, 105, 108, 116, 105, 110, 115, 95, 95]⟩
noncomputable def s164 : Str := ⟨#[95, 95, 102, 105, 108, 101, 95, 95]⟩
noncomputable def s165 : Str := ⟨#[47, 99, 108, 97, 105, 109, 47, 99, 117, 116, 46, 112, 121]⟩
noncomputable def s166 : Str := ⟨#[95, 95, 99, 97, 99, 104, 101, 100, 95, 95]⟩
noncomputable def s167 : Str := ⟨#[95, 119, 97, 108, 108]⟩
noncomputable def s168 : Str := ⟨#[95, 105, 115, 95, 105, 110, 116]⟩
noncomputable def s169 : Str := ⟨#[95, 119, 104, 111, 108, 101]⟩
noncomputable def s170 : Str := ⟨#[105, 115, 108, 105, 99, 101]⟩
noncomputable def s171 : Str := ⟨#[95, 112, 97, 114, 101, 110, 116, 115]⟩
noncomputable def s172 : Str := ⟨#[115, 101, 112]⟩
noncomputable def s173 : Str := ⟨#[47]⟩
noncomputable def s174 : Str := ⟨#[95, 107, 105, 110, 100]⟩
noncomputable def s175 : Str := ⟨#[95, 102, 115, 112, 97, 116, 104]⟩
noncomputable def s176 : Str := ⟨#[115, 112, 108, 105, 116]⟩
noncomputable def s177 : Str := ⟨#[95, 97, 110, 99, 101, 115, 116, 114, 121]⟩
noncomputable def s178 : Str := ⟨#[95, 78, 79, 68, 69, 95, 79, 85, 84]⟩
noncomputable def s179 : Str := ⟨#[95, 78, 79, 68, 69, 95, 68, 79, 78, 69]⟩
noncomputable def s180 : Str := ⟨#[95, 78, 111, 100, 101, 73, 110, 102, 111]⟩
noncomputable def s181 : Str := ⟨#[67, 121, 99, 108, 101, 69, 114, 114, 111, 114]⟩
noncomputable def s182 : Str := ⟨#[84, 111, 112, 111, 108, 111, 103, 105, 99, 97, 108, 83, 111, 114, 116, 101, 114]⟩
noncomputable def s183 : Str := ⟨#[95, 108, 97, 119, 95, 116, 114, 101, 101]⟩
noncomputable def s184 : Str := ⟨#[95, 108, 97, 119, 95, 119, 97, 108, 107]⟩
noncomputable def s185 : Str := ⟨#[108, 97, 119]⟩
noncomputable def s186 : Str := ⟨#[60, 109, 111, 100, 117, 108, 101, 62]⟩
noncomputable def s187 : Str := ⟨#[107]⟩
noncomputable def s188 : Str := ⟨#[120]⟩
noncomputable def s189 : Str := ⟨#[116]⟩
noncomputable def s190 : Str := ⟨#[105, 116, 101, 114, 116, 111, 111, 108, 115]⟩
noncomputable def s191 : Str := ⟨#[116, 111, 112]⟩
noncomputable def s192 : Str := ⟨#[119, 104, 97, 116]⟩
noncomputable def s193 : Str := ⟨#[95, 105, 116]⟩
noncomputable def s194 : Str := ⟨#[95, 110, 101, 120, 116]⟩
noncomputable def s195 : Str := ⟨#[95, 115, 116, 111, 112]⟩
noncomputable def s196 : Str := ⟨#[95, 115, 116, 101, 112]⟩
noncomputable def s197 : Str := ⟨#[95, 99, 110, 116]⟩
noncomputable def s198 : Str := ⟨#[115, 101, 108, 102]⟩
noncomputable def s199 : Str := ⟨#[105, 116, 101, 114, 97, 98, 108, 101]⟩
noncomputable def s200 : Str := ⟨#[97, 114, 103, 115]⟩
noncomputable def s201 : Str := ⟨#[97]⟩
noncomputable def s202 : Str := ⟨#[115, 116, 97, 114, 116]⟩
noncomputable def s203 : Str := ⟨#[115, 116, 111, 112]⟩
noncomputable def s204 : Str := ⟨#[115, 116, 101, 112]⟩
noncomputable def s205 : Str := ⟨#[97, 95, 115, 116, 111, 112]⟩
noncomputable def s206 : Str := ⟨#[95, 95, 105, 110, 105, 116, 95, 95]⟩
noncomputable def s207 : Str := ⟨#[105, 115, 108, 105, 99, 101, 46, 95, 95, 105, 110, 105, 116, 95, 95]⟩
noncomputable def s208 : Str := ⟨#[95, 95, 105, 116, 101, 114, 95, 95]⟩
noncomputable def s209 : Str := ⟨#[105, 115, 108, 105, 99, 101, 46, 95, 95, 105, 116, 101, 114, 95, 95]⟩
noncomputable def s210 : Str := ⟨#[105, 116]⟩
noncomputable def s211 : Str := ⟨#[105, 116, 101, 109]⟩
noncomputable def s212 : Str := ⟨#[95, 95, 110, 101, 120, 116, 95, 95]⟩
noncomputable def s213 : Str := ⟨#[105, 115, 108, 105, 99, 101, 46, 95, 95, 110, 101, 120, 116, 95, 95]⟩
noncomputable def s214 : Str := ⟨#[95, 95, 109, 111, 100, 117, 108, 101, 95, 95]⟩
noncomputable def s215 : Str := ⟨#[95, 95, 102, 105, 114, 115, 116, 108, 105, 110, 101, 110, 111, 95, 95]⟩
noncomputable def s216 : Str := ⟨#[95, 95, 115, 108, 111, 116, 115, 95, 95]⟩
noncomputable def s217 : Str := ⟨#[95, 95, 115, 116, 97, 116, 105, 99, 95, 97, 116, 116, 114, 105, 98, 117, 116, 101, 115, 95, 95]⟩
noncomputable def s218 : Str := ⟨#[112, 97, 116, 104]⟩
noncomputable def s219 : Str := ⟨#[99, 112, 121, 51, 49, 51, 46, 122, 105, 112, 102, 105, 108, 101, 46, 95, 112, 97, 116, 104]⟩
noncomputable def s220 : Str := ⟨#[110, 97, 109, 101]⟩
noncomputable def s221 : Str := ⟨#[112, 111, 115, 105, 120, 112, 97, 116, 104]⟩
noncomputable def s222 : Str := ⟨#[112]⟩
noncomputable def s223 : Str := ⟨#[105]⟩
noncomputable def s224 : Str := ⟨#[104, 101, 97, 100]⟩
noncomputable def s225 : Str := ⟨#[116, 97, 105, 108]⟩
noncomputable def s226 : Str := ⟨#[110, 111, 100, 101]⟩
noncomputable def s227 : Str := ⟨#[110, 112, 114, 101, 100, 101, 99, 101, 115, 115, 111, 114, 115]⟩
noncomputable def s228 : Str := ⟨#[115, 117, 99, 99, 101, 115, 115, 111, 114, 115]⟩
noncomputable def s229 : Str := ⟨#[95, 78, 111, 100, 101, 73, 110, 102, 111, 46, 95, 95, 105, 110, 105, 116, 95, 95]⟩
noncomputable def s230 : Str := ⟨#[99, 112, 121, 51, 49, 51, 46, 103, 114, 97, 112, 104, 108, 105, 98]⟩
noncomputable def s231 : Str := ⟨#[95, 95, 119, 101, 97, 107, 114, 101, 102, 95, 95]⟩
noncomputable def s232 : Str := ⟨#[103, 114, 97, 112, 104]⟩
noncomputable def s233 : Str := ⟨#[112, 114, 101, 100, 101, 99, 101, 115, 115, 111, 114, 115]⟩
noncomputable def s234 : Str := ⟨#[84, 111, 112, 111, 108, 111, 103, 105, 99, 97, 108, 83, 111, 114, 116, 101, 114, 46, 95, 95, 105, 110, 105, 116, 95, 95]⟩
noncomputable def s235 : Str := ⟨#[114, 101, 115, 117, 108, 116]⟩
noncomputable def s236 : Str := ⟨#[95, 103, 101, 116, 95, 110, 111, 100, 101, 105, 110, 102, 111]⟩
noncomputable def s237 : Str := ⟨#[84, 111, 112, 111, 108, 111, 103, 105, 99, 97, 108, 83, 111, 114, 116, 101, 114, 46, 95, 103, 101, 116, 95, 110, 111, 100, 101, 105, 110, 102, 111]⟩
noncomputable def s238 : Str := ⟨#[110, 111, 100, 101, 105, 110, 102, 111]⟩
noncomputable def s239 : Str := ⟨#[112, 114, 101, 100]⟩
noncomputable def s240 : Str := ⟨#[112, 114, 101, 100, 95, 105, 110, 102, 111]⟩
noncomputable def s241 : Str := ⟨#[97, 100, 100]⟩
noncomputable def s242 : Str := ⟨#[84, 111, 112, 111, 108, 111, 103, 105, 99, 97, 108, 83, 111, 114, 116, 101, 114, 46, 97, 100, 100]⟩
noncomputable def s243 : Str := ⟨#[112, 114, 101, 112, 97, 114, 101]⟩
noncomputable def s244 : Str := ⟨#[84, 111, 112, 111, 108, 111, 103, 105, 99, 97, 108, 83, 111, 114, 116, 101, 114, 46, 112, 114, 101, 112, 97, 114, 101]⟩
noncomputable def s245 : Str := ⟨#[110, 50, 105]⟩
noncomputable def s246 : Str := ⟨#[103, 101, 116, 95, 114, 101, 97, 100, 121]⟩
noncomputable def s247 : Str := ⟨#[84, 111, 112, 111, 108, 111, 103, 105, 99, 97, 108, 83, 111, 114, 116, 101, 114, 46, 103, 101, 116, 95, 114, 101, 97, 100, 121]⟩
noncomputable def s248 : Str := ⟨#[105, 115, 95, 97, 99, 116, 105, 118, 101]⟩
noncomputable def s249 : Str := ⟨#[84, 111, 112, 111, 108, 111, 103, 105, 99, 97, 108, 83, 111, 114, 116, 101, 114, 46, 105, 115, 95, 97, 99, 116, 105, 118, 101]⟩
noncomputable def s250 : Str := ⟨#[95, 95, 98, 111, 111, 108, 95, 95]⟩
noncomputable def s251 : Str := ⟨#[84, 111, 112, 111, 108, 111, 103, 105, 99, 97, 108, 83, 111, 114, 116, 101, 114, 46, 95, 95, 98, 111, 111, 108, 95, 95]⟩
noncomputable def s252 : Str := ⟨#[110, 111, 100, 101, 115]⟩
noncomputable def s253 : Str := ⟨#[115, 116, 97, 116]⟩
noncomputable def s254 : Str := ⟨#[115, 117, 99, 99, 101, 115, 115, 111, 114]⟩
noncomputable def s255 : Str := ⟨#[115, 117, 99, 99, 101, 115, 115, 111, 114, 95, 105, 110, 102, 111]⟩
noncomputable def s256 : Str := ⟨#[100, 111, 110, 101]⟩
noncomputable def s257 : Str := ⟨#[84, 111, 112, 111, 108, 111, 103, 105, 99, 97, 108, 83, 111, 114, 116, 101, 114, 46, 100, 111, 110, 101]⟩
noncomputable def s258 : Str := ⟨#[115, 116, 97, 99, 107]⟩
noncomputable def s259 : Str := ⟨#[105, 116, 115, 116, 97, 99, 107]⟩
noncomputable def s260 : Str := ⟨#[115, 101, 101, 110]⟩
noncomputable def s261 : Str := ⟨#[110, 111, 100, 101, 50, 115, 116, 97, 99, 107, 105]⟩
noncomputable def s262 : Str := ⟨#[95, 102, 105, 110, 100, 95, 99, 121, 99, 108, 101]⟩
noncomputable def s263 : Str := ⟨#[84, 111, 112, 111, 108, 111, 103, 105, 99, 97, 108, 83, 111, 114, 116, 101, 114, 46, 95, 102, 105, 110, 100, 95, 99, 121, 99, 108, 101]⟩
noncomputable def s264 : Str := ⟨#[115, 116, 97, 116, 105, 99, 95, 111, 114, 100, 101, 114]⟩
noncomputable def s265 : Str := ⟨#[84, 111, 112, 111, 108, 111, 103, 105, 99, 97, 108, 83, 111, 114, 116, 101, 114, 46, 115, 116, 97, 116, 105, 99, 95, 111, 114, 100, 101, 114]⟩
noncomputable def s266 : Str := ⟨#[95, 110, 102, 105, 110, 105, 115, 104, 101, 100]⟩
noncomputable def s267 : Str := ⟨#[95, 110, 111, 100, 101, 50, 105, 110, 102, 111]⟩
noncomputable def s268 : Str := ⟨#[95, 110, 112, 97, 115, 115, 101, 100, 111, 117, 116]⟩
noncomputable def s269 : Str := ⟨#[95, 114, 101, 97, 100, 121, 95, 110, 111, 100, 101, 115]⟩
noncomputable def s270 : Str := ⟨#[95, 95, 100, 105, 99, 116, 95, 95]⟩
noncomputable def s271 : Str := ⟨#[115, 99, 114, 105, 112, 116]⟩
noncomputable def s272 : Str := ⟨#[102, 105, 120, 101, 100]⟩
noncomputable def s273 : Str := ⟨#[112, 108, 97, 99, 101, 115]⟩
noncomputable def s274 : Str := ⟨#[97, 98, 111, 118, 101]⟩
noncomputable def s275 : Str := ⟨#[115, 108, 97, 115, 104, 101, 115]⟩
noncomputable def s276 : Str := ⟨#[111, 118, 101, 114]⟩
noncomputable def s277 : Str := ⟨#[115, 111, 114, 116, 101, 114]⟩
noncomputable def s278 : Str := ⟨#[112, 108, 97, 99, 101]⟩
noncomputable def s279 : Str := ⟨#[119, 97, 105, 116, 105, 110, 103]⟩
noncomputable def s280 : Str := ⟨#[119, 97, 108, 107]⟩
noncomputable def zo0 (P : Params) : Obj := W.boot_o_0 P
noncomputable def zo1 (P : Params) : Obj := W.boot_o_1 P
noncomputable def zo2 (P : Params) : Obj := W.boot_o_2 P
noncomputable def zo3 (P : Params) : Obj := (Obj.mk (Value.type "dict") none (Data.dict #[(de P s0 165 (Value.str s161 515)), (de P s2 166 Value.none), (de P s3 167 Value.none), (de P s4 168 (Value.builtin "__main__.__loader__#opaque")), (de P s5 169 Value.none), (de P s162 170 (Value.ref 6)), (de P s163 171 (Value.ref 4)), (de P s164 173 (Value.str s165 172)), (de P s166 174 Value.none), (de P s167 193 (Value.ref 21)), (de P s168 203 (Value.ref 28)), (de P s169 212 (Value.ref 35)), (de P s170 280 (Value.ref 68)), (de P s171 289 (Value.ref 82)), (de P s172 293 (Value.str s173 292)), (de P s174 302 (Value.ref 89)), (de P s175 311 (Value.ref 96)), (de P s176 322 (Value.ref 103)), (de P s177 332 (Value.ref 110)), (de P s178 337 (Value.int (@Neg.neg Int Int.instNegInt 1) 336)), (de P s179 340 (Value.int (@Neg.neg Int Int.instNegInt 2) 339)), (de P s180 377 (Value.ref 129)), (de P s181 395 (Value.ref 144)), (de P s182 514 (Value.ref 226)), (de P s183 530 (Value.ref 237)), (de P s184 541 (Value.ref 244)), (de P s185 547 (Value.ref 249))] 27) #[])
noncomputable def zo4 (P : Params) : Obj := W.boot_o_4 P
noncomputable def zo5 (P : Params) : Obj := W.boot_o_5 P
noncomputable def zo6 (P : Params) : Obj := W.boot_o_6 P
noncomputable def zo7 (P : Params) : Obj := W.boot_o_7 P
noncomputable def zo8 (P : Params) : Obj := W.boot_o_8 P
noncomputable def zo9 (P : Params) : Obj := W.boot_o_9 P
noncomputable def zo10 (P : Params) : Obj := W.boot_o_10 P
noncomputable def zo11 (P : Params) : Obj := (Obj.mk (Value.type "tuple") none (Data.seq #[] 0) #[])
noncomputable def zo12 (P : Params) : Obj := (Obj.mk Value.none none (Data.fields #[(Value.int 1 0), (Value.int 0 0), (Value.ref 20), (Value.int 5 0), (Value.int 0 0), (Value.ref 27), (Value.int 8 0), (Value.int 0 0), (Value.ref 34), (Value.int 13 0), (Value.int 0 0), (Value.ref 41), (Value.int 71 0), (Value.int 0 0), (Value.ref 81), (Value.int 75 0), (Value.int 0 0), (Value.ref 88), (Value.int 96 0), (Value.int 0 0), (Value.ref 95), (Value.int 101 0), (Value.int 0 0), (Value.ref 102), (Value.int 110 0), (Value.int 0 0), (Value.ref 109), (Value.int 118 0), (Value.int 0 0), (Value.ref 116), (Value.int 125 0), (Value.int 0 0), (Value.ref 140), (Value.int 127 0), (Value.int 0 0), (Value.ref 153), (Value.int 234 0), (Value.int 0 0), (Value.ref 236), (Value.int 249 0), (Value.int 0 0), (Value.ref 243), (Value.int 264 0), (Value.int 0 0), (Value.ref 248)]) #[])
noncomputable def zo13 (P : Params) : Obj := (Obj.mk (Value.type "code") none (Data.fields #[(Value.str s186 182), (Value.str s186 183), (Value.str s165 184), (Value.int 1 0), (Value.int 0 0), (Value.int 0 0), (Value.int 0 0), (Value.int 0 0), (Value.ref 11), (Value.bool false), (Value.int 181 0), (Value.ref 12), Value.none, Value.none, Value.none, Value.none, (Value.int 185 0), (Value.int 1 0), (Value.str s165 186)]) #[])
noncomputable def zo14 (P : Params) : Obj := (Obj.mk (Value.type "frame") none Data.plain #[(some (Value.ref 13)), (some (Value.ref 3)), (some (Value.ref 3)), none, (some (Value.str s160 164)), none, (some (Value.ref 0))])
noncomputable def zo15 (P : Params) : Obj := (Obj.mk (Value.type "tuple") none (Data.seq #[] 0) #[])
noncomputable def zo16 (P : Params) : Obj := (Obj.mk Value.none none (Data.fields #[]) #[])
noncomputable def zo17 (P : Params) : Obj := (Obj.mk (Value.type "tuple") none (Data.seq #[(Value.str s187 190)] 0) #[])
noncomputable def zo18 (P : Params) : Obj := (Obj.mk (Value.type "tuple") none (Data.seq #[] 0) #[])
noncomputable def zo19 (P : Params) : Obj := (Obj.mk Value.none none (Data.func (FuncData.mk s167 s167 (fnP st_wall) (.stmts (fnB st_wall)) (fnS st_wall) 0 [] Value.none Value.none Value.none Value.none none Value.none Value.none 0)) #[])
noncomputable def zo20 (P : Params) : Obj := (Obj.mk (Value.type "code") none (Data.fields #[(Value.str s167 187), (Value.str s167 188), (Value.str s165 189), (Value.int 1 0), (Value.int 1 0), (Value.int 0 0), (Value.int 0 0), (Value.int 3 0), (Value.ref 15), (Value.bool true), (Value.int 181 0), (Value.ref 16), Value.none, (Value.ref 17), (Value.ref 18), (Value.ref 19), (Value.int 191 0), (Value.int 1 0), (Value.str s165 192)]) #[])
noncomputable def zo21 (P : Params) : Obj := (Obj.mk (Value.type "function") none (Data.func (FuncData.mk s167 s167 (fnP st_wall) (.stmts (fnB st_wall)) (fnS st_wall) 3 [] Value.none Value.none Value.none (Value.str s160 164) none (Value.ref 20) Value.none 0)) #[])
noncomputable def zo22 (P : Params) : Obj := (Obj.mk (Value.type "tuple") none (Data.seq #[] 0) #[])
noncomputable def zo23 (P : Params) : Obj := (Obj.mk Value.none none (Data.fields #[]) #[])
noncomputable def zo24 (P : Params) : Obj := (Obj.mk (Value.type "tuple") none (Data.seq #[(Value.str s188 199), (Value.str s189 200)] 0) #[])
noncomputable def zo25 (P : Params) : Obj := (Obj.mk (Value.type "tuple") none (Data.seq #[] 0) #[])
noncomputable def zo26 (P : Params) : Obj := (Obj.mk Value.none none (Data.func (FuncData.mk s168 s168 (fnP st28) (.stmts (fnB st28)) (fnS st28) 0 [] Value.none Value.none Value.none Value.none none Value.none Value.none 0)) #[])
noncomputable def zo27 (P : Params) : Obj := (Obj.mk (Value.type "code") none (Data.fields #[(Value.str s168 196), (Value.str s168 197), (Value.str s165 198), (Value.int 5 0), (Value.int 1 0), (Value.int 0 0), (Value.int 0 0), (Value.int 3 0), (Value.ref 22), (Value.bool true), (Value.int 181 0), (Value.ref 23), Value.none, (Value.ref 24), (Value.ref 25), (Value.ref 26), (Value.int 201 0), (Value.int 5 0), (Value.str s165 202)]) #[])
noncomputable def zo28 (P : Params) : Obj := (Obj.mk (Value.type "function") none (Data.func (FuncData.mk s168 s168 (fnP st28) (.stmts (fnB st28)) (fnS st28) 3 [] Value.none Value.none Value.none (Value.str s190 194) none (Value.ref 27) Value.none 0)) #[])
noncomputable def zo29 (P : Params) : Obj := (Obj.mk (Value.type "tuple") none (Data.seq #[] 0) #[])
noncomputable def zo30 (P : Params) : Obj := (Obj.mk Value.none none (Data.fields #[]) #[])
noncomputable def zo31 (P : Params) : Obj := (Obj.mk (Value.type "tuple") none (Data.seq #[(Value.str s188 207), (Value.str s191 208), (Value.str s192 209)] 0) #[])
noncomputable def zo32 (P : Params) : Obj := (Obj.mk (Value.type "tuple") none (Data.seq #[] 0) #[])
noncomputable def zo33 (P : Params) : Obj := (Obj.mk Value.none none (Data.func (FuncData.mk s169 s169 (fnP st35) (.stmts (fnB st35)) (fnS st35) 0 [] Value.none Value.none Value.none Value.none none Value.none Value.none 0)) #[])
noncomputable def zo34 (P : Params) : Obj := (Obj.mk (Value.type "code") none (Data.fields #[(Value.str s169 204), (Value.str s169 205), (Value.str s165 206), (Value.int 8 0), (Value.int 3 0), (Value.int 0 0), (Value.int 0 0), (Value.int 3 0), (Value.ref 29), (Value.bool true), (Value.int 181 0), (Value.ref 30), Value.none, (Value.ref 31), (Value.ref 32), (Value.ref 33), (Value.int 210 0), (Value.int 8 0), (Value.str s165 211)]) #[])
noncomputable def zo35 (P : Params) : Obj := (Obj.mk (Value.type "function") none (Data.func (FuncData.mk s169 s169 (fnP st35) (.stmts (fnB st35)) (fnS st35) 3 [] Value.none Value.none Value.none (Value.str s190 194) none (Value.ref 34) Value.none 0)) #[])
noncomputable def zo43 (P : Params) : Obj := (Obj.mk (Value.type "tuple") none (Data.seq #[(Value.str s193 225), (Value.str s194 226), (Value.str s195 227), (Value.str s196 228), (Value.str s197 229)] 0) #[])
noncomputable def zo44 (P : Params) : Obj := (Obj.mk (Value.type "tuple") none (Data.seq #[] 0) #[])
noncomputable def zo45 (P : Params) : Obj := (Obj.mk Value.none none (Data.fields #[]) #[])
noncomputable def zo46 (P : Params) : Obj := (Obj.mk (Value.type "tuple") none (Data.seq #[(Value.str s198 234), (Value.str s199 235), (Value.str s200 236), (Value.str s201 237), (Value.str s202 238), (Value.str s203 239), (Value.str s204 240), (Value.str s205 241)] 0) #[])
noncomputable def zo47 (P : Params) : Obj := (Obj.mk (Value.type "tuple") none (Data.seq #[] 0) #[])
noncomputable def zo48 (P : Params) : Obj := (Obj.mk Value.none none (Data.func (FuncData.mk s206 s207 (fnP st50) (.stmts (fnB st50)) (fnS st50) 0 [] Value.none Value.none Value.none Value.none none Value.none Value.none 0)) #[])
noncomputable def zo49 (P : Params) : Obj := (Obj.mk (Value.type "code") none (Data.fields #[(Value.str s206 231), (Value.str s207 232), (Value.str s165 233), (Value.int 16 0), (Value.int 2 0), (Value.int 2 0), (Value.int 0 0), (Value.int 7 0), (Value.ref 44), (Value.bool true), (Value.int 181 0), (Value.ref 45), Value.none, (Value.ref 46), (Value.ref 47), (Value.ref 48), (Value.int 242 0), (Value.int 16 0), (Value.str s165 243)]) #[])
noncomputable def zo50 (P : Params) : Obj := (Obj.mk (Value.type "function") none (Data.func (FuncData.mk s206 s207 (fnP st50) (.stmts (fnB st50)) (fnS st50) 3 [] Value.none Value.none Value.none (Value.str s190 194) none (Value.ref 49) Value.none 0)) #[])
noncomputable def zo51 (P : Params) : Obj := (Obj.mk (Value.type "tuple") none (Data.seq #[] 0) #[])
noncomputable def zo52 (P : Params) : Obj := (Obj.mk Value.none none (Data.fields #[]) #[])
noncomputable def zo53 (P : Params) : Obj := (Obj.mk (Value.type "tuple") none (Data.seq #[(Value.str s198 248)] 0) #[])
noncomputable def zo54 (P : Params) : Obj := (Obj.mk (Value.type "tuple") none (Data.seq #[] 0) #[])
noncomputable def zo55 (P : Params) : Obj := (Obj.mk Value.none none (Data.func (FuncData.mk s208 s209 (fnP st57) (.stmts (fnB st57)) (fnS st57) 0 [] Value.none Value.none Value.none Value.none none Value.none Value.none 0)) #[])
noncomputable def zo56 (P : Params) : Obj := (Obj.mk (Value.type "code") none (Data.fields #[(Value.str s208 245), (Value.str s209 246), (Value.str s165 247), (Value.int 47 0), (Value.int 1 0), (Value.int 0 0), (Value.int 0 0), (Value.int 3 0), (Value.ref 51), (Value.bool true), (Value.int 181 0), (Value.ref 52), Value.none, (Value.ref 53), (Value.ref 54), (Value.ref 55), (Value.int 249 0), (Value.int 47 0), (Value.str s165 250)]) #[])
noncomputable def zo57 (P : Params) : Obj := (Obj.mk (Value.type "function") none (Data.func (FuncData.mk s208 s209 (fnP st57) (.stmts (fnB st57)) (fnS st57) 3 [] Value.none Value.none Value.none (Value.str s190 194) none (Value.ref 56) Value.none 0)) #[])
noncomputable def zo58 (P : Params) : Obj := (Obj.mk (Value.type "tuple") none (Data.seq #[] 0) #[])
noncomputable def zo59 (P : Params) : Obj := (Obj.mk Value.none none (Data.fields #[]) #[])
noncomputable def zo60 (P : Params) : Obj := (Obj.mk (Value.type "tuple") none (Data.seq #[(Value.str s198 255), (Value.str s210 256), (Value.str s203 257), (Value.str s211 258)] 0) #[])
noncomputable def zo61 (P : Params) : Obj := (Obj.mk (Value.type "tuple") none (Data.seq #[] 0) #[])
noncomputable def zo62 (P : Params) : Obj := (Obj.mk Value.none none (Data.func (FuncData.mk s212 s213 (fnP st64) (.stmts (fnB st64)) (fnS st64) 0 [] Value.none Value.none Value.none Value.none none Value.none Value.none 0)) #[])
noncomputable def zo63 (P : Params) : Obj := (Obj.mk (Value.type "code") none (Data.fields #[(Value.str s212 252), (Value.str s213 253), (Value.str s165 254), (Value.int 50 0), (Value.int 1 0), (Value.int 0 0), (Value.int 0 0), (Value.int 3 0), (Value.ref 58), (Value.bool true), (Value.int 181 0), (Value.ref 59), Value.none, (Value.ref 60), (Value.ref 61), (Value.ref 62), (Value.int 259 0), (Value.int 50 0), (Value.str s165 260)]) #[])
noncomputable def zo64 (P : Params) : Obj := (Obj.mk (Value.type "function") none (Data.func (FuncData.mk s212 s213 (fnP st64) (.stmts (fnB st64)) (fnS st64) 3 [] Value.none Value.none Value.none (Value.str s190 194) none (Value.ref 63) Value.none 0)) #[])
noncomputable def zo65 (P : Params) : Obj := (Obj.mk (Value.type "tuple") none (Data.seq #[(Value.str s197 262), (Value.str s193 263), (Value.str s194 264), (Value.str s196 265), (Value.str s195 266)] 0) #[])
noncomputable def zo67 (P : Params) : Obj := (Obj.mk (Value.type "dict") none (Data.dict #[(de P s214 220 (Value.str s190 194)), (de P s215 224 (Value.int 13 223)), (de P s216 230 (Value.ref 43)), (de P s206 244 (Value.ref 50)), (de P s208 251 (Value.ref 57)), (de P s212 261 (Value.ref 64)), (de P s217 267 (Value.ref 65)), (de P s197 269 (Value.ref 69)), (de P s193 271 (Value.ref 70)), (de P s194 273 (Value.ref 71)), (de P s196 275 (Value.ref 72)), (de P s195 277 (Value.ref 73)), (de P s2 278 Value.none)] 7) #[])
noncomputable def zo68 (P : Params) : Obj := (Obj.mk (Value.type "type") none (Data.cls (ClassData.mk s170 [(Value.type "object")] [(Value.ref 68), (Value.type "object")] 67 s170 false [s197, s193, s194, s196, s195] [] false none false)) #[none, none, (some (Value.str s170 213)), (some (Value.str s170 221)), (some (Value.builtin "object.__new__")), (some (Value.bool false))])
noncomputable def zo69 (P : Params) : Obj := (Obj.mk (Value.type "member_descriptor") none (Data.fields #[(Value.str s197 268), (Value.ref 68), (Value.builtin "proto.slot"), (Value.builtin "proto.slot#set"), (Value.int 4 0)]) #[])
noncomputable def zo70 (P : Params) : Obj := (Obj.mk (Value.type "member_descriptor") none (Data.fields #[(Value.str s193 270), (Value.ref 68), (Value.builtin "proto.slot"), (Value.builtin "proto.slot#set"), (Value.int 3 0)]) #[])
noncomputable def zo71 (P : Params) : Obj := (Obj.mk (Value.type "member_descriptor") none (Data.fields #[(Value.str s194 272), (Value.ref 68), (Value.builtin "proto.slot"), (Value.builtin "proto.slot#set"), (Value.int 2 0)]) #[])
noncomputable def zo72 (P : Params) : Obj := (Obj.mk (Value.type "member_descriptor") none (Data.fields #[(Value.str s196 274), (Value.ref 68), (Value.builtin "proto.slot"), (Value.builtin "proto.slot#set"), (Value.int 1 0)]) #[])
noncomputable def zo73 (P : Params) : Obj := (Obj.mk (Value.type "member_descriptor") none (Data.fields #[(Value.str s195 276), (Value.ref 68), (Value.builtin "proto.slot"), (Value.builtin "proto.slot#set"), (Value.int 0 0)]) #[])
noncomputable def zo76 (P : Params) : Obj := (Obj.mk (Value.type "tuple") none (Data.seq #[] 0) #[])
noncomputable def zo77 (P : Params) : Obj := (Obj.mk Value.none none (Data.fields #[]) #[])
noncomputable def zo78 (P : Params) : Obj := (Obj.mk (Value.type "tuple") none (Data.seq #[(Value.str s218 286)] 0) #[])
noncomputable def zo79 (P : Params) : Obj := (Obj.mk (Value.type "tuple") none (Data.seq #[] 0) #[])
noncomputable def zo80 (P : Params) : Obj := (Obj.mk Value.none none (Data.func (FuncData.mk s171 s171 (fnP st82) (.stmts (fnB st82)) (fnS st82) 0 [] Value.none Value.none Value.none Value.none none Value.none Value.none 0)) #[])
noncomputable def zo81 (P : Params) : Obj := (Obj.mk (Value.type "code") none (Data.fields #[(Value.str s171 283), (Value.str s171 284), (Value.str s165 285), (Value.int 71 0), (Value.int 1 0), (Value.int 0 0), (Value.int 0 0), (Value.int 3 0), (Value.ref 76), (Value.bool true), (Value.int 181 0), (Value.ref 77), Value.none, (Value.ref 78), (Value.ref 79), (Value.ref 80), (Value.int 287 0), (Value.int 71 0), (Value.str s165 288)]) #[])
noncomputable def zo82 (P : Params) : Obj := (Obj.mk (Value.type "function") none (Data.func (FuncData.mk s171 s171 (fnP st82) (.stmts (fnB st82)) (fnS st82) 3 [] Value.none Value.none Value.none (Value.str s219 281) none (Value.ref 81) Value.none 0)) #[])
noncomputable def zo83 (P : Params) : Obj := (Obj.mk (Value.type "tuple") none (Data.seq #[] 0) #[])
noncomputable def zo84 (P : Params) : Obj := (Obj.mk Value.none none (Data.fields #[]) #[])
noncomputable def zo85 (P : Params) : Obj := (Obj.mk (Value.type "tuple") none (Data.seq #[(Value.str s220 297), (Value.str s188 298), (Value.str s189 299)] 0) #[])
noncomputable def zo86 (P : Params) : Obj := (Obj.mk (Value.type "tuple") none (Data.seq #[] 0) #[])
noncomputable def zo87 (P : Params) : Obj := (Obj.mk Value.none none (Data.func (FuncData.mk s174 s174 (fnP st89) (.stmts (fnB st89)) (fnS st89) 0 [] Value.none Value.none Value.none Value.none none Value.none Value.none 0)) #[])
noncomputable def zo88 (P : Params) : Obj := (Obj.mk (Value.type "code") none (Data.fields #[(Value.str s174 294), (Value.str s174 295), (Value.str s165 296), (Value.int 75 0), (Value.int 2 0), (Value.int 0 0), (Value.int 0 0), (Value.int 3 0), (Value.ref 83), (Value.bool true), (Value.int 181 0), (Value.ref 84), Value.none, (Value.ref 85), (Value.ref 86), (Value.ref 87), (Value.int 300 0), (Value.int 75 0), (Value.str s165 301)]) #[])
noncomputable def zo89 (P : Params) : Obj := (Obj.mk (Value.type "function") none (Data.func (FuncData.mk s174 s174 (fnP st89) (.stmts (fnB st89)) (fnS st89) 3 [] Value.none Value.none Value.none (Value.str s221 290) none (Value.ref 88) Value.none 0)) #[])
noncomputable def zo90 (P : Params) : Obj := (Obj.mk (Value.type "tuple") none (Data.seq #[] 0) #[])
noncomputable def zo91 (P : Params) : Obj := (Obj.mk Value.none none (Data.fields #[]) #[])
noncomputable def zo92 (P : Params) : Obj := (Obj.mk (Value.type "tuple") none (Data.seq #[(Value.str s220 306), (Value.str s188 307), (Value.str s187 308)] 0) #[])
noncomputable def zo93 (P : Params) : Obj := (Obj.mk (Value.type "tuple") none (Data.seq #[] 0) #[])
noncomputable def zo94 (P : Params) : Obj := (Obj.mk Value.none none (Data.func (FuncData.mk s175 s175 (fnP st96) (.stmts (fnB st96)) (fnS st96) 0 [] Value.none Value.none Value.none Value.none none Value.none Value.none 0)) #[])
noncomputable def zo95 (P : Params) : Obj := (Obj.mk (Value.type "code") none (Data.fields #[(Value.str s175 303), (Value.str s175 304), (Value.str s165 305), (Value.int 96 0), (Value.int 2 0), (Value.int 0 0), (Value.int 0 0), (Value.int 3 0), (Value.ref 90), (Value.bool true), (Value.int 181 0), (Value.ref 91), Value.none, (Value.ref 92), (Value.ref 93), (Value.ref 94), (Value.int 309 0), (Value.int 96 0), (Value.str s165 310)]) #[])
noncomputable def zo96 (P : Params) : Obj := (Obj.mk (Value.type "function") none (Data.func (FuncData.mk s175 s175 (fnP st96) (.stmts (fnB st96)) (fnS st96) 3 [] Value.none Value.none Value.none (Value.str s221 290) none (Value.ref 95) Value.none 0)) #[])
noncomputable def zo97 (P : Params) : Obj := (Obj.mk (Value.type "tuple") none (Data.seq #[] 0) #[])
noncomputable def zo98 (P : Params) : Obj := (Obj.mk Value.none none (Data.fields #[]) #[])
noncomputable def zo99 (P : Params) : Obj := (Obj.mk (Value.type "tuple") none (Data.seq #[(Value.str s222 315), (Value.str s172 316), (Value.str s223 317), (Value.str s224 318), (Value.str s225 319)] 0) #[])
noncomputable def zo100 (P : Params) : Obj := (Obj.mk (Value.type "tuple") none (Data.seq #[] 0) #[])
noncomputable def zo101 (P : Params) : Obj := (Obj.mk Value.none none (Data.func (FuncData.mk s176 s176 (fnP st103) (.stmts (fnB st103)) (fnS st103) 0 [] Value.none Value.none Value.none Value.none none Value.none Value.none 0)) #[])
noncomputable def zo102 (P : Params) : Obj := (Obj.mk (Value.type "code") none (Data.fields #[(Value.str s176 312), (Value.str s176 313), (Value.str s165 314), (Value.int 101 0), (Value.int 1 0), (Value.int 0 0), (Value.int 0 0), (Value.int 3 0), (Value.ref 97), (Value.bool true), (Value.int 181 0), (Value.ref 98), Value.none, (Value.ref 99), (Value.ref 100), (Value.ref 101), (Value.int 320 0), (Value.int 101 0), (Value.str s165 321)]) #[])
noncomputable def zo103 (P : Params) : Obj := (Obj.mk (Value.type "function") none (Data.func (FuncData.mk s176 s176 (fnP st103) (.stmts (fnB st103)) (fnS st103) 3 [] Value.none Value.none Value.none (Value.str s221 290) none (Value.ref 102) Value.none 0)) #[])
noncomputable def zo104 (P : Params) : Obj := (Obj.mk (Value.type "tuple") none (Data.seq #[] 0) #[])
noncomputable def zo105 (P : Params) : Obj := (Obj.mk Value.none none (Data.fields #[]) #[])
noncomputable def zo106 (P : Params) : Obj := (Obj.mk (Value.type "tuple") none (Data.seq #[(Value.str s218 328), (Value.str s225 329)] 0) #[])
noncomputable def zo107 (P : Params) : Obj := (Obj.mk (Value.type "tuple") none (Data.seq #[] 0) #[])
noncomputable def zo108 (P : Params) : Obj := (Obj.mk Value.none none (Data.func (FuncData.mk s177 s177 (fnP st110) (.stmts (fnB st110)) (fnS st110) 0 [] Value.none Value.none Value.none Value.none none Value.none Value.none 0)) #[])
noncomputable def zo109 (P : Params) : Obj := (Obj.mk (Value.type "code") none (Data.fields #[(Value.str s177 325), (Value.str s177 326), (Value.str s165 327), (Value.int 110 0), (Value.int 1 0), (Value.int 0 0), (Value.int 0 0), (Value.int 35 0), (Value.ref 104), (Value.bool true), (Value.int 181 0), (Value.ref 105), Value.none, (Value.ref 106), (Value.ref 107), (Value.ref 108), (Value.int 330 0), (Value.int 110 0), (Value.str s165 331)]) #[])
noncomputable def zo110 (P : Params) : Obj := (Obj.mk (Value.type "function") none (Data.func (FuncData.mk s177 s177 (fnP st110) (.stmts (fnB st110)) (fnS st110) 3 [] Value.none Value.none Value.none (Value.str s219 323) none (Value.ref 109) Value.none 0)) #[])
noncomputable def zo118 (P : Params) : Obj := (Obj.mk (Value.type "tuple") none (Data.seq #[(Value.str s226 353), (Value.str s227 354), (Value.str s228 355)] 0) #[])
noncomputable def zo119 (P : Params) : Obj := (Obj.mk (Value.type "tuple") none (Data.seq #[] 0) #[])
noncomputable def zo120 (P : Params) : Obj := (Obj.mk Value.none none (Data.fields #[]) #[])
noncomputable def zo121 (P : Params) : Obj := (Obj.mk (Value.type "tuple") none (Data.seq #[(Value.str s198 360), (Value.str s226 361)] 0) #[])
noncomputable def zo122 (P : Params) : Obj := (Obj.mk (Value.type "tuple") none (Data.seq #[] 0) #[])
noncomputable def zo123 (P : Params) : Obj := (Obj.mk Value.none none (Data.func (FuncData.mk s206 s229 (fnP st125) (.stmts (fnB st125)) (fnS st125) 0 [] Value.none Value.none Value.none Value.none none Value.none Value.none 0)) #[])
noncomputable def zo124 (P : Params) : Obj := (Obj.mk (Value.type "code") none (Data.fields #[(Value.str s206 357), (Value.str s229 358), (Value.str s165 359), (Value.int 121 0), (Value.int 2 0), (Value.int 0 0), (Value.int 0 0), (Value.int 3 0), (Value.ref 119), (Value.bool true), (Value.int 181 0), (Value.ref 120), Value.none, (Value.ref 121), (Value.ref 122), (Value.ref 123), (Value.int 362 0), (Value.int 121 0), (Value.str s165 363)]) #[])
noncomputable def zo125 (P : Params) : Obj := (Obj.mk (Value.type "function") none (Data.func (FuncData.mk s206 s229 (fnP st125) (.stmts (fnB st125)) (fnS st125) 3 [] Value.none Value.none Value.none (Value.str s230 333) none (Value.ref 124) Value.none 0)) #[])
noncomputable def zo126 (P : Params) : Obj := (Obj.mk (Value.type "tuple") none (Data.seq #[(Value.str s226 365), (Value.str s227 366), (Value.str s228 367)] 0) #[])
noncomputable def zo128 (P : Params) : Obj := (Obj.mk (Value.type "dict") none (Data.dict #[(de P s214 348 (Value.str s230 333)), (de P s215 352 (Value.int 118 351)), (de P s216 356 (Value.ref 118)), (de P s206 364 (Value.ref 125)), (de P s217 368 (Value.ref 126)), (de P s226 370 (Value.ref 130)), (de P s227 372 (Value.ref 131)), (de P s228 374 (Value.ref 132)), (de P s2 375 Value.none)] 5) #[])
noncomputable def zo129 (P : Params) : Obj := (Obj.mk (Value.type "type") none (Data.cls (ClassData.mk s180 [(Value.type "object")] [(Value.ref 129), (Value.type "object")] 128 s180 false [s226, s227, s228] [] false none false)) #[none, none, (some (Value.str s180 341)), (some (Value.str s180 349)), (some (Value.builtin "object.__new__")), (some (Value.bool false))])
noncomputable def zo130 (P : Params) : Obj := (Obj.mk (Value.type "member_descriptor") none (Data.fields #[(Value.str s226 369), (Value.ref 129), (Value.builtin "proto.slot"), (Value.builtin "proto.slot#set"), (Value.int 2 0)]) #[])
noncomputable def zo131 (P : Params) : Obj := (Obj.mk (Value.type "member_descriptor") none (Data.fields #[(Value.str s227 371), (Value.ref 129), (Value.builtin "proto.slot"), (Value.builtin "proto.slot#set"), (Value.int 1 0)]) #[])
noncomputable def zo132 (P : Params) : Obj := (Obj.mk (Value.type "member_descriptor") none (Data.fields #[(Value.str s228 373), (Value.ref 129), (Value.builtin "proto.slot"), (Value.builtin "proto.slot#set"), (Value.int 0 0)]) #[])
noncomputable def zo135 (P : Params) : Obj := (Obj.mk (Value.type "tuple") none (Data.seq #[(Value.type "ValueError")] 0) #[])
noncomputable def zo142 (P : Params) : Obj := (Obj.mk (Value.type "tuple") none (Data.seq #[] 0) #[])
noncomputable def zo143 (P : Params) : Obj := (Obj.mk (Value.type "dict") none (Data.dict #[(de P s214 385 (Value.str s230 333)), (de P s215 389 (Value.int 125 388)), (de P s217 390 (Value.ref 142)), (de P s231 392 (Value.ref 145)), (de P s2 393 Value.none)] 3) #[])
noncomputable def zo144 (P : Params) : Obj := (Obj.mk (Value.type "type") none (Data.cls (ClassData.mk s181 [(Value.type "ValueError")] [(Value.ref 144), (Value.type "ValueError"), (Value.type "Exception"), (Value.type "BaseException"), (Value.type "object")] 143 s181 true [] [] false none false)) #[(some (Value.ref 135)), none, (some (Value.str s181 378)), (some (Value.str s181 386)), (some (Value.builtin "ValueError.__new__")), (some (Value.bool true))])
noncomputable def zo145 (P : Params) : Obj := (Obj.mk (Value.type "getset_descriptor") none (Data.fields #[(Value.str s231 391), (Value.ref 144), (Value.builtin "ExceptionGroup.__weakref__"), Value.none]) #[])
noncomputable def zo155 (P : Params) : Obj := (Obj.mk (Value.type "tuple") none (Data.seq #[Value.none] 0) #[])
noncomputable def zo156 (P : Params) : Obj := (Obj.mk (Value.type "tuple") none (Data.seq #[] 0) #[])
noncomputable def zo157 (P : Params) : Obj := (Obj.mk Value.none none (Data.fields #[]) #[])
noncomputable def zo158 (P : Params) : Obj := (Obj.mk (Value.type "tuple") none (Data.seq #[(Value.str s198 411), (Value.str s232 412), (Value.str s226 413), (Value.str s233 414)] 0) #[])
noncomputable def zo159 (P : Params) : Obj := (Obj.mk (Value.type "tuple") none (Data.seq #[] 0) #[])
noncomputable def zo160 (P : Params) : Obj := (Obj.mk Value.none none (Data.func (FuncData.mk s206 s234 (fnP st162) (.stmts (fnB st162)) (fnS st162) 0 [] Value.none Value.none Value.none Value.none none Value.none Value.none 0)) #[])
noncomputable def zo161 (P : Params) : Obj := (Obj.mk (Value.type "code") none (Data.fields #[(Value.str s206 408), (Value.str s234 409), (Value.str s165 410), (Value.int 129 0), (Value.int 2 0), (Value.int 0 0), (Value.int 0 0), (Value.int 3 0), (Value.ref 156), (Value.bool true), (Value.int 181 0), (Value.ref 157), Value.none, (Value.ref 158), (Value.ref 159), (Value.ref 160), (Value.int 415 0), (Value.int 129 0), (Value.str s165 416)]) #[])
noncomputable def zo162 (P : Params) : Obj := (Obj.mk (Value.type "function") none (Data.func (FuncData.mk s206 s234 (fnP st162) (.stmts (fnB st162)) (fnS st162) 3 [] (Value.ref 155) Value.none Value.none (Value.str s230 333) none (Value.ref 161) Value.none 0)) #[])
noncomputable def zo163 (P : Params) : Obj := (Obj.mk (Value.type "tuple") none (Data.seq #[] 0) #[])
noncomputable def zo164 (P : Params) : Obj := (Obj.mk Value.none none (Data.fields #[]) #[])
noncomputable def zo165 (P : Params) : Obj := (Obj.mk (Value.type "tuple") none (Data.seq #[(Value.str s198 421), (Value.str s226 422), (Value.str s235 423)] 0) #[])
noncomputable def zo166 (P : Params) : Obj := (Obj.mk (Value.type "tuple") none (Data.seq #[] 0) #[])
noncomputable def zo167 (P : Params) : Obj := (Obj.mk Value.none none (Data.func (FuncData.mk s236 s237 (fnP st169) (.stmts (fnB st169)) (fnS st169) 0 [] Value.none Value.none Value.none Value.none none Value.none Value.none 0)) #[])
noncomputable def zo168 (P : Params) : Obj := (Obj.mk (Value.type "code") none (Data.fields #[(Value.str s236 418), (Value.str s237 419), (Value.str s165 420), (Value.int 138 0), (Value.int 2 0), (Value.int 0 0), (Value.int 0 0), (Value.int 3 0), (Value.ref 163), (Value.bool true), (Value.int 181 0), (Value.ref 164), Value.none, (Value.ref 165), (Value.ref 166), (Value.ref 167), (Value.int 424 0), (Value.int 138 0), (Value.str s165 425)]) #[])
noncomputable def zo169 (P : Params) : Obj := (Obj.mk (Value.type "function") none (Data.func (FuncData.mk s236 s237 (fnP st169) (.stmts (fnB st169)) (fnS st169) 3 [] Value.none Value.none Value.none (Value.str s230 333) none (Value.ref 168) Value.none 0)) #[])
noncomputable def zo170 (P : Params) : Obj := (Obj.mk (Value.type "tuple") none (Data.seq #[] 0) #[])
noncomputable def zo171 (P : Params) : Obj := (Obj.mk Value.none none (Data.fields #[]) #[])
noncomputable def zo172 (P : Params) : Obj := (Obj.mk (Value.type "tuple") none (Data.seq #[(Value.str s198 430), (Value.str s226 431), (Value.str s233 432), (Value.str s238 433), (Value.str s239 434), (Value.str s240 435)] 0) #[])
noncomputable def zo173 (P : Params) : Obj := (Obj.mk (Value.type "tuple") none (Data.seq #[] 0) #[])
noncomputable def zo174 (P : Params) : Obj := (Obj.mk Value.none none (Data.func (FuncData.mk s241 s242 (fnP st176) (.stmts (fnB st176)) (fnS st176) 0 [] Value.none Value.none Value.none Value.none none Value.none Value.none 0)) #[])
noncomputable def zo175 (P : Params) : Obj := (Obj.mk (Value.type "code") none (Data.fields #[(Value.str s241 427), (Value.str s242 428), (Value.str s165 429), (Value.int 143 0), (Value.int 2 0), (Value.int 0 0), (Value.int 0 0), (Value.int 7 0), (Value.ref 170), (Value.bool true), (Value.int 181 0), (Value.ref 171), Value.none, (Value.ref 172), (Value.ref 173), (Value.ref 174), (Value.int 436 0), (Value.int 143 0), (Value.str s165 437)]) #[])
noncomputable def zo176 (P : Params) : Obj := (Obj.mk (Value.type "function") none (Data.func (FuncData.mk s241 s242 (fnP st176) (.stmts (fnB st176)) (fnS st176) 3 [] Value.none Value.none Value.none (Value.str s230 333) none (Value.ref 175) Value.none 0)) #[])
noncomputable def zo177 (P : Params) : Obj := (Obj.mk (Value.type "tuple") none (Data.seq #[] 0) #[])
noncomputable def zo178 (P : Params) : Obj := (Obj.mk Value.none none (Data.fields #[]) #[])
noncomputable def zo179 (P : Params) : Obj := (Obj.mk Value.none none (Data.func (FuncData.mk s243 s244 (fnP st181) (.stmts (fnB st181)) (fnS st181) 0 [] Value.none Value.none Value.none Value.none none Value.none Value.none 0)) #[])
noncomputable def zo180 (P : Params) : Obj := (Obj.mk (Value.type "code") none (Data.fields #[(Value.str s243 439), (Value.str s244 440), (Value.str s165 441), (Value.int 152 0), (Value.int 1 0), (Value.int 0 0), (Value.int 0 0), (Value.int 3 0), (Value.ref 177), (Value.bool true), (Value.int 181 0), (Value.ref 178), Value.none, Value.none, Value.none, (Value.ref 179), (Value.int 442 0), (Value.int 152 0), (Value.str s165 443)]) #[])
noncomputable def zo181 (P : Params) : Obj := (Obj.mk (Value.type "function") none (Data.func (FuncData.mk s243 s244 (fnP st181) (.stmts (fnB st181)) (fnS st181) 3 [] Value.none Value.none Value.none (Value.str s230 333) none (Value.ref 180) Value.none 0)) #[])
noncomputable def zo182 (P : Params) : Obj := (Obj.mk (Value.type "tuple") none (Data.seq #[] 0) #[])
noncomputable def zo183 (P : Params) : Obj := (Obj.mk Value.none none (Data.fields #[]) #[])
noncomputable def zo184 (P : Params) : Obj := (Obj.mk (Value.type "tuple") none (Data.seq #[(Value.str s198 448), (Value.str s235 449), (Value.str s245 450), (Value.str s226 451)] 0) #[])
noncomputable def zo185 (P : Params) : Obj := (Obj.mk (Value.type "tuple") none (Data.seq #[] 0) #[])
noncomputable def zo186 (P : Params) : Obj := (Obj.mk Value.none none (Data.func (FuncData.mk s246 s247 (fnP st188) (.stmts (fnB st188)) (fnS st188) 0 [] Value.none Value.none Value.none Value.none none Value.none Value.none 0)) #[])
noncomputable def zo187 (P : Params) : Obj := (Obj.mk (Value.type "code") none (Data.fields #[(Value.str s246 445), (Value.str s247 446), (Value.str s165 447), (Value.int 160 0), (Value.int 1 0), (Value.int 0 0), (Value.int 0 0), (Value.int 3 0), (Value.ref 182), (Value.bool true), (Value.int 181 0), (Value.ref 183), Value.none, (Value.ref 184), (Value.ref 185), (Value.ref 186), (Value.int 452 0), (Value.int 160 0), (Value.str s165 453)]) #[])
noncomputable def zo188 (P : Params) : Obj := (Obj.mk (Value.type "function") none (Data.func (FuncData.mk s246 s247 (fnP st188) (.stmts (fnB st188)) (fnS st188) 3 [] Value.none Value.none Value.none (Value.str s230 333) none (Value.ref 187) Value.none 0)) #[])
noncomputable def zo189 (P : Params) : Obj := (Obj.mk (Value.type "tuple") none (Data.seq #[] 0) #[])
noncomputable def zo190 (P : Params) : Obj := (Obj.mk Value.none none (Data.fields #[]) #[])
noncomputable def zo191 (P : Params) : Obj := (Obj.mk (Value.type "tuple") none (Data.seq #[(Value.str s198 458)] 0) #[])
noncomputable def zo192 (P : Params) : Obj := (Obj.mk (Value.type "tuple") none (Data.seq #[] 0) #[])
noncomputable def zo193 (P : Params) : Obj := (Obj.mk Value.none none (Data.func (FuncData.mk s248 s249 (fnP st195) (.stmts (fnB st195)) (fnS st195) 0 [] Value.none Value.none Value.none Value.none none Value.none Value.none 0)) #[])
noncomputable def zo194 (P : Params) : Obj := (Obj.mk (Value.type "code") none (Data.fields #[(Value.str s248 455), (Value.str s249 456), (Value.str s165 457), (Value.int 171 0), (Value.int 1 0), (Value.int 0 0), (Value.int 0 0), (Value.int 3 0), (Value.ref 189), (Value.bool true), (Value.int 181 0), (Value.ref 190), Value.none, (Value.ref 191), (Value.ref 192), (Value.ref 193), (Value.int 459 0), (Value.int 171 0), (Value.str s165 460)]) #[])
noncomputable def zo195 (P : Params) : Obj := (Obj.mk (Value.type "function") none (Data.func (FuncData.mk s248 s249 (fnP st195) (.stmts (fnB st195)) (fnS st195) 3 [] Value.none Value.none Value.none (Value.str s230 333) none (Value.ref 194) Value.none 0)) #[])
noncomputable def zo196 (P : Params) : Obj := (Obj.mk (Value.type "tuple") none (Data.seq #[] 0) #[])
noncomputable def zo197 (P : Params) : Obj := (Obj.mk Value.none none (Data.fields #[]) #[])
noncomputable def zo198 (P : Params) : Obj := (Obj.mk (Value.type "tuple") none (Data.seq #[(Value.str s198 465)] 0) #[])
noncomputable def zo199 (P : Params) : Obj := (Obj.mk (Value.type "tuple") none (Data.seq #[] 0) #[])
noncomputable def zo200 (P : Params) : Obj := (Obj.mk Value.none none (Data.func (FuncData.mk s250 s251 (fnP st_bool) (.stmts (fnB st_bool)) (fnS st_bool) 0 [] Value.none Value.none Value.none Value.none none Value.none Value.none 0)) #[])
noncomputable def zo201 (P : Params) : Obj := (Obj.mk (Value.type "code") none (Data.fields #[(Value.str s250 462), (Value.str s251 463), (Value.str s165 464), (Value.int 176 0), (Value.int 1 0), (Value.int 0 0), (Value.int 0 0), (Value.int 3 0), (Value.ref 196), (Value.bool true), (Value.int 181 0), (Value.ref 197), Value.none, (Value.ref 198), (Value.ref 199), (Value.ref 200), (Value.int 466 0), (Value.int 176 0), (Value.str s165 467)]) #[])
noncomputable def zo202 (P : Params) : Obj := (Obj.mk (Value.type "function") none (Data.func (FuncData.mk s250 s251 (fnP st_bool) (.stmts (fnB st_bool)) (fnS st_bool) 3 [] Value.none Value.none Value.none (Value.str s230 333) none (Value.ref 201) Value.none 0)) #[])
noncomputable def zo203 (P : Params) : Obj := (Obj.mk (Value.type "tuple") none (Data.seq #[] 0) #[])
noncomputable def zo204 (P : Params) : Obj := (Obj.mk Value.none none (Data.fields #[]) #[])
noncomputable def zo205 (P : Params) : Obj := (Obj.mk (Value.type "tuple") none (Data.seq #[(Value.str s198 472), (Value.str s252 473), (Value.str s245 474), (Value.str s226 475), (Value.str s238 476), (Value.str s253 477), (Value.str s254 478), (Value.str s255 479)] 0) #[])
noncomputable def zo206 (P : Params) : Obj := (Obj.mk (Value.type "tuple") none (Data.seq #[] 0) #[])
noncomputable def zo207 (P : Params) : Obj := (Obj.mk Value.none none (Data.func (FuncData.mk s256 s257 (fnP st209) (.stmts (fnB st209)) (fnS st209) 0 [] Value.none Value.none Value.none Value.none none Value.none Value.none 0)) #[])
noncomputable def zo208 (P : Params) : Obj := (Obj.mk (Value.type "code") none (Data.fields #[(Value.str s256 469), (Value.str s257 470), (Value.str s165 471), (Value.int 179 0), (Value.int 1 0), (Value.int 0 0), (Value.int 0 0), (Value.int 7 0), (Value.ref 203), (Value.bool true), (Value.int 181 0), (Value.ref 204), Value.none, (Value.ref 205), (Value.ref 206), (Value.ref 207), (Value.int 480 0), (Value.int 179 0), (Value.str s165 481)]) #[])
noncomputable def zo209 (P : Params) : Obj := (Obj.mk (Value.type "function") none (Data.func (FuncData.mk s256 s257 (fnP st209) (.stmts (fnB st209)) (fnS st209) 3 [] Value.none Value.none Value.none (Value.str s230 333) none (Value.ref 208) Value.none 0)) #[])
noncomputable def zo210 (P : Params) : Obj := (Obj.mk (Value.type "tuple") none (Data.seq #[] 0) #[])
noncomputable def zo211 (P : Params) : Obj := (Obj.mk Value.none none (Data.fields #[]) #[])
noncomputable def zo212 (P : Params) : Obj := (Obj.mk (Value.type "tuple") none (Data.seq #[(Value.str s198 486), (Value.str s245 487), (Value.str s258 488), (Value.str s259 489), (Value.str s260 490), (Value.str s261 491), (Value.str s226 492)] 0) #[])
noncomputable def zo213 (P : Params) : Obj := (Obj.mk (Value.type "tuple") none (Data.seq #[] 0) #[])
noncomputable def zo214 (P : Params) : Obj := (Obj.mk Value.none none (Data.func (FuncData.mk s262 s263 (fnP st216) (.stmts (fnB st216)) (fnS st216) 0 [] Value.none Value.none Value.none Value.none none Value.none Value.none 0)) #[])
noncomputable def zo215 (P : Params) : Obj := (Obj.mk (Value.type "code") none (Data.fields #[(Value.str s262 483), (Value.str s263 484), (Value.str s165 485), (Value.int 202 0), (Value.int 1 0), (Value.int 0 0), (Value.int 0 0), (Value.int 3 0), (Value.ref 210), (Value.bool true), (Value.int 181 0), (Value.ref 211), Value.none, (Value.ref 212), (Value.ref 213), (Value.ref 214), (Value.int 493 0), (Value.int 202 0), (Value.str s165 494)]) #[])
noncomputable def zo216 (P : Params) : Obj := (Obj.mk (Value.type "function") none (Data.func (FuncData.mk s262 s263 (fnP st216) (.stmts (fnB st216)) (fnS st216) 3 [] Value.none Value.none Value.none (Value.str s230 333) none (Value.ref 215) Value.none 0)) #[])
noncomputable def zo217 (P : Params) : Obj := (Obj.mk (Value.type "tuple") none (Data.seq #[] 0) #[])
noncomputable def zo218 (P : Params) : Obj := (Obj.mk Value.none none (Data.fields #[]) #[])
noncomputable def zo219 (P : Params) : Obj := (Obj.mk (Value.type "tuple") none (Data.seq #[(Value.str s198 499)] 0) #[])
noncomputable def zo220 (P : Params) : Obj := (Obj.mk (Value.type "tuple") none (Data.seq #[] 0) #[])
noncomputable def zo221 (P : Params) : Obj := (Obj.mk Value.none none (Data.func (FuncData.mk s264 s265 (fnP st_so) (.stmts (fnB st_so)) (fnS st_so) 0 [] Value.none Value.none Value.none Value.none none Value.none Value.none 0)) #[])
noncomputable def zo222 (P : Params) : Obj := (Obj.mk (Value.type "code") none (Data.fields #[(Value.str s264 496), (Value.str s265 497), (Value.str s165 498), (Value.int 231 0), (Value.int 1 0), (Value.int 0 0), (Value.int 0 0), (Value.int 3 0), (Value.ref 217), (Value.bool true), (Value.int 181 0), (Value.ref 218), Value.none, (Value.ref 219), (Value.ref 220), (Value.ref 221), (Value.int 500 0), (Value.int 231 0), (Value.str s165 501)]) #[])
noncomputable def zo223 (P : Params) : Obj := (Obj.mk (Value.type "function") none (Data.func (FuncData.mk s264 s265 (fnP st_so) (.stmts (fnB st_so)) (fnS st_so) 3 [] Value.none Value.none Value.none (Value.str s230 333) none (Value.ref 222) Value.none 0)) #[])
noncomputable def zo224 (P : Params) : Obj := (Obj.mk (Value.type "tuple") none (Data.seq #[(Value.str s266 503), (Value.str s267 504), (Value.str s268 505), (Value.str s269 506)] 0) #[])
noncomputable def zo225 (P : Params) : Obj := (Obj.mk (Value.type "dict") none (Data.dict #[(de P s214 403 (Value.str s230 333)), (de P s215 407 (Value.int 127 406)), (de P s206 417 (Value.ref 162)), (de P s236 426 (Value.ref 169)), (de P s241 438 (Value.ref 176)), (de P s243 444 (Value.ref 181)), (de P s246 454 (Value.ref 188)), (de P s248 461 (Value.ref 195)), (de P s250 468 (Value.ref 202)), (de P s256 482 (Value.ref 209)), (de P s262 495 (Value.ref 216)), (de P s264 502 (Value.ref 223)), (de P s217 507 (Value.ref 224)), (de P s270 509 (Value.ref 227)), (de P s231 511 (Value.ref 228)), (de P s2 512 Value.none)] 4) #[])
noncomputable def zo226 (P : Params) : Obj := (Obj.mk (Value.type "type") none (Data.cls (ClassData.mk s182 [(Value.type "object")] [(Value.ref 226), (Value.type "object")] 225 s182 true [] [] false none false)) #[none, none, (some (Value.str s182 396)), (some (Value.str s182 404)), (some (Value.builtin "object.__new__")), (some (Value.bool true))])
noncomputable def zo227 (P : Params) : Obj := (Obj.mk (Value.type "getset_descriptor") none (Data.fields #[(Value.str s270 508), (Value.ref 226), (Value.builtin "function.__dict__"), (Value.builtin "function.__dict__#set")]) #[])
noncomputable def zo228 (P : Params) : Obj := (Obj.mk (Value.type "getset_descriptor") none (Data.fields #[(Value.str s231 510), (Value.ref 226), (Value.builtin "ExceptionGroup.__weakref__"), Value.none]) #[])
noncomputable def zo231 (P : Params) : Obj := (Obj.mk (Value.type "tuple") none (Data.seq #[] 0) #[])
noncomputable def zo232 (P : Params) : Obj := (Obj.mk Value.none none (Data.fields #[]) #[])
noncomputable def zo233 (P : Params) : Obj := (Obj.mk (Value.type "tuple") none (Data.seq #[(Value.str s271 520), (Value.str s272 521), (Value.str s273 522), (Value.str s274 523), (Value.str s187 524), (Value.str s188 525), (Value.str s275 526), (Value.str s276 527)] 0) #[])
noncomputable def zo234 (P : Params) : Obj := (Obj.mk (Value.type "tuple") none (Data.seq #[] 0) #[])
noncomputable def zo235 (P : Params) : Obj := (Obj.mk Value.none none (Data.func (FuncData.mk s183 s183 (fnP st237) (.stmts (fnB st237)) (fnS st237) 0 [] Value.none Value.none Value.none Value.none none Value.none Value.none 0)) #[])
noncomputable def zo236 (P : Params) : Obj := (Obj.mk (Value.type "code") none (Data.fields #[(Value.str s183 517), (Value.str s183 518), (Value.str s165 519), (Value.int 234 0), (Value.int 1 0), (Value.int 0 0), (Value.int 0 0), (Value.int 3 0), (Value.ref 231), (Value.bool true), (Value.int 181 0), (Value.ref 232), Value.none, (Value.ref 233), (Value.ref 234), (Value.ref 235), (Value.int 528 0), (Value.int 234 0), (Value.str s165 529)]) #[])
noncomputable def zo237 (P : Params) : Obj := (Obj.mk (Value.type "function") none (Data.func (FuncData.mk s183 s183 (fnP st237) (.stmts (fnB st237)) (fnS st237) 3 [] Value.none Value.none Value.none (Value.str s161 515) none (Value.ref 236) Value.none 0)) #[])
noncomputable def zo238 (P : Params) : Obj := (Obj.mk (Value.type "tuple") none (Data.seq #[] 0) #[])
noncomputable def zo239 (P : Params) : Obj := (Obj.mk Value.none none (Data.fields #[]) #[])
noncomputable def zo240 (P : Params) : Obj := (Obj.mk (Value.type "tuple") none (Data.seq #[(Value.str s273 534), (Value.str s277 535), (Value.str s278 536), (Value.str s279 537), (Value.str s280 538)] 0) #[])
noncomputable def zo241 (P : Params) : Obj := (Obj.mk (Value.type "tuple") none (Data.seq #[] 0) #[])
noncomputable def zo242 (P : Params) : Obj := (Obj.mk Value.none none (Data.func (FuncData.mk s184 s184 (fnP st244) (.stmts (fnB st244)) (fnS st244) 0 [] Value.none Value.none Value.none Value.none none Value.none Value.none 0)) #[])
noncomputable def zo243 (P : Params) : Obj := (Obj.mk (Value.type "code") none (Data.fields #[(Value.str s184 531), (Value.str s184 532), (Value.str s165 533), (Value.int 249 0), (Value.int 1 0), (Value.int 0 0), (Value.int 0 0), (Value.int 3 0), (Value.ref 238), (Value.bool true), (Value.int 181 0), (Value.ref 239), Value.none, (Value.ref 240), (Value.ref 241), (Value.ref 242), (Value.int 539 0), (Value.int 249 0), (Value.str s165 540)]) #[])
noncomputable def zo244 (P : Params) : Obj := (Obj.mk (Value.type "function") none (Data.func (FuncData.mk s184 s184 (fnP st244) (.stmts (fnB st244)) (fnS st244) 3 [] Value.none Value.none Value.none (Value.str s161 515) none (Value.ref 243) Value.none 0)) #[])
noncomputable def zo245 (P : Params) : Obj := (Obj.mk (Value.type "tuple") none (Data.seq #[] 0) #[])
noncomputable def zo246 (P : Params) : Obj := (Obj.mk Value.none none (Data.fields #[]) #[])
noncomputable def zo247 (P : Params) : Obj := (Obj.mk Value.none none (Data.func (FuncData.mk s185 s185 (fnP st249) (.stmts (fnB st249)) (fnS st249) 0 [] Value.none Value.none Value.none Value.none none Value.none Value.none 0)) #[])
noncomputable def zo248 (P : Params) : Obj := (Obj.mk (Value.type "code") none (Data.fields #[(Value.str s185 542), (Value.str s185 543), (Value.str s165 544), (Value.int 264 0), (Value.int 1 0), (Value.int 0 0), (Value.int 0 0), (Value.int 3 0), (Value.ref 245), (Value.bool true), (Value.int 181 0), (Value.ref 246), Value.none, Value.none, Value.none, (Value.ref 247), (Value.int 545 0), (Value.int 264 0), (Value.str s165 546)]) #[])
noncomputable def zo249 (P : Params) : Obj := (Obj.mk (Value.type "function") none (Data.func (FuncData.mk s185 s185 (fnP st249) (.stmts (fnB st249)) (fnS st249) 3 [] Value.none Value.none Value.none (Value.str s161 515) none (Value.ref 248) Value.none 0)) #[])
noncomputable def hz.heap_251 (P : Params) : Frag := (nat_lit 0, zo0 P) :: (nat_lit 1, zo1 P) :: (nat_lit 2, zo2 P) :: (nat_lit 3, zo3 P) :: (nat_lit 4, zo4 P) :: (nat_lit 5, zo5 P) :: (nat_lit 6, zo6 P) :: (nat_lit 7, zo7 P) :: (nat_lit 8, zo8 P) :: (nat_lit 9, zo9 P) :: (nat_lit 10, zo10 P) :: (nat_lit 11, zo11 P) :: (nat_lit 12, zo12 P) :: (nat_lit 13, zo13 P) :: (nat_lit 14, zo14 P) :: (nat_lit 15, zo15 P) :: (nat_lit 16, zo16 P) :: (nat_lit 17, zo17 P) :: (nat_lit 18, zo18 P) :: (nat_lit 19, zo19 P) :: (nat_lit 20, zo20 P) :: (nat_lit 21, zo21 P) :: (nat_lit 22, zo22 P) :: (nat_lit 23, zo23 P) :: (nat_lit 24, zo24 P) :: (nat_lit 25, zo25 P) :: (nat_lit 26, zo26 P) :: (nat_lit 27, zo27 P) :: (nat_lit 28, zo28 P) :: (nat_lit 29, zo29 P) :: (nat_lit 30, zo30 P) :: (nat_lit 31, zo31 P) :: (nat_lit 32, zo32 P) :: (nat_lit 33, zo33 P) :: (nat_lit 34, zo34 P) :: (nat_lit 35, zo35 P) :: (nat_lit 43, zo43 P) :: (nat_lit 44, zo44 P) :: (nat_lit 45, zo45 P) :: (nat_lit 46, zo46 P) :: (nat_lit 47, zo47 P) :: (nat_lit 48, zo48 P) :: (nat_lit 49, zo49 P) :: (nat_lit 50, zo50 P) :: (nat_lit 51, zo51 P) :: (nat_lit 52, zo52 P) :: (nat_lit 53, zo53 P) :: (nat_lit 54, zo54 P) :: (nat_lit 55, zo55 P) :: (nat_lit 56, zo56 P) :: (nat_lit 57, zo57 P) :: (nat_lit 58, zo58 P) :: (nat_lit 59, zo59 P) :: (nat_lit 60, zo60 P) :: (nat_lit 61, zo61 P) :: (nat_lit 62, zo62 P) :: (nat_lit 63, zo63 P) :: (nat_lit 64, zo64 P) :: (nat_lit 65, zo65 P) :: (nat_lit 67, zo67 P) :: (nat_lit 68, zo68 P) :: (nat_lit 69, zo69 P) :: (nat_lit 70, zo70 P) :: (nat_lit 71, zo71 P) :: (nat_lit 72, zo72 P) :: (nat_lit 73, zo73 P) :: (nat_lit 76, zo76 P) :: (nat_lit 77, zo77 P) :: (nat_lit 78, zo78 P) :: (nat_lit 79, zo79 P) :: (nat_lit 80, zo80 P) :: (nat_lit 81, zo81 P) :: (nat_lit 82, zo82 P) :: (nat_lit 83, zo83 P) :: (nat_lit 84, zo84 P) :: (nat_lit 85, zo85 P) :: (nat_lit 86, zo86 P) :: (nat_lit 87, zo87 P) :: (nat_lit 88, zo88 P) :: (nat_lit 89, zo89 P) :: (nat_lit 90, zo90 P) :: (nat_lit 91, zo91 P) :: (nat_lit 92, zo92 P) :: (nat_lit 93, zo93 P) :: (nat_lit 94, zo94 P) :: (nat_lit 95, zo95 P) :: (nat_lit 96, zo96 P) :: (nat_lit 97, zo97 P) :: (nat_lit 98, zo98 P) :: (nat_lit 99, zo99 P) :: (nat_lit 100, zo100 P) :: (nat_lit 101, zo101 P) :: (nat_lit 102, zo102 P) :: (nat_lit 103, zo103 P) :: (nat_lit 104, zo104 P) :: (nat_lit 105, zo105 P) :: (nat_lit 106, zo106 P) :: (nat_lit 107, zo107 P) :: (nat_lit 108, zo108 P) :: (nat_lit 109, zo109 P) :: (nat_lit 110, zo110 P) :: (nat_lit 118, zo118 P) :: (nat_lit 119, zo119 P) :: (nat_lit 120, zo120 P) :: (nat_lit 121, zo121 P) :: (nat_lit 122, zo122 P) :: (nat_lit 123, zo123 P) :: (nat_lit 124, zo124 P) :: (nat_lit 125, zo125 P) :: (nat_lit 126, zo126 P) :: (nat_lit 128, zo128 P) :: (nat_lit 129, zo129 P) :: (nat_lit 130, zo130 P) :: (nat_lit 131, zo131 P) :: (nat_lit 132, zo132 P) :: (nat_lit 135, zo135 P) :: (nat_lit 142, zo142 P) :: (nat_lit 143, zo143 P) :: (nat_lit 144, zo144 P) :: (nat_lit 145, zo145 P) :: (nat_lit 155, zo155 P) :: (nat_lit 156, zo156 P) :: (nat_lit 157, zo157 P) :: (nat_lit 158, zo158 P) :: (nat_lit 159, zo159 P) :: (nat_lit 160, zo160 P) :: (nat_lit 161, zo161 P) :: (nat_lit 162, zo162 P) :: (nat_lit 163, zo163 P) :: (nat_lit 164, zo164 P) :: (nat_lit 165, zo165 P) :: (nat_lit 166, zo166 P) :: (nat_lit 167, zo167 P) :: (nat_lit 168, zo168 P) :: (nat_lit 169, zo169 P) :: (nat_lit 170, zo170 P) :: (nat_lit 171, zo171 P) :: (nat_lit 172, zo172 P) :: (nat_lit 173, zo173 P) :: (nat_lit 174, zo174 P) :: (nat_lit 175, zo175 P) :: (nat_lit 176, zo176 P) :: (nat_lit 177, zo177 P) :: (nat_lit 178, zo178 P) :: (nat_lit 179, zo179 P) :: (nat_lit 180, zo180 P) :: (nat_lit 181, zo181 P) :: (nat_lit 182, zo182 P) :: (nat_lit 183, zo183 P) :: (nat_lit 184, zo184 P) :: (nat_lit 185, zo185 P) :: (nat_lit 186, zo186 P) :: (nat_lit 187, zo187 P) :: (nat_lit 188, zo188 P) :: (nat_lit 189, zo189 P) :: (nat_lit 190, zo190 P) :: (nat_lit 191, zo191 P) :: (nat_lit 192, zo192 P) :: (nat_lit 193, zo193 P) :: (nat_lit 194, zo194 P) :: (nat_lit 195, zo195 P) :: (nat_lit 196, zo196 P) :: (nat_lit 197, zo197 P) :: (nat_lit 198, zo198 P) :: (nat_lit 199, zo199 P) :: (nat_lit 200, zo200 P) :: (nat_lit 201, zo201 P) :: (nat_lit 202, zo202 P) :: (nat_lit 203, zo203 P) :: (nat_lit 204, zo204 P) :: (nat_lit 205, zo205 P) :: (nat_lit 206, zo206 P) :: (nat_lit 207, zo207 P) :: (nat_lit 208, zo208 P) :: (nat_lit 209, zo209 P) :: (nat_lit 210, zo210 P) :: (nat_lit 211, zo211 P) :: (nat_lit 212, zo212 P) :: (nat_lit 213, zo213 P) :: (nat_lit 214, zo214 P) :: (nat_lit 215, zo215 P) :: (nat_lit 216, zo216 P) :: (nat_lit 217, zo217 P) :: (nat_lit 218, zo218 P) :: (nat_lit 219, zo219 P) :: (nat_lit 220, zo220 P) :: (nat_lit 221, zo221 P) :: (nat_lit 222, zo222 P) :: (nat_lit 223, zo223 P) :: (nat_lit 224, zo224 P) :: (nat_lit 225, zo225 P) :: (nat_lit 226, zo226 P) :: (nat_lit 227, zo227 P) :: (nat_lit 228, zo228 P) :: (nat_lit 231, zo231 P) :: (nat_lit 232, zo232 P) :: (nat_lit 233, zo233 P) :: (nat_lit 234, zo234 P) :: (nat_lit 235, zo235 P) :: (nat_lit 236, zo236 P) :: (nat_lit 237, zo237 P) :: (nat_lit 238, zo238 P) :: (nat_lit 239, zo239 P) :: (nat_lit 240, zo240 P) :: (nat_lit 241, zo241 P) :: (nat_lit 242, zo242 P) :: (nat_lit 243, zo243 P) :: (nat_lit 244, zo244 P) :: (nat_lit 245, zo245 P) :: (nat_lit 246, zo246 P) :: (nat_lit 247, zo247 P) :: (nat_lit 248, zo248 P) :: (nat_lit 249, zo249 P) :: []
noncomputable def hz.view_481 : Program := { PySem.Challenge.pw_ij0125_01 with main := { PySem.Challenge.pw_ij0125_01.main with body := [stN top 0, stN top 2, stN top 3, stN top 4, stN top 6, stN top 8, stN top 9, stN top 10, stN top 11, stN top 13, stN top 15, stN top 16, stN top 17, stN top 18, stN top 19, stN top 21, stN top 22, stN top 23] } }
theorem fill : (fun (_ : OpenLaw) (_ : Params → Frag) => True) PySem.Challenge.rw_ij0125_01 hz.heap_251 := by k_fill; trivial
end
end Mine
section
open PySem PySem.W PySem.W.X PyProof.Rows
namespace Mine
noncomputable def s281 : Str := ⟨#[95, 95, 113, 117, 97, 108, 110, 97, 109, 101, 95, 95]⟩
noncomputable def zq0 (P : Params) : Obj := (Obj.mk (Value.type "dict") none (Data.dict #[(de P s0 165 (Value.str s190 194)), (de P s2 166 Value.none), (de P s3 167 Value.none), (de P s4 168 (Value.builtin "__main__.__loader__#opaque")), (de P s5 169 Value.none), (de P s162 170 (Value.ref 6)), (de P s163 171 (Value.ref 4)), (de P s164 173 (Value.str s165 172)), (de P s166 174 Value.none), (de P s167 193 (Value.ref 21)), (de P s168 203 (Value.ref 28)), (de P s169 212 (Value.ref 35))] 12) #[])
noncomputable def zq1 (P : Params) : Obj := (Obj.mk Value.none none (Data.fields #[(Value.int 1 0), (Value.int 0 0), (Value.ref 20), (Value.int 5 0), (Value.int 0 0), (Value.ref 27), (Value.int 8 0), (Value.int 0 0), (Value.ref 34)]) #[])
noncomputable def zq2 (P : Params) : Obj := (Obj.mk (Value.type "dict") none (Data.dict #[(de P s0 165 (Value.str s219 281)), (de P s2 166 Value.none), (de P s3 167 Value.none), (de P s4 168 (Value.builtin "__main__.__loader__#opaque")), (de P s5 169 Value.none), (de P s162 170 (Value.ref 6)), (de P s163 171 (Value.ref 4)), (de P s164 173 (Value.str s165 172)), (de P s166 174 Value.none), (de P s167 193 (Value.ref 21)), (de P s168 203 (Value.ref 28)), (de P s169 212 (Value.ref 35)), (de P s170 280 (Value.ref 68)), (de P s171 289 (Value.ref 82))] 14) #[])
noncomputable def zq3 (P : Params) : Obj := (Obj.mk Value.none none (Data.fields #[(Value.int 1 0), (Value.int 0 0), (Value.ref 20), (Value.int 5 0), (Value.int 0 0), (Value.ref 27), (Value.int 8 0), (Value.int 0 0), (Value.ref 34), (Value.int 13 0), (Value.int 0 0), (Value.ref 41), (Value.int 71 0), (Value.int 0 0), (Value.ref 81)]) #[])
noncomputable def zq4 (P : Params) : Obj := (Obj.mk (Value.type "builtin_function_or_method") none (Data.fields #[(Value.builtin "type.__prepare__"), (Value.type "type")]) #[])
noncomputable def zq5 (P : Params) : Obj := (Obj.mk (Value.type "dict") none (Data.dict #[(de P s214 220 (Value.str s190 194)), (de P s281 222 (Value.str s170 221)), (de P s215 224 (Value.int 13 223)), (de P s216 230 (Value.ref 43)), (de P s206 244 (Value.ref 50)), (de P s208 251 (Value.ref 57)), (de P s212 261 (Value.ref 64)), (de P s217 267 (Value.ref 65))] 8) #[])
noncomputable def zq6 (P : Params) : Obj := (Obj.mk Value.none none (Data.fields #[(Value.int 16 0), (Value.int 4 0), (Value.ref 49), (Value.int 47 0), (Value.int 4 0), (Value.ref 56), (Value.int 50 0), (Value.int 4 0), (Value.ref 63)]) #[])
noncomputable def zq7 (P : Params) : Obj := (Obj.mk (Value.type "code") none (Data.fields #[(Value.str s170 215), (Value.str s170 216), (Value.str s165 217), (Value.int 13 0), (Value.int 0 0), (Value.int 0 0), (Value.int 0 0), (Value.int 0 0), (Value.ref 39), (Value.bool false), (Value.int 181 0), (Value.ref 40), Value.none, Value.none, Value.none, Value.none, (Value.int 218 0), (Value.int 13 0), (Value.str s165 219)]) #[])
noncomputable def zq8 (P : Params) : Obj := (Obj.mk (Value.type "frame") none Data.plain #[(some (Value.ref 41)), (some (Value.ref 3)), (some (Value.ref 38)), none, (some (Value.str s190 194)), none, (some (Value.ref 0))])
noncomputable def zq9 (P : Params) : Obj := (Obj.mk (Value.type "list") none (Data.seq #[(Value.str s193 225), (Value.str s194 226), (Value.str s195 227), (Value.str s196 228), (Value.str s197 229)] 1) #[])
noncomputable def zq10 (P : Params) : Obj := (Obj.mk (Value.type "super") none (Data.fields #[(Value.ref 68), (Value.ref 68), (Value.ref 68)]) #[])
noncomputable def zq11 (P : Params) : Obj := (Obj.mk (Value.type "builtin_function_or_method") none (Data.fields #[(Value.builtin "object.__init_subclass__"), (Value.ref 68)]) #[])
noncomputable def zq12 (P : Params) : Obj := (Obj.mk (Value.type "dict") none (Data.dict #[(de P s0 165 (Value.str s230 333)), (de P s2 166 Value.none), (de P s3 167 Value.none), (de P s4 168 (Value.builtin "__main__.__loader__#opaque")), (de P s5 169 Value.none), (de P s162 170 (Value.ref 6)), (de P s163 171 (Value.ref 4)), (de P s164 173 (Value.str s165 172)), (de P s166 174 Value.none), (de P s167 193 (Value.ref 21)), (de P s168 203 (Value.ref 28)), (de P s169 212 (Value.ref 35)), (de P s170 280 (Value.ref 68)), (de P s171 289 (Value.ref 82)), (de P s172 293 (Value.str s173 292)), (de P s174 302 (Value.ref 89)), (de P s175 311 (Value.ref 96)), (de P s176 322 (Value.ref 103)), (de P s177 332 (Value.ref 110)), (de P s178 337 (Value.int (@Neg.neg Int Int.instNegInt 1) 336)), (de P s179 340 (Value.int (@Neg.neg Int Int.instNegInt 2) 339))] 21) #[])
noncomputable def zq13 (P : Params) : Obj := (Obj.mk Value.none none (Data.fields #[(Value.int 1 0), (Value.int 0 0), (Value.ref 20), (Value.int 5 0), (Value.int 0 0), (Value.ref 27), (Value.int 8 0), (Value.int 0 0), (Value.ref 34), (Value.int 13 0), (Value.int 0 0), (Value.ref 41), (Value.int 71 0), (Value.int 0 0), (Value.ref 81), (Value.int 75 0), (Value.int 0 0), (Value.ref 88), (Value.int 96 0), (Value.int 0 0), (Value.ref 95), (Value.int 101 0), (Value.int 0 0), (Value.ref 102), (Value.int 110 0), (Value.int 0 0), (Value.ref 109)]) #[])
noncomputable def zq14 (P : Params) : Obj := (Obj.mk (Value.type "dict") none (Data.dict #[(de P s0 165 (Value.str s230 333)), (de P s2 166 Value.none), (de P s3 167 Value.none), (de P s4 168 (Value.builtin "__main__.__loader__#opaque")), (de P s5 169 Value.none), (de P s162 170 (Value.ref 6)), (de P s163 171 (Value.ref 4)), (de P s164 173 (Value.str s165 172)), (de P s166 174 Value.none), (de P s167 193 (Value.ref 21)), (de P s168 203 (Value.ref 28)), (de P s169 212 (Value.ref 35)), (de P s170 280 (Value.ref 68)), (de P s171 289 (Value.ref 82)), (de P s172 293 (Value.str s173 292)), (de P s174 302 (Value.ref 89)), (de P s175 311 (Value.ref 96)), (de P s176 322 (Value.ref 103)), (de P s177 332 (Value.ref 110)), (de P s178 337 (Value.int (@Neg.neg Int Int.instNegInt 1) 336)), (de P s179 340 (Value.int (@Neg.neg Int Int.instNegInt 2) 339)), (de P s180 377 (Value.ref 129))] 22) #[])
noncomputable def zq15 (P : Params) : Obj := (Obj.mk Value.none none (Data.fields #[(Value.int 1 0), (Value.int 0 0), (Value.ref 20), (Value.int 5 0), (Value.int 0 0), (Value.ref 27), (Value.int 8 0), (Value.int 0 0), (Value.ref 34), (Value.int 13 0), (Value.int 0 0), (Value.ref 41), (Value.int 71 0), (Value.int 0 0), (Value.ref 81), (Value.int 75 0), (Value.int 0 0), (Value.ref 88), (Value.int 96 0), (Value.int 0 0), (Value.ref 95), (Value.int 101 0), (Value.int 0 0), (Value.ref 102), (Value.int 110 0), (Value.int 0 0), (Value.ref 109), (Value.int 118 0), (Value.int 0 0), (Value.ref 116)]) #[])
noncomputable def zq16 (P : Params) : Obj := (Obj.mk (Value.type "dict") none (Data.dict #[(de P s214 348 (Value.str s230 333)), (de P s281 350 (Value.str s180 349)), (de P s215 352 (Value.int 118 351)), (de P s216 356 (Value.ref 118)), (de P s206 364 (Value.ref 125)), (de P s217 368 (Value.ref 126))] 6) #[])
noncomputable def zq17 (P : Params) : Obj := (Obj.mk Value.none none (Data.fields #[(Value.int 121 0), (Value.int 4 0), (Value.ref 124)]) #[])
noncomputable def zq18 (P : Params) : Obj := (Obj.mk (Value.type "code") none (Data.fields #[(Value.str s180 343), (Value.str s180 344), (Value.str s165 345), (Value.int 118 0), (Value.int 0 0), (Value.int 0 0), (Value.int 0 0), (Value.int 0 0), (Value.ref 114), (Value.bool false), (Value.int 181 0), (Value.ref 115), Value.none, Value.none, Value.none, Value.none, (Value.int 346 0), (Value.int 118 0), (Value.str s165 347)]) #[])
noncomputable def zq19 (P : Params) : Obj := (Obj.mk (Value.type "frame") none Data.plain #[(some (Value.ref 116)), (some (Value.ref 3)), (some (Value.ref 113)), none, (some (Value.str s230 333)), none, (some (Value.ref 0))])
noncomputable def zq20 (P : Params) : Obj := (Obj.mk (Value.type "list") none (Data.seq #[(Value.str s226 353), (Value.str s227 354), (Value.str s228 355)] 1) #[])
noncomputable def zq21 (P : Params) : Obj := (Obj.mk (Value.type "super") none (Data.fields #[(Value.ref 129), (Value.ref 129), (Value.ref 129)]) #[])
noncomputable def zq22 (P : Params) : Obj := (Obj.mk (Value.type "builtin_function_or_method") none (Data.fields #[(Value.builtin "object.__init_subclass__"), (Value.ref 129)]) #[])
noncomputable def zq23 (P : Params) : Obj := (Obj.mk (Value.type "dict") none (Data.dict #[(de P s0 165 (Value.str s230 333)), (de P s2 166 Value.none), (de P s3 167 Value.none), (de P s4 168 (Value.builtin "__main__.__loader__#opaque")), (de P s5 169 Value.none), (de P s162 170 (Value.ref 6)), (de P s163 171 (Value.ref 4)), (de P s164 173 (Value.str s165 172)), (de P s166 174 Value.none), (de P s167 193 (Value.ref 21)), (de P s168 203 (Value.ref 28)), (de P s169 212 (Value.ref 35)), (de P s170 280 (Value.ref 68)), (de P s171 289 (Value.ref 82)), (de P s172 293 (Value.str s173 292)), (de P s174 302 (Value.ref 89)), (de P s175 311 (Value.ref 96)), (de P s176 322 (Value.ref 103)), (de P s177 332 (Value.ref 110)), (de P s178 337 (Value.int (@Neg.neg Int Int.instNegInt 1) 336)), (de P s179 340 (Value.int (@Neg.neg Int Int.instNegInt 2) 339)), (de P s180 377 (Value.ref 129)), (de P s181 395 (Value.ref 144))] 23) #[])
noncomputable def zq24 (P : Params) : Obj := (Obj.mk Value.none none (Data.fields #[(Value.int 1 0), (Value.int 0 0), (Value.ref 20), (Value.int 5 0), (Value.int 0 0), (Value.ref 27), (Value.int 8 0), (Value.int 0 0), (Value.ref 34), (Value.int 13 0), (Value.int 0 0), (Value.ref 41), (Value.int 71 0), (Value.int 0 0), (Value.ref 81), (Value.int 75 0), (Value.int 0 0), (Value.ref 88), (Value.int 96 0), (Value.int 0 0), (Value.ref 95), (Value.int 101 0), (Value.int 0 0), (Value.ref 102), (Value.int 110 0), (Value.int 0 0), (Value.ref 109), (Value.int 118 0), (Value.int 0 0), (Value.ref 116), (Value.int 125 0), (Value.int 0 0), (Value.ref 140)]) #[])
noncomputable def zq25 (P : Params) : Obj := (Obj.mk (Value.type "dict") none (Data.dict #[(de P s214 385 (Value.str s230 333)), (de P s281 387 (Value.str s181 386)), (de P s215 389 (Value.int 125 388)), (de P s217 390 (Value.ref 142))] 4) #[])
noncomputable def zq26 (P : Params) : Obj := (Obj.mk (Value.type "code") none (Data.fields #[(Value.str s181 380), (Value.str s181 381), (Value.str s165 382), (Value.int 125 0), (Value.int 0 0), (Value.int 0 0), (Value.int 0 0), (Value.int 0 0), (Value.ref 138), (Value.bool false), (Value.int 181 0), (Value.ref 139), Value.none, Value.none, Value.none, Value.none, (Value.int 383 0), (Value.int 125 0), (Value.str s165 384)]) #[])
noncomputable def zq27 (P : Params) : Obj := (Obj.mk (Value.type "frame") none Data.plain #[(some (Value.ref 140)), (some (Value.ref 3)), (some (Value.ref 137)), none, (some (Value.str s230 333)), none, (some (Value.ref 0))])
noncomputable def zq28 (P : Params) : Obj := (Obj.mk (Value.type "super") none (Data.fields #[(Value.ref 144), (Value.ref 144), (Value.ref 144)]) #[])
noncomputable def zq29 (P : Params) : Obj := (Obj.mk (Value.type "builtin_function_or_method") none (Data.fields #[(Value.builtin "object.__init_subclass__"), (Value.ref 144)]) #[])
noncomputable def zq30 (P : Params) : Obj := (Obj.mk (Value.type "dict") none (Data.dict #[(de P s0 165 (Value.str s230 333)), (de P s2 166 Value.none), (de P s3 167 Value.none), (de P s4 168 (Value.builtin "__main__.__loader__#opaque")), (de P s5 169 Value.none), (de P s162 170 (Value.ref 6)), (de P s163 171 (Value.ref 4)), (de P s164 173 (Value.str s165 172)), (de P s166 174 Value.none), (de P s167 193 (Value.ref 21)), (de P s168 203 (Value.ref 28)), (de P s169 212 (Value.ref 35)), (de P s170 280 (Value.ref 68)), (de P s171 289 (Value.ref 82)), (de P s172 293 (Value.str s173 292)), (de P s174 302 (Value.ref 89)), (de P s175 311 (Value.ref 96)), (de P s176 322 (Value.ref 103)), (de P s177 332 (Value.ref 110)), (de P s178 337 (Value.int (@Neg.neg Int Int.instNegInt 1) 336)), (de P s179 340 (Value.int (@Neg.neg Int Int.instNegInt 2) 339)), (de P s180 377 (Value.ref 129)), (de P s181 395 (Value.ref 144)), (de P s182 514 (Value.ref 226))] 24) #[])
noncomputable def zq31 (P : Params) : Obj := (Obj.mk Value.none none (Data.fields #[(Value.int 1 0), (Value.int 0 0), (Value.ref 20), (Value.int 5 0), (Value.int 0 0), (Value.ref 27), (Value.int 8 0), (Value.int 0 0), (Value.ref 34), (Value.int 13 0), (Value.int 0 0), (Value.ref 41), (Value.int 71 0), (Value.int 0 0), (Value.ref 81), (Value.int 75 0), (Value.int 0 0), (Value.ref 88), (Value.int 96 0), (Value.int 0 0), (Value.ref 95), (Value.int 101 0), (Value.int 0 0), (Value.ref 102), (Value.int 110 0), (Value.int 0 0), (Value.ref 109), (Value.int 118 0), (Value.int 0 0), (Value.ref 116), (Value.int 125 0), (Value.int 0 0), (Value.ref 140), (Value.int 127 0), (Value.int 0 0), (Value.ref 153)]) #[])
noncomputable def zq32 (P : Params) : Obj := (Obj.mk (Value.type "dict") none (Data.dict #[(de P s214 403 (Value.str s230 333)), (de P s281 405 (Value.str s182 404)), (de P s215 407 (Value.int 127 406)), (de P s206 417 (Value.ref 162)), (de P s236 426 (Value.ref 169)), (de P s241 438 (Value.ref 176)), (de P s243 444 (Value.ref 181)), (de P s246 454 (Value.ref 188)), (de P s248 461 (Value.ref 195)), (de P s250 468 (Value.ref 202)), (de P s256 482 (Value.ref 209)), (de P s262 495 (Value.ref 216)), (de P s264 502 (Value.ref 223)), (de P s217 507 (Value.ref 224))] 14) #[])
noncomputable def zq33 (P : Params) : Obj := (Obj.mk Value.none none (Data.fields #[(Value.int 129 0), (Value.int 4 0), (Value.ref 161), (Value.int 138 0), (Value.int 4 0), (Value.ref 168), (Value.int 143 0), (Value.int 4 0), (Value.ref 175), (Value.int 152 0), (Value.int 4 0), (Value.ref 180), (Value.int 160 0), (Value.int 4 0), (Value.ref 187), (Value.int 171 0), (Value.int 4 0), (Value.ref 194), (Value.int 176 0), (Value.int 4 0), (Value.ref 201), (Value.int 179 0), (Value.int 4 0), (Value.ref 208), (Value.int 202 0), (Value.int 4 0), (Value.ref 215), (Value.int 231 0), (Value.int 4 0), (Value.ref 222)]) #[])
noncomputable def zq34 (P : Params) : Obj := (Obj.mk (Value.type "code") none (Data.fields #[(Value.str s182 398), (Value.str s182 399), (Value.str s165 400), (Value.int 127 0), (Value.int 0 0), (Value.int 0 0), (Value.int 0 0), (Value.int 0 0), (Value.ref 151), (Value.bool false), (Value.int 181 0), (Value.ref 152), Value.none, Value.none, Value.none, Value.none, (Value.int 401 0), (Value.int 127 0), (Value.str s165 402)]) #[])
noncomputable def zq35 (P : Params) : Obj := (Obj.mk (Value.type "frame") none Data.plain #[(some (Value.ref 153)), (some (Value.ref 3)), (some (Value.ref 150)), none, (some (Value.str s230 333)), none, (some (Value.ref 0))])
noncomputable def zq36 (P : Params) : Obj := (Obj.mk (Value.type "super") none (Data.fields #[(Value.ref 226), (Value.ref 226), (Value.ref 226)]) #[])
noncomputable def zq37 (P : Params) : Obj := (Obj.mk (Value.type "builtin_function_or_method") none (Data.fields #[(Value.builtin "object.__init_subclass__"), (Value.ref 226)]) #[])
noncomputable def hp8 (P : Params) : Heap := ⟨⟨(W.boot_o_0 P) :: (W.boot_o_1 P) :: (W.boot_o_2 P) :: (W.boot_o_3 P) :: (W.boot_o_4 P) :: (W.boot_o_5 P) :: (W.boot_o_6 P) :: (W.boot_o_7 P) :: (W.boot_o_8 P) :: (W.boot_o_9 P) :: (W.boot_o_10 P) :: (zo245 P) :: (zo246 P) :: (zo13 P) :: (zo14 P) :: []⟩, {}⟩
noncomputable def hp0 (P : Params) : Heap := ⟨⟨(W.boot_o_0 P) :: (W.boot_o_1 P) :: (W.boot_o_2 P) :: (W.boot_o_3 P) :: (W.boot_o_4 P) :: (W.boot_o_5 P) :: (W.boot_o_6 P) :: (W.boot_o_7 P) :: (W.boot_o_8 P) :: (W.boot_o_9 P) :: (W.boot_o_10 P) :: (zo245 P) :: (zo246 P) :: (zo13 P) :: (zo14 P) :: []⟩, {}⟩
noncomputable def hp1 (P : Params) : Heap := ⟨⟨(W.boot_o_0 P) :: (W.boot_o_1 P) :: (W.boot_o_2 P) :: (zq0 P) :: (W.boot_o_4 P) :: (W.boot_o_5 P) :: (W.boot_o_6 P) :: (W.boot_o_7 P) :: (W.boot_o_8 P) :: (W.boot_o_9 P) :: (W.boot_o_10 P) :: (zo245 P) :: (zq1 P) :: (zo13 P) :: (zo14 P) :: (zo245 P) :: (zo246 P) :: (zo17 P) :: (zo245 P) :: (zo19 P) :: (zo20 P) :: (zo21 P) :: (zo245 P) :: (zo246 P) :: (zo24 P) :: (zo245 P) :: (zo26 P) :: (zo27 P) :: (zo28 P) :: (zo245 P) :: (zo246 P) :: (zo31 P) :: (zo245 P) :: (zo33 P) :: (zo34 P) :: (zo35 P) :: []⟩, {}⟩
noncomputable def hp2 (P : Params) : Heap := ⟨⟨(W.boot_o_0 P) :: (W.boot_o_1 P) :: (W.boot_o_2 P) :: (zq2 P) :: (W.boot_o_4 P) :: (W.boot_o_5 P) :: (W.boot_o_6 P) :: (W.boot_o_7 P) :: (W.boot_o_8 P) :: (W.boot_o_9 P) :: (W.boot_o_10 P) :: (zo245 P) :: (zq3 P) :: (zo13 P) :: (zo14 P) :: (zo245 P) :: (zo246 P) :: (zo17 P) :: (zo245 P) :: (zo19 P) :: (zo20 P) :: (zo21 P) :: (zo245 P) :: (zo246 P) :: (zo24 P) :: (zo245 P) :: (zo26 P) :: (zo27 P) :: (zo28 P) :: (zo245 P) :: (zo246 P) :: (zo31 P) :: (zo245 P) :: (zo33 P) :: (zo34 P) :: (zo35 P) :: (zo245 P) :: (zq4 P) :: (zq5 P) :: (zo245 P) :: (zq6 P) :: (zq7 P) :: (zq8 P) :: (zo43 P) :: (zo245 P) :: (zo246 P) :: (zo46 P) :: (zo245 P) :: (zo48 P) :: (zo49 P) :: (zo50 P) :: (zo245 P) :: (zo246 P) :: (zo53 P) :: (zo245 P) :: (zo55 P) :: (zo56 P) :: (zo57 P) :: (zo245 P) :: (zo246 P) :: (zo60 P) :: (zo245 P) :: (zo62 P) :: (zo63 P) :: (zo64 P) :: (zo65 P) :: (zq9 P) :: (zo67 P) :: (zo68 P) :: (zo69 P) :: (zo70 P) :: (zo71 P) :: (zo72 P) :: (zo73 P) :: (zq10 P) :: (zq11 P) :: (zo245 P) :: (zo246 P) :: (zo78 P) :: (zo245 P) :: (zo80 P) :: (zo81 P) :: (zo82 P) :: []⟩, {}⟩
noncomputable def hp3 (P : Params) : Heap := ⟨⟨(W.boot_o_0 P) :: (W.boot_o_1 P) :: (W.boot_o_2 P) :: (zq12 P) :: (W.boot_o_4 P) :: (W.boot_o_5 P) :: (W.boot_o_6 P) :: (W.boot_o_7 P) :: (W.boot_o_8 P) :: (W.boot_o_9 P) :: (W.boot_o_10 P) :: (zo245 P) :: (zq13 P) :: (zo13 P) :: (zo14 P) :: (zo245 P) :: (zo246 P) :: (zo17 P) :: (zo245 P) :: (zo19 P) :: (zo20 P) :: (zo21 P) :: (zo245 P) :: (zo246 P) :: (zo24 P) :: (zo245 P) :: (zo26 P) :: (zo27 P) :: (zo28 P) :: (zo245 P) :: (zo246 P) :: (zo31 P) :: (zo245 P) :: (zo33 P) :: (zo34 P) :: (zo35 P) :: (zo245 P) :: (zq4 P) :: (zq5 P) :: (zo245 P) :: (zq6 P) :: (zq7 P) :: (zq8 P) :: (zo43 P) :: (zo245 P) :: (zo246 P) :: (zo46 P) :: (zo245 P) :: (zo48 P) :: (zo49 P) :: (zo50 P) :: (zo245 P) :: (zo246 P) :: (zo53 P) :: (zo245 P) :: (zo55 P) :: (zo56 P) :: (zo57 P) :: (zo245 P) :: (zo246 P) :: (zo60 P) :: (zo245 P) :: (zo62 P) :: (zo63 P) :: (zo64 P) :: (zo65 P) :: (zq9 P) :: (zo67 P) :: (zo68 P) :: (zo69 P) :: (zo70 P) :: (zo71 P) :: (zo72 P) :: (zo73 P) :: (zq10 P) :: (zq11 P) :: (zo245 P) :: (zo246 P) :: (zo78 P) :: (zo245 P) :: (zo80 P) :: (zo81 P) :: (zo82 P) :: (zo245 P) :: (zo246 P) :: (zo85 P) :: (zo245 P) :: (zo87 P) :: (zo88 P) :: (zo89 P) :: (zo245 P) :: (zo246 P) :: (zo92 P) :: (zo245 P) :: (zo94 P) :: (zo95 P) :: (zo96 P) :: (zo245 P) :: (zo246 P) :: (zo99 P) :: (zo245 P) :: (zo101 P) :: (zo102 P) :: (zo103 P) :: (zo245 P) :: (zo246 P) :: (zo106 P) :: (zo245 P) :: (zo108 P) :: (zo109 P) :: (zo110 P) :: []⟩, {}⟩
noncomputable def hp4 (P : Params) : Heap := ⟨⟨(W.boot_o_0 P) :: (W.boot_o_1 P) :: (W.boot_o_2 P) :: (zq14 P) :: (W.boot_o_4 P) :: (W.boot_o_5 P) :: (W.boot_o_6 P) :: (W.boot_o_7 P) :: (W.boot_o_8 P) :: (W.boot_o_9 P) :: (W.boot_o_10 P) :: (zo245 P) :: (zq15 P) :: (zo13 P) :: (zo14 P) :: (zo245 P) :: (zo246 P) :: (zo17 P) :: (zo245 P) :: (zo19 P) :: (zo20 P) :: (zo21 P) :: (zo245 P) :: (zo246 P) :: (zo24 P) :: (zo245 P) :: (zo26 P) :: (zo27 P) :: (zo28 P) :: (zo245 P) :: (zo246 P) :: (zo31 P) :: (zo245 P) :: (zo33 P) :: (zo34 P) :: (zo35 P) :: (zo245 P) :: (zq4 P) :: (zq5 P) :: (zo245 P) :: (zq6 P) :: (zq7 P) :: (zq8 P) :: (zo43 P) :: (zo245 P) :: (zo246 P) :: (zo46 P) :: (zo245 P) :: (zo48 P) :: (zo49 P) :: (zo50 P) :: (zo245 P) :: (zo246 P) :: (zo53 P) :: (zo245 P) :: (zo55 P) :: (zo56 P) :: (zo57 P) :: (zo245 P) :: (zo246 P) :: (zo60 P) :: (zo245 P) :: (zo62 P) :: (zo63 P) :: (zo64 P) :: (zo65 P) :: (zq9 P) :: (zo67 P) :: (zo68 P) :: (zo69 P) :: (zo70 P) :: (zo71 P) :: (zo72 P) :: (zo73 P) :: (zq10 P) :: (zq11 P) :: (zo245 P) :: (zo246 P) :: (zo78 P) :: (zo245 P) :: (zo80 P) :: (zo81 P) :: (zo82 P) :: (zo245 P) :: (zo246 P) :: (zo85 P) :: (zo245 P) :: (zo87 P) :: (zo88 P) :: (zo89 P) :: (zo245 P) :: (zo246 P) :: (zo92 P) :: (zo245 P) :: (zo94 P) :: (zo95 P) :: (zo96 P) :: (zo245 P) :: (zo246 P) :: (zo99 P) :: (zo245 P) :: (zo101 P) :: (zo102 P) :: (zo103 P) :: (zo245 P) :: (zo246 P) :: (zo106 P) :: (zo245 P) :: (zo108 P) :: (zo109 P) :: (zo110 P) :: (zo245 P) :: (zq4 P) :: (zq16 P) :: (zo245 P) :: (zq17 P) :: (zq18 P) :: (zq19 P) :: (zo118 P) :: (zo245 P) :: (zo246 P) :: (zo121 P) :: (zo245 P) :: (zo123 P) :: (zo124 P) :: (zo125 P) :: (zo126 P) :: (zq20 P) :: (zo128 P) :: (zo129 P) :: (zo130 P) :: (zo131 P) :: (zo132 P) :: (zq21 P) :: (zq22 P) :: []⟩, {}⟩
noncomputable def hp5 (P : Params) : Heap := ⟨⟨(W.boot_o_0 P) :: (W.boot_o_1 P) :: (W.boot_o_2 P) :: (zq23 P) :: (W.boot_o_4 P) :: (W.boot_o_5 P) :: (W.boot_o_6 P) :: (W.boot_o_7 P) :: (W.boot_o_8 P) :: (W.boot_o_9 P) :: (W.boot_o_10 P) :: (zo245 P) :: (zq24 P) :: (zo13 P) :: (zo14 P) :: (zo245 P) :: (zo246 P) :: (zo17 P) :: (zo245 P) :: (zo19 P) :: (zo20 P) :: (zo21 P) :: (zo245 P) :: (zo246 P) :: (zo24 P) :: (zo245 P) :: (zo26 P) :: (zo27 P) :: (zo28 P) :: (zo245 P) :: (zo246 P) :: (zo31 P) :: (zo245 P) :: (zo33 P) :: (zo34 P) :: (zo35 P) :: (zo245 P) :: (zq4 P) :: (zq5 P) :: (zo245 P) :: (zq6 P) :: (zq7 P) :: (zq8 P) :: (zo43 P) :: (zo245 P) :: (zo246 P) :: (zo46 P) :: (zo245 P) :: (zo48 P) :: (zo49 P) :: (zo50 P) :: (zo245 P) :: (zo246 P) :: (zo53 P) :: (zo245 P) :: (zo55 P) :: (zo56 P) :: (zo57 P) :: (zo245 P) :: (zo246 P) :: (zo60 P) :: (zo245 P) :: (zo62 P) :: (zo63 P) :: (zo64 P) :: (zo65 P) :: (zq9 P) :: (zo67 P) :: (zo68 P) :: (zo69 P) :: (zo70 P) :: (zo71 P) :: (zo72 P) :: (zo73 P) :: (zq10 P) :: (zq11 P) :: (zo245 P) :: (zo246 P) :: (zo78 P) :: (zo245 P) :: (zo80 P) :: (zo81 P) :: (zo82 P) :: (zo245 P) :: (zo246 P) :: (zo85 P) :: (zo245 P) :: (zo87 P) :: (zo88 P) :: (zo89 P) :: (zo245 P) :: (zo246 P) :: (zo92 P) :: (zo245 P) :: (zo94 P) :: (zo95 P) :: (zo96 P) :: (zo245 P) :: (zo246 P) :: (zo99 P) :: (zo245 P) :: (zo101 P) :: (zo102 P) :: (zo103 P) :: (zo245 P) :: (zo246 P) :: (zo106 P) :: (zo245 P) :: (zo108 P) :: (zo109 P) :: (zo110 P) :: (zo245 P) :: (zq4 P) :: (zq16 P) :: (zo245 P) :: (zq17 P) :: (zq18 P) :: (zq19 P) :: (zo118 P) :: (zo245 P) :: (zo246 P) :: (zo121 P) :: (zo245 P) :: (zo123 P) :: (zo124 P) :: (zo125 P) :: (zo126 P) :: (zq20 P) :: (zo128 P) :: (zo129 P) :: (zo130 P) :: (zo131 P) :: (zo132 P) :: (zq21 P) :: (zq22 P) :: (zo135 P) :: (zq4 P) :: (zq25 P) :: (zo245 P) :: (zo246 P) :: (zq26 P) :: (zq27 P) :: (zo245 P) :: (zo143 P) :: (zo144 P) :: (zo145 P) :: (zq28 P) :: (zq29 P) :: []⟩, {}⟩
noncomputable def hp6 (P : Params) : Heap := ⟨⟨(W.boot_o_0 P) :: (W.boot_o_1 P) :: (W.boot_o_2 P) :: (zq30 P) :: (W.boot_o_4 P) :: (W.boot_o_5 P) :: (W.boot_o_6 P) :: (W.boot_o_7 P) :: (W.boot_o_8 P) :: (W.boot_o_9 P) :: (W.boot_o_10 P) :: (zo245 P) :: (zq31 P) :: (zo13 P) :: (zo14 P) :: (zo245 P) :: (zo246 P) :: (zo17 P) :: (zo245 P) :: (zo19 P) :: (zo20 P) :: (zo21 P) :: (zo245 P) :: (zo246 P) :: (zo24 P) :: (zo245 P) :: (zo26 P) :: (zo27 P) :: (zo28 P) :: (zo245 P) :: (zo246 P) :: (zo31 P) :: (zo245 P) :: (zo33 P) :: (zo34 P) :: (zo35 P) :: (zo245 P) :: (zq4 P) :: (zq5 P) :: (zo245 P) :: (zq6 P) :: (zq7 P) :: (zq8 P) :: (zo43 P) :: (zo245 P) :: (zo246 P) :: (zo46 P) :: (zo245 P) :: (zo48 P) :: (zo49 P) :: (zo50 P) :: (zo245 P) :: (zo246 P) :: (zo53 P) :: (zo245 P) :: (zo55 P) :: (zo56 P) :: (zo57 P) :: (zo245 P) :: (zo246 P) :: (zo60 P) :: (zo245 P) :: (zo62 P) :: (zo63 P) :: (zo64 P) :: (zo65 P) :: (zq9 P) :: (zo67 P) :: (zo68 P) :: (zo69 P) :: (zo70 P) :: (zo71 P) :: (zo72 P) :: (zo73 P) :: (zq10 P) :: (zq11 P) :: (zo245 P) :: (zo246 P) :: (zo78 P) :: (zo245 P) :: (zo80 P) :: (zo81 P) :: (zo82 P) :: (zo245 P) :: (zo246 P) :: (zo85 P) :: (zo245 P) :: (zo87 P) :: (zo88 P) :: (zo89 P) :: (zo245 P) :: (zo246 P) :: (zo92 P) :: (zo245 P) :: (zo94 P) :: (zo95 P) :: (zo96 P) :: (zo245 P) :: (zo246 P) :: (zo99 P) :: (zo245 P) :: (zo101 P) :: (zo102 P) :: (zo103 P) :: (zo245 P) :: (zo246 P) :: (zo106 P) :: (zo245 P) :: (zo108 P) :: (zo109 P) :: (zo110 P) :: (zo245 P) :: (zq4 P) :: (zq16 P) :: (zo245 P) :: (zq17 P) :: (zq18 P) :: (zq19 P) :: (zo118 P) :: (zo245 P) :: (zo246 P) :: (zo121 P) :: (zo245 P) :: (zo123 P) :: (zo124 P) :: (zo125 P) :: (zo126 P) :: (zq20 P) :: (zo128 P) :: (zo129 P) :: (zo130 P) :: (zo131 P) :: (zo132 P) :: (zq21 P) :: (zq22 P) :: (zo135 P) :: (zq4 P) :: (zq25 P) :: (zo245 P) :: (zo246 P) :: (zq26 P) :: (zq27 P) :: (zo245 P) :: (zo143 P) :: (zo144 P) :: (zo145 P) :: (zq28 P) :: (zq29 P) :: (zo245 P) :: (zq4 P) :: (zq32 P) :: (zo245 P) :: (zq33 P) :: (zq34 P) :: (zq35 P) :: (zo155 P) :: (zo245 P) :: (zo246 P) :: (zo158 P) :: (zo245 P) :: (zo160 P) :: (zo161 P) :: (zo162 P) :: (zo245 P) :: (zo246 P) :: (zo165 P) :: (zo245 P) :: (zo167 P) :: (zo168 P) :: (zo169 P) :: (zo245 P) :: (zo246 P) :: (zo172 P) :: (zo245 P) :: (zo174 P) :: (zo175 P) :: (zo176 P) :: (zo245 P) :: (zo246 P) :: (zo179 P) :: (zo180 P) :: (zo181 P) :: (zo245 P) :: (zo246 P) :: (zo184 P) :: (zo245 P) :: (zo186 P) :: (zo187 P) :: (zo188 P) :: (zo245 P) :: (zo246 P) :: (zo191 P) :: (zo245 P) :: (zo193 P) :: (zo194 P) :: (zo195 P) :: (zo245 P) :: (zo246 P) :: (zo198 P) :: (zo245 P) :: (zo200 P) :: (zo201 P) :: (zo202 P) :: (zo245 P) :: (zo246 P) :: (zo205 P) :: (zo245 P) :: (zo207 P) :: (zo208 P) :: (zo209 P) :: (zo245 P) :: (zo246 P) :: (zo212 P) :: (zo245 P) :: (zo214 P) :: (zo215 P) :: (zo216 P) :: (zo245 P) :: (zo246 P) :: (zo219 P) :: (zo245 P) :: (zo221 P) :: (zo222 P) :: (zo223 P) :: (zo224 P) :: (zo225 P) :: (zo226 P) :: (zo227 P) :: (zo228 P) :: (zq36 P) :: (zq37 P) :: []⟩, {}⟩
noncomputable def hp7 (P : Params) : Heap := ⟨⟨(W.boot_o_0 P) :: (W.boot_o_1 P) :: (W.boot_o_2 P) :: (zo3 P) :: (W.boot_o_4 P) :: (W.boot_o_5 P) :: (W.boot_o_6 P) :: (W.boot_o_7 P) :: (W.boot_o_8 P) :: (W.boot_o_9 P) :: (W.boot_o_10 P) :: (zo245 P) :: (zo12 P) :: (zo13 P) :: (zo14 P) :: (zo245 P) :: (zo246 P) :: (zo17 P) :: (zo245 P) :: (zo19 P) :: (zo20 P) :: (zo21 P) :: (zo245 P) :: (zo246 P) :: (zo24 P) :: (zo245 P) :: (zo26 P) :: (zo27 P) :: (zo28 P) :: (zo245 P) :: (zo246 P) :: (zo31 P) :: (zo245 P) :: (zo33 P) :: (zo34 P) :: (zo35 P) :: (zo245 P) :: (zq4 P) :: (zq5 P) :: (zo245 P) :: (zq6 P) :: (zq7 P) :: (zq8 P) :: (zo43 P) :: (zo245 P) :: (zo246 P) :: (zo46 P) :: (zo245 P) :: (zo48 P) :: (zo49 P) :: (zo50 P) :: (zo245 P) :: (zo246 P) :: (zo53 P) :: (zo245 P) :: (zo55 P) :: (zo56 P) :: (zo57 P) :: (zo245 P) :: (zo246 P) :: (zo60 P) :: (zo245 P) :: (zo62 P) :: (zo63 P) :: (zo64 P) :: (zo65 P) :: (zq9 P) :: (zo67 P) :: (zo68 P) :: (zo69 P) :: (zo70 P) :: (zo71 P) :: (zo72 P) :: (zo73 P) :: (zq10 P) :: (zq11 P) :: (zo245 P) :: (zo246 P) :: (zo78 P) :: (zo245 P) :: (zo80 P) :: (zo81 P) :: (zo82 P) :: (zo245 P) :: (zo246 P) :: (zo85 P) :: (zo245 P) :: (zo87 P) :: (zo88 P) :: (zo89 P) :: (zo245 P) :: (zo246 P) :: (zo92 P) :: (zo245 P) :: (zo94 P) :: (zo95 P) :: (zo96 P) :: (zo245 P) :: (zo246 P) :: (zo99 P) :: (zo245 P) :: (zo101 P) :: (zo102 P) :: (zo103 P) :: (zo245 P) :: (zo246 P) :: (zo106 P) :: (zo245 P) :: (zo108 P) :: (zo109 P) :: (zo110 P) :: (zo245 P) :: (zq4 P) :: (zq16 P) :: (zo245 P) :: (zq17 P) :: (zq18 P) :: (zq19 P) :: (zo118 P) :: (zo245 P) :: (zo246 P) :: (zo121 P) :: (zo245 P) :: (zo123 P) :: (zo124 P) :: (zo125 P) :: (zo126 P) :: (zq20 P) :: (zo128 P) :: (zo129 P) :: (zo130 P) :: (zo131 P) :: (zo132 P) :: (zq21 P) :: (zq22 P) :: (zo135 P) :: (zq4 P) :: (zq25 P) :: (zo245 P) :: (zo246 P) :: (zq26 P) :: (zq27 P) :: (zo245 P) :: (zo143 P) :: (zo144 P) :: (zo145 P) :: (zq28 P) :: (zq29 P) :: (zo245 P) :: (zq4 P) :: (zq32 P) :: (zo245 P) :: (zq33 P) :: (zq34 P) :: (zq35 P) :: (zo155 P) :: (zo245 P) :: (zo246 P) :: (zo158 P) :: (zo245 P) :: (zo160 P) :: (zo161 P) :: (zo162 P) :: (zo245 P) :: (zo246 P) :: (zo165 P) :: (zo245 P) :: (zo167 P) :: (zo168 P) :: (zo169 P) :: (zo245 P) :: (zo246 P) :: (zo172 P) :: (zo245 P) :: (zo174 P) :: (zo175 P) :: (zo176 P) :: (zo245 P) :: (zo246 P) :: (zo179 P) :: (zo180 P) :: (zo181 P) :: (zo245 P) :: (zo246 P) :: (zo184 P) :: (zo245 P) :: (zo186 P) :: (zo187 P) :: (zo188 P) :: (zo245 P) :: (zo246 P) :: (zo191 P) :: (zo245 P) :: (zo193 P) :: (zo194 P) :: (zo195 P) :: (zo245 P) :: (zo246 P) :: (zo198 P) :: (zo245 P) :: (zo200 P) :: (zo201 P) :: (zo202 P) :: (zo245 P) :: (zo246 P) :: (zo205 P) :: (zo245 P) :: (zo207 P) :: (zo208 P) :: (zo209 P) :: (zo245 P) :: (zo246 P) :: (zo212 P) :: (zo245 P) :: (zo214 P) :: (zo215 P) :: (zo216 P) :: (zo245 P) :: (zo246 P) :: (zo219 P) :: (zo245 P) :: (zo221 P) :: (zo222 P) :: (zo223 P) :: (zo224 P) :: (zo225 P) :: (zo226 P) :: (zo227 P) :: (zo228 P) :: (zq36 P) :: (zq37 P) :: (zo245 P) :: (zo246 P) :: (zo233 P) :: (zo245 P) :: (zo235 P) :: (zo236 P) :: (zo237 P) :: (zo245 P) :: (zo246 P) :: (zo240 P) :: (zo245 P) :: (zo242 P) :: (zo243 P) :: (zo244 P) :: (zo245 P) :: (zo246 P) :: (zo247 P) :: (zo248 P) :: (zo249 P) :: []⟩, {}⟩
noncomputable abbrev pw0 : Program := PySem.Challenge.pw_ij0125_01
noncomputable def ev0 : Env := Env.mk pw0.main.scope mainNs mainNs [] Str.empty none (.ref 13) (some 14) 0
noncomputable abbrev b0 : List Stmt := behindTheImports pw0
noncomputable abbrev c0 : Code := .body b0 ev0
noncomputable abbrev zp : Pos := ⟨0, 0, 0, 0⟩
noncomputable abbrev sha (h : Heap) (t : Nat) (os : OsState) : Shared := ⟨h, Array.mk [], {}, t, os⟩
noncomputable abbrev an0 : Option Value := some (.ref 6)
theorem app_at {w : World} {n N : Nat} {s s' r : Shared} {l : List Stmt} {p p' : Pos} (i : Nat) (h : segRun treeTable pw0 w 11 an0 1 n s (piecesOf (l.take i) ev0 c0 p [topFrame zp]) = some (.next, s', c0, p')) (k : topRun treeTable pw0 w 11 an0 N s' (restOf (l.drop i) ev0 c0 p' [topFrame zp]) = some r) : topRun treeTable pw0 w 11 an0 (n + N) s (restOf l ev0 c0 p [topFrame zp]) = some r := by
  have := piece_app h k
  rwa [List.take_append_drop] at this
theorem pq0 (w : World) (os : OsState) : topGo treeTable pw0 w 11 an0 12 ⟨boot_heap w.params, Array.mk [], boot_drawn, boot_toks, os⟩ (topStub pw0) = some (sha (hp8 w.params) 187 os, ⟨denote treeTable c0, c0, zp, [topFrame zp]⟩) := by kernel_rfl
theorem pq1 (w : World) (os : OsState) : segRun treeTable pw0 w 11 an0 1 1 (sha (hp8 w.params) 187 os) (blockOf b0 ev0 c0 zp [topFrame zp]) = some (.next, sha (hp0 w.params) 187 os, c0, zp) := by kernel_rfl
theorem pq2 (w : World) (os : OsState) : segRun treeTable pw0 w 11 an0 1 100 (sha (hp0 w.params) 187 os) (piecesOf (b0.take 4) ev0 c0 ⟨0, 0, 0, 0⟩ [topFrame zp]) = some (.next, sha (hp1 w.params) 213 os, c0, ⟨8, 0, 12, 16⟩) := by kernel_rfl
theorem pq3 (w : World) (os : OsState) : segRun treeTable pw0 w 11 an0 1 395 (sha (hp1 w.params) 213 os) (piecesOf ((b0.drop 4).take 3) ev0 c0 ⟨8, 0, 12, 16⟩ [topFrame zp]) = some (.next, sha (hp2 w.params) 290 os, c0, ⟨71, 0, 72, 43⟩) := by kernel_rfl
theorem pq4 (w : World) (os : OsState) : segRun treeTable pw0 w 11 an0 1 190 (sha (hp2 w.params) 290 os) (piecesOf (((b0.drop 4).drop 3).take 10) ev0 c0 ⟨71, 0, 72, 43⟩ [topFrame zp]) = some (.next, sha (hp3 w.params) 341 os, c0, ⟨117, 0, 117, 10⟩) := by kernel_rfl
theorem pq5 (w : World) (os : OsState) : segRun treeTable pw0 w 11 an0 1 264 (sha (hp3 w.params) 341 os) (piecesOf ((((b0.drop 4).drop 3).drop 10).take 1) ev0 c0 ⟨117, 0, 117, 10⟩ [topFrame zp]) = some (.next, sha (hp4 w.params) 378 os, c0, ⟨118, 0, 124, 28⟩) := by kernel_rfl
theorem pq6 (w : World) (os : OsState) : segRun treeTable pw0 w 11 an0 1 187 (sha (hp4 w.params) 378 os) (piecesOf (((((b0.drop 4).drop 3).drop 10).drop 1).take 1) ev0 c0 ⟨118, 0, 124, 28⟩ [topFrame zp]) = some (.next, sha (hp5 w.params) 396 os, c0, ⟨125, 0, 126, 8⟩) := by kernel_rfl
theorem pq7 (w : World) (os : OsState) : segRun treeTable pw0 w 11 an0 1 528 (sha (hp5 w.params) 396 os) (piecesOf ((((((b0.drop 4).drop 3).drop 10).drop 1).drop 1).take 1) ev0 c0 ⟨125, 0, 126, 8⟩ [topFrame zp]) = some (.next, sha (hp6 w.params) 515 os, c0, ⟨127, 0, 232, 16⟩) := by kernel_rfl
theorem pq8 (w : World) (os : OsState) : segRun treeTable pw0 w 11 an0 1 105 (sha (hp6 w.params) 515 os) (piecesOf (((((((b0.drop 4).drop 3).drop 10).drop 1).drop 1).drop 1).take 4) ev0 c0 ⟨127, 0, 232, 16⟩ [topFrame zp]) = some (.next, sha (hp7 w.params) 548 os, c0, ⟨264, 0, 275, 15⟩) := by kernel_rfl
theorem pqe : (((((((b0.drop 4).drop 3).drop 10).drop 1).drop 1).drop 1).drop 4) = [] := by kernel_rfl
theorem pq9 (w : World) (os : OsState) : topRun treeTable pw0 w 11 an0 2 (sha (hp7 w.params) 548 os) ⟨doneF .next, c0, ⟨264, 0, 275, 15⟩, [topFrame zp]⟩ = some (sha (hp7 w.params) 548 os) := by kernel_rfl
theorem pqrun (w : World) (os : OsState) : topRun treeTable pw0 w 11 an0 (12 + (1 + (100 + (395 + (190 + (264 + (187 + (528 + (105 + 2))))))))) ⟨boot_heap w.params, Array.mk [], boot_drawn, boot_toks, os⟩ (topStub pw0) = some (sha (hp7 w.params) 548 os) := go_top (pq0 w os) (piece_block (pq1 w os) (app_at 4 (pq2 w os) (app_at 3 (pq3 w os) (app_at 10 (pq4 w os) (app_at 1 (pq5 w os) (app_at 1 (pq6 w os) (app_at 1 (pq7 w os) (app_at 4 (pq8 w os) (by rw [pqe]; exact piece_nil (pq9 w os))))))))))
noncomputable abbrev Xt0 : Shared → Bool := fun s => xlAt hz.view_481 [] s && recOk PySem.Challenge.rw_ij0125_01.row.records s
noncomputable abbrev lo0 : List Str := [PySem.Str.ofString "islice", PySem.Str.ofString "_NodeInfo"]
noncomputable abbrev as0 : List Nat := [0, 1, 2, 3, 4, 5, 6, 7, 8, 9, 10, 11, 12, 13, 14, 15, 16, 17, 18, 19, 20, 21, 22, 23, 24, 25, 26, 27, 28, 29, 30,
        31, 32, 33, 34, 35, 43, 44, 45, 46, 47, 48, 49, 50, 51, 52, 53, 54, 55, 56, 57, 58, 59, 60, 61, 62, 63, 64, 65,
        67, 68, 69, 70, 71, 72, 73, 76, 77, 78, 79, 80, 81, 82, 83, 84, 85, 86, 87, 88, 89, 90, 91, 92, 93, 94, 95, 96,
        97, 98, 99, 100, 101, 102, 103, 104, 105, 106, 107, 108, 109, 110, 118, 119, 120, 121, 122, 123, 124, 125, 126,
        128, 129, 130, 131, 132, 135, 142, 143, 144, 145, 155, 156, 157, 158, 159, 160, 161, 162, 163, 164, 165, 166,
        167, 168, 169, 170, 171, 172, 173, 174, 175, 176, 177, 178, 179, 180, 181, 182, 183, 184, 185, 186, 187, 188,
        189, 190, 191, 192, 193, 194, 195, 196, 197, 198, 199, 200, 201, 202, 203, 204, 205, 206, 207, 208, 209, 210,
        211, 212, 213, 214, 215, 216, 217, 218, 219, 220, 221, 222, 223, 224, 225, 226, 227, 228, 231, 232, 233, 234,
        235, 236, 237, 238, 239, 240, 241, 242, 243, 244, 245, 246, 247, 248, 249]
theorem bo1 : opening pw0 = plainProg pw0.main.scope.names := by kernel_rfl
theorem bo2 (s : Shared) : fenceModules? pw0 s = some s := by kernel_rfl
theorem bo (w : World) : (fencedOpening treeTable pw0 w 3650).map (fun s => (s.heap, s.gens, s.drawn, s.toks)) = some (boot_heap w.params, Array.mk [], boot_drawn, boot_toks) := boot_open bo1 (by decide) bo2 w
theorem lk0 (w : World) : ((boot_heap w.params).isNs mainGlobals && (Array.mk [] : Array GenState).size == 0, (boot_heap w.params).objs.size, (boot_heap w.params).nsMap mainGlobals "__annotations__") = (true, 11, an0) := by kernel_rfl
theorem lk1 (w : World) (os : OsState) : (staticsOk (importedModules pw0.main.body) (boot_heap w.params) (hp7 w.params) && namesBound pw0 (hp7 w.params) && gensDone (sha (hp7 w.params) 548 os) && laidKept (boot_heap w.params) (hp7 w.params)) = true := by kernel_rfl
theorem lk2 (w : World) (os : OsState) : openSeen hz.view_481 lo0 (importedModules pw0.main.body) Xt0 true (sha (hp7 w.params) 548 os) = openGood hz.view_481 lo0 := by kernel_rfl
theorem lk3 (w : World) (os : OsState) : obsZ as0 (sha (hp7 w.params) 548 os) = valZ hz.heap_251 250 548 w := by kernel_rfl
theorem hl : LeftO pw0 hz.view_481 lo0 Xt0 (obsZ as0) (valZ hz.heap_251 250 548) 3650 :=
  LeftO.of_pieces (H₀ := boot_heap) (H₁ := hp7) (gs₁ := Array.mk []) (d₁ := {}) (k₁ := 548) bo lk0 pqrun (by decide) fun w => funext fun os => Prod.ext (lk1 w os) (Prod.ext (lk2 w os) (lk3 w os))
end Mine
end
section
open PySem PySem.W PyProof.Rows PySem.Calls 
namespace Mine
theorem ko28 (P : Params) : (hz.heap_251 P).lookup 28 = some ⟨.type "function", none, .func (fnOf "_is_int" "_is_int" (fnP st28) (fnB st28) (fnS st28) (.none) .none .none (.str "itertools" 194) none (.ref 27) .none), #[]⟩ := by kernel_rfl
theorem ko35 (P : Params) : (hz.heap_251 P).lookup 35 = some ⟨.type "function", none, .func (fnOf "_whole" "_whole" (fnP st35) (fnB st35) (fnS st35) (.none) .none .none (.str "itertools" 194) none (.ref 34) .none), #[]⟩ := by kernel_rfl
theorem ko50 (P : Params) : (hz.heap_251 P).lookup 50 = some ⟨.type "function", none, .func (fnOf "__init__" "islice.__init__" (fnP st50) (fnB st50) (fnS st50) (.none) .none .none (.str "itertools" 194) none (.ref 49) .none), #[]⟩ := by kernel_rfl
theorem ko57 (P : Params) : (hz.heap_251 P).lookup 57 = some ⟨.type "function", none, .func (fnOf "__iter__" "islice.__iter__" (fnP st57) (fnB st57) (fnS st57) (.none) .none .none (.str "itertools" 194) none (.ref 56) .none), #[]⟩ := by kernel_rfl
theorem ko64 (P : Params) : (hz.heap_251 P).lookup 64 = some ⟨.type "function", none, .func (fnOf "__next__" "islice.__next__" (fnP st64) (fnB st64) (fnS st64) (.none) .none .none (.str "itertools" 194) none (.ref 63) .none), #[]⟩ := by kernel_rfl
theorem ko82 (P : Params) : (hz.heap_251 P).lookup 82 = some ⟨.type "function", none, .func (fnOf "_parents" "_parents" (fnP st82) (fnB st82) (fnS st82) (.none) .none .none (.str "cpy313.zipfile._path" 281) none (.ref 81) .none), #[]⟩ := by kernel_rfl
theorem ko89 (P : Params) : (hz.heap_251 P).lookup 89 = some ⟨.type "function", none, .func (fnOf "_kind" "_kind" (fnP st89) (fnB st89) (fnS st89) (.none) .none .none (.str "posixpath" 290) none (.ref 88) .none), #[]⟩ := by kernel_rfl
theorem ko96 (P : Params) : (hz.heap_251 P).lookup 96 = some ⟨.type "function", none, .func (fnOf "_fspath" "_fspath" (fnP st96) (fnB st96) (fnS st96) (.none) .none .none (.str "posixpath" 290) none (.ref 95) .none), #[]⟩ := by kernel_rfl
theorem ko103 (P : Params) : (hz.heap_251 P).lookup 103 = some ⟨.type "function", none, .func (fnOf "split" "split" (fnP st103) (fnB st103) (fnS st103) (.none) .none .none (.str "posixpath" 290) none (.ref 102) .none), #[]⟩ := by kernel_rfl
theorem ko110 (P : Params) : (hz.heap_251 P).lookup 110 = some ⟨.type "function", none, .func (fnOf "_ancestry" "_ancestry" (fnP st110) (fnB st110) (fnS st110) (.none) .none .none (.str "cpy313.zipfile._path" 323) none (.ref 109) .none), #[]⟩ := by kernel_rfl
theorem ko125 (P : Params) : (hz.heap_251 P).lookup 125 = some ⟨.type "function", none, .func (fnOf "__init__" "_NodeInfo.__init__" (fnP st125) (fnB st125) (fnS st125) (.none) .none .none (.str "cpy313.graphlib" 333) none (.ref 124) .none), #[]⟩ := by kernel_rfl
theorem ko162 (P : Params) : (hz.heap_251 P).lookup 162 = some ⟨.type "function", none, .func (fnOf "__init__" "TopologicalSorter.__init__" (fnP st162) (fnB st162) (fnS st162) (.ref 155) .none .none (.str "cpy313.graphlib" 333) none (.ref 161) .none), #[]⟩ := by kernel_rfl
theorem ko169 (P : Params) : (hz.heap_251 P).lookup 169 = some ⟨.type "function", none, .func (fnOf "_get_nodeinfo" "TopologicalSorter._get_nodeinfo" (fnP st169) (fnB st169) (fnS st169) (.none) .none .none (.str "cpy313.graphlib" 333) none (.ref 168) .none), #[]⟩ := by kernel_rfl
theorem ko176 (P : Params) : (hz.heap_251 P).lookup 176 = some ⟨.type "function", none, .func (fnOf "add" "TopologicalSorter.add" (fnP st176) (fnB st176) (fnS st176) (.none) .none .none (.str "cpy313.graphlib" 333) none (.ref 175) .none), #[]⟩ := by kernel_rfl
theorem ko181 (P : Params) : (hz.heap_251 P).lookup 181 = some ⟨.type "function", none, .func (fnOf "prepare" "TopologicalSorter.prepare" (fnP st181) (fnB st181) (fnS st181) (.none) .none .none (.str "cpy313.graphlib" 333) none (.ref 180) .none), #[]⟩ := by kernel_rfl
theorem ko188 (P : Params) : (hz.heap_251 P).lookup 188 = some ⟨.type "function", none, .func (fnOf "get_ready" "TopologicalSorter.get_ready" (fnP st188) (fnB st188) (fnS st188) (.none) .none .none (.str "cpy313.graphlib" 333) none (.ref 187) .none), #[]⟩ := by kernel_rfl
theorem ko195 (P : Params) : (hz.heap_251 P).lookup 195 = some ⟨.type "function", none, .func (fnOf "is_active" "TopologicalSorter.is_active" (fnP st195) (fnB st195) (fnS st195) (.none) .none .none (.str "cpy313.graphlib" 333) none (.ref 194) .none), #[]⟩ := by kernel_rfl
theorem ko209 (P : Params) : (hz.heap_251 P).lookup 209 = some ⟨.type "function", none, .func (fnOf "done" "TopologicalSorter.done" (fnP st209) (fnB st209) (fnS st209) (.none) .none .none (.str "cpy313.graphlib" 333) none (.ref 208) .none), #[]⟩ := by kernel_rfl
theorem ko216 (P : Params) : (hz.heap_251 P).lookup 216 = some ⟨.type "function", none, .func (fnOf "_find_cycle" "TopologicalSorter._find_cycle" (fnP st216) (fnB st216) (fnS st216) (.none) .none .none (.str "cpy313.graphlib" 333) none (.ref 215) .none), #[]⟩ := by kernel_rfl
theorem ko237 (P : Params) : (hz.heap_251 P).lookup 237 = some ⟨.type "function", none, .func (fnOf "_law_tree" "_law_tree" (fnP st237) (fnB st237) (fnS st237) (.none) .none .none (.str "law_ij0125_01" 515) none (.ref 236) .none), #[]⟩ := by kernel_rfl
theorem ko244 (P : Params) : (hz.heap_251 P).lookup 244 = some ⟨.type "function", none, .func (fnOf "_law_walk" "_law_walk" (fnP st244) (fnB st244) (fnS st244) (.none) .none .none (.str "law_ij0125_01" 515) none (.ref 243) .none), #[]⟩ := by kernel_rfl
theorem ko249 (P : Params) : (hz.heap_251 P).lookup 249 = some ⟨.type "function", none, .func (fnOf "law" "law" (fnP st249) (fnB st249) (fnS st249) (.none) .none .none (.str "law_ij0125_01" 515) none (.ref 248) .none), #[]⟩ := by kernel_rfl
end Mine
end

section
open PySem PySem.W PyProof.Rows PySem.Calls 
namespace Mine
noncomputable abbrev Ar (dp un : Nat) (gd : Option (List Code)) (fr : List Env) : Around := { handled := none, depth := dp, frames := some fr, guards := gd, units := un }
noncomputable abbrev Aw (dp un : Nat) : Around := { handled := none, depth := dp, frames := none, guards := none, units := un }
noncomputable def keys (E : List (Addr × Obj)) : List Addr := E.map (·.1)
/-- what a caller lends -/
noncomputable def Led (g h : Heap) (E : List (Addr × Obj)) : Prop := ∀ q ∈ E, h.get? q.1 = some q.2 ∧ g.get? q.1 = none
theorem newsLed {g h : Heap} {L : Addr} {E E' : List (Addr × Obj)} (N : News g L h E) (s : ∀ q ∈ E', q ∈ E) : Led g h E' := fun q hq => ⟨(N q (s q hq)).1, (N q (s q hq)).2.2⟩
/-- a heap's objects stand but those at X -/
noncomputable def Keep (X : List Addr) (h h' : Heap) : Prop := ∀ b o, b ∉ X → h.get? b = some o → h'.get? b = some o
theorem Keep.refl {X : List Addr} {h : Heap} : Keep X h h := fun _ _ _ e => e
theorem Keep.trans {X : List Addr} {h h' h'' : Heap} (a : Keep X h h') (b : Keep X h' h'') : Keep X h h'' := fun c o n e => b c o n (a c o n e)
theorem Keep.mono {X Y : List Addr} {h h' : Heap} (a : Keep X h h') (s : ∀ b ∈ X, b ∈ Y) : Keep Y h h' := fun c o n e => a c o (fun m => n (s c m)) e
/-- a body's end, handed on -/
noncomputable def RetTo (R : Result → Shared → Prop) (fl : Flow) (s' : Shared) : Prop := R (.ok (.ret (match fl with | .ret v => v | _ => .none))) s'
section
variable {prog : Program} {w : World} {p : Program} {loose : List Str} {mean : ExcName → Option Value} {mg mb : Str → Option Value} {h₀ : Heap} {L : Addr} {m : Str → Option Value} {s : Shared} {E : List (Addr × Obj)}
  {dp un : Nat} {R : Result → Shared → Prop}
theorem enterF {name qual : Str} {params : Arguments} {body : List Stmt} {scope : Scope} {dV kV doc pm cdv ct : Value} {an : Option Addr} {f : Addr} {args : Args} {binds : List (Str × Value)}
    (X : (hz.heap_251 w.params).In h₀) (T : Top p loose mean mg mb h₀) (K : h₀.StaysIn s.heap) (N : Led h₀ s.heap E) (hd : dp < recursionLimit)
    (ho : (hz.heap_251 w.params).lookup f = some ⟨.type "function", none, .func (fnOf name qual params body scope dV kV doc pm an cdv ct), #[]⟩) (hcd : codeIn (hz.heap_251 w.params) cdv qual = true)
    (hbind : BindsTo s (fnOf name qual params body scope dV kV doc pm an cdv ct) args binds) (hloc : ∀ x ∈ binds, scope.names.lookup x.1 = some .local)
    (h : ∀ g L' h₁ tk, s.heap.get? L' = none → Fr g L' h₁ (fun y => binds.reverse.lookup y) → News g L' h₁ E → (hz.heap_251 w.params).In g → Top p loose mean mg mb g → (∀ p ∈ E, p.1 < L') →
      (∀ b o, s.heap.get? b = some o → b ∉ keys E → g.get? b = some o) →
      wpAny (model prog w) (Aw (dp + 1) (un + 3)) (execs body (envOf qual scope L' f cdv)) (RetTo R)
        (fun e s' => wpAny (model prog w) (Aw (dp + 1) (un + 3)) (leaving (envOf qual scope L' f cdv) e) (fun _ s'' => R (.error e) s'') (fun e' s'' => R (.error e') s'') s')
        { s with heap := h₁, toks := tk })
    (hcell : ∀ x ∈ scope.names, x.2 ≠ .cell) (hco : scope.isCoroutine = false) (hgen : scope.isGenerator = false) (hsk : scope.kind = .function) :
    codeAny (model prog w) (Aw dp un) (.call (.ref f) args) R s := by
  have st : h₀.StaysIn (hideAll s.heap (keys E)) := fun b o e => hideAll_get _ (K b o e) fun q => by
    obtain ⟨p, hp, rfl⟩ := List.mem_map.mp q
    rw [(N p hp).2] at e; cases e
  refine codeAny_call_def (fd := fnOf name qual params body scope dV kV doc pm an cdv ct) (body := body) (binds := binds) hd (K _ _ (X _ _ ho)) rfl (T.nolimit.keeps K) (codeRec_of (X.keeps K) hcd) rfl hbind hcell hloc (fun h₁ hns hk₁ => ?_) hco hgen hsk
  exact h _ s.heap.objs.size h₁ _ (by cases q : s.heap.get? s.heap.objs.size with | none => rfl | some o => exact absurd (Heap.lt_size q) (Nat.lt_irrefl _)) ⟨hns, fun b o e => hk₁ b o (of_hideAll _ e), Nat.le_of_eq (hideAll_size _ _)⟩
    (fun p hp => ⟨hk₁ _ _ (N p hp).1, Nat.ne_of_lt (Heap.lt_size (N p hp).1), hideAll_none _ (List.mem_map_of_mem hp)⟩) (X.keeps st) (T.keeps st) (fun p hp => Heap.lt_size (N p hp).1) (fun b o e n => hideAll_get _ e n)
theorem enterR {gd : Option (List Code)} {fr : List Env} {name qual : Str} {params : Arguments} {body : List Stmt} {scope : Scope} {dV kV doc pm cdv ct : Value} {an : Option Addr} {f : Addr} {args : Args} {binds : List (Str × Value)}
    (X : (hz.heap_251 w.params).In h₀) (T : Top p loose mean mg mb h₀) (K : h₀.StaysIn s.heap) (N : Led h₀ s.heap E) (hd : dp < recursionLimit)
    (ho : (hz.heap_251 w.params).lookup f = some ⟨.type "function", none, .func (fnOf name qual params body scope dV kV doc pm an cdv ct), #[]⟩) (hcd : codeIn (hz.heap_251 w.params) cdv qual = true)
    (hbind : BindsTo s (fnOf name qual params body scope dV kV doc pm an cdv ct) args binds) (hloc : ∀ x ∈ binds, scope.names.lookup x.1 = some .local)
    (h : ∀ g L' h₁ tk, s.heap.get? L' = none → Fr g L' h₁ (fun y => binds.reverse.lookup y) → News g L' h₁ E → (hz.heap_251 w.params).In g → Top p loose mean mg mb g → (∀ p ∈ E, p.1 < L') →
      (∀ b o, s.heap.get? b = some o → b ∉ keys E → g.get? b = some o) →
      wpAny (model prog w) (Ar (dp + 1) (un + 3) gd (envOf qual scope L' f cdv :: fr)) (execs body (envOf qual scope L' f cdv)) (RetTo R)
        (fun e s' => wpAny (model prog w) (Ar (dp + 1) (un + 3) gd (envOf qual scope L' f cdv :: fr)) (leaving (envOf qual scope L' f cdv) e) (fun _ s'' => R (.error e) s'') (fun e' s'' => R (.error e') s'') s')
        { s with heap := h₁, toks := tk })
    (hcell : ∀ x ∈ scope.names, x.2 ≠ .cell) (hco : scope.isCoroutine = false) (hgen : scope.isGenerator = false) (hsk : scope.kind = .function) :
    codeAny (model prog w) (Ar dp un gd fr) (.call (.ref f) args) R s := by
  have st : h₀.StaysIn (hideAll s.heap (keys E)) := fun b o e => hideAll_get _ (K b o e) fun q => by
    obtain ⟨p, hp, rfl⟩ := List.mem_map.mp q
    rw [(N p hp).2] at e; cases e
  refine codeAny_call_def (fd := fnOf name qual params body scope dV kV doc pm an cdv ct) (body := body) (binds := binds) hd (K _ _ (X _ _ ho)) rfl (T.nolimit.keeps K) (codeRec_of (X.keeps K) hcd) rfl hbind hcell hloc (fun h₁ hns hk₁ => ?_) hco hgen hsk
  exact h _ s.heap.objs.size h₁ _ (by cases q : s.heap.get? s.heap.objs.size with | none => rfl | some o => exact absurd (Heap.lt_size q) (Nat.lt_irrefl _)) ⟨hns, fun b o e => hk₁ b o (of_hideAll _ e), Nat.le_of_eq (hideAll_size _ _)⟩
    (fun p hp => ⟨hk₁ _ _ (N p hp).1, Nat.ne_of_lt (Heap.lt_size (N p hp).1), hideAll_none _ (List.mem_map_of_mem hp)⟩) (X.keeps st) (T.keeps st) (fun p hp => Heap.lt_size (N p hp).1) (fun b o e n => hideAll_get _ e n)
theorem frKept {h' : Heap} (F : Fr h₀ L s.heap m) (N : News h₀ L s.heap E) (k : Keep (keys E) s.heap h') : Fr h₀ L h' m := by
  obtain ⟨oL, es, ep, hL, hLd, hLk, hLf⟩ := F.ns
  have nm : ∀ b o, h₀.get? b = some o → b ∉ keys E := fun b o e q => by
    obtain ⟨p, hp, rfl⟩ := List.mem_map.mp q
    rw [(N p hp).2.2] at e; cases e
  refine ⟨⟨oL, es, ep, k L oL (fun q => ?_) hL, hLd, hLk, hLf⟩, fun b o e => k b o (nm b o e) (F.keep b o e), F.above⟩
  obtain ⟨p, hp, e⟩ := List.mem_map.mp q
  exact (N p hp).2.1 e
theorem nsub {E' : List (Addr × Obj)} {h : Heap} (N : News h₀ L h E) (s : ∀ p ∈ E', p ∈ E) : News h₀ L h E' := fun p hp => N p (s p hp)
end
end Mine
namespace Mine
theorem keep_of {h₀ g : Heap} {L' : Addr} {h h' : Heap} {E E' : List (Addr × Obj)} {m' : Str → Option Value} {X : List Addr} (N : Led h₀ h E) (hg : ∀ b o, h.get? b = some o → b ∉ keys E → g.get? b = some o) (F' : Fr g L' h' m') (N' : News g L' h' E')
    (hE : ∀ p ∈ E, p.1 ∈ X ∨ p ∈ E') : Keep X h h' := by
  intro b o nb e
  by_cases hb : b ∈ keys E
  · obtain ⟨p, hp, rfl⟩ := List.mem_map.mp hb
    rcases hE p hp with hx | hm
    · exact absurd hx nb
    · have := (N p hp).1
      rw [e] at this
      rw [(N' p hm).1, ← this]
  · exact F'.keep b o (hg b o e hb)
end Mine
namespace Mine
theorem fresh_of {g h h' : Heap} {L' a : Addr} {o : Obj} {E E' : List (Addr × Obj)} (hg : ∀ b o, h.get? b = some o → b ∉ keys E → g.get? b = some o) (N' : News g L' h' E') (hm : (a, o) ∈ E') (hn : a ∉ keys E) : h.get? a = none := by
  cases q : h.get? a with
  | none => rfl
  | some o' => have := hg a o' q hn; rw [(N' _ hm).2.2] at this; cases this
theorem forall_cons {α : Type} {P : α → Prop} {a : α} {l : List α} (h : P a) (k : ∀ x ∈ l, P x) : ∀ x ∈ a :: l, P x := List.forall_mem_cons.mpr ⟨h, k⟩
end Mine
namespace Mine
theorem nmem_nil {a : Addr} : a ∉ keys [] := fun h => nomatch h
theorem nmem_cons {a : Addr} {q : Addr × Obj} {E : List (Addr × Obj)} (h : @Ne Nat a q.1) (k : a ∉ keys E) : a ∉ keys (q :: E) := fun hm => by
  rcases List.mem_cons.mp hm with e | hm
  · exact h e
  · exact k hm
end Mine
namespace Mine
section
variable {h₀ h h' : Heap} {L a : Addr} {m : Str → Option Value} {o o' : Obj} {news news' : List (Addr × Obj)} {X : List Addr}
theorem nOld (N : News h₀ L h news) (k : Keep X h h') (hm : (a, o) ∈ news) (hx : a ∉ X) : h'.get? a = some o ∧ a ≠ L ∧ h₀.get? a = none := ⟨k a o hx (N _ hm).1, (N _ hm).2⟩
theorem nChg (N : News h₀ L h news) (hm : (a, o) ∈ news) (e : h'.get? a = some o') : h'.get? a = some o' ∧ a ≠ L ∧ h₀.get? a = none := ⟨e, (N _ hm).2⟩
theorem nNew (F : Fr h₀ L h m) (hn : h.get? a = none) (e : h'.get? a = some o') : h'.get? a = some o' ∧ a ≠ L ∧ h₀.get? a = none := by
  refine ⟨e, ?_, ?_⟩
  · rintro rfl; obtain ⟨_, _, _, hL, _⟩ := F.ns; rw [hn] at hL; cases hL
  · cases q : h₀.get? a with
    | none => rfl
    | some o => rw [F.keep _ _ q] at hn; cases hn
theorem nNil : News h₀ L h [] := fun _ h => nomatch h
theorem nCons (x : h.get? a = some o ∧ a ≠ L ∧ h₀.get? a = none) (N : News h₀ L h news) : News h₀ L h ((a, o) :: news) := forall_cons x N
theorem frKept' (F : Fr h₀ L h m) (k : Keep X h h') (hX : ∀ b ∈ X, b ≠ L ∧ h₀.get? b = none) : Fr h₀ L h' m := by
  obtain ⟨oL, es, ep, hL, hLd, hLk, hLf⟩ := F.ns
  refine ⟨⟨oL, es, ep, k L oL (fun q => (hX L q).1 rfl) hL, hLd, hLk, hLf⟩, fun b o e => k b o (fun q => by rw [(hX b q).2] at e; cases e) (F.keep b o e), F.above⟩
theorem nm1 {b : Addr} (h : @Ne Nat a b) : a ∉ [b] := fun hm => h (List.mem_singleton.mp hm)
theorem nm2 {b c : Addr} (h : @Ne Nat a b) (k : @Ne Nat a c) : a ∉ [b, c] := fun hm => (List.mem_cons.mp hm).elim h fun hm => k (List.mem_singleton.mp hm)
theorem nm0 : a ∉ ([] : List Addr) := fun h => nomatch h
end
end Mine
namespace Mine
theorem neNone {h : Heap} {a b : Addr} {o : Obj} (h1 : h.get? a = none) (h2 : h.get? b = some o) : @Ne Nat a b := by rintro rfl; rw [h1] at h2; cases h2
end Mine
namespace Mine
noncomputable def cut (h : Heap) (L : Addr) : Heap := { h with objs := h.objs.extract 0 L }
theorem cut_get {h : Heap} {L b : Addr} (hb : b < L) : (cut h L).get? b = h.get? b := by
  unfold cut Heap.get?
  show (match (h.objs.extract 0 L)[b]? with | some ⟨_, _, .freed, _⟩ => none | o => o) = _
  rw [Array.getElem?_extract]
  by_cases hs : b < h.objs.size
  · rw [if_pos (by simp only [Nat.sub_zero]; exact Nat.lt_min.mpr ⟨hb, hs⟩)]; simp only [Nat.zero_add]; rfl
  · rw [if_neg (fun q => hs (Nat.lt_of_lt_of_le q (by simp only [Nat.sub_zero]; exact Nat.min_le_right ..))), Array.getElem?_eq_none (Nat.le_of_not_lt hs)]
theorem cut_size {h : Heap} {L : Addr} : (cut h L).objs.size ≤ L := by
  show (h.objs.extract 0 L).size ≤ L
  rw [Array.size_extract]
  exact Nat.le_trans (Nat.sub_le _ _) (Nat.min_le_left ..)
theorem of_cut {h : Heap} {L b : Addr} {o : Obj} (e : (cut h L).get? b = some o) : h.get? b = some o := by
  rw [← cut_get (Nat.lt_of_lt_of_le (Heap.lt_size e) cut_size)]; exact e
/-- another base: all of the heap before the frame but E₁ -/
theorem reground {g h : Heap} {L : Addr} {m : Str → Option Value} {E₁ : List (Addr × Obj)} (F : Fr g L h m) (N : News g L h E₁) :
    ∃ g₁, Fr g₁ L h m ∧ News g₁ L h E₁ ∧ (∀ b o, g.get? b = some o → g₁.get? b = some o) ∧ (∀ b o, h.get? b = some o → b < L → b ∉ keys E₁ → g₁.get? b = some o) := by
  have up : ∀ b o, g.get? b = some o → (hideAll (cut h L) (keys E₁)).get? b = some o := fun b o e => by
    refine hideAll_get _ ((cut_get (Nat.lt_of_lt_of_le (Heap.lt_size e) F.above)).trans (F.keep b o e)) fun q => ?_
    obtain ⟨p, hp, rfl⟩ := List.mem_map.mp q
    rw [(N p hp).2.2] at e; cases e
  exact ⟨hideAll (cut h L) (keys E₁), ⟨F.ns, fun b o e => of_cut (of_hideAll _ e), by rw [hideAll_size]; exact cut_size⟩, fun p hp => ⟨(N p hp).1, (N p hp).2.1, hideAll_none _ (List.mem_map_of_mem hp)⟩, up, fun b o e hb hn => hideAll_get _ ((cut_get hb).trans e) hn⟩
theorem Fr.weak {g g₁ h : Heap} {L : Addr} {m : Str → Option Value} (F : Fr g₁ L h m) (a : g.objs.size ≤ L) (k : ∀ b o, g.get? b = some o → g₁.get? b = some o) : Fr g L h m := ⟨F.ns, fun b o e => F.keep b o (k b o e), a⟩
end Mine
namespace Mine
theorem nKeep {h₀ h h' : Heap} {L : Addr} {news : List (Addr × Obj)} (N : News h₀ L h news) (k : Keep [] h h') : News h₀ L h' news := fun p hp => ⟨k _ _ nm0 (N p hp).1, (N p hp).2⟩
end Mine
namespace Mine
section
variable {prog : Program} {w : World} {p : Program} {loose : List Str} {mean : ExcName → Option Value} {mg mb : Str → Option Value} {base : Heap} {fr : List Env} {s : Shared}
  {dp un : Nat} {gd : Option (List Code)} {R : Result → Shared → Prop}
theorem enterW {name qual : Str} {params : Arguments} {body : List Stmt} {scope : Scope} {dV kV doc pm cdv ct : Value} {an : Option Addr} {f : Addr} {args : Args} {binds : List (Str × Value)}
    (X : (hz.heap_251 w.params).In s.heap) (T : Top p loose mean mg mb s.heap) (hd : dp < recursionLimit)
    (ho : (hz.heap_251 w.params).lookup f = some ⟨.type "function", none, .func (fnOf name qual params body scope dV kV doc pm an cdv ct), #[]⟩) (hcd : codeIn (hz.heap_251 w.params) cdv qual = true)
    (hbind : BindsTo s (fnOf name qual params body scope dV kV doc pm an cdv ct) args binds) (hloc : ∀ x ∈ binds, scope.names.lookup x.1 = some .local)
    (h : ∀ L' h₁ tk, s.heap.get? L' = none → Fr s.heap L' h₁ (fun y => binds.reverse.lookup y) →
      wpAny (model prog w) (Aw (dp + 1) (un + 3)) (execs body (envOf qual scope L' f cdv)) (RetTo R)
        (fun e s' => wpAny (model prog w) (Aw (dp + 1) (un + 3)) (leaving (envOf qual scope L' f cdv) e) (fun _ s'' => R (.error e) s'') (fun e' s'' => R (.error e') s'') s')
        { s with heap := h₁, toks := tk })
    (hcell : ∀ x ∈ scope.names, x.2 ≠ .cell) (hco : scope.isCoroutine = false) (hgen : scope.isGenerator = false) (hsk : scope.kind = .function) :
    codeAny (model prog w) (Aw dp un) (.call (.ref f) args) R s := by
  refine codeAny_call_def (fd := fnOf name qual params body scope dV kV doc pm an cdv ct) (body := body) (binds := binds) hd (X _ _ ho) rfl T.nolimit (codeRec_of X hcd) rfl hbind hcell hloc (fun h₁ hns hk₁ => ?_) hco hgen hsk
  exact h s.heap.objs.size h₁ _ (by cases q : s.heap.get? s.heap.objs.size with | none => rfl | some o => exact absurd (Heap.lt_size q) (Nat.lt_irrefl _)) ⟨hns, fun b o e => hk₁ b o e, Nat.le_refl _⟩
theorem Below.up {A : Around} {base g : Heap} {fr : List Env} {env : Env} {L : Addr} {h : Heap} {m : Str → Option Value} (B : Below A base fr g) (F : Fr g L h m) (hf : env.frame = some L) (hk : env.scope.kind = .function) : Below (A.deeper env) base (env :: fr) h := pushX B F hf hk
end
end Mine
namespace Mine
/-- all the rest of a heap, as a list -/
theorem allNews (g h : Heap) (L : Addr) : ∃ rest, News g L h rest ∧ ∀ b o, h.get? b = some o → b ≠ L → g.get? b = none → (b, o) ∈ rest := by
  refine ⟨(List.range h.objs.size).filterMap fun b => if b = L then none else match g.get? b with | some _ => none | none => (h.get? b).map fun o => (b, o), fun q hq => ?_, fun b o e n k => ?_⟩
  · obtain ⟨b, -, hb⟩ := List.mem_filterMap.mp hq
    split at hb
    · cases hb
    · rename_i n
      split at hb
      · cases hb
      · rename_i k
        obtain ⟨o, ho, rfl⟩ := Option.map_eq_some_iff.mp hb
        exact ⟨ho, n, k⟩
  · refine List.mem_filterMap.mpr ⟨b, List.mem_range.mpr (Heap.lt_size e), ?_⟩
    rw [if_neg n, k, e]; rfl
theorem keepAll {g h h' : Heap} {L : Addr} {m : Str → Option Value} {rest : List (Addr × Obj)} (c : ∀ b o, h.get? b = some o → b ≠ L → g.get? b = none → (b, o) ∈ rest) (kg : ∀ b o, g.get? b = some o → h.get? b = some o) (F : Fr g L h' m) (N : ∀ q ∈ rest, h'.get? q.1 = some q.2) : Keep [L] h h' := by
  intro b o nb e
  cases q : g.get? b with
  | some o' => rw [← e, kg b o' q]; exact F.keep b o' q
  | none => exact N _ (c b o e (fun z => nb (z ▸ .head _)) q)
end Mine
namespace Mine
theorem led_stay {h₀ h g : Heap} {E : List (Addr × Obj)} (K : h₀.StaysIn h) (N : Led h₀ h E) (hg : ∀ b o, h.get? b = some o → b ∉ keys E → g.get? b = some o) : h₀.StaysIn g := fun b o e => hg b o (K b o e) fun q => by
  obtain ⟨p, hp, rfl⟩ := List.mem_map.mp q
  rw [(N p hp).2] at e; cases e
end Mine
end

section
open PySem PySem.W PyProof.Rows PySem.Calls 
namespace Mine
/-- the sorter's attributes -/
noncomputable abbrev sDict (w : World) (k1 k2 k3 k4 : Nat) (nd : Addr) (rv : Value) (po nf : Int) (t1 t2 : Nat) (n : Nat) : Obj :=
  dictOf [⟨PyData.keyHash w.params "_node2info", .str "_node2info" k1, .ref nd⟩, ⟨PyData.keyHash w.params "_ready_nodes", .str "_ready_nodes" k2, rv⟩, ⟨PyData.keyHash w.params "_npassedout", .str "_npassedout" k3, .int po t1⟩, ⟨PyData.keyHash w.params "_nfinished", .str "_nfinished" k4, .int nf t2⟩] n
/-- what is known of a node -/
structure Info where
  key : Str
  kt : Nat
  np : Int
  nt : Nat
  I : Addr
  D : Addr
  S : Addr
  succ : List (Str × Nat)
  sn : Nat
noncomputable def sv (p : Str × Nat) : Value := .str p.1 p.2
noncomputable abbrev infoObj (i : Info) : Obj := ⟨.ref 129, some i.D, .plain, #[some (.str i.key i.kt), some (.int i.np i.nt), some (.ref i.S)]⟩
noncomputable abbrev Info.led (i : Info) : List (Addr × Obj) := [(i.I, infoObj i), (i.D, emptyDict), (i.S, W.listOf (i.succ.map sv).toArray i.sn)]
end Mine
end

section
open PySem PySem.W PyProof.Rows PySem.Calls 
namespace Mine
local macro_rules | `(tactic| walk_at "call builtin:dict.get") => `(tactic| (k_here; k_dflt (refine kdg_get1 (knd := strKind _ _) (by k_asm) (by k_mem) (by k_asm) (by k_asm) (strKind_is _ _ _ _) _ (by assumption) ?_); (try dsimp only [Option.getD])))
section
variable {prog : Program} {w : World} {p : Program} {loose : List Str} {mean : ExcName → Option Value} {mg mb : Str → Option Value} {h₀ : Heap} {s : Shared} 
  {dp un : Nat} {R : Result → Shared → Prop}
theorem nodeinit {i di : Addr} {nk : Str} {ntk : Tok}
    (X : (hz.heap_251 w.params).In h₀) (T : Top p loose mean mg mb h₀) (K : h₀.StaysIn s.heap) (N : Led h₀ s.heap [(i, instObj 129 di), (di, emptyDict)]) (hd : dp < recursionLimit) (hlt : di < i)
    (hret : ∀ h' tk' S nt, Keep [i] s.heap h' → s.heap.get? S = none → (∀ q ∈ ({ key := nk, kt := ntk, np := 0, nt, I := i, D := di, S, succ := [], sn := 0 } : Info).led, h'.get? q.1 = some q.2) → S ≠ i → S ≠ di → R (.ok (.ret .none)) { s with heap := h', toks := tk' }) :
    codeAny (model prog w) (Aw dp un) (.call (.ref 125) ⟨[.ref i, .str nk ntk], []⟩) R s := by
  refine enterF X T K N hd (ko125 _) (by k_is) (binds := [("self", .ref i), ("node", .str nk ntk)]) (BindsTo.of_eq rfl) (locs rfl) ?_ (by decide) rfl rfl rfl
  intro g L' h₁ tk hL F' N' X' T' hlt hg
  k_lt hlt; have hne := ltN (by assumption : di < i)
  conv in execs _ _ => arg 1; whnf
  k_steps
  rename News g L' _ _ => NN
  refine hret _ _ _ _ (keep_of N hg (by assumption) NN ?_) (fresh_of hg NN (List.Mem.head _) ?_) (forall_cons (NN _ (.tail _ (.head _))).1 (forall_cons (NN _ (.tail _ (.tail _ (.head _)))).1 (forall_cons (NN _ (.head _)).1 (fun _ h => nomatch h)))) ?_ ?_
  · refine forall_cons (.inl (.head _)) (forall_cons (.inr (.tail _ (.tail _ (.head _)))) (fun _ h => nomatch h))
  · exact nmem_cons (by dsimp only; omega) (nmem_cons (by dsimp only; omega) nmem_nil)
  · exact neN (by omega)
  · exact neN (by omega)
end
end Mine
end

section
open PySem PySem.W PyProof.Rows PySem.Calls 
local macro_rules | `(tactic| walk_at "unused 0") => `(tactic| fail "unused")
namespace Mine
local macro_rules | `(tactic| walk_at "call builtin:dict.get") => `(tactic| (k_here; k_dflt (refine kdg_get1 (knd := strKind _ _) (by k_asm) (by k_mem) (by k_asm) (by k_asm) (strKind_is _ _ _ _) _ (by assumption) ?_); (try dsimp only [Option.getD])))
section
variable {prog : Program} {w : World} {p : Program} {loose : List Str} {mean : ExcName → Option Value} {mg mb : Str → Option Value} {h₀ : Heap} {s : Shared} 
  {dp un : Nat} {R : Result → Shared → Prop}
theorem getinfo {x dx nd : Addr} {k1 k2 k3 k4 : Nat} {rv : Value} {po nf : Int} {t1 t2 n : Nat} {od : Obj} {kvs : List (Str × Value)} {nk : Str} {ntk : Tok} {I : Addr}
    (X : (hz.heap_251 w.params).In h₀) (T : Top p loose mean mg mb h₀) (K : h₀.StaysIn s.heap) (N : Led h₀ s.heap [(x, instObj 226 dx), (dx, sDict w k1 k2 k3 k4 nd rv po nf t1 t2 n), (nd, od)]) (hd : dp < recursionLimit)
    (hod : od.IsDictOf (strKind prog w) kvs) (lo : (nd == sysModules) = false) (hv : valueAt kvs nk = some (.ref I))
    (hret : ∀ h' tk', Keep [] s.heap h' → R (.ok (.ret (.ref I))) { s with heap := h', toks := tk' }) :
    codeAny (model prog w) (Aw dp un) (.call (.ref 169) ⟨[.ref x, .str nk ntk], []⟩) R s := by
  refine enterF X T K N hd (ko169 _) (by k_is) (binds := [("self", .ref x), ("node", .str nk ntk)]) (BindsTo.of_eq rfl) (locs rfl) ?_ (by decide) rfl rfl rfl
  intro g L' h₁ tk hL F' N' X' T' hlt hg
  conv in execs _ _ => arg 1; whnf
  k_steps
  exact hret _ _ (keep_of N hg (by assumption) (by assumption) (fun p hp => .inr hp))
theorem getinfo_new {x dx nd : Addr} {k1 k2 k3 k4 : Nat} {rv : Value} {po nf : Int} {t1 t2 n : Nat} {od : Obj} {kvs : List (Str × Value)} {nk : Str} {ntk : Tok}
    (X : (hz.heap_251 w.params).In h₀) (T : Top p loose mean mg mb h₀) (K : h₀.StaysIn s.heap) (N : Led h₀ s.heap [(x, instObj 226 dx), (dx, sDict w k1 k2 k3 k4 nd rv po nf t1 t2 n), (nd, od)]) (hd : dp + 10 < recursionLimit)
    (hod : od.IsDictOf (strKind prog w) kvs) (lo : (nd == sysModules) = false) (hv : valueAt kvs nk = none) (hsz : kvs.length ≤ 1000) (hne : nd ≠ x ∧ nd ≠ dx)
    (hret : ∀ h' tk' (i : Info) od', Keep [nd] s.heap h' → i.key = nk → i.np = 0 → i.succ = [] → (∀ q ∈ i.led, s.heap.get? q.1 = none) → (∀ q ∈ i.led, h'.get? q.1 = some q.2) → i.D < i.I → i.S ≠ i.I → i.S ≠ i.D → h'.get? nd = some od' → od'.IsDictOf (strKind prog w) (stored kvs nk (.ref i.I)) → R (.ok (.ret (.ref i.I))) { s with heap := h', toks := tk' }) :
    codeAny (model prog w) (Aw dp un) (.call (.ref 169) ⟨[.ref x, .str nk ntk], []⟩) R s := by
  refine enterF X T K N (by omega) (ko169 _) (by k_is) (binds := [("self", .ref x), ("node", .str nk ntk)]) (BindsTo.of_eq rfl) (locs rfl) ?_ (by decide) rfl rfl rfl
  intro g L' h₁ tk hL F' N' X' T' hlt hg
  k_lt hlt
  conv in execs _ _ => arg 1; whnf
  k_steps
  rename Fr g L' _ _ => F1
  rename News g L' _ _ => N1
  refine wpAny_call (PySem.W.make_K F1 N1 (X'.keeps F1.keep) (by k_is) (by k_is) (by k_is) ?_)
  intro i di h2 F2 N2 l1 l2
  refine nodeinit X' T' F2.keep (newsLed N2 fun q hq => List.mem_append_left _ hq) (by show dp + 1 + 1 < _; omega) l2 ?_
  intro h3 tk3 S nt k3 hS hled n1 n2
  refine ⟨rfl, ?_⟩
  have F3 := frKept' F2 k3 (by intro b hb; rw [List.mem_singleton.mp hb]; exact (N2 _ (.head _)).2)
  k_lt l1; k_lt2 l2
  have N3 := nCons (nNew F2 hS (hled (S, _) (.tail _ (.tail _ (.head _))))) (nCons (nChg N2 (.head _) (hled (i, _) (.head _))) (nCons (nOld N2 k3 (.tail _ (.head _)) (nm1 (by omega)))
    (nCons (nOld N2 k3 (.tail _ (.tail _ (.head _))) (nm1 (by omega))) (nCons (nOld N2 k3 (.tail _ (.tail _ (.tail _ (.head _)))) (nm1 (by omega))) (nCons (nOld N2 k3 (.tail _ (.tail _ (.tail _ (.tail _ (.head _))))) (nm1 (by omega))) nNil)))))
  have e5 := neNone hS (N2 _ (.tail _ (.tail _ (.head _)))).1
  have e6 := neNone hS (N2 _ (.tail _ (.tail _ (.tail _ (.head _))))).1
  have e7 := neNone hS (N2 _ (.tail _ (.tail _ (.tail _ (.tail _ (.head _)))))).1
  clear F1 N1 F2 N2 k3 hled
  dsimp only
  k_steps
  rename Fr g L' _ _ => F4
  rename News g L' _ _ => N4
  have e1 := neN hne.1
  have e2 := neN hne.2
  have e3 := neN n1
  have e4 := neN n2
  refine kda_set (knd := strKind _ _) F4 N4 (by k_updF) hod (strKind_is _ _ _ _) (by rw [sizeLine_eq]; omega) ?_
  intro h5 od' F5 N5 hod'
  dsimp only at N5
  clear F4 N4
  k_steps
  rename Fr g L' _ _ => F6
  rename News g L' _ _ => N6
  show RetTo R (.ret (.ref i)) _
  refine hret _ _ { key := nk, kt := ntk, np := 0, nt := nt, I := i, D := di, S := S, succ := [], sn := 0 } od' (keep_of N hg F6 N6 ?_) rfl rfl rfl ?_ ?_ l2 n1 n2 ?_ hod'
  · exact forall_cons (.inr (by k_mem)) (forall_cons (.inr (by k_mem)) (forall_cons (.inl (.head _)) (fun _ h => nomatch h)))
  · refine forall_cons ?_ (forall_cons ?_ (forall_cons ?_ (fun _ h => nomatch h)))
    · exact fresh_of hg N6 (by k_mem) (nmem_cons (by dsimp only; omega) (nmem_cons (by dsimp only; omega) (nmem_cons (by dsimp only; omega) nmem_nil)))
    · exact fresh_of hg N6 (by k_mem) (nmem_cons (by dsimp only; omega) (nmem_cons (by dsimp only; omega) (nmem_cons (by dsimp only; omega) nmem_nil)))
    · exact fresh_of hg N6 (by k_mem) (nmem_cons (by dsimp only; omega) (nmem_cons (by dsimp only; omega) (nmem_cons (by dsimp only; omega) nmem_nil)))
  · exact forall_cons (N6 _ (by k_mem)).1 (forall_cons (N6 _ (by k_mem)).1 (forall_cons (N6 _ (by k_mem)).1 (fun _ h => nomatch h)))
  · exact (N6 (nd, od') (by k_mem)).1
end
end Mine
end

section
open PySem PySem.W PyProof.Rows PySem.Calls 
namespace Mine
theorem bindAdd (a b : Value) (vs : List Value) (cd : Value) (pm : Value) : bindArgs (fnOf "add" "TopologicalSorter.add" (fnP st176) (fnB st176) (fnS st176) .none .none .none pm none cd .none) ⟨a :: b :: vs, []⟩ = (newTuple vs >>= fun t => pure [(("self" : Str), a), (("node" : Str), b), (("predecessors" : Str), t)]) := by
  unfold bindArgs
  have e : (fnP st176).vararg.isNone = false := rfl
  simp only [e, Bool.and_false]
  rfl
noncomputable abbrev tupOf (vs : List Value) : Obj := { cls := .type "tuple", data := .seq vs.toArray }
section
variable {prog : Program} {w : World} {p : Program} {loose : List Str} {mean : ExcName → Option Value} {mg mb : Str → Option Value} {h₀ : Heap} {s : Shared} {E : List (Addr × Obj)}
  {dp un : Nat} {R : Result → Shared → Prop}
/-- a call of a def with a star parameter -/
theorem enterV {name qual : Str} {params : Arguments} {body : List Stmt} {scope : Scope} {dV kV doc pm cdv ct : Value} {an : Option Addr} {f : Addr} {args : Args} {binds : Value → List (Str × Value)} {vs : List Value}
    (X : (hz.heap_251 w.params).In h₀) (T : Top p loose mean mg mb h₀) (K : h₀.StaysIn s.heap) (N : Led h₀ s.heap E) (hd : dp < recursionLimit)
    (ho : (hz.heap_251 w.params).lookup f = some ⟨.type "function", none, .func (fnOf name qual params body scope dV kV doc pm an cdv ct), #[]⟩) (hcd : codeIn (hz.heap_251 w.params) cdv qual = true)
    (hbind : bindArgs (fnOf name qual params body scope dV kV doc pm an cdv ct) args = (newTuple vs >>= fun t => pure (binds t))) (hsz : vs.length ≤ sizeLine) (hloc : ∀ t, ∀ x ∈ binds t, scope.names.lookup x.1 = some .local)
    (h : ∀ tp g L' h₁ tk, s.heap.get? tp = none → s.heap.get? L' = none → Fr g L' h₁ (fun y => (binds (.ref tp)).reverse.lookup y) → News g L' h₁ ((tp, tupOf vs) :: E) → (hz.heap_251 w.params).In g → Top p loose mean mg mb g → tp < L' → (∀ p ∈ E, p.1 < tp) →
      (∀ b o, s.heap.get? b = some o → b ∉ keys E → g.get? b = some o) →
      wpAny (model prog w) (Aw (dp + 1) (un + 3)) (execs body (envOf qual scope L' f cdv)) (RetTo R)
        (fun e s' => wpAny (model prog w) (Aw (dp + 1) (un + 3)) (leaving (envOf qual scope L' f cdv) e) (fun _ s'' => R (.error e) s'') (fun e' s'' => R (.error e') s'') s')
        { s with heap := h₁, toks := tk })
    (hcell : ∀ x ∈ scope.names, x.2 ≠ .cell) (hco : scope.isCoroutine = false) (hgen : scope.isGenerator = false) (hsk : scope.kind = .function) :
    codeAny (model prog w) (Aw dp un) (.call (.ref f) args) R s := by
  have X' := X.keeps K
  refine codeAny_call_function hd (X' _ _ ho) rfl hco hgen rfl (codeRec_of X' hcd) ?_
  rw [hbind]
  refine wpAny_bind (wpAny_newObj_type (wpAny_pure ?_) (by show vs.toArray.size ≤ sizeLine; rw [List.size_toArray]; exact hsz))
  have tn : s.heap.get? s.heap.objs.size = none := by cases q : s.heap.get? s.heap.objs.size with | none => rfl | some o => exact absurd (Heap.lt_size q) (Nat.lt_irrefl _)
  have up : ∀ b o, s.heap.get? b = some o → (s.heap.push (tupOf vs)).get? b = some o := fun b o e => Heap.get?_push_of_some _ e
  have hlt : ∀ p ∈ E, p.1 < s.heap.objs.size := fun p hp => Heap.lt_size (N p hp).1
  have hsz1 : (s.heap.push (tupOf vs)).objs.size = s.heap.objs.size + 1 := Heap.size_push ..
  have st : h₀.StaysIn (hideAll (s.heap.push (tupOf vs)) (keys ((s.heap.objs.size, tupOf vs) :: E))) := fun b o e => hideAll_get _ (up _ _ (K b o e)) fun q => by
    rcases List.mem_cons.mp q with e' | q
    · have z := K b o e
      rw [e', tn] at z; cases z
    · obtain ⟨p, hp, rfl⟩ := List.mem_map.mp q
      rw [(N p hp).2] at e; cases e
  refine wpAny_newFunctionEnv hcell (hloc _) (fun h₁ hns hsb => ⟨((T.nolimit.keeps K).keeps up).fresh _ hsb, codeAny_func ?_⟩) hsk
  have hk₁ : ∀ b o, (s.heap.push (tupOf vs)).get? b = some o → h₁.get? b = some o := fun b o e => hsb.extBut b o (Nat.ne_of_lt (Heap.lt_size e)) (Heap.get?_push_of_some _ e)
  have N₁ : ∀ q ∈ (s.heap.objs.size, tupOf vs) :: E, (s.heap.push (tupOf vs)).get? q.1 = some q.2 := forall_cons (Heap.get?_push_size _ rfl) fun q hq => up _ _ (N q hq).1
  refine h s.heap.objs.size _ (s.heap.push (tupOf vs)).objs.size h₁ _ tn ?_ ⟨hns, fun b o e => hk₁ b o (of_hideAll _ e), Nat.le_of_eq (hideAll_size _ _)⟩
    (fun p hp => ⟨hk₁ _ _ (N₁ p hp), Nat.ne_of_lt (Heap.lt_size (N₁ p hp)), hideAll_none _ (List.mem_map_of_mem hp)⟩) (X.keeps st) (T.keeps st) (by rw [hsz1]; exact Nat.lt_succ_self _) hlt (fun b o e n => hideAll_get _ (up b o e) ?_)
  · cases q : s.heap.get? (s.heap.push (tupOf vs)).objs.size with
    | none => rfl
    | some o => exact absurd (Heap.lt_size (up _ _ q)) (Nat.lt_irrefl _)
  · intro hm
    rcases List.mem_cons.mp hm with e' | hm
    · rw [e', tn] at e; cases e
    · exact n hm
end
end Mine
end

section
open PySem PySem.W PyProof.Rows PySem.Calls 
namespace Mine
section
variable {prog : Program} {w : World} {p : Program} {loose : List Str} {mean : ExcName → Option Value} {mg mb : Str → Option Value} {h₀ : Heap} {s : Shared} 
  {dp un : Nat} {R : Result → Shared → Prop}
theorem add_new {x dx nd : Addr} {k1 k2 k3 k4 : Nat} {po nf : Int} {t1 t2 n : Nat} {od : Obj} {kvs : List (Str × Value)} {nk : Str} {ntk : Tok}
    (X : (hz.heap_251 w.params).In h₀) (T : Top p loose mean mg mb h₀) (K : h₀.StaysIn s.heap) (N : Led h₀ s.heap [(x, instObj 226 dx), (dx, sDict w k1 k2 k3 k4 nd .none po nf t1 t2 n), (nd, od)]) (hd : dp + 20 < recursionLimit)
    (hod : od.IsDictOf (strKind prog w) kvs) (lo : (nd == sysModules) = false) (hv : valueAt kvs nk = none) (hsz : kvs.length ≤ 1000) (hne : nd ≠ x ∧ nd ≠ dx)
    (hret : ∀ h' tk' (i : Info) od', Keep [nd] s.heap h' → i.key = nk → i.np = 0 → i.succ = [] → (∀ q ∈ i.led, s.heap.get? q.1 = none) → (∀ q ∈ i.led, h'.get? q.1 = some q.2) → i.D < i.I → i.S ≠ i.I → i.S ≠ i.D → h'.get? nd = some od' → od'.IsDictOf (strKind prog w) (stored kvs nk (.ref i.I)) → R (.ok (.ret .none)) { s with heap := h', toks := tk' }) :
    codeAny (model prog w) (Aw dp un) (.call (.ref 176) ⟨[.ref x, .str nk ntk], []⟩) R s := by
  refine enterV (vs := []) X T K N (by omega) (ko176 _) (by k_is) (bindAdd _ _ _ (.ref 175) _) (by decide) (fun t => locs rfl) ?_ (by decide) rfl rfl rfl
  intro tp g L' h₁ tk htp hL F' N' X' T' hlt hlt2 hg
  k_lt hlt2
  conv in execs _ _ => arg 1; whnf
  k_steps
  refine wpAny_call (getinfo_new X' T' F'.keep (newsLed N' (fun q hq => .tail _ hq)) (by omega) hod lo hv hsz hne ?_)
  intro h2 tk2 i od' kp hkey hnp hsu hfr hled l1 n1 n2 hnd hod'
  have F2 := frKept' F' kp (by intro b hb; rw [List.mem_singleton.mp hb]; exact (N' (nd, od) (by k_mem)).2)
  have hI := hled (i.I, infoObj i) (.head _)
  have hD := hled (i.D, emptyDict) (.tail _ (.head _))
  have hS := hled (i.S, W.listOf (i.succ.map sv).toArray i.sn) (.tail _ (.tail _ (.head _)))
  have fI := hfr (i.I, infoObj i) (.head _)
  have fD := hfr (i.D, emptyDict) (.tail _ (.head _))
  have fS := hfr (i.S, W.listOf (i.succ.map sv).toArray i.sn) (.tail _ (.tail _ (.head _)))
  have c1 := ltN hlt2.1
  have c2 := ltN hlt2.2.1
  have c3 := ltN hlt2.2.2
  have N2 : News g L' h2 [(i.I, infoObj i), (i.D, emptyDict), (i.S, W.listOf (i.succ.map sv).toArray i.sn), (tp, tupOf []), (x, instObj 226 dx), (dx, sDict w k1 k2 k3 k4 nd .none po nf t1 t2 n), (nd, od')] :=
    nCons (nNew F' fI hI) (nCons (nNew F' fD hD) (nCons (nNew F' fS hS) (nCons (nOld N' kp (by k_mem) (nm1 (by omega))) (nCons (nOld N' kp (by k_mem) (nm1 hne.1.symm)) (nCons (nOld N' kp (by k_mem) (nm1 hne.2.symm)) (nCons (nChg N' (by k_mem) hnd) nNil))))))
  have e1 := neNone fI (N' (tp, tupOf []) (by k_mem)).1
  have e2 := neNone fI (N' (x, instObj 226 dx) (by k_mem)).1
  have e3 := neNone fI (N' (dx, _) (by k_mem)).1
  have e4 := neNone fI (N' (nd, od) (by k_mem)).1
  have e5 := ltN l1
  have e6 := neN n1
  dsimp only
  have d1 := neNone fD (N' (x, instObj 226 dx) (by k_mem)).1
  have d2 := neNone fD (N' (dx, _) (.tail _ (.tail _ (.head _)))).1
  have d3 := neNone fD (N' (nd, od) (by k_mem)).1
  have s1 := neNone fS (N' (x, instObj 226 dx) (by k_mem)).1
  have s2 := neNone fS (N' (dx, _) (.tail _ (.tail _ (.head _)))).1
  have s3 := neNone fS (N' (nd, od) (by k_mem)).1
  clear F' N'
  k_steps
  rename Fr g _ _ _ => F6
  rename News g _ _ _ => N6
  refine hret _ _ { i with np := i.np + 0, nt := _ } od' (keep_of N hg F6 N6 ?_) hkey (by show i.np + 0 = 0; rw [hnp]; rfl) hsu ?_ (forall_cons (N6 _ (.head _)).1 (forall_cons (N6 _ (.tail _ (.head _))).1 (forall_cons (N6 _ (.tail _ (.tail _ (.head _)))).1 (fun _ h => nomatch h)))) l1 n1 n2 (N6 (nd, od') (by k_mem)).1 hod'
  · exact forall_cons (.inr (by k_mem)) (forall_cons (.inr (by k_mem)) (forall_cons (.inl (.head _)) (fun _ h => nomatch h)))
  · exact forall_cons (fresh_of hg N6 (.head _) (nmem_cons e2 (nmem_cons e3 (nmem_cons e4 nmem_nil))))
      (forall_cons (fresh_of hg N6 (.tail _ (.head _)) (nmem_cons d1 (nmem_cons d2 (nmem_cons d3 nmem_nil))))
      (forall_cons (fresh_of hg N6 (.tail _ (.tail _ (.head _))) (nmem_cons s1 (nmem_cons s2 (nmem_cons s3 nmem_nil)))) (fun _ h => nomatch h)))
end
end Mine
end

section
open PySem PySem.W PyProof.Rows PySem.Calls 
namespace Mine
noncomputable def ledI (is : List Info) : List (Addr × Obj) := is.flatMap Info.led
noncomputable def Info.ad (i : Info) : List Addr := [i.I, i.D, i.S]
noncomputable def adI (is : List Info) : List Addr := is.flatMap Info.ad
theorem mem_ledI {is : List Info} {i : Info} {q : Addr × Obj} (hi : i ∈ is) (hq : q ∈ i.led) : q ∈ ledI is := List.mem_flatMap.mpr ⟨i, hi, hq⟩
theorem of_ledI {is : List Info} {q : Addr × Obj} (h : q ∈ ledI is) : ∃ i ∈ is, q ∈ i.led := List.mem_flatMap.mp h
theorem led_ad {i : Info} {q : Addr × Obj} (h : q ∈ i.led) : q.1 ∈ i.ad := by
  rcases List.mem_cons.mp h with rfl | h
  · exact .head _
  · rcases List.mem_cons.mp h with rfl | h
    · exact .tail _ (.head _)
    · rw [List.mem_singleton.mp h]; exact .tail _ (.tail _ (.head _))
theorem ad_led {i : Info} {a : Addr} (h : a ∈ i.ad) : ∃ o, (a, o) ∈ i.led := by
  rcases List.mem_cons.mp h with rfl | h
  · exact ⟨_, .head _⟩
  · rcases List.mem_cons.mp h with rfl | h
    · exact ⟨_, .tail _ (.head _)⟩
    · rw [List.mem_singleton.mp h]; exact ⟨_, .tail _ (.tail _ (.head _))⟩
structure WfI (is : List Info) : Prop where
  nd : (is.map (·.key)).Nodup
  inn : ∀ i ∈ is, @Ne Nat i.I i.D ∧ @Ne Nat i.I i.S ∧ @Ne Nat i.D i.S
  out : ∀ i ∈ is, ∀ j ∈ is, i.key ≠ j.key → ∀ a ∈ i.ad, ∀ b ∈ j.ad, @Ne Nat a b
theorem uniq_of {α β : Type} {f : α → β} : ∀ {l : List α}, (l.map f).Nodup → ∀ i ∈ l, ∀ j ∈ l, f i = f j → i = j
  | [], _, _, h, _, _, _ => nomatch h
  | a :: l, hn, i, hi, j, hj, e => by
    obtain ⟨h1, h2⟩ := List.nodup_cons.mp hn
    rcases List.mem_cons.mp hi with q | hi'
    · rcases List.mem_cons.mp hj with q' | hj'
      · rw [q, q']
      · exact absurd (q ▸ e ▸ List.mem_map_of_mem hj') h1
    · rcases List.mem_cons.mp hj with q' | hj'
      · exact absurd (q' ▸ e ▸ List.mem_map_of_mem (f := f) hi') h1
      · exact uniq_of h2 i hi' j hj' e
theorem WfI.key {is : List Info} (W : WfI is) : ∀ i ∈ is, ∀ j ∈ is, i.key = j.key → i = j := uniq_of W.nd
/-- one node's entry turned -/
noncomputable def setI (k : Str) (f : Info → Info) (is : List Info) : List Info := is.map fun i => if i.key = k then f i else i
/-- a turn that leaves the places -/
noncomputable def SameAt (f : Info → Info) : Prop := ∀ i, (f i).key = i.key ∧ (f i).I = i.I ∧ (f i).D = i.D ∧ (f i).S = i.S
theorem SameAt.ad {f : Info → Info} (h : SameAt f) (i : Info) : (f i).ad = i.ad := by
  unfold Info.ad; rw [(h i).2.1, (h i).2.2.1, (h i).2.2.2]
section
variable {k : Str} {f : Info → Info} {is : List Info}
theorem mem_setI {j : Info} : j ∈ setI k f is ↔ ∃ i ∈ is, j = if i.key = k then f i else i := by
  unfold setI; rw [List.mem_map]
  exact ⟨fun ⟨i, h, e⟩ => ⟨i, h, e.symm⟩, fun ⟨i, h, e⟩ => ⟨i, h, e.symm⟩⟩
theorem SameAt.ite (h : SameAt f) (i : Info) : (if i.key = k then f i else i).key = i.key ∧ (if i.key = k then f i else i).ad = i.ad := by
  by_cases e : i.key = k
  · rw [if_pos e]; exact ⟨(h i).1, h.ad i⟩
  · rw [if_neg e]; exact ⟨rfl, rfl⟩
theorem setI_keys (h : SameAt f) : (setI k f is).map (·.key) = is.map (·.key) := by
  unfold setI; rw [List.map_map]
  exact List.map_congr_left fun i _ => (h.ite i).1
theorem setI_I (h : SameAt f) : (setI k f is).map (fun i => (i.key, Value.ref i.I)) = is.map (fun i => (i.key, Value.ref i.I)) := by
  unfold setI; rw [List.map_map]
  refine List.map_congr_left fun i _ => ?_
  show ((if i.key = k then f i else i).key, Value.ref (if i.key = k then f i else i).I) = _
  by_cases e : i.key = k
  · rw [if_pos e, (h i).1, (h i).2.1]
  · rw [if_neg e]
theorem setI_ad (h : SameAt f) : adI (setI k f is) = adI is := by
  unfold adI setI; rw [List.flatMap_map]
  congr 1; funext i; exact (h.ite i).2
/-- all entries behind the turn: the turned one's, or another, off its places -/
theorem led_set (W : WfI is) {i : Info} (hi : i ∈ is) (hk : i.key = k) {q : Addr × Obj} (hq : q ∈ ledI (setI k f is)) :
    q ∈ (f i).led ∨ (q ∈ ledI is ∧ ∀ a ∈ i.ad, @Ne Nat q.1 a) := by
  obtain ⟨j', hj', hq⟩ := of_ledI hq
  obtain ⟨j, hj, rfl⟩ := mem_setI.mp hj'
  by_cases e : j.key = k
  · rw [if_pos e] at hq
    rw [W.key i hi j hj (hk.trans e.symm)]
    exact .inl hq
  · rw [if_neg e] at hq
    exact .inr ⟨mem_ledI hj hq, fun a ha => W.out j hj i hi (fun z => e (z.trans hk)) _ (led_ad hq) a ha⟩
end
theorem keys_ledI {is : List Info} {a : Addr} : a ∈ keys (ledI is) ↔ a ∈ adI is := by
  unfold keys adI
  rw [List.mem_map, List.mem_flatMap]
  constructor
  · rintro ⟨q, hq, rfl⟩
    obtain ⟨i, hi, hq⟩ := of_ledI hq
    exact ⟨i, hi, led_ad hq⟩
  · rintro ⟨i, hi, ha⟩
    obtain ⟨o, ho⟩ := ad_led ha
    exact ⟨_, mem_ledI hi ho, rfl⟩
theorem mem_adI {is : List Info} {i : Info} {a : Addr} (hi : i ∈ is) (ha : a ∈ i.ad) : a ∈ adI is := List.mem_flatMap.mpr ⟨i, hi, ha⟩
/-- a node's place by its key -/
theorem valueAt_info {is : List Info} (W : WfI is) {i : Info} (hi : i ∈ is) : valueAt (is.map fun i => (i.key, Value.ref i.I)) i.key = some (.ref i.I) := by
  have : ∀ l : List Info, (∀ j ∈ l, j ∈ is) → i ∈ l → valueAt (l.map fun i => (i.key, Value.ref i.I)) i.key = some (.ref i.I) := by
    intro l
    induction l with
    | nil => intro _ h; cases h
    | cons j l ih =>
      intro hs hm
      by_cases e : j.key = i.key
      · have := W.key j (hs j (.head _)) i hi e
        subst this
        simp [valueAt]
      · have hm' : i ∈ l := by
          rcases List.mem_cons.mp hm with rfl | h
          · exact absurd rfl e
          · exact h
        have := ih (fun j hj => hs j (.tail _ hj)) hm'
        simp only [valueAt, List.map_cons] at this ⊢
        simpa [e] using this
  exact this is (fun _ h => h) hi
/-- a node, with no place in a heap -/
structure Nd where
  key : Str
  np : Int
  succ : List Str
noncomputable def Info.abs (i : Info) : Nd := ⟨i.key, i.np, i.succ.map (·.1)⟩
noncomputable def Info.pl (i : Info) : Str × Addr × Addr × Addr := (i.key, i.I, i.D, i.S)
noncomputable def absI (is : List Info) : List Nd := is.map Info.abs
noncomputable def plI (is : List Info) : List (Str × Addr × Addr × Addr) := is.map Info.pl
noncomputable def kvI (is : List Info) : List (Str × Value) := is.map fun i => (i.key, .ref i.I)
noncomputable def setN (k : Str) (f : Nd → Nd) (ns : List Nd) : List Nd := ns.map fun n => if n.key = k then f n else n
theorem plI_set {k : Str} {f : Info → Info} {is : List Info} (h : SameAt f) : plI (setI k f is) = plI is := by
  unfold plI setI; rw [List.map_map]
  refine List.map_congr_left fun i _ => ?_
  show Info.pl (if i.key = k then f i else i) = Info.pl i
  by_cases e : i.key = k
  · rw [if_pos e]; unfold Info.pl; rw [(h i).1, (h i).2.1, (h i).2.2.1, (h i).2.2.2]
  · rw [if_neg e]
theorem absI_set {k : Str} {f : Info → Info} {f' : Nd → Nd} {is : List Info} (h : ∀ i, (f i).abs = f' i.abs) : absI (setI k f is) = setN k f' (absI is) := by
  unfold absI setI setN; rw [List.map_map, List.map_map]
  refine List.map_congr_left fun i _ => ?_
  show Info.abs (if i.key = k then f i else i) = if i.key = k then f' i.abs else i.abs
  by_cases e : i.key = k
  · rw [if_pos e, if_pos e, h]
  · rw [if_neg e, if_neg e]
theorem kvI_of {is js : List Info} (h : plI js = plI is) : kvI js = kvI is := by
  have := congrArg (List.map fun p : Str × Addr × Addr × Addr => (p.1, Value.ref p.2.1)) h
  unfold plI at this; rwa [List.map_map, List.map_map] at this
theorem adI_of {is js : List Info} (h : plI js = plI is) : adI js = adI is := by
  have := congrArg (List.flatMap fun p : Str × Addr × Addr × Addr => [p.2.1, p.2.2.1, p.2.2.2]) h
  unfold plI at this; rwa [List.flatMap_map, List.flatMap_map] at this
theorem mem_pl {is js : List Info} (h : plI js = plI is) {i : Info} (hi : i ∈ is) : ∃ j ∈ js, j.pl = i.pl := by
  have : i.pl ∈ plI js := h ▸ List.mem_map_of_mem hi
  exact List.mem_map.mp this
theorem WfI.same {is js : List Info} (W : WfI is) (h : plI js = plI is) : WfI js := by
  have up : ∀ j ∈ js, ∃ i ∈ is, i.pl = j.pl := fun j hj => mem_pl h.symm hj
  refine ⟨?_, ?_, ?_⟩
  · have := congrArg (List.map (·.1)) h
    unfold plI at this; rw [List.map_map, List.map_map] at this
    exact (this : js.map (·.key) = is.map (·.key)) ▸ W.nd
  · intro j hj
    obtain ⟨i, hi, e⟩ := up j hj
    have := W.inn i hi
    unfold Info.pl at e
    simp only [Prod.mk.injEq] at e
    rw [← e.2.1, ← e.2.2.1, ← e.2.2.2]; exact this
  · intro i hi j hj n a ha b hb
    obtain ⟨i', hi', e⟩ := up i hi
    obtain ⟨j', hj', e'⟩ := up j hj
    unfold Info.pl at e e'
    simp only [Prod.mk.injEq] at e e'
    refine W.out i' hi' j' hj' (by rw [e.1, e'.1]; exact n) a ?_ b ?_
    · unfold Info.ad; rw [e.2.1, e.2.2.1, e.2.2.2]; exact ha
    · unfold Info.ad; rw [e'.2.1, e'.2.2.1, e'.2.2.2]; exact hb
theorem WfI.set {k : Str} {f : Info → Info} {is : List Info} (W : WfI is) (h : SameAt f) : WfI (setI k f is) := W.same (plI_set h)
theorem led_same {is js : List Info} (h : plI js = plI is) {q : Addr × Obj} (hq : q ∈ ledI js) : ∃ q' ∈ ledI is, q'.1 = q.1 := by
  have : q.1 ∈ keys (ledI is) := keys_ledI.mpr (adI_of h ▸ keys_ledI.mp (List.mem_map_of_mem hq))
  exact List.mem_map.mp this
end Mine
end

section
open PySem PySem.W PyProof.Rows PySem.Calls 
namespace Mine
noncomputable def At (h : Heap) (l : List (Addr × Obj)) : Prop := ∀ q ∈ l, h.get? q.1 = some q.2
theorem At.keep {h h' : Heap} {l : List (Addr × Obj)} {X : List Addr} (a : At h l) (k : Keep X h h') (n : ∀ q ∈ l, q.1 ∉ X) : At h' l := fun q hq => k _ _ (n q hq) (a q hq)
theorem At.nil {h : Heap} : At h [] := fun _ h => nomatch h
theorem At.cons {h : Heap} {a : Addr} {o : Obj} {l : List (Addr × Obj)} (e : h.get? a = some o) (k : At h l) : At h ((a, o) :: l) := forall_cons e k
theorem At.news {g h : Heap} {L : Addr} {l : List (Addr × Obj)} (a : At h l) (n : ∀ q ∈ l, q.1 ≠ L ∧ g.get? q.1 = none) : News g L h l := fun q hq => ⟨a q hq, n q hq⟩
theorem News.at {g h : Heap} {L : Addr} {l : List (Addr × Obj)} (N : News g L h l) : At h l := fun q hq => (N q hq).1
/-- what a turn leaves -/
noncomputable def TurnH (g : Heap) (L : Addr) (fp : List Addr) (h : Heap) (Inv : Heap → (Str → Option Value) → Prop) (s : Shared) (Q : Flow → Shared → Prop) (f : Flow) (s' : Shared) : Prop :=
  match f with
  | .ret v => Q (.ret v) s'
  | .brk => Q .next s'
  | _ => ∃ h' tk m', s' = { s with heap := h', toks := tk } ∧ (∀ b ∈ fp, ∀ o, h.get? b = some o → h'.get? b = some o) ∧ Fr g L h' m' ∧ Inv h' m'
noncomputable def LoopH (prog : Program) (w : World) (A : Around) (g : Heap) (env : Env) (x : Str) (body : List Stmt) (Q : Flow → Shared → Prop) (E : Value → Shared → Prop) (it : Value) (s : Shared) : Prop :=
  ∃ (I : Addr) (fp wr : List Addr) (n : Nat) (P : Nat → Value → Prop) (St : Nat → Heap → Prop) (m : Str → Option Value) (Inv : Nat → Heap → (Str → Option Value) → Prop),
    it = .ref I ∧ Walks prog w A I fp wr n P St ∧ env.locals ∉ fp ∧ (∀ b ∈ wr, g.get? b = none) ∧ St 0 s.heap ∧ Fr g env.locals s.heap m ∧ Inv 0 s.heap m ∧
    (∀ i h h' m, Inv i h m → Keep (env.locals :: wr) h h' → Inv i h' m) ∧
    (∀ i v h tk m, i < n → P i v → St (i + 1) h → Inv i h m → Fr g env.locals h (fun y => if y = x then some v else m y) → wpAny (model prog w) A (execs body env) (TurnH g env.locals fp h (Inv (i + 1)) s Q) E { s with heap := h, toks := tk }) ∧
    ∀ h tk m, Inv n h m → Fr g env.locals h m → Q .next { s with heap := h, toks := tk }
section
variable {prog : Program} {w : World} {A : Around} {E : Value → Shared → Prop} {s : Shared} {env : Env} {g : Heap} {x : Str} {body : List Stmt} {Q : Flow → Shared → Prop} {m : Str → Option Value}
theorem For_h {px pos : Pos} {iter : Expr} (g : Heap) (hx : env.kindOf x = some .local)
    (hp : (env.scope.kind == .class || (env.scope.kind == .module && env.locals != env.globals)) = false)
    (h : wpAny (model prog w) A (eval iter env) (fun xv s₁ => wpAny (model prog w) A (pyIter xv) (fun it s₂ => LoopH prog w A g env x body Q E it s₂) E s₁) E s)
    (hs : ∀ x, foldedSetIterable iter env x = pure x := by intro _; rfl)
    (hE : PassesOwn (model prog w) A env E := by passes_own) :
    wpAny (model prog w) A (exec (.For (.Name x px) iter body [] pos) env) Q E s := by
  refine wpAny_For (wpAny_mono h (fun xv s₁ h₁ => wpAny_mono h₁ (fun it s₂ h₂ => ?_) fun _ _ e => e) fun _ _ e => e) hs
  obtain ⟨I, fp, wr, n, P, St, m, Inv, rfl, W, hLf, hwr, hst, F, h0, stab, turn, done⟩ := h₂
  have hLw : env.locals ∉ wr := fun h => hLf (W.sub _ h)
  refine codeAny_forLoop (fun k s' => ∃ h' tk m' i, s' = { s₂ with heap := h', toks := tk } ∧ St i h' ∧ Fr g env.locals h' m' ∧ Inv i h' m' ∧ i ≤ n ∧ k = n + 1 - i) ?_ (n + 1) ⟨_, _, m, 0, rfl, hst, F, h0, Nat.zero_le _, rfl⟩
  rintro k s' ⟨h', tk, m', i, rfl, hst', F', hJ, hi, rfl⟩
  have next : ∀ h₁ : Heap, Keep wr h' h₁ → Fr g env.locals h₁ m' := fun h₁ hk₁ =>
    ⟨F'.ns.at' fun o e => hk₁ _ o hLw e, fun b o e => hk₁ b o (fun q => by rw [hwr b q] at e; cases e) (F'.keep b o e), F'.above⟩
  by_cases hlt : i < n
  · refine W.item i _ _ _ hlt hst' fun v h₁ tk₁ hP hst₁ hk₁ => ?_
    refine wpAny_assign_Name (wpAny_storeName_local hx (next h₁ hk₁).ns (fun h₂ hn₂ hs₂ => ?_) hp)
    have F₂ := (next h₁ hk₁).set hn₂ hs₂
    have hst₂ : St (i + 1) h₂ := W.frame _ _ _ hst₁ fun b hb o e => (hs₂.2 b fun q => hLf (q ▸ hb)).trans e
    have J₂ : Inv i h₂ m' := stab i h' h₂ m' hJ fun b o hb e => (hs₂.2 b fun q => hb (q ▸ .head _)).trans (hk₁ b o (fun q => hb (.tail _ q)) e)
    refine wpAny_mono (wpAny_passesOwn hE (turn i v h₂ _ m' hlt hP hst₂ J₂ F₂)) (fun f s₃ h₃ => ?_) fun _ _ e => e
    have fin : (∃ h'' tk m', s₃ = { s₂ with heap := h'', toks := tk } ∧ (∀ b ∈ fp, ∀ o, h₂.get? b = some o → h''.get? b = some o) ∧ Fr g env.locals h'' m' ∧ Inv (i + 1) h'' m') → ∃ k, k < n + 1 - i ∧ ∃ h' tk m' i, s₃ = { s₂ with heap := h', toks := tk } ∧ St i h' ∧ Fr g env.locals h' m' ∧ Inv i h' m' ∧ i ≤ n ∧ k = n + 1 - i := by
      rintro ⟨h'', tk', m'', rfl, hk, F'', J''⟩
      exact ⟨n + 1 - (i + 1), by omega, h'', tk', m'', i + 1, rfl, W.frame _ _ _ hst₂ hk, F'', J'', hlt, rfl⟩
    cases f with
    | ret v => exact h₃
    | brk => exact h₃
    | cont => exact fin h₃
    | next => exact fin h₃
  · have hin : i = n := by omega
    subst hin
    refine W.done _ _ _ hst' fun h₁ tk₁ hk₁ => wpAny_execs_nil ?_
    exact done h₁ tk₁ m' (stab _ h' h₁ m' hJ fun b o hb e => hk₁ b o (fun q => hb (.tail _ q)) e) (next h₁ hk₁)
theorem noneAt {h : Heap} : h.get? h.objs.size = none := by cases q : h.get? h.objs.size with | none => rfl | some o => exact absurd (Heap.lt_size q) (Nat.lt_irrefl _)
theorem fresh_none (F : Fr g env.locals s.heap m) {I : Addr} (hI : s.heap.get? I = none) : I ≠ env.locals ∧ g.get? I = none := by
  refine ⟨?_, ?_⟩
  · rintro rfl; obtain ⟨_, _, _, hL, _⟩ := F.ns; rw [hI] at hL; cases hL
  · cases q : g.get? I with
    | none => rfl
    | some o => rw [F.keep _ _ q] at hI; cases hI
theorem loop_core {ax : Addr} {oA : Obj} {vs : List Value} {St : Addr → Nat → Heap → Prop} (oI : Obj) (hfree : oI.isFreed = false) (W : ∀ I, ax ≠ I → Walks prog w A I [I, ax] [I] vs.length (fun i v => vs[i]? = some v) (St I))
    (there : ∀ I i h, St I i h → h.get? ax = some oA → ∃ o, h.get? I = some o) (hst : ∀ I h, h.get? I = some oI → h.get? ax = some oA → St I 0 h)
    (hA : s.heap.get? ax = some oA) (nA : ax ≠ env.locals)
    (F : Fr g env.locals s.heap m) (Inv : Addr → Nat → Heap → (Str → Option Value) → Prop) (h0 : ∀ I, s.heap.get? I = none → Inv I 0 s.heap m)
    (stab : ∀ I i h h' m, s.heap.get? I = none → Inv I i h m → Keep [env.locals, I] h h' → Inv I i h' m)
    (turn : ∀ I i v h tk m oI, s.heap.get? I = none → vs[i]? = some v → Inv I i h m → Fr g env.locals h (fun y => if y = x then some v else m y) → h.get? I = some oI → I ≠ env.locals ∧ g.get? I = none →
      wpAny (model prog w) A (execs body env) (TurnH g env.locals [I, ax] h (Inv I (i + 1)) s Q) E { s with heap := h, toks := tk })
    (done : ∀ I h tk m, s.heap.get? I = none → Inv I vs.length h m → Fr g env.locals h m → Q .next { s with heap := h, toks := tk }) :
    LoopH prog w A g env x body Q E (.ref s.heap.objs.size) { s with heap := s.heap.push oI } := by
  have nI : s.heap.get? s.heap.objs.size = none := noneAt
  have fI := fresh_none F nI
  have hne : ax ≠ s.heap.objs.size := fun e => by rw [← e, hA] at nI; cases nI
  have up : ∀ b o, s.heap.get? b = some o → (s.heap.push oI).get? b = some o := fun b o e => Heap.get?_push_of_some _ e
  refine ⟨_, [s.heap.objs.size, ax], [s.heap.objs.size], vs.length, _, _, m, fun i h m => Inv s.heap.objs.size i h m ∧ h.get? ax = some oA, rfl, W _ hne, ?_, ?_, ?_, F.push _, ⟨stab _ _ _ _ _ nI (h0 _ nI) fun b o _ e => up b o e, up _ _ hA⟩, ?_, ?_, ?_⟩
  · intro hm
    rcases List.mem_cons.mp hm with e | hm
    · exact fI.1 e.symm
    · exact nA (List.mem_singleton.mp hm).symm
  · intro b hb; rw [List.mem_singleton.mp hb]; exact fI.2
  · exact hst _ _ (Heap.get?_push_size _ hfree) (up _ _ hA)
  · intro i h h' m hJ k
    refine ⟨stab _ _ _ _ _ nI hJ.1 k, k _ _ ?_ hJ.2⟩
    intro hm
    rcases List.mem_cons.mp hm with e | hm
    · exact nA e
    · exact hne (List.mem_singleton.mp hm)
  · intro i v h tk m' hi hv hst' hJ F'
    obtain ⟨o, ho⟩ := there _ _ _ hst' hJ.2
    refine wpAny_mono (turn _ i v h tk m' o nI hv hJ.1 F' ho fI) (fun f s' hf => ?_) fun _ _ e => e
    have fin : (∃ h'' tk m', s' = { s with heap := h'', toks := tk } ∧ (∀ b ∈ [s.heap.objs.size, ax], ∀ o, h.get? b = some o → h''.get? b = some o) ∧ Fr g env.locals h'' m' ∧ Inv s.heap.objs.size (i + 1) h'' m') →
        ∃ h'' tk m', s' = { s with heap := h'', toks := tk } ∧ (∀ b ∈ [s.heap.objs.size, ax], ∀ o, h.get? b = some o → h''.get? b = some o) ∧ Fr g env.locals h'' m' ∧ Inv s.heap.objs.size (i + 1) h'' m' ∧ h''.get? ax = some oA := by
      rintro ⟨h'', tk, m', e, k, F'', J⟩
      exact ⟨h'', tk, m', e, k, F'', J, k _ (.tail _ (.head _)) _ hJ.2⟩
    cases f with
    | ret v => exact hf
    | brk => exact hf
    | cont => exact fin hf
    | next => exact fin hf
  · intro h tk m' hJ F'
    exact done _ h tk m' nI hJ.1 F'
theorem loop_tup {tp : Addr} {vs : List Value} (hA : s.heap.get? tp = some { cls := .type "tuple", data := .seq vs.toArray }) (hh : A.handled = none) (nA : tp ≠ env.locals)
    (F : Fr g env.locals s.heap m) (Inv : Addr → Nat → Heap → (Str → Option Value) → Prop) (h0 : ∀ I, s.heap.get? I = none → Inv I 0 s.heap m)
    (stab : ∀ I i h h' m, s.heap.get? I = none → Inv I i h m → Keep [env.locals, I] h h' → Inv I i h' m)
    (turn : ∀ I i v h tk m oI, s.heap.get? I = none → vs[i]? = some v → Inv I i h m → Fr g env.locals h (fun y => if y = x then some v else m y) → h.get? I = some oI → I ≠ env.locals ∧ g.get? I = none →
      wpAny (model prog w) A (execs body env) (TurnH g env.locals [I, tp] h (Inv I (i + 1)) s Q) E { s with heap := h, toks := tk })
    (done : ∀ I h tk m, s.heap.get? I = none → Inv I vs.length h m → Fr g env.locals h m → Q .next { s with heap := h, toks := tk }) :
    wpAny (model prog w) A (pyIter (.ref tp)) (fun it s₂ => LoopH prog w A g env x body Q E it s₂) E s := by
  refine wpAny_pyIter_tuple ⟨_, hA, rfl, _, rfl⟩ ?_
  have W := fun I (h : tp ≠ I) => Walks.tuple (prog := prog) (w := w) (A := A) hh I tp h vs.toArray
  simp only [List.size_toArray, List.getElem?_toArray] at W
  exact loop_core _ rfl W (fun I i h st _ => let ⟨o, e, _⟩ := st.1; ⟨o, e⟩) (fun I h e1 e2 => ⟨⟨_, e1, rfl, rfl⟩, ⟨_, e2, rfl, _, rfl⟩⟩) hA nA F Inv h0 stab turn done
theorem loop_list {tp : Addr} {vs : List Value} {n : Nat} (hA : s.heap.get? tp = some (W.listOf vs.toArray n)) (hh : A.handled = none) (nA : tp ≠ env.locals)
    (F : Fr g env.locals s.heap m) (Inv : Addr → Nat → Heap → (Str → Option Value) → Prop) (h0 : ∀ I, s.heap.get? I = none → Inv I 0 s.heap m)
    (stab : ∀ I i h h' m, s.heap.get? I = none → Inv I i h m → Keep [env.locals, I] h h' → Inv I i h' m)
    (turn : ∀ I i v h tk m oI, s.heap.get? I = none → vs[i]? = some v → Inv I i h m → Fr g env.locals h (fun y => if y = x then some v else m y) → h.get? I = some oI → I ≠ env.locals ∧ g.get? I = none →
      wpAny (model prog w) A (execs body env) (TurnH g env.locals [I, tp] h (Inv I (i + 1)) s Q) E { s with heap := h, toks := tk })
    (done : ∀ I h tk m, s.heap.get? I = none → Inv I vs.length h m → Fr g env.locals h m → Q .next { s with heap := h, toks := tk }) :
    wpAny (model prog w) A (pyIter (.ref tp)) (fun it s₂ => LoopH prog w A g env x body Q E it s₂) E s := by
  refine wpAny_pyIter_list ⟨_, hA, rfl, _, rfl⟩ ?_
  have W := fun I (h : tp ≠ I) => Walks.list (prog := prog) (w := w) (A := A) hh I tp h vs.toArray
  simp only [List.size_toArray, List.getElem?_toArray] at W
  exact loop_core _ rfl W (fun I i h st _ => let ⟨o, e, _⟩ := st.1; ⟨o, e⟩) (fun I h e1 e2 => ⟨⟨_, e1, rfl, rfl⟩, ⟨_, e2, rfl, _, rfl⟩⟩) hA nA F Inv h0 stab turn done
end
theorem Fr.pin {g h : Heap} {L : Addr} {m : Str → Option Value} {y₀ : Str} {v : Value} (F : Fr g L h m) (e : m y₀ = some v) : Fr g L h (fun y => if y = y₀ then some v else m y) := by
  have : (fun y => if y = y₀ then some v else m y) = m := by
    funext y
    by_cases q : y = y₀
    · rw [if_pos q, q, e]
    · rw [if_neg q]
  rw [this]; exact F
theorem At.mem {h : Heap} {l : List (Addr × Obj)} {a : Addr} {o : Obj} (k : At h l) (e : (a, o) ∈ l) : h.get? a = some o := k _ e
theorem At.append {h : Heap} {l r : List (Addr × Obj)} (a : At h l) (b : At h r) : At h (l ++ r) := fun q hq => (List.mem_append.mp hq).elim (a q) (b q)
theorem At.left {h : Heap} {l r : List (Addr × Obj)} (a : At h (l ++ r)) : At h l := fun q hq => a q (List.mem_append_left _ hq)
theorem At.right {h : Heap} {l r : List (Addr × Obj)} (a : At h (l ++ r)) : At h r := fun q hq => a q (List.mem_append_right _ hq)
/-- one node turned, in the heap -/
theorem At.set {h h' : Heap} {is : List Info} {i : Info} {f : Info → Info} (W : WfI is) (hi : i ∈ is) (a : At h (ledI is)) (k : ∀ q ∈ ledI is, (∀ b ∈ i.ad, @Ne Nat q.1 b) → h'.get? q.1 = some q.2) (n : At h' (f i).led) : At h' (ledI (setI i.key f is)) := fun q hq => by
  rcases led_set W hi rfl hq with e | ⟨e, e'⟩
  · exact n q e
  · exact k q e e'
theorem append_M {prog : Program} {w : World} {A : Around} {E : Value → Shared → Prop} {s : Shared} {h₀ : Heap} {L D : Addr} {m : Str → Option Value} {news news' : List (Addr × Obj)} {vs : List Value} {n : Nat} {x : Value} {Q : Value → Shared → Prop} (F : Fr h₀ L s.heap m) (N : News h₀ L s.heap news) (U : Upd D (W.listOf vs.toArray n) (W.listOf (vs ++ [x]).toArray (n + 1)) news news')
    (hsz : vs.length ≤ 2000) (h : ∀ h', Fr h₀ L h' m → News h₀ L h' news' → Q .none { s with heap := h' }) : wpAny (model prog w) A (call (.builtin "list.append") [.ref D, x]) Q E s := by
  refine append_K F N (its := vs.toArray) (n := n) ?_ h (by rw [List.size_toArray, sizeLine_eq]; omega)
  rw [List.push_toArray]; exact U
noncomputable def Again (I : Nat → Shared → Prop) (n : Nat) (s : Shared) : Prop := ∃ m, m < n ∧ I m s
theorem While_F {prog : Program} {w : World} {A : Around} {E : Value → Shared → Prop} {s : Shared} {env : Env} {test : Expr} {body orelse : List Stmt} {pos : Pos} {Q : Flow → Shared → Prop} (I : Nat → Shared → Prop)
    (turn : ∀ n s, I n s → wpAny (model prog w) A (isTrue test env (eval test env)) (fun b s₂ =>
      if b then wpAny (model prog w) A (execs body env) (fun f s₃ => match f with
          | .next | .cont => Again I n s₃
          | .brk => Q .next s₃
          | .ret v => Q (.ret v) s₃) (fun _ _ => False) s₂
      else wpAny (model prog w) A (execs orelse env) (fun f s₃ => Q f s₃) (fun _ _ => False) s₂) (fun _ _ => False) s)
    (n : Nat) (h : I n s) : wpAny (model prog w) A (exec (.While test body orelse pos) env) Q E s := by
  refine wpAny_While (codeAny_whileLoop I (fun n s hI => wpAny_mono (turn n s hI) (fun b s₂ hb => ?_) fun _ _ f => f.elim) n h)
  cases b with
  | true => exact wpAny_mono hb (fun f s₃ hf => by cases f <;> exact hf) fun _ _ f => f.elim
  | false => exact wpAny_mono hb (fun f s₃ hf => hf) fun _ _ f => f.elim
end Mine
end

section
open PySem PySem.W PyProof.Rows PySem.Calls 
local macro_rules | `(tactic| ktr_unf) => `(tactic| repeat' ((fail_if_success (with_reducible show wpAny _ _ (exec (Stmt.For _ _ _ _ _) _) _ _ _)); (fail_if_success (with_reducible show wpAny _ _ (exec (Stmt.While _ _ _ _) _) _ _ _)); (fail_if_success (with_reducible show wpAny _ _ (exec (Stmt.Try _ _ _ _ _) _) _ _ _)); first | (k_unfold; (try dsimp only)) | (k_end; wrow_close) | walk1 | (dsimp only; walk1) | (leave1; (try dsimp only)) | fail "no step"))
namespace Mine
section
variable {prog : Program} {w : World} {p : Program} {loose : List Str} {mean : ExcName → Option Value} {mg mb : Str → Option Value} {h₀ : Heap} {s : Shared} 
  {dp un : Nat} {R : Result → Shared → Prop}
local macro_rules | `(tactic| k_ne) => `(tactic| (refine neN ?_; (try dsimp only); first | assumption | (refine Ne.symm ?_; assumption)))
noncomputable def addP (k : Str) (ps : List Str) (ns : List Nd) : List Nd := ps.foldl (fun ns p => setN p (fun n => { n with succ := n.succ ++ [k] }) ns) (setN k (fun n => { n with np := n.np + ps.length }) ns)
theorem add_preds {x dx nd : Addr} {k1 k2 k3 k4 : Nat} {po nf : Int} {t1 t2 n : Nat} {od : Obj} {is : List Info} {i : Info} {ntk : Tok} {ps : List (Str × Nat)}
    (X : (hz.heap_251 w.params).In h₀) (T : Top p loose mean mg mb h₀) (K : h₀.StaysIn s.heap) (N : Led h₀ s.heap ([(x, instObj 226 dx), (dx, sDict w k1 k2 k3 k4 nd .none po nf t1 t2 n), (nd, od)] ++ ledI is)) (hd : dp + 20 < recursionLimit)
    (Wf : WfI is) (hoff : ∀ a ∈ adI is, @Ne Nat a x ∧ @Ne Nat a dx ∧ @Ne Nat a nd) (hod : od.IsDictOf (strKind prog w) (kvI is)) (lo : (nd == sysModules) = false) (hi : i ∈ is) (hne : nd ≠ x ∧ nd ≠ dx)
    (hps : ps.length ≤ 1000) (hin : ∀ q ∈ ps, ∃ j ∈ is, j.key = q.1) (hb : ∀ j ∈ is, j.succ.length ≤ 1000)
    (hret : ∀ h' tk' is', plI is' = plI is → absI is' = addP i.key (ps.map (·.1)) (absI is) → Keep (adI is) s.heap h' → At h' (ledI is') → (∀ j ∈ is', j.succ.length ≤ 1000 + ps.length) → R (.ok (.ret .none)) { s with heap := h', toks := tk' }) :
    codeAny (model prog w) (Aw dp un) (.call (.ref 176) ⟨.ref x :: .str i.key ntk :: ps.map sv, []⟩) R s := by
  refine enterV (vs := ps.map sv) X T K N (by omega) (ko176 _) (by k_is) (bindAdd _ _ _ (.ref 175) _) (by rw [List.length_map, sizeLine_eq]; omega) (fun t => locs rfl) ?_ (by decide) rfl rfl rfl
  intro tp g L' h₁ tk htp hL F' N' X' T' hlt hlt2 hg
  have N1 : News g L' h₁ [(i.I, infoObj i), (i.D, emptyDict), (i.S, W.listOf (i.succ.map sv).toArray i.sn), (tp, tupOf (ps.map sv)), (x, instObj 226 dx), (dx, sDict w k1 k2 k3 k4 nd .none po nf t1 t2 n), (nd, od)] := by
    refine nCons (N' _ (.tail _ (.tail _ (.tail _ (.tail _ (mem_ledI hi (.head _))))))) (nCons (N' _ (.tail _ (.tail _ (.tail _ (.tail _ (mem_ledI hi (.tail _ (.head _)))))))) (nCons (N' _ (.tail _ (.tail _ (.tail _ (.tail _ (mem_ledI hi (.tail _ (.tail _ (.head _))))))))) (nCons (N' _ (.head _)) (nCons (N' _ (.tail _ (.head _))) (nCons (N' _ (.tail _ (.tail _ (.head _)))) (nCons (N' _ (.tail _ (.tail _ (.tail _ (.head _))))) nNil))))))
  obtain ⟨g1, F1, N1, up1, hg1⟩ := reground F' N1
  have X1 := X'.keeps up1
  have T1 := T'.keeps up1
  obtain ⟨q1, q2, q3⟩ := hoff i.I (mem_adI hi (.head _))
  have q5 := (Wf.inn i hi).1
  have q6 := (Wf.inn i hi).2.1
  have q4 : @Ne Nat i.I tp := Nat.ne_of_lt (hlt2 (i.I, infoObj i) (.tail _ (.tail _ (.tail _ (mem_ledI hi (.head _))))))
  conv in execs _ _ => arg 1; whnf
  k_steps
  refine wpAny_call (getinfo (kvs := kvI is) X1 T1 (Fr.keep (by assumption)) (newsLed (by assumption) (fun q hq => .tail _ (.tail _ (.tail _ (.tail _ hq))))) (by show dp + 1 < _; omega) hod lo (valueAt_info Wf hi) ?_)
  intro h2 tk2 kp
  rename Fr g1 _ _ _ => F2
  rename News g1 _ _ _ => N2
  have F3 := frKept' F2 kp (fun _ h => nomatch h)
  have N3 := nKeep N2 kp
  clear F2 N2
  dsimp only
  k_steps
  refine kun_lenT (k := (ps.length : Int)) (News.isTup (by assumption) (.tail _ (.tail _ (.tail _ (.head _))))) (by rw [List.size_toArray, List.length_map]) (by omega) ?_
  ktr_unf
  rename Fr g1 _ _ _ => F4
  rename Heap => hX
  rename News g1 _ _ _ => N4
  have F5 := Fr.weak F4 F'.above up1
  obtain ⟨nt', N4⟩ : ∃ nt', News g1 L' _ ((i.I, infoObj { i with np := i.np + ps.length, nt := nt' }) :: _) := ⟨_, N4⟩
  have At0 := At.append (l := [(tp, tupOf (ps.map sv)), (x, instObj 226 dx), (dx, sDict w k1 k2 k3 k4 nd .none po nf t1 t2 n), (nd, od)]) (fun q hq => (N4 q (.tail _ (.tail _ (.tail _ hq)))).1)
    (At.set (f := fun j => { j with np := j.np + ps.length, nt := nt' }) Wf hi (fun q hq => (N' q (.tail _ (.tail _ (.tail _ (.tail _ hq))))).1) (fun q hq hn => F4.keep _ _ (hg1 _ _ (N' q (.tail _ (.tail _ (.tail _ (.tail _ hq))))).1 (Nat.lt_trans (hlt2 q (.tail _ (.tail _ (.tail _ hq)))) hlt)
        (nmem_cons (hn _ (.head _)) (nmem_cons (hn _ (.tail _ (.head _))) (nmem_cons (hn _ (.tail _ (.tail _ (.head _)))) (nmem_cons (Nat.ne_of_lt (hlt2 q (.tail _ (.tail _ (.tail _ hq))))) (have o := hoff _ (keys_ledI.mp (List.mem_map_of_mem hq)); nmem_cons o.1 (nmem_cons o.2.1 (nmem_cons o.2.2 nmem_nil)))))))))
      (forall_cons (N4 _ (.head _)).1 (forall_cons (N4 _ (.tail _ (.head _))).1 (forall_cons (N4 _ (.tail _ (.tail _ (.head _)))).1 (fun _ h => nomatch h)))))
  have hp0 : plI (setI i.key (fun j => { j with np := j.np + ps.length, nt := nt' }) is) = plI is := plI_set fun _ => ⟨rfl, rfl, rfl, rfl⟩
  have hlt3 : ∀ js, plI js = plI is → ∀ q ∈ [(tp, tupOf (ps.map sv)), (x, instObj 226 dx), (dx, sDict w k1 k2 k3 k4 nd .none po nf t1 t2 n), (nd, od)] ++ ledI js, q.1 < L' ∧ g.get? q.1 = none ∧ ∃ o, hX.get? q.1 = some o := by
    intro js hpl q hq
    have aux : ∀ q ∈ (tp, tupOf (ps.map sv)) :: ([(x, instObj 226 dx), (dx, sDict w k1 k2 k3 k4 nd .none po nf t1 t2 n), (nd, od)] ++ ledI is), q.1 < L' ∧ g.get? q.1 = none :=
      fun q hq => ⟨(forall_cons (P := fun q : Addr × Obj => q.1 < L') hlt fun p hp => Nat.lt_trans (hlt2 p hp) hlt) q hq, (N' q hq).2.2⟩
    rcases List.mem_append.mp hq with h | h
    · exact ⟨(aux q (List.mem_append_left (ledI is) h)).1, (aux q (List.mem_append_left (ledI is) h)).2, _, At0 q (List.mem_append_left _ h)⟩
    · obtain ⟨q', h', e⟩ := led_same hpl h
      obtain ⟨q2, h2, e2⟩ := led_same (hpl.trans hp0.symm) h
      exact ⟨e ▸ (aux q' (.tail _ (List.mem_append_right _ h'))).1, e ▸ (aux q' (.tail _ (List.mem_append_right _ h'))).2, _, e2 ▸ At0 q2 (List.mem_append_right _ h2)⟩
  refine For_h g rfl rfl ?_
  k_steps
  refine loop_tup (At0 (tp, _) (.head _)) rfl (Nat.ne_of_lt hlt) F5 (fun I k h m => ∃ js, plI js = plI is ∧ absI js = ((ps.take k).map (·.1)).foldl (fun ns p => setN p (fun n => { n with succ := n.succ ++ [i.key] }) ns) (setN i.key (fun n => { n with np := n.np + ps.length }) (absI is)) ∧
    At h ([(tp, tupOf (ps.map sv)), (x, instObj 226 dx), (dx, sDict w k1 k2 k3 k4 nd .none po nf t1 t2 n), (nd, od)] ++ ledI js) ∧ m "self" = some (.ref x) ∧ m "node" = some (.str i.key ntk) ∧ (∀ j ∈ js, j.succ.length ≤ 1000 + k)) ?_ ?_ ?_ ?_
  · intro I hI
    refine ⟨_, hp0, by rw [absI_set (f' := fun n => { n with np := n.np + ps.length }) fun _ => rfl]; rfl, At0, rfl, rfl, fun j hj => ?_⟩
    obtain ⟨j', h', rfl⟩ := mem_setI.mp hj
    have := hb j' h'
    split <;> exact this
  · intro I k h h' m hI ⟨js, hpl, hab, hAt, hm1, hm2, hbk⟩ kp
    refine ⟨js, hpl, hab, hAt.keep kp fun q hq => ?_, hm1, hm2, hbk⟩
    obtain ⟨l1, -, o, l3⟩ := hlt3 js hpl q hq
    exact nm2 (Nat.ne_of_lt l1) (neNone hI l3).symm
  · intro I k v h tk m₁ oI hI hv ⟨js, hpl, hab, hAt, hm1, hm2, hbk⟩ F₁ hoI hIL
    have F₂ := Fr.pin (Fr.pin F₁ (y₀ := "self") hm1) (y₀ := "node") hm2
    rw [List.getElem?_map] at hv
    obtain ⟨p, hp, hvp⟩ := Option.map_eq_some_iff.mp hv
    obtain rfl : Value.str p.1 p.2 = v := hvp
    obtain ⟨j0, hj0, ej0⟩ := hin p (List.mem_of_getElem? hp)
    obtain ⟨j, hj, ej⟩ := mem_pl hpl hj0
    have ejk : j.key = p.1 := (congrArg (·.1) ej).trans ej0
    have W2 := Wf.same hpl
    have off : ∀ q ∈ [(tp, tupOf (ps.map sv)), (x, instObj 226 dx), (dx, sDict w k1 k2 k3 k4 nd .none po nf t1 t2 n), (nd, od)] ++ ledI js, q.1 ≠ L' ∧ g.get? q.1 = none := fun q hq => ⟨Nat.ne_of_lt (hlt3 js hpl q hq).1, (hlt3 js hpl q hq).2.1⟩
    have Nf : News g L' h _ := hAt.news off
    have N2 : News g L' h [(I, oI), (j.S, W.listOf (j.succ.map sv).toArray j.sn), (j.I, infoObj j), (j.D, emptyDict), (x, instObj 226 dx), (dx, sDict w k1 k2 k3 k4 nd .none po nf t1 t2 n), (nd, od)] :=
      nCons ⟨hoI, hIL⟩ (nCons (Nf _ (List.mem_append_right _ (mem_ledI hj (.tail _ (.tail _ (.head _)))))) (nCons (Nf _ (List.mem_append_right _ (mem_ledI hj (.head _)))) (nCons (Nf _ (List.mem_append_right _ (mem_ledI hj (.tail _ (.head _))))) (nCons (Nf _ (.tail _ (.head _))) (nCons (Nf _ (.tail _ (.tail _ (.head _)))) (nCons (Nf _ (.tail _ (.tail _ (.tail _ (.head _))))) nNil))))))
    obtain ⟨g2, F3, N3, up3, hg3⟩ := reground F₂ N2
    have X3 := X'.keeps up3
    have T3 := T'.keeps up3
    clear F₁ F₂ N2
    ktr_unf
    refine wpAny_call (getinfo (kvs := kvI is) X3 T3 (Fr.keep (by assumption)) (newsLed (by assumption) (fun q hq => .tail _ (.tail _ (.tail _ (.tail _ hq))))) (by show dp + 1 < _; omega) hod lo (I := j.I) (by rw [← kvI_of hpl, ← ejk]; exact valueAt_info W2 hj) ?_)
    intro h3 tk3 kp3
    rename Fr g2 _ _ _ => F6
    rename News g2 _ _ _ => N6
    have F7 := frKept' F6 kp3 (fun _ h => nomatch h)
    have N7 := nKeep N6 kp3
    clear F6 N6
    dsimp only
    have e0 := (hlt3 js hpl (j.S, W.listOf (j.succ.map sv).toArray j.sn) (List.mem_append_right _ (mem_ledI hj (.tail _ (.tail _ (.head _)))))).2.2
    obtain ⟨oS, e0⟩ := e0
    have e1 := neNone hI e0
    obtain ⟨e2, e3, e4⟩ := hoff j.S (adI_of hpl ▸ mem_adI hj (.tail _ (.tail _ (.head _))))
    have e5 := (W2.inn j hj).2.1
    have e6 := (W2.inn j hj).2.2
    ktr_unf
    have ek : k < ps.length := by obtain ⟨q, _⟩ := List.getElem?_eq_some_iff.mp hp; exact q
    rename Fr g2 _ _ _ => F8
    rename News g2 _ _ _ => N8
    refine append_M F8 N8 (Upd.tail e1 (Upd.head (forall_cons e5 (forall_cons e6 (forall_cons e2.symm (forall_cons e3.symm (forall_cons e4.symm (fun _ h => nomatch h)))))))) (by rw [List.length_map]; have := hbk j hj; omega) ?_
    intro h9 F9 N9
    clear F8 N8
    ktr_unf
    rename Fr g2 _ _ _ => F10
    have cons9 : ∀ q ∈ ledI js, (∀ b ∈ j.ad, @Ne Nat q.1 b) → h9.get? q.1 = some q.2 := by
      intro q hq n1
      obtain ⟨l1, -, o, l3⟩ := hlt3 js hpl q (List.mem_append_right _ hq)
      obtain ⟨n2, n3, n4⟩ := hoff q.1 (adI_of hpl ▸ keys_ledI.mp (List.mem_map_of_mem hq))
      exact F10.keep _ _ (hg3 _ _ (hAt q (List.mem_append_right _ hq)) l1 (nmem_cons (neNone hI l3).symm (nmem_cons (n1 _ (.tail _ (.tail _ (.head _)))) (nmem_cons (n1 _ (.head _)) (nmem_cons (n1 _ (.tail _ (.head _))) (nmem_cons n2 (nmem_cons n3 (nmem_cons n4 nmem_nil))))))))
    have tp9 : h9.get? tp = some (tupOf (ps.map sv)) := by
      obtain ⟨l1, -, o, l3⟩ := hlt3 js hpl _ (.head _)
      have ltp : ∀ q ∈ ledI js, @Ne Nat tp q.1 := fun q hq => by obtain ⟨q', h', e⟩ := led_same hpl hq; rw [← e]; exact (Nat.ne_of_lt (hlt2 q' (.tail _ (.tail _ (.tail _ h'))))).symm
      have ltx : ∀ q ∈ [(x, instObj 226 dx), (dx, sDict w k1 k2 k3 k4 nd .none po nf t1 t2 n), (nd, od)], @Ne Nat tp q.1 := fun q hq => (Nat.ne_of_lt (hlt2 q (List.mem_append_left (ledI is) hq))).symm
      exact F10.keep _ _ (hg3 _ _ (hAt (tp, _) (.head _)) hlt (nmem_cons (neNone hI l3).symm (nmem_cons (ltp _ (mem_ledI hj (.tail _ (.tail _ (.head _))))) (nmem_cons (ltp _ (mem_ledI hj (.head _))) (nmem_cons (ltp _ (mem_ledI hj (.tail _ (.head _)))) (nmem_cons (ltx _ (.head _)) (nmem_cons (ltx _ (.tail _ (.head _))) (nmem_cons (ltx _ (.tail _ (.tail _ (.head _)))) nmem_nil))))))))
    have pl9 := (plI_set (k := j.key) (f := fun j => { j with succ := j.succ ++ [(i.key, ntk)], sn := j.sn + 1 }) (is := js) fun _ => ⟨rfl, rfl, rfl, rfl⟩).trans hpl
    refine ⟨h9, _, _, rfl, forall_cons (fun o e => ?_) (forall_cons (fun o e => ?_) (fun _ h => nomatch h)), Fr.weak F10 F'.above up3, setI j.key (fun j => { j with succ := j.succ ++ [(i.key, ntk)], sn := j.sn + 1 }) js, pl9, ?_, At.append (l := [(tp, tupOf (ps.map sv)), (x, instObj 226 dx), (dx, sDict w k1 k2 k3 k4 nd .none po nf t1 t2 n), (nd, od)]) ?_ (At.set (h := h) W2 hj (fun q hq => hAt q (List.mem_append_right _ hq)) cons9 ?_), rfl, rfl, ?_⟩
    · rw [hoI] at e; rw [← e]; exact (N9 _ (.head _)).1
    · rw [hAt (tp, _) (.head _)] at e; rw [← e]; exact tp9
    · rw [absI_set (f' := fun n => { n with succ := n.succ ++ [i.key] }) (fun i => by unfold Info.abs; simp), hab, List.take_succ, hp, List.map_append, List.foldl_append, ejk]; rfl
    · exact At.cons tp9 fun q hq => (N9 q (.tail _ (.tail _ (.tail _ (.tail _ hq))))).1
    · refine forall_cons (N9 _ (.tail _ (.tail _ (.head _)))).1 (forall_cons (N9 _ (.tail _ (.tail _ (.tail _ (.head _))))).1 (forall_cons ?_ (fun _ h => nomatch h)))
      show h9.get? j.S = some (W.listOf ((j.succ ++ [(i.key, ntk)]).map sv).toArray (j.sn + 1))
      rw [List.map_append]; exact (N9 _ (.tail _ (.head _))).1
    · intro j' hj'
      obtain ⟨j'', h'', rfl⟩ := mem_setI.mp hj'
      have := hbk j'' h''
      split
      · show (j''.succ ++ [_]).length ≤ _; rw [List.length_append, List.length_singleton]; omega
      · omega
  · intro I h tk m₁ hI ⟨js, hpl, hab, hAt, hm1, hm2, hbk⟩ F₁
    dsimp only
    ktr_unf
    refine hret _ _ js hpl ?_ (keep_of N hg F₁ (hAt.news fun q hq => ⟨Nat.ne_of_lt (hlt3 js hpl q hq).1, (hlt3 js hpl q hq).2.1⟩) fun q hq => ?_) hAt.right fun j hj => ?_
    · rw [hab, List.length_map, List.take_length]; unfold addP; rw [List.length_map]
    · rcases List.mem_append.mp hq with hq | hq
      · exact .inr (.tail _ (List.mem_append_left _ hq))
      · exact .inl (keys_ledI.mp (List.mem_map_of_mem hq))
    · have := hbk j hj; rw [List.length_map] at this; exact this
end
end Mine
end

section
open PySem PySem.W PyProof.Rows PySem.Calls 
namespace Mine
section
variable {prog : Program} {w : World} {p : Program} {loose : List Str} {mean : ExcName → Option Value} {mg mb : Str → Option Value} {s : Shared} 
  {dp un : Nat} {R : Result → Shared → Prop}
theorem kind_str {a p : Str} {t t' : Nat}
    (X : (hz.heap_251 w.params).In s.heap) (T : Top p₀ loose mean mg mb s.heap) (hd : dp < recursionLimit)
    (hret : ∀ h' tk' t', Keep [] s.heap h' → R (.ok (.ret (.str "" t'))) { s with heap := h', toks := tk' }) :
    codeAny (model prog w) (Aw dp un) (.call (.ref 89) ⟨[.str a t, .str p t'], []⟩) R s := by
  refine enterW X T hd (ko89 _) (by k_is) (binds := [("name", .str a t), ("x", .str p t')]) (BindsTo.of_eq rfl) (locs rfl) ?_ (by decide) rfl rfl rfl
  intro L' h₁ tk hL F'
  have N' := nNil (h₀ := s.heap) (L := L') (h := h₁)
  conv in execs _ _ => arg 1; whnf
  k_steps
  rename Fr s.heap L' _ _ => F1
  exact hret _ _ _ (fun b o _ e => F1.keep b o e)
theorem fspath_str {a p : Str} {t t' : Nat}
    (X : (hz.heap_251 w.params).In s.heap) (T : Top p₀ loose mean mg mb s.heap) (hd : dp + 5 < recursionLimit)
    (hret : ∀ h' tk', Keep [] s.heap h' → R (.ok (.ret (.str p t'))) { s with heap := h', toks := tk' }) :
    codeAny (model prog w) (Aw dp un) (.call (.ref 96) ⟨[.str a t, .str p t'], []⟩) R s := by
  refine enterW X T (by omega) (ko96 _) (by k_is) (binds := [("name", .str a t), ("x", .str p t')]) (BindsTo.of_eq rfl) (locs rfl) ?_ (by decide) rfl rfl rfl
  intro L' h₁ tk hL F'
  have N' := nNil (h₀ := s.heap) (L := L') (h := h₁)
  conv in execs _ _ => arg 1; whnf
  k_steps
  rename Fr s.heap L' _ _ => F1
  refine wpAny_call (kind_str (X.keeps F1.keep) (T.keeps F1.keep) (by omega) ?_)
  intro h2 tk2 t2 k2
  have F2 := frKept' F1 k2 (fun _ h => nomatch h)
  clear F1 N'
  have N2 := nNil (h₀ := s.heap) (L := L') (h := h2)
  dsimp only
  k_steps
  rename Fr s.heap L' _ _ => F1
  exact hret _ _ (fun b o _ e => F1.keep b o e)
noncomputable def hd1 (p : Str) : Str := Txt.slice p none (some (Txt.rfind p (Str.ofString "/") + 1))
noncomputable def split1 (p : Str) : Str := if ((hd1 p).length : Int) = 0 then hd1 p else if (hd1 p != Txt.mul (Str.ofString "/") (hd1 p).length) = true then Txt.rstripChars (hd1 p) (Str.ofString "/") else hd1 p
theorem split_str {p : Str} {t' : Nat} (hl : p.length ≤ 1000)
    (X : (hz.heap_251 w.params).In s.heap) (T : Top p₀ loose mean mg mb s.heap) (hd : dp + 10 < recursionLimit)
    (hret : ∀ h' tk' a hd tl t1 t2, hd = split1 p → Keep [] s.heap h' → s.heap.get? a = none → h'.get? a = some ⟨.type "tuple", none, .seq #[.str hd t1, .str tl t2], #[]⟩ → R (.ok (.ret (.ref a))) { s with heap := h', toks := tk' }) :
    codeAny (model prog w) (Aw dp un) (.call (.ref 103) ⟨[.str p t'], []⟩) R s := by
  refine enterW X T (by omega) (ko103 _) (by k_is) (binds := [("p", .str p t')]) (BindsTo.of_eq rfl) (locs rfl) ?_ (by decide) rfl rfl rfl
  intro L' h₁ tk hL F'
  have N' := nNil (h₀ := s.heap) (L := L') (h := h₁)
  conv in execs _ _ => arg 1; whnf
  k_steps
  rename Fr s.heap L' _ _ => F1
  refine wpAny_call (fspath_str (X.keeps F1.keep) (T.keeps F1.keep) (by show dp + 1 + 5 < _; omega) ?_)
  intro h2 tk2 k2
  have F2 := frKept' F1 k2 (fun _ h => nomatch h)
  clear F1 N'
  have N2 := nNil (h₀ := s.heap) (L := L') (h := h2)
  dsimp only
  k_steps
  all_goals
    rename News s.heap L' _ _ => NN
    rename Fr s.heap L' _ _ => F1
    refine hret _ _ _ _ _ _ _ ?_ (fun b o _ e => F1.keep b o e) (NN _ (.head _)).2.2 (NN _ (.head _)).1
    unfold split1 hd1
  · rw [if_neg (by assumption), if_pos (by assumption)]
  · rw [if_neg (by assumption), if_neg (by rw [Bool.not_eq_true]; assumption)]
  · rw [if_pos (by assumption)]
end
end Mine
end

section
open PySem PySem.W PyProof.Rows PySem.Calls 
namespace Mine
local macro_rules | `(tactic| k_ne) => `(tactic| (refine neN ?_; (try dsimp only); first | assumption | (refine Ne.symm ?_; assumption)))
section
variable {prog : Program} {w : World} {p₀ : Program} {loose : List Str} {mean : ExcName → Option Value} {mg mb : Str → Option Value} {s : Shared} 
  {dp un : Nat} {R : Result → Shared → Prop}
theorem isint_one {t : Nat} (X : (hz.heap_251 w.params).In s.heap) (T : Top p₀ loose mean mg mb s.heap) (hd : dp < recursionLimit)
    (hret : ∀ h' tk', Keep [] s.heap h' → R (.ok (.ret (.bool true))) { s with heap := h', toks := tk' }) :
    codeAny (model prog w) (Aw dp un) (.call (.ref 28) ⟨[.int 1 t], []⟩) R s := by
  refine enterW X T hd (ko28 _) (by k_is) (binds := [("x", .int 1 t)]) (BindsTo.of_eq rfl) (locs rfl) ?_ (by decide) rfl rfl rfl
  intro L' h₁ tk hL F'
  have N' := nNil (h₀ := s.heap) (L := L') (h := h₁)
  conv in execs _ _ => arg 1; whnf
  k_steps
  rename Fr s.heap L' _ _ => F1
  exact hret _ _ (fun b o _ e => F1.keep b o e)
theorem whole_one {t t2 t3 : Nat} {x : Str} (X : (hz.heap_251 w.params).In s.heap) (T : Top p₀ loose mean mg mb s.heap) (hd : dp + 5 < recursionLimit)
    (hret : ∀ h' tk', Keep [] s.heap h' → R (.ok (.ret .none)) { s with heap := h', toks := tk' }) :
    codeAny (model prog w) (Aw dp un) (.call (.ref 35) ⟨[.int 1 t, .int 999999 t2, .str x t3], []⟩) R s := by
  refine enterW X T (by omega) (ko35 _) (by k_is) (binds := [("x", .int 1 t), ("top", .int 999999 t2), ("what", .str x t3)]) (BindsTo.of_eq rfl) (locs rfl) ?_ (by decide) rfl rfl rfl
  intro L' h₁ tk hL F'
  have N' := nNil (h₀ := s.heap) (L := L') (h := h₁)
  conv in execs _ _ => arg 1; whnf
  k_steps
  rename Fr s.heap L' _ _ => F1
  refine wpAny_call (isint_one (X.keeps F1.keep) (T.keeps F1.keep) (by omega) ?_)
  intro h2 tk2 k2
  have F2 := frKept' F1 k2 (fun _ h => nomatch h)
  clear F1 N'
  have N2 := nNil (h₀ := s.heap) (L := L') (h := h2)
  dsimp only
  k_steps
  rename Fr s.heap L' _ _ => F1
  exact hret _ _ (fun b o _ e => F1.keep b o e)
end
end Mine
end

section
open PySem PySem.W PyProof.Rows PySem.Calls 
local macro_rules | `(tactic| ktr_unf) => `(tactic| repeat' ((fail_if_success (with_reducible show wpAny _ _ (exec (Stmt.For _ _ _ _ _) _) _ _ _)); (fail_if_success (with_reducible show wpAny _ _ (exec (Stmt.While _ _ _ _) _) _ _ _)); (fail_if_success (with_reducible show wpAny _ _ (exec (Stmt.Try _ _ _ _ _) _) _ _ _)); first | (k_unfold; (try dsimp only)) | (k_end; wrow_close) | walk1 | (dsimp only; walk1) | (leave1; (try dsimp only)) | fail "no step"))
namespace Mine
local macro_rules | `(tactic| k_ne) => `(tactic| (refine neN ?_; (try dsimp only); first | assumption | (refine Ne.symm ?_; assumption)))
theorem bindIsl (a b : Value) (vs : List Value) (cd : Value) (pm : Value) : bindArgs (fnOf "__init__" "islice.__init__" (fnP st50) (fnB st50) (fnS st50) .none .none .none pm none cd .none) ⟨a :: b :: vs, []⟩ = (newTuple vs >>= fun t => pure [(("self" : Str), a), (("iterable" : Str), b), (("args" : Str), t)]) := by
  unfold bindArgs
  have e : (fnP st50).vararg.isNone = false := rfl
  simp only [e, Bool.and_false]
  rfl
noncomputable abbrev gO (gi : Nat) (nm qn : Value) : Obj := { cls := .type "generator", data := .fields #[.int gi 0, nm, qn] }
noncomputable abbrev islObj (di : Addr) (c it n st sp : Value) : Obj := ⟨.ref 68, some di, .plain, #[some c, some it, some n, some st, some sp]⟩
section
variable {prog : Program} {w : World} {p : Program} {loose : List Str} {mean : ExcName → Option Value} {mg mb : Str → Option Value} {h₀ : Heap} {s : Shared} 
  {dp un : Nat} {R : Result → Shared → Prop}
theorem iter_any {A : Around} {x : Addr} {Q : Value → Shared → Prop} {E : Value → Shared → Prop} (h : wpAny (model prog w) A.in1 (pyIter (.ref x)) Q E s) : wpAny (model prog w) A (call (.builtin "iter") [.ref x]) Q E s := by
  refine call_function_entry (by decide +kernel) (by decide +kernel) kdk_entry_iter (kdk_args_iter _) ?_
  unfold Builtin.«iter»
  refine wpAny_bind (m := someArgs "iter" 1 2 _) (wpAny_of_eq (a := [Value.ref x]) (by first | rfl | kernel_rfl!) ?_)
  show wpAny _ _ (pyIter (.ref x) >>= _) _ _ _
  exact wpAny_bind (wpAny_mono h (fun v s' hq => wpAny_pure ⟨_, rfl, hq⟩) fun _ _ e => e)
theorem islinit {i di G : Addr} {gi : Nat} {nm qn : Value} {t1 : Nat} (X : (hz.heap_251 w.params).In h₀) (T : Top p loose mean mg mb h₀) (K : h₀.StaysIn s.heap) (N : Led h₀ s.heap [(i, instObj 68 di), (di, emptyDict), (G, gO gi nm qn)]) (hd : dp + 20 < recursionLimit)
    (e1 : @Ne Nat i di) (e2 : @Ne Nat i G)
    (hret : ∀ h' tk' a b c d, Keep [i] s.heap h' → h'.get? i = some (islObj di (.int 0 a) (.ref G) (.int 1 b) (.int 1 c) (.int (-1) d)) → R (.ok (.ret .none)) { s with heap := h', toks := tk' }) :
    codeAny (model prog w) (Aw dp un) (.call (.ref 50) ⟨[.ref i, .ref G, .int 1 t1, .none], []⟩) R s := by
  refine enterV (vs := [.int 1 t1, .none]) X T K N (by omega) (ko50 _) (by k_is) (bindIsl _ _ _ (.ref 49) _) (by show 2 ≤ sizeLine; decide) (fun t => locs rfl) ?_ (by decide) rfl rfl rfl
  intro tp g L' h₁ tk htp hL F' N' X' T' hlt hlt2 hg
  have hlt2' := hlt2
  k_lt hlt2
  conv in execs _ _ => arg 1; whnf
  ktr_unf
  rename Fr g _ _ _ => F1
  rename News g _ _ _ => N1
  have lt0 : ∀ q ∈ [(tp, tupOf [.int 1 t1, .none]), (i, instObj 68 di), (di, emptyDict), (G, gO gi nm qn)], q.1 < L' := forall_cons hlt fun q hq => Nat.lt_trans (hlt2' q hq) hlt
  refine For_h g rfl rfl ?_
  k_steps
  refine loop_tup (N1 (tp, _) (.head _)).1 rfl (Nat.ne_of_lt hlt) F1 (fun _ _ h m => At h [(tp, tupOf [.int 1 t1, .none]), (i, instObj 68 di), (di, emptyDict), (G, gO gi nm qn)] ∧ m "self" = some (.ref i) ∧ m "iterable" = some (.ref G) ∧ m "args" = some (.ref tp)) ?_ ?_ ?_ ?_
  · exact fun I hI => ⟨News.at N1, rfl, rfl, rfl⟩
  · exact fun I k h h' m hI ⟨hAt, hm⟩ kp => ⟨hAt.keep kp fun q hq => nm2 (Nat.ne_of_lt (lt0 q hq)) (neNone hI (N1 q hq).1).symm, hm⟩
  · intro I k v h tk m₁ oI hI hv ⟨hAt, hm1, hm2, hm3⟩ F₁ hoI hIL
    have N2 : News g L' h [(I, oI), (tp, tupOf [.int 1 t1, .none]), (i, instObj 68 di), (di, emptyDict), (G, gO gi nm qn)] := nCons ⟨hoI, hIL⟩ fun q hq => ⟨hAt q hq, (N1 q hq).2⟩
    have F₂ := Fr.pin (Fr.pin (Fr.pin F₁ (y₀ := "self") hm1) (y₀ := "iterable") hm2) (y₀ := "args") hm3
    clear F₁
    match k, hv with
    | 0, hv =>
      obtain rfl : Value.int 1 t1 = v := Option.some.inj hv
      ktr_unf
      refine wpAny_call (whole_one (X'.keeps F₂.keep) (T'.keeps F₂.keep) (by omega) ?_)
      intro h2 tk2 k2
      dsimp only
      have F₃ := frKept' F₂ k2 (fun _ h => nomatch h)
      have N3 := nKeep N2 k2
      clear F₂
      ktr_unf
      exact ⟨h2, _, _, rfl, fun b _ o e => k2 _ _ nm0 e, F₃, hAt.keep k2 (fun _ _ => nm0), rfl, rfl, rfl⟩
    | 1, hv =>
      obtain rfl : Value.none = v := Option.some.inj hv
      ktr_unf
      exact ⟨h, _, _, rfl, fun b _ o e => e, F₂, hAt, rfl, rfl, rfl⟩
    | k + 2, hv => exact nomatch hv
  · intro I h tk m₁ hI ⟨hAt, hm1, hm2, hm3⟩ F₁
    have N2 : News g L' h [(tp, tupOf [.int 1 t1, .none]), (i, instObj 68 di), (di, emptyDict), (G, gO gi nm qn)] := fun q hq => ⟨hAt q hq, (N1 q hq).2⟩
    have F₂ := Fr.pin (Fr.pin (Fr.pin F₁ (y₀ := "self") hm1) (y₀ := "iterable") hm2) (y₀ := "args") hm3
    clear F₁ N1 F1
    dsimp only
    ktr_unf
    rename Fr g _ _ _ => F3
    rename News g _ _ _ => N3
    refine iter_any (wpAny_pyIter_gen (g := gi) ⟨_, nm, qn, (N3 (G, gO gi nm qn) (by k_mem)).1, rfl, rfl, rfl⟩ ?_)
    have q1 := neN (Nat.ne_of_lt (hlt2' (i, instObj 68 di) (.head _)))
    ktr_unf
    rename Fr g _ _ _ => F9
    rename News g _ _ _ => N9
    exact hret _ _ _ _ _ _ (keep_of N hg F9 N9 (forall_cons (.inl (.head _)) (forall_cons (.inr (.tail _ (.tail _ (.head _)))) (forall_cons (.inr (.tail _ (.tail _ (.tail _ (.head _))))) (fun _ h => nomatch h))))) (N9 _ (.tail _ (.head _))).1
end
end Mine
end

section
open PySem PySem.W PyProof.Rows PySem.Calls 
namespace Mine
noncomputable def whT : Stmt → Expr | .While t _ _ _ => t | _ => default
noncomputable def whB : Stmt → List Stmt | .While _ b _ _ => b | _ => []
noncomputable def stA : Stmt := stN (fnB st110) 0
noncomputable def stW : Stmt := stN (fnB st110) 1
noncomputable def stS : Stmt := stN (whB stW) 1
noncomputable def yP : Stmt → Pos | .Expr (.Yield _ p) _ => p | .While _ _ _ p => p | _ => default
noncomputable def yQ : Stmt → Pos | .Expr _ p => p | _ => default
noncomputable def yE : Stmt → Expr | .Expr (.Yield (some e) _) _ => e | _ => default
theorem gbody : fnB st110 = [stA, .While (whT stW) (whB stW) [] (yP stW)] := rfl
theorem wbody : whB stW = [.Expr (.Yield (some (yE (stN (whB stW) 0))) (yP (stN (whB stW) 0))) (yQ (stN (whB stW) 0)), stS] := rfl
noncomputable abbrev gEnv (Lg : Addr) : Env := envOf "_ancestry" (fnS st110) Lg 110 (.ref 109)
/-- the chain that the generator gives from a path -/
inductive Chain : Str → List Str → Prop
  | stop {p : Str} : p.length ≤ 1000 → (Txt.rstripChars p (Str.ofString "/")).length = 0 → Chain p []
  | step {p : Str} {as : List Str} : p.length ≤ 1000 → (Txt.rstripChars p (Str.ofString "/")).length ≠ 0 → Chain (split1 p) as → Chain p (p :: as)
noncomputable abbrev Kept (Lg : Addr) (s s' : Shared) : Prop := ∃ h tk, s' = { s with heap := h, toks := tk } ∧ Keep [Lg] s.heap h
noncomputable abbrev gR (Lg : Addr) : GenEnd := fun n s₀ r s₁ => n = 0 ∧ r = .ok (.ret .none) ∧ Kept Lg s₀ s₁
noncomputable abbrev gY (b₀ : Heap) (Lg : Addr) (full : List Str) : Protocol := fun n s₀ v s₁ kap => ∃ p as t, v = .str p t ∧ (p :: as) <:+ full ∧ as.length = n ∧ Kept Lg s₀ s₁ ∧ (∃ o, s₁.heap.get? Lg = some o) ∧
  ∀ s'' : Shared, b₀.StaysIn s''.heap → (∀ o, s₁.heap.get? Lg = some o → s''.heap.get? Lg = some o) → kap (.send .none) s''
theorem Kept.to {Lg : Addr} {s₀ s : Shared} {h : Heap} {tk : Nat} (k : Kept Lg s₀ s) (kp : Keep [Lg] s.heap h) : Kept Lg s₀ { s with heap := h, toks := tk } := by
  obtain ⟨h', tk', rfl, k'⟩ := k
  exact ⟨h, tk, rfl, k'.trans kp⟩
section
variable {prog : Program} {w : World} {p₀ : Program} {loose : List Str} {mean : ExcName → Option Value} {mg mb : Str → Option Value} {b₀ : Heap} {Lg : Addr} {dp un : Nat}
theorem anc_loop (X : (hz.heap_251 w.params).In b₀) (T : Top p₀ loose mean mg mb b₀) (hb : b₀.objs.size ≤ Lg) (hd : dp + 40 < recursionLimit) (full : List Str) {k : Result → Sem Fin} {p' : Pos}
    (hk : ∀ s₀ s, Kept Lg s₀ s → Seg (model prog w) (Aw dp un) (gR Lg) (gY b₀ Lg full) 0 s₀ (.func (fnB st110) (gEnv Lg)) (k (.ok .next)) [] s) :
    ∀ (as : List Str) (p : Str) (t : Nat) (s₀ s : Shared) (m : Str → Option Value), Chain p as → as <:+ full → b₀.StaysIn s.heap → s.heap.Ns Lg m → m "path" = some (.str p t) → Kept Lg s₀ s →
      Seg (model prog w) (Aw dp un) (gR Lg) (gY b₀ Lg full) as.length s₀ (.whileLoop (whT stW) (whB stW) [] (gEnv Lg)) ((model prog w).den (.whileLoop (whT stW) (whB stW) [] (gEnv Lg)))
        [.ret k none false [] (.func (fnB st110) (gEnv Lg)) p' []] s := by
  intro as
  induction as with
  | nil =>
    intro p t s₀ s m hc hs hst hn hm hkp
    cases hc with
    | stop hl hz =>
    refine seg_whileLoop ?_
    have F : Fr b₀ Lg s.heap m := ⟨hn, hst, hb⟩
    have N := nNil (h₀ := b₀) (L := Lg) (h := s.heap)
    have F1 := Fr.pin F (y₀ := "path") hm
    clear F
    show wpAny (model prog w) (Aw (dp + 1) (un + 3)) _ _ _ _
    conv in isTrue _ _ _ => arg 1; whnf
    conv in eval _ _ => arg 1; whnf
    k_steps
    · exact absurd hz (by omega)
    · exact seg_execs_nil (seg_leaf (.ok .next) (hk _ _ (hkp.to (fun _ _ _ e => e))))
  | cons a as ih =>
    intro p t s₀ s m hc hs hst hn hm hkp
    cases hc with
    | step hl hz hc =>
    refine seg_whileLoop ?_
    have F : Fr b₀ Lg s.heap m := ⟨hn, hst, hb⟩
    have N := nNil (h₀ := b₀) (L := Lg) (h := s.heap)
    have F1 := Fr.pin F (y₀ := "path") hm
    clear F
    show wpAny (model prog w) (Aw (dp + 1) (un + 3)) _ _ _ _
    conv in isTrue _ _ _ => arg 1; whnf
    conv in eval _ _ => arg 1; whnf
    k_steps
    rotate_left 1
    · exact absurd hz (by omega)
    rw [wbody]
    refine seg_execs_cons (seg_Expr_Yield rfl rfl rfl ?_)
    show wpAny (model prog w) (Aw (dp + 1) (un + 3)) _ _ _ _
    conv in eval _ _ => arg 1; whnf
    refine ld F1 rfl ?_
    intro kap hkap
    obtain ⟨oL, es, ep, hL, hLd, hLk, hLf⟩ := hn
    refine ⟨a, as, _, rfl, hs, rfl, hkp.to (fun _ _ _ e => e), ⟨_, hL⟩, fun s2 hb2 hL2 => hkap .none s2 ?_⟩
    refine seg_execs_cons (seg_wrap ?_)
    show wpAny (model prog w) (Aw (dp + 1) (un + 3)) _ _ _ _
    clear F1 N
    have F : Fr b₀ Lg s2.heap m := ⟨⟨oL, es, ep, hL2 _ hL, hLd, hLk, hLf⟩, hb2, hb⟩
    obtain ⟨rest, N, hrest⟩ := allNews b₀ s2.heap Lg
    have F1 := Fr.pin F (y₀ := "path") hm
    clear F
    conv in exec _ _ => arg 1; whnf
    k_steps
    refine wpAny_call (split_str hl (X.keeps F1.keep) (T.keeps F1.keep) (by omega) ?_)
    intro h3 tk3 a3 hd3 tl3 t3 t4 ehd kp3 fr3 ga3
    have F3 := frKept' F1 kp3 (fun _ h => nomatch h)
    have N3 := nCons (nNew F1 fr3 ga3) (nKeep N kp3)
    clear F1 N
    dsimp only
    k_steps
    rename Fr b₀ Lg _ _ => F9
    rename News b₀ Lg _ _ => N9
    subst ehd
    refine seg_execs_nil (seg_again rfl ?_)
    rw [← wbody]
    exact ih (split1 a) t3 s2 _ _ hc ((List.suffix_cons a as).trans hs) F9.keep F9.ns rfl ⟨_, _, rfl, keepAll hrest hb2 F9 fun q hq => (N9 q (.tail _ hq)).1⟩
theorem anc_fresh (X : (hz.heap_251 w.params).In b₀) (T : Top p₀ loose mean mg mb b₀) (hb : b₀.objs.size ≤ Lg) (hd : dp + 40 < recursionLimit) {full : List Str} {p : Str} {t : Nat} {s : Shared} {m : Str → Option Value}
    (hl : p.length ≤ 1000) (hc : Chain (Txt.rstripChars p (Str.ofString "/")) full) (hst : b₀.StaysIn s.heap) (hn : s.heap.Ns Lg m) (hm : m "path" = some (.str p t)) :
    Seg (model prog w) (Aw dp un) (gR Lg) (gY b₀ Lg full) full.length s (.func (fnB st110) (gEnv Lg)) ((model prog w).den (.func (fnB st110) (gEnv Lg))) [] s := by
  refine seg_func ?_
  conv in execs _ _ => rw [gbody]
  refine seg_execs_cons (seg_wrap ?_)
  show wpAny (model prog w) (Aw (dp + 1) (un + 3)) _ _ _ _
  have F : Fr b₀ Lg s.heap m := ⟨hn, hst, hb⟩
  obtain ⟨rest, N, hrest⟩ := allNews b₀ s.heap Lg
  have F1 := Fr.pin F (y₀ := "path") hm
  clear F
  conv in exec _ _ => arg 1; whnf
  k_steps
  rename Fr b₀ Lg _ _ => F9
  rename News b₀ Lg _ _ => N9
  refine seg_execs_cons (seg_While fun p' => ?_)
  refine anc_loop X T hb hd full ?_ full _ _ s _ _ hc (List.suffix_refl _) F9.keep F9.ns rfl ⟨_, _, rfl, keepAll hrest hst F9 fun q hq => (N9 q hq).1⟩
  intro s₀ s1 k1
  exact seg_end (.ok (.ret .none)) ⟨rfl, rfl, k1⟩
end
end Mine
end

section
open PySem PySem.W PyProof.Rows PySem.Calls 
namespace Mine
theorem weak {prog : Program} {w : World} {A : Around} {α : Type} {m : Sem α} {Q : α → Shared → Prop} {E : Value → Shared → Prop} {s : Shared} {dp un : Nat} (h : wpAny (model prog w) (Aw dp un) m Q E s) (hh : A.handled = none) (hd : A.depth ≤ dp) (hu : A.units ≤ un) : wpAny (model prog w) A m Q E s :=
  fun Γ p hΓ => h Γ p ⟨hΓ.1.trans hh, Nat.le_trans hΓ.2.1 hd, fun l q => (nomatch q), fun l q => (nomatch q), Nat.le_trans hΓ.2.2.2.2 hu⟩
/-- a new exception -/
noncomputable def NewE (h h' : Heap) (e : Addr) (cls : String) : Prop :=
  (∀ b o, h.get? b = some o → h'.get? b = some o) ∧ h.get? e = none ∧ ∃ oe vs a0, h'.get? e = some oe ∧ oe.cls = .type cls ∧ oe.data = .fields vs ∧ vs[0]? = some a0 ∧ vs[1]? = some .none
noncomputable def GenOk (prog : Program) (w : World) (b₀ : Heap) (Lg : Addr) (full : List Str) (gs : GenState) (as : List Str) (oL : Obj) : Prop :=
  as <:+ full ∧ ∀ s : Shared, b₀.StaysIn s.heap → s.heap.get? Lg = some oL → gs.Goes (model prog w) (Aw 900 9000) (gR Lg) (gY b₀ Lg full) as.length (.send .none) s
section
variable {prog : Program} {w : World} {p₀ : Program} {loose : List Str} {mean : ExcName → Option Value} {mg mb : Str → Option Value} {b₀ : Heap} {Lg : Addr} {A : Around} {s : Shared}
theorem suffix_same {l a b : List Str} (x : a <:+ l) (y : b <:+ l) (h : a.length = b.length) : a = b := by
  obtain ⟨u, rfl⟩ := x
  obtain ⟨v, e⟩ := y
  exact (List.append_inj_right' e h.symm).symm
theorem gonly {a : Array GenState} {gi : Nat} {x y : GenState} (h : gi < a.size) (hy : y.bare = true) : GenOnlyQ gi a ((a.setIfInBounds gi x).setIfInBounds gi y) :=
  .of ⟨by simp, fun k hk => by simp [Array.getElem?_setIfInBounds_ne (Ne.symm hk)]⟩ (by simp [h]) hy
theorem gen_next {G : Addr} {gi : Nat} {gs : GenState} {full l : List Str} {oL : Obj} {Q : Value → Shared → Prop} {E : Value → Shared → Prop} (T : Top p₀ loose mean mg mb b₀) (hb : b₀.objs.size ≤ Lg) (hh : A.handled = none) (hd : A.depth ≤ 900) (hu : A.units ≤ 8000)
    (hG : s.heap.IsGen G gi) (hgs : s.gens[gi]? = some gs) (hL : s.heap.get? Lg = some oL) (ok : GenOk prog w b₀ Lg full gs l oL) (hst : b₀.StaysIn s.heap)
    (hcons : ∀ a as t h tk gens gs' oL', l = a :: as → gens[gi]? = some gs' → GenOnlyQ gi s.gens gens → h.get? Lg = some oL' → GenOk prog w b₀ Lg full gs' as oL' → Keep [Lg] s.heap h → Q (.str a t) { s with heap := h, toks := tk, gens := gens })
    (hnil : ∀ h h' tk gens e, l = [] → GenOnlyQ gi s.gens gens → Keep [Lg] s.heap h → NewE h h' e "StopIteration" → E (.ref e) { s with heap := h', toks := tk, gens := gens }) :
    wpAny (model prog w) A (call (.builtin "next") [.ref G]) Q E s := by
  refine call_function_entry (by decide +kernel) (by decide +kernel) kdk_entry_next (kdk_args_next _) ?_
  unfold Builtin.«next»
  refine wpAny_bind (m := someArgs "next" 1 2 _) (wpAny_of_eq (a := [Value.ref G]) (by first | rfl | kernel_rfl!) ?_)
  dsimp only
  refine wpAny_bind (wpAny_specialOf (name := Str.ofString "__next__") hG.typeIs slot_gen_next.lookup ?_)
  refine wpAny_ite_split (fun hab => absurd hab (by decide)) (fun _ => ?_)
  refine wpAny_bind ((wpAny_callSpecial?_slot (name := Str.ofString "__next__") hG.typeIs slot_gen_next
    (wpAny_call_entry slot_gen_next hG.typeIs entry_gen_next ?_ (args_gen_next _))))
  show wpAny _ A.in1.in1 (Builtin.Generator.genWake (.ref G) (.send .none)) _ _ s
  unfold Builtin.Generator.genWake
  refine wpAny_bind (wpAny_holding (wpAny_genNumber hG (wpAny_bind (wpAny_genState hgs ?_))))
  have hnl := T.nolimit.keeps hst
  have hsz : gi < s.gens.size := (Array.getElem?_eq_some_iff.mp hgs).1
  have keepb : ∀ h', Keep [Lg] s.heap h' → b₀.StaysIn h' := fun h' k b o e => k b o (fun q => by
    have := Heap.lt_size e
    rw [List.mem_singleton.mp q] at this
    exact absurd hb (Nat.not_le.mpr this)) (hst b o e)
  have hgo := ok.2 (s.setGen gi .running) hst hL
  cases gs with
  | running => exact hgo.elim
  | finished => exact hgo.elim
  | _ =>
    refine wpAny_bind (wpAny_roomToWake hnl (by show A.depth < recursionLimit; rw [show recursionLimit = 1000 from rfl]; omega) ?_)
    refine weak (dp := 900) (un := 9000) ?_ hh hd (by show A.units + 1 + 1 ≤ 9000; omega)
    show wpAny _ (Aw 900 9000) (.resume gi (.send .none) [] _) _ _ s
    refine wpAny_resumeQ hgs hgo (fun x s₁ hx => ?_) (fun v s₁ gs' hbare hv => ?_)
    · obtain ⟨h0, rfl, h, tk, rfl, hk⟩ := hx
      show wpAny _ (Aw 900 9000) (newExc (.type "StopIteration") [] >>= _) _ _ _
      refine wpAny_bind ?_
      simp only [newExc, newTuple]
      refine wpAny_bind (wpAny_newObj_type ?_ (by size_fits))
      refine wpAny_bind (m := firstArgMember _ _) (wpAny_of_eq (a := Value.none) (by first | rfl | (simp only [firstArgMember]; rfl)) ?_)
      refine wpAny_newObj_type ?_ (by size_fits)
      simp only [raiseNew]
      refine wpAny_bind (wpAny_bind (wpAny_handled ?_))
      refine wpAny_throw ?_
      have e0 : l = [] := List.eq_nil_of_length_eq_zero h0
      refine hnil h _ tk _ _ e0 (gonly hsz rfl) hk ⟨fun b o e => Heap.get?_push_of_some _ (Heap.get?_push_of_some _ e), ?_, _, _, _, Heap.get?_push_size _ rfl, rfl, rfl, rfl, rfl⟩
      cases q : h.get? (h.push { cls := .type "tuple", data := .seq #[] }).objs.size with
      | none => exact q
      | some o => exact absurd (Heap.lt_size (Heap.get?_push_of_some { cls := .type "tuple", data := .seq #[] } q)) (Nat.lt_irrefl _)
    · obtain ⟨a, as, t, rfl, hsuf, hlen, ⟨h, tk, rfl, hk⟩, ⟨oL', hL'⟩, hkap⟩ := hv
      cases l with
      | nil => exact (hkap _ (keepb h hk) (fun _ e => e)).elim
      | cons a' as' =>
        have e1 := suffix_same hsuf ok.1 (congrArg (· + 1) hlen)
        obtain ⟨rfl, rfl⟩ := List.cons.inj e1
        exact wpAny_pure ⟨_, rfl, wpAny_pure ⟨_, rfl, hcons a as t h tk _ gs' oL' rfl (by show ((s.gens.setIfInBounds gi .running).setIfInBounds gi gs')[gi]? = _; simp [hsz]) (gonly hsz hbare) hL' ⟨(List.suffix_cons a as).trans ok.1, fun s'' h1 h2 => hkap s'' h1 (fun o e => by rw [hL'] at e; rw [← e]; exact h2)⟩ hk⟩⟩
end
end Mine
end

section
open PySem PySem.W PyProof.Rows PySem.Calls 
namespace Mine
local macro_rules | `(tactic| k_ne) => `(tactic| (refine neN ?_; (try dsimp only); first | assumption | (refine Ne.symm ?_; assumption)))
section
variable {prog : Program} {w : World} {p₀ : Program} {loose : List Str} {mean : ExcName → Option Value} {mg mb : Str → Option Value} {h₀ : Heap} {s : Shared} 
  {dp un : Nat} {R : Result → Shared → Prop}
theorem anc_call {p : Str} {t : Nat} {full : List Str} (X : (hz.heap_251 w.params).In h₀) (T : Top p₀ loose mean mg mb h₀) (K : h₀.StaysIn s.heap) (hz0 : h₀.objs.size ≤ s.heap.objs.size) (hd : dp + 5 < recursionLimit)
    (hl : p.length ≤ 1000) (hc : Chain (Txt.rstripChars p (Str.ofString "/")) full)
    (hret : ∀ h' tk' G Lg oL nm qn gs, Keep [] s.heap h' → s.heap.get? G = none → s.heap.get? Lg = none → @Ne Nat G Lg → h'.get? G = some (gO s.gens.size nm qn) → h'.get? Lg = some oL → h₀.objs.size ≤ Lg → gs.bare = true → GenOk prog w h₀ Lg full gs full oL →
      R (.ok (.ret (.ref G))) { s with heap := h', toks := tk', gens := s.gens.push gs }) :
    codeAny (model prog w) (Aw dp un) (.call (.ref 110) ⟨[.str p t], []⟩) R s := by
  have hb : BindsTo s (fnOf "_ancestry" "_ancestry" (fnP st110) (fnB st110) (fnS st110) .none .none .none (.str "cpy313.zipfile._path" 323) none (.ref 109) .none) ⟨[.str p t], []⟩ [("path", .str p t)] := BindsTo.of_eq rfl
  refine codeAny_call_generator (by show dp < _; omega) (K _ _ (X _ _ (ko110 _))) rfl rfl rfl rfl (codeRec_of (X.keeps K) (by k_is)) ?_
  refine hb _ _ _ _ (wpAny_newFunctionEnv (by decide) (locs rfl) (fun h₁ hns hsb => ?_) rfl)
  have kp : ∀ b o, s.heap.get? b = some o → h₁.get? b = some o := fun b o e => hsb.extBut b o (Nat.ne_of_lt (Heap.lt_size e)) (Heap.get?_push_of_some _ e)
  obtain ⟨oL, es, ep, hL, hLd, hLk, hLf⟩ := id hns
  have hlt := Heap.lt_size hL
  have hG : s.heap.get? h₁.objs.size = none := by
    cases q : s.heap.get? h₁.objs.size with
    | none => rfl
    | some o => exact absurd (Heap.lt_size (kp _ _ q)) (Nat.lt_irrefl _)
  refine ⟨(T.nolimit.keeps K).keeps kp, hret _ _ h₁.objs.size s.heap.objs.size oL _ _ _ (fun b o _ e => Heap.get?_push_of_some _ (kp b o e)) hG noneAt (Nat.ne_of_gt hlt) (Heap.get?_push_size _ rfl) (Heap.get?_push_of_some _ hL) hz0 rfl ⟨List.suffix_refl _, fun s₁ k1 k2 => ⟨rfl, ?_⟩⟩⟩
  exact anc_fresh X T hz0 (by rw [show recursionLimit = 1000 from rfl]; omega) hl hc k1 ⟨oL, es, ep, k2, hLd, hLk, hLf⟩ rfl
end
end Mine
end

section
open PySem PySem.W PyProof.Rows PySem.Calls 
namespace Mine
local macro_rules | `(tactic| k_ne) => `(tactic| (refine neN ?_; (try dsimp only); first | assumption | (refine Ne.symm ?_; assumption)))
section
variable {prog : Program} {w : World} {p₀ : Program} {loose : List Str} {mean : ExcName → Option Value} {mg mb : Str → Option Value} {h₀ : Heap} {s : Shared} 
  {dp un : Nat} {R : Result → Shared → Prop}
theorem parents {p : Str} {t : Nat} {full : List Str} (X : (hz.heap_251 w.params).In h₀) (T : Top p₀ loose mean mg mb h₀) (K : h₀.StaysIn s.heap) (hz0 : h₀.objs.size ≤ s.heap.objs.size) (hd : dp + 50 < recursionLimit)
    (hl : p.length ≤ 1000) (hc : Chain (Txt.rstripChars p (Str.ofString "/")) full)
    (hret : ∀ h' tk' i di G Lg oL nm qn gs a b c d, Keep [] s.heap h' → (∀ x ∈ [i, di, G, Lg], s.heap.get? x = none) → @Ne Nat G Lg → @Ne Nat i G → @Ne Nat i Lg → @Ne Nat i di → @Ne Nat di Lg → h'.get? i = some (islObj di (.int 0 a) (.ref G) (.int 1 b) (.int 1 c) (.int (-1) d)) → h'.get? di = some emptyDict → h'.get? G = some (gO s.gens.size nm qn) → h'.get? Lg = some oL → h₀.objs.size ≤ Lg → gs.bare = true → GenOk prog w h₀ Lg full gs full oL →
      R (.ok (.ret (.ref i))) { s with heap := h', toks := tk', gens := s.gens.push gs }) :
    codeAny (model prog w) (Aw dp un) (.call (.ref 82) ⟨[.str p t], []⟩) R s := by
  refine enterW (X.keeps K) (T.keeps K) (by omega) (ko82 _) (by k_is) (binds := [("path", .str p t)]) (BindsTo.of_eq rfl) (locs rfl) ?_ (by decide) rfl rfl rfl
  intro L' h₁ tk hL F'
  have N' := nNil (h₀ := s.heap) (L := L') (h := h₁)
  have X1 := X.keeps K
  have T1 := T.keeps K
  conv in execs _ _ => arg 1; whnf
  k_steps
  refine wpAny_call (anc_call X T (fun b o e => F'.keep b o (K b o e)) (Nat.le_trans hz0 (Nat.le_trans F'.above (by obtain ⟨_, _, _, e, _⟩ := F'.ns; exact Nat.le_of_lt (Heap.lt_size e)))) (by omega) hl hc ?_)
  intro h2 tk2 G Lg oL nm qn gs kp fG fL nGL gG gL hlz hbare ok
  have F2 := frKept' F' kp (fun _ h => nomatch h)
  have N2 := nCons (nNew F' fG gG) (nCons (nNew F' fL gL) nNil)
  clear F' N'
  dsimp only
  k_steps
  refine wpAny_call (PySem.W.make_K F2 N2 (X1.keeps F2.keep) (by k_is) (by k_is) (by k_is) ?_)
  intro i di h3 F3 N3 l1 l2
  have e1 : @Ne Nat i di := Nat.ne_of_gt l2
  have e2 : @Ne Nat i G := Nat.ne_of_gt (Nat.lt_trans (l1 (G, _) (.head _)) l2)
  have e3 : @Ne Nat i Lg := Nat.ne_of_gt (Nat.lt_trans (l1 (Lg, oL) (.tail _ (.head _))) l2)
  refine islinit (gi := s.gens.size) (nm := nm) (qn := qn) X1 T1 F3.keep (newsLed N3 fun q hq => List.mem_append_left [(Lg, oL)] hq) (by show dp + 1 + 1 + 20 < _; omega) e1 e2 ?_
  intro h4 tk4 a b c d k4 hi4
  refine ⟨rfl, ?_⟩
  have F4 := frKept' F3 k4 (by intro b hb; rw [List.mem_singleton.mp hb]; exact (N3 _ (.head _)).2)
  show RetTo R (.ret (.ref i)) _
  refine hret h4 _ i di G Lg oL nm qn gs a b c d (fun b o _ e => F4.keep b o e) ?_ nGL e2 e3 e1 (Nat.ne_of_gt (l1 (Lg, oL) (.tail _ (.head _)))) hi4 (k4 _ _ (nm1 e1.symm) (N3 _ (.tail _ (.head _))).1) (k4 _ _ (nm1 e2.symm) (N3 _ (.tail _ (.tail _ (.head _)))).1) (k4 _ _ (nm1 e3.symm) (N3 _ (.tail _ (.tail _ (.tail _ (.head _))))).1) hlz hbare ok
  exact forall_cons (N3 _ (.head _)).2.2 (forall_cons (N3 _ (.tail _ (.head _))).2.2 (forall_cons (N3 _ (.tail _ (.tail _ (.head _)))).2.2 (forall_cons (N3 _ (.tail _ (.tail _ (.tail _ (.head _))))).2.2 (fun _ h => nomatch h))))
end
end Mine
end

section
open PySem PySem.W PyProof.Rows PySem.Calls 
namespace Mine
section
variable {M : Model} {A : Around} {E : Value → Shared → Prop} {s : Shared}
/-- a new exception, noted in its first frame -/
theorem looks_new {base h : Heap} {env : Env} {outer : List Env} {L e : Addr} {cls : String} {Q : Unit → Shared → Prop} (hfr : A.frames = some (env :: outer)) (hf : env.frame = some L) (hl : h.FunFrames base (env :: outer)) (hkb : base.StaysIn h) (ne : NewE h s.heap e cls)
    (hQ : ∀ h' a0, Heap.HeldW base (env :: outer) e (.type cls) a0 L h' → s.heap.UpToSlots h' → Q () { s with heap := h' }) : wpAny M A (noteFrame (.ref e) env) Q E s := by
  obtain ⟨kp, en, oe, vs, a0, he, hc, hd, h0, h1⟩ := ne
  have hen : base.get? e = none := by
    cases q : base.get? e with
    | none => rfl
    | some o => rw [hkb _ _ q] at en; cases en
  unfold noteFrame
  simp only [hf]
  refine wpAny_bind (wpAny_field he hd h1 ?_)
  rw [if_neg (show ¬ (Value.none != Value.none) = true by decide)]
  refine wpAny_entryW hfr (hl.of_keeps fun b o hb _ => ⟨o, kp b o hb, rfl⟩) hf he (fun b o e => kp b o (hkb b o e)) hen hd (Array.getElem?_eq_some_iff.mp h1).1 h0 fun h' ⟨x1, x2, x3, x4⟩ => ?_
  exact hQ h' a0 ⟨x1, hen, x2, hc ▸ x3⟩ x4
theorem raise_bare {base : Heap} {l : List Env} {env : Env} {e L : Addr} {cls a0 : Value} {pos : Pos} {Q : Flow → Shared → Prop} (hA : A.handled = some (.ref e)) (hf : env.frame = some L) (R : Heap.FlyingW base l e cls a0 s.heap)
    (h : ∀ h', Heap.HeldW base l e cls a0 L h' → s.heap.UpToSlots h' → E (.ref e) { s with heap := h' }) : wpAny M A (exec (.Raise none none pos) env) Q E s := by
  obtain ⟨_, _, _, oe, ws, T, oT, ts, he, hc, hd, h1, _⟩ := id R
  rw [arm_exec_Raise]
  refine wpAny_bind (wpAny_standAt ?_)
  show wpAny M A (raiseStmt env none none) Q E s
  unfold raiseStmt
  refine wpAny_bind (wpAny_handled ?_)
  rw [hA]
  refine wpAny_bind (wpAny_rule ?_)
  refine wpAny_bind (wpAny_field he hd h1 ?_)
  rw [if_neg (show ¬ ((Value.ref T == Value.none) = true) from by simp)]
  rw [hf]
  exact wpAny_bind (setFlight_onW R fun h' hh hs => wpAny_throw (h h' hh hs))
/-- an exception in flight stands when a known object is written -/
theorem flying_upd2 {base B h h' : Heap} {env : Env} {fr : List Env} {e i L : Addr} {cls a0 : Value} {m m' : Str → Option Value} (k : base.StaysIn B) (R : Heap.FlyingW B (env :: fr) e cls a0 h) (hf : env.frame = some L) (hn : h.Ns L m) (hn' : h'.Ns L m') (hfr : L ∉ fr.filterMap (·.frame))
    (hi : (B.get? i).isSome = true) (hib : base.get? i = none) (hk : Keep [i, L] h h') : Heap.FlyingW base (env :: fr) e cls a0 h' := by
  obtain ⟨f1, f2, ⟨q1, ⟨L₁, oL₁, hf₁, hnB, hoL, hodL⟩, hr⟩, oe, vs, T, oT, ts, he, hcl, hd, h1, hnT, hTe, hT, hdT, h3⟩ := R
  obtain rfl : L = L₁ := Option.some.inj (hf.symm.trans hf₁)
  have nI : ∀ b, B.get? b = none → @Ne Nat b i := fun b hb z => by rw [← z, hb] at hi; cases hi
  have nb : ∀ b, B.get? b = none → base.get? b = none := fun b hb => by
    cases q : base.get? b with
    | none => rfl
    | some o => rw [k _ _ q] at hb; cases hb
  obtain ⟨o₁, _, _, ho₁, hd₁, _⟩ := hn
  obtain ⟨o₂, _, _, ho₂, hd₂, _⟩ := hn'
  have neL : ∀ b o vs, h.get? b = some o → o.data = .fields vs → @Ne Nat b L := fun b o vs hb hv z => by
    rw [z, ho₁] at hb; cases hb; rw [hd₁] at hv; cases hv
  refine ⟨fun b o q => hk b o (nm2 (fun z => by rw [z, hib] at q; cases q) (fun z => by rw [z, nb _ hnB] at q; cases q)) (f1 b o (k b o q)), nb _ f2,
    ⟨q1, ⟨L, o₂, hf, nb _ hnB, ho₂, fun vs q => by rw [hd₂] at q; cases q⟩, ?_⟩, oe, vs, T, oT, ts, hk _ _ (nm2 (nI _ f2) (neL _ _ _ he hd)) he, hcl, hd, h1, nb _ hnT, hTe, hk _ _ (nm2 (nI _ hnT) (neL _ _ _ hT hdT)) hT, hdT, h3⟩
  clear he hcl hd h1 hT hdT h3
  revert hr hfr
  induction fr with
  | nil => exact fun _ _ => trivial
  | cons env' l ih => exact fun hfr ⟨q1, ⟨L', o, hf', hn, ho, hod⟩, hr⟩ => ⟨q1, ⟨L', o, hf', nb _ hn, hk _ _ (nm2 (nI _ hn) fun z => hfr (List.mem_filterMap.mpr ⟨env', .head _, hf'.trans (congrArg some z)⟩)) ho, hod⟩, ih (fun hm => hfr (by
      obtain ⟨e1, he, hb⟩ := List.mem_filterMap.mp hm
      exact List.mem_filterMap.mpr ⟨e1, .tail _ he, hb⟩)) hr⟩
end
/-- all the rest of a heap but X -/
theorem restX (g h : Heap) (X : List Addr) : ∃ rest : List (Addr × Obj), (∀ q ∈ rest, h.get? q.1 = some q.2 ∧ q.1 ∉ X ∧ g.get? q.1 = none) ∧ ∀ b o, h.get? b = some o → b ∉ X → g.get? b = none → (b, o) ∈ rest := by
  refine ⟨(List.range h.objs.size).filterMap fun b => if b ∈ X then none else match g.get? b with | some _ => none | none => (h.get? b).map fun o => (b, o), fun q hq => ?_, fun b o e n k => ?_⟩
  · obtain ⟨b, -, hb⟩ := List.mem_filterMap.mp hq
    split at hb
    · cases hb
    · rename_i n
      split at hb
      · cases hb
      · rename_i k
        obtain ⟨o, ho, rfl⟩ := Option.map_eq_some_iff.mp hb
        exact ⟨ho, n, k⟩
  · refine List.mem_filterMap.mpr ⟨b, List.mem_range.mpr (Heap.lt_size e), ?_⟩
    rw [if_neg n, k, e]; rfl
noncomputable abbrev frs (l : List Env) : List Addr := l.filterMap (·.frame)
theorem ff_keep {h h' base : Heap} : ∀ {l : List Env}, h.FunFrames base l → (∀ b ∈ frs l, ∀ o, h.get? b = some o → h'.get? b = some o) → h'.FunFrames base l
  | [], _, _ => trivial
  | env :: l, ⟨q1, ⟨L, o, hf, hn, ho, hd⟩, hr⟩, k => ⟨q1, ⟨L, o, hf, hn, k L (List.mem_filterMap.mpr ⟨env, .head _, hf⟩) o ho, hd⟩, ff_keep hr fun b hb => k b (by
      obtain ⟨e, he, hb⟩ := List.mem_filterMap.mp hb
      exact List.mem_filterMap.mpr ⟨e, .tail _ he, hb⟩)⟩
/-- frames stand, but for what is noted of them -/
noncomputable def UpF (l : List Env) (h h' : Heap) : Prop := ∀ b ∈ frs l, ∀ o, h.get? b = some o → (∀ vs, o.data ≠ .fields vs) → ∃ sl, h'.get? b = some { o with slots := sl }
theorem UpF.step {l : List Env} {h h' h'' : Heap} (a : UpF l h h') (b : h'.UpToSlots h'') : UpF l h h'' := fun c hc o e n => by
  obtain ⟨sl, e'⟩ := a c hc o e n
  obtain ⟨sl', e''⟩ := b c _ e' n
  exact ⟨sl', e''⟩
theorem UpF.keep {l : List Env} {h h' h'' : Heap} (a : UpF l h h') (b : ∀ c ∈ frs l, ∀ o, h'.get? c = some o → h''.get? c = some o) : UpF l h h'' := fun c hc o e n => by
  obtain ⟨sl, e'⟩ := a c hc o e n
  exact ⟨sl, b c hc _ e'⟩
theorem UpF.refl {l : List Env} {h : Heap} : UpF l h h := fun _ _ o e _ => ⟨o.slots, e⟩
end Mine
end

section
open PySem PySem.W PyProof.Rows PySem.Calls 
local macro_rules | `(tactic| ktr_unf) => `(tactic| repeat' ((fail_if_success (with_reducible show wpAny _ _ (exec (Stmt.For _ _ _ _ _) _) _ _ _)); (fail_if_success (with_reducible show wpAny _ _ (exec (Stmt.While _ _ _ _) _) _ _ _)); (fail_if_success (with_reducible show wpAny _ _ (exec (Stmt.Try _ _ _ _ _) _) _ _ _)); first | (k_unfold; (try dsimp only)) | (k_end; wrow_close) | walk1 | (dsimp only; walk1) | (leave1; (try dsimp only)) | fail "no step"))
namespace Mine
local macro_rules | `(tactic| k_ne) => `(tactic| (refine neN ?_; (try dsimp only); first | assumption | (refine Ne.symm ?_; assumption)))
local macro_rules | `(tactic| k_all) => `(tactic| assumption)
section
variable {prog : Program} {w : World} {p₀ : Program} {loose : List Str} {mean : ExcName → Option Value} {mg mb : Str → Option Value} {h₀ : Heap} {s : Shared} 
  {dp un : Nat} {gd : Option (List Code)} {fr : List Env} {R : Result → Shared → Prop}
theorem isl_next {i di G Lg : Addr} {gi : Nat} {nm qn : Value} {oL : Obj} {nx : Int} {k : Nat} {ta tb tc td : Nat} {gs : GenState} {full l : List Str} (X : (hz.heap_251 w.params).In h₀) (T : Top p₀ loose mean mg mb h₀) (K : h₀.StaysIn s.heap)
    (N : Led h₀ s.heap [(i, islObj di (.int (nx - k) ta) (.ref G) (.int nx tb) (.int 1 tc) (.int (-1) td)), (di, emptyDict), (G, gO gi nm qn), (Lg, oL)]) (hd : dp + 50 < 900) (hun : un + 50 < 8000)
    (e1 : @Ne Nat i di) (e2 : @Ne Nat i G) (e3 : @Ne Nat i Lg) (e4 : @Ne Nat G Lg) (e5 : @Ne Nat di Lg) (hlz : h₀.objs.size ≤ Lg) (hgs : s.gens[gi]? = some gs) (ok : GenOk prog w h₀ Lg full gs l oL) (hkl : k ≤ l.length)
    (hff : s.heap.FunFrames h₀ fr) (hnf : ∀ b ∈ frs fr, @Ne Nat b i ∧ @Ne Nat b di ∧ @Ne Nat b G ∧ @Ne Nat b Lg)
    (hitem : ∀ a as h' tk gens gs' oL' t ta tb, l.drop k = a :: as → gens[gi]? = some gs' → GenOnlyQ gi s.gens gens → GenOk prog w h₀ Lg full gs' as oL' → Keep [i, Lg] s.heap h' → h'.get? i = some (islObj di (.int (nx + 1) ta) (.ref G) (.int (nx + 1) tb) (.int 1 tc) (.int (-1) td)) → h'.get? Lg = some oL' →
      R (.ok (.ret (.str a t))) { s with heap := h', toks := tk, gens := gens })
    (hstop : ∀ h' tk gens e a0 Bx, l.drop k = [] → GenOnlyQ gi s.gens gens → (∀ b o, s.heap.get? b = some o → b ∉ [i, Lg] → b ∉ frs fr → Bx.get? b = some o) → Heap.FlyingW Bx fr e (.type "StopIteration") a0 h' → UpF fr s.heap h' → R (.error (.ref e)) { s with heap := h', toks := tk, gens := gens }) :
    codeAny (model prog w) (Ar dp un gd fr) (.call (.ref 64) ⟨[.ref i], []⟩) R s := by
  refine enterR X T K N (by rw [show recursionLimit = 1000 from rfl]; omega) (ko64 _) (by k_is) (binds := [("self", .ref i)]) (BindsTo.of_eq rfl) (locs rfl) ?_ (by decide) rfl rfl rfl
  intro g L' h₁ tk hL F' N' X' T' hlt hg
  have hgb := led_stay K N hg
  have hgf : ∀ b ∈ frs fr, ∀ o, s.heap.get? b = some o → g.get? b = some o := fun b hb o e => hg b o e (nmem_cons (hnf b hb).1 (nmem_cons (hnf b hb).2.1 (nmem_cons (hnf b hb).2.2.1 (nmem_cons (hnf b hb).2.2.2 nmem_nil))))
  conv in execs _ _ => arg 1; whnf
  ktr_unf
  refine wpAny_Try_except ?_
  ktr_unf
  rename Fr g _ _ _ => F1
  rename News g _ _ _ => N1
  refine While_F (fun n s₁ => ∃ h tk gens gs' oL' l' ta', s₁ = { s with heap := h, toks := tk, gens := gens } ∧ Fr g L' h (fun y => if y = Str.ofString "stop" then some (.int (-1) td) else if y = Str.ofString "it" then some (.ref G) else List.lookup y [(Str.ofString "self", Value.ref i)].reverse) ∧
    News g L' h [(i, islObj di (.int (nx - n) ta') (.ref G) (.int nx tb) (.int 1 tc) (.int (-1) td)), (di, emptyDict), (G, gO gi nm qn), (Lg, oL')] ∧ gens[gi]? = some gs' ∧ GenOnlyQ gi s.gens gens ∧ GenOk prog w h₀ Lg full gs' l' oL' ∧ l'.drop n = l.drop k ∧ n ≤ l'.length) ?_ k ⟨_, _, _, gs, oL, l, ta, rfl, F1, N1, hgs, .inl rfl, ok, rfl, hkl⟩
  clear F1 N1
  rintro n s₁ ⟨h, tk, gens, gs', oL', l', ta', rfl, F1, N1, hgs', hgo, ok', hdr, hn⟩
  ktr_unf
  · obtain ⟨n, rfl⟩ : ∃ n₁, n = n₁ + 1 := ⟨n - 1, by omega⟩
    have hn1 : n + 1 ≤ l'.length := hn
    refine gen_next (gs := gs') (l := l') (full := full) T hlz rfl (by show dp + 1 ≤ 900; omega) (by show un + 3 ≤ 8000; omega) ⟨_, nm, qn, (N1 (G, gO gi nm qn) (by k_mem)).1, rfl, rfl, rfl⟩ hgs' (N1 (Lg, oL') (by k_mem)).1 ok' (fun b o e => F1.keep b o (hgb b o e)) ?_ ?_
    · intro a as t h2 tk2 gens2 gs2 oL2 el hg2 go2 hL2 ok2 kp2
      subst el
      have F2 := frKept' F1 kp2 (by intro b hb; rw [List.mem_singleton.mp hb]; exact (N1 (Lg, oL') (by k_mem)).2)
      have N2 := nCons (nOld N1 kp2 (.head _) (nm1 e3)) (nCons (nOld N1 kp2 (.tail _ (.head _)) (nm1 e5)) (nCons (nOld N1 kp2 (.tail _ (.tail _ (.head _))) (nm1 e4)) (nCons (nChg N1 (.tail _ (.tail _ (.tail _ (.head _)))) hL2) nNil)))
      clear F1 N1
      dsimp only
      ktr_unf
      rename Fr g L' _ _ => F9
      rename News g L' _ _ => N9
      have en : nx - ((n + 1 : Nat) : Int) + 1 = nx - (n : Int) := by omega
      rw [en] at N9
      exact ⟨n, Nat.lt_succ_self _, _, _, gens2, gs2, oL2, as, _, rfl, F9, N9, hg2, hgo.trans go2, ok2, hdr, Nat.le_of_succ_le_succ hn1⟩
    · intro h2 h3 tk2 gens2 e el
      subst el
      exact absurd hn1 (Nat.not_succ_le_zero _)
  · obtain rfl : n = 0 := by omega
    rw [List.drop_zero] at hdr
    subst hdr
    refine gen_next (gs := gs') (l := l.drop k) (full := full) T hlz rfl (by show dp + 1 ≤ 900; omega) (by show un + 3 ≤ 8000; omega) ⟨_, nm, qn, (N1 (G, gO gi nm qn) (by k_mem)).1, rfl, rfl, rfl⟩ hgs' (N1 (Lg, oL') (by k_mem)).1 ok' (fun b o e => F1.keep b o (hgb b o e)) ?_ ?_
    · intro a as t h2 tk2 gens2 gs2 oL2 el hg2 go2 hL2 ok2 kp2
      have F2 := frKept' F1 kp2 (by intro b hb; rw [List.mem_singleton.mp hb]; exact (N1 (Lg, oL') (by k_mem)).2)
      have N2 := nCons (nOld N1 kp2 (.head _) (nm1 e3)) (nCons (nOld N1 kp2 (.tail _ (.head _)) (nm1 e5)) (nCons (nOld N1 kp2 (.tail _ (.tail _ (.head _))) (nm1 e4)) (nCons (nChg N1 (.tail _ (.tail _ (.tail _ (.head _)))) hL2) nNil)))
      clear F1 N1
      dsimp only
      ktr_unf
      rename Fr g L' _ _ => F9
      rename News g L' _ _ => N9
      show RetTo R (.ret (.str a t)) _
      exact hitem a as _ _ gens2 gs2 oL2 t _ _ el hg2 (hgo.trans go2) ok2 (keep_of N hg F9 N9 (forall_cons (.inl (.head _)) (forall_cons (.inr (.tail _ (.head _))) (forall_cons (.inr (.tail _ (.tail _ (.head _)))) (forall_cons (.inl (.tail _ (.head _))) (fun _ h => nomatch h)))))) (by have := (N9 _ (.head _)).1; rw [show nx - ((0 : Nat) : Int) + 1 = nx + 1 by omega] at this; exact this) (N9 _ (.tail _ (.tail _ (.tail _ (.head _))))).1
    · intro h2 h3 tk2 gens2 e el go2 kp2 ne
      have F2 := frKept' F1 kp2 (by intro b hb; rw [List.mem_singleton.mp hb]; exact (N1 (Lg, oL') (by k_mem)).2)
      have gL : g.get? L' = none := by
        cases q : g.get? L' with
        | none => rfl
        | some o => exact absurd (Nat.lt_of_lt_of_le (Heap.lt_size q) F2.above) (Nat.lt_irrefl _)
      have hl2 : h2.FunFrames h₀ (envOf "islice.__next__" (fnS st64) L' 64 (.ref 63) :: fr) := by
        refine .cons (show ScopeKind.function ≠ ScopeKind.module by decide) rfl F2.ns ?_ (ff_keep hff fun b hb o e => F2.keep _ _ (hgf b hb o e))
        cases q : h₀.get? L' with
        | none => rfl
        | some o => rw [hgb _ _ q] at gL; cases gL
      have hl3 := funFrames_hide (as := frs (envOf "islice.__next__" (fnS st64) L' 64 (.ref 63) :: fr)) hl2 fun env he a ha => List.mem_filterMap.mpr ⟨env, he, ha⟩
      refine looks_new rfl rfl hl3 (fun b o e => of_hideAll _ e) ne ?_
      intro h4 a0 held sm1
      refine wpAny_landsW held ?_
      intro h5 fl sm2
      have sub : ∀ b o, (hideAll g (frs fr)).get? b = some o → (hideAll h2 (frs (envOf "islice.__next__" (fnS st64) L' 64 (.ref 63) :: fr))).get? b = some o := fun b o q => by
        refine hideAll_get _ (F2.keep _ _ (of_hideAll _ q)) fun hm => ?_
        rcases List.mem_cons.mp hm with z | z
        · rw [z] at q; rw [of_hideAll _ q] at gL; cases gL
        · rw [hideAll_none _ z] at q; cases q
      have st5 : h₀.StaysIn (hideAll g (frs fr)) := fun b o q => hideAll_get _ (hgb b o q) fun hm => by rw [(hff.mem hm).1] at q; cases q
      have X5 := X.keeps st5
      have T5 := T.keeps st5
      have hF : ∀ hh, (hideAll h2 (frs (envOf "islice.__next__" (fnS st64) L' 64 (.ref 63) :: fr))).StaysIn hh → h3.UpToSlots hh → Fr (hideAll g (frs fr)) L' hh _ := fun hh f1 sm => ⟨sm.ns (F2.ns.at' (ne.1 _)), fun b o q => f1 b o (sub b o q), by rw [hideAll_size]; exact F2.above⟩
      have E5 : ∀ q ∈ [(i, islObj di (.int (nx - (0 : Nat)) ta') (.ref G) (.int nx tb) (.int 1 tc) (.int (-1) td)), (di, emptyDict)], (hideAll h2 (frs (envOf "islice.__next__" (fnS st64) L' 64 (.ref 63) :: fr))).get? q.1 = some q.2 := by
        have nf : ∀ x : Addr, x ≠ L' → x ∉ frs fr → x ∉ frs (envOf "islice.__next__" (fnS st64) L' 64 (.ref 63) :: fr) := fun x n1 n2 hm => (List.mem_cons.mp hm).elim n1 n2
        exact forall_cons (hideAll_get _ (kp2 _ _ (nm1 e3) (N1 _ (.head _)).1) (nf _ (N1 _ (.head _)).2.1 fun hm => (hnf _ hm).1 rfl)) (forall_cons (hideAll_get _ (kp2 _ _ (nm1 e5) (N1 _ (.tail _ (.head _))).1) (nf _ (N1 _ (.tail _ (.head _))).2.1 fun hm => (hnf _ hm).2.1 rfl)) (fun _ h => nomatch h))
      have gn : ∀ b, g.get? b = none → (hideAll g (frs fr)).get? b = none := fun b hb => by
        cases q : (hideAll g (frs fr)).get? b with
        | none => rfl
        | some o => rw [of_hideAll _ q] at hb; cases hb
      refine wpAny_handleBy_builtin (X := "StopIteration") (T := "BaseException") (b := true) (by rw [isSubtype_type]; kernel_rfl) (by rw [isSubtype_type]; kernel_rfl) (by rw [isSubtype_type]; kernel_rfl) ?_
      have hev : ∀ (Q : Value → Shared → Prop) (E : Value → Shared → Prop) (A : Around) p (s' : Shared), s'.heap = h5 → Q (.type "BaseException") s' → wpAny (model prog w) A (eval (.Name "BaseException" p) (envOf "islice.__next__" (fnS st64) L' 64 (.ref 63))) Q E s' := by
        intro Q E A p s' es hq
        subst es
        have F5 := hF _ fl.1 (sm1.trans sm2)
        clear F2 hF
        k_steps
        exact hq
      refine hev _ _ _ _ _ rfl ⟨rfl, fl.there, ?_⟩
      rw [if_pos rfl]
      refine lands_againW fl ?_
      intro h6 fl6 sm3
      obtain ⟨rest, hr1, hr2⟩ := restX (hideAll g (frs fr)) h6 [L', i, di]
      have F6 := hF _ fl6.1 ((sm1.trans sm2).trans sm3)
      clear hF hev
      have N5 : News (hideAll g (frs fr)) L' h6 ((i, islObj di (.int (nx - (0 : Nat)) ta') (.ref G) (.int nx tb) (.int 1 tc) (.int (-1) td)) :: (di, emptyDict) :: rest) :=
        nCons ⟨fl6.1 _ _ (E5 _ (.head _)), (N1 _ (.head _)).2.1, gn _ (N1 _ (.head _)).2.2⟩ (nCons ⟨fl6.1 _ _ (E5 _ (.tail _ (.head _))), (N1 _ (.tail _ (.head _))).2.1, gn _ (N1 _ (.tail _ (.head _))).2.2⟩ fun q hq => ⟨(hr1 q hq).1, fun z => (hr1 q hq).2.1 (z ▸ .head _), (hr1 q hq).2.2⟩)
      have hall : ∀ q ∈ rest, q.1 ≠ i := fun q hq z => (hr1 q hq).2.1 (z ▸ .tail _ (.head _))
      have kE : Keep [i, Lg] s.heap h2 := (keep_of N hg F1 N1 (forall_cons (.inl (.head _)) (forall_cons (.inr (.tail _ (.head _))) (forall_cons (.inr (.tail _ (.tail _ (.head _)))) (forall_cons (.inl (.tail _ (.head _))) (fun _ h => nomatch h)))))).trans (kp2.mono fun b hb => by rw [List.mem_singleton.mp hb]; exact .tail _ (.head _))
      have U6 : UpF fr s.heap h6 := (((UpF.refl.keep fun b hb o e => ne.1 _ _ (F2.keep _ _ (hgf b hb o e))).step sm1).step sm2).step sm3
      clear F1 N1 F2
      have hdi := (N5 _ (.tail _ (.head _))).1
      have hk6 := F6.keep
      have hn6 := F6.ns
      refine wpAny_passesOwnAt (by passes_own) ?_
      ktr_unf
      rename Fr _ L' _ _ => F7
      rename News _ L' _ _ => N7
      rename Heap => h7
      have k7 : Keep [i, L'] h6 h7 := fun b o nb eo => by
        by_cases hb : b = di
        · rw [hb] at eo ⊢; rw [hdi] at eo; rw [← eo]; exact (N7 _ (.tail _ (.head _))).1
        · cases q : (hideAll g (frs fr)).get? b with
          | some o' => rw [hk6 _ _ q] at eo; rw [← eo]; exact F7.keep _ _ q
          | none => exact (N7 _ (.tail _ (.tail _ (hr2 b o eo (fun hm => (List.mem_cons.mp hm).elim (fun z => nb (z ▸ .tail _ (.head _))) fun hm => (List.mem_cons.mp hm).elim (fun z => nb (z ▸ .head _)) fun hm => hb (List.mem_singleton.mp hm)) q)))).1
      have Lf : L' ∉ frs fr := fun hm => by
        obtain ⟨_, o, ho, _⟩ := hff.mem hm
        rw [hL] at ho; cases ho
      have fl7 := flying_upd2 (base := hideAll (hideAll h2 (frs (envOf "islice.__next__" (fnS st64) L' 64 (.ref 63) :: fr))) [i]) (fun b o q => of_hideAll _ q) fl6 rfl hn6 F7.ns Lf (by rw [E5 _ (.head _)]; rfl) (hideAll_none _ (.head _)) k7
      refine raise_bare rfl rfl fl7 ?_
      intro h8 held8 sm8
      unfold leaving
      refine wpAny_bind (wpAny_noteFrame_againW rfl held8.2.2.2 ?_)
      refine wpAny_landsW held8 ?_
      intro h9 fl9 sm9
      obtain ⟨x1, x2, ⟨_, _, x3⟩, x4⟩ := fl9
      refine hstop h9 _ gens2 e a0 _ el (hgo.trans go2) (fun b o eb n1 n2 => hideAll_get _ (hideAll_get _ (kE b o n1 eb) fun hm => (List.mem_cons.mp hm).elim (fun z => by rw [z, hL] at eb; cases eb) n2) fun hm => n1 (by rw [List.mem_singleton.mp hm]; exact .head _)) ⟨x1, x2, x3, x4⟩ (((U6.keep fun b hb o eb => k7 b o (nm2 (hnf b hb).1 fun z => Lf (z ▸ hb)) eb).step sm8).step sm9)
end
end Mine
end

section
open PySem PySem.W PyProof.Rows PySem.Calls 
namespace Mine
/-- what an islice of the chain is, k to be left out first -/
structure IslAt (prog : Program) (w : World) (h₀ : Heap) (i di G Lg : Addr) (gi : Nat) (nm qn : Value) (full : List Str) (fr : List Env) (l : List Str) (k : Nat) (s : Shared) : Prop where
  obj : ∃ (nx : Int) (ta tb tc td : Nat), s.heap.get? i = some (islObj di (.int (nx - k) ta) (.ref G) (.int nx tb) (.int 1 tc) (.int (-1) td))
  dict : s.heap.get? di = some emptyDict
  gen : s.heap.get? G = some (gO gi nm qn)
  ok : ∃ gs oL, s.heap.get? Lg = some oL ∧ s.gens[gi]? = some gs ∧ GenOk prog w h₀ Lg full gs l oL
  kl : k ≤ l.length
  ff : s.heap.FunFrames h₀ fr
  st : h₀.StaysIn s.heap
structure IslOff (h₀ : Heap) (i di G Lg : Addr) (fr : List Env) : Prop where
  e1 : @Ne Nat i di
  e2 : @Ne Nat i G
  e3 : @Ne Nat i Lg
  e4 : @Ne Nat G Lg
  e5 : @Ne Nat di Lg
  lz : h₀.objs.size ≤ Lg
  nf : ∀ b ∈ frs fr, @Ne Nat b i ∧ @Ne Nat b di ∧ @Ne Nat b G ∧ @Ne Nat b Lg
  n0 : ∀ b ∈ [i, di, G, Lg], h₀.get? b = none
/-- what the taking of all items leaves -/
structure Took (h₀ : Heap) (i Lg : Addr) (gi : Nat) (fr : List Env) (X : List Addr) (s : Shared) (h' : Heap) (gens : Array GenState) : Prop where
  keep : ∀ b o, s.heap.get? b = some o → b ∉ [i, Lg] → b ∉ frs fr → b ∉ X → h'.get? b = some o
  up : UpF fr s.heap h'
  ff : h'.FunFrames h₀ fr
  gens : GenOnlyQ gi s.gens gens
section
variable {prog : Program} {w : World} {p₀ : Program} {loose : List Str} {mean : ExcName → Option Value} {mg mb : Str → Option Value} {h₀ : Heap} {s : Shared} 
  {dp un : Nat} {gd : Option (List Code)} {fr : List Env} {R : Result → Shared → Prop}
theorem isl_pyNext {i di G Lg : Addr} {gi : Nat} {nm qn : Value} {full l : List Str} {k : Nat} {Q : Option Value → Shared → Prop} {E : Value → Shared → Prop} (X : (hz.heap_251 w.params).In h₀) (T : Top p₀ loose mean mg mb h₀) (O : IslOff h₀ i di G Lg fr) (I : IslAt prog w h₀ i di G Lg gi nm qn full fr l k s) (hd : dp + 50 < 900) (hun : un + 60 < 8000)
    (hitem : ∀ a as h' tk gens t, l.drop k = a :: as → Keep [i, Lg] s.heap h' → GenOnlyQ gi s.gens gens → IslAt prog w h₀ i di G Lg gi nm qn full fr as 0 { s with heap := h', toks := tk, gens := gens } → Q (some (.str a t)) { s with heap := h', toks := tk, gens := gens })
    (hstop : ∀ h' tk gens, l.drop k = [] → Took h₀ i Lg gi fr [] s h' gens → Q none { s with heap := h', toks := tk, gens := gens }) :
    wpAny (model prog w) (Ar dp un gd fr) (pyNext (.ref i)) Q E s := by
  obtain ⟨nx, ta, tb, tc, td, ho⟩ := I.obj
  obtain ⟨gs, oL, hL, hgs, ok⟩ := I.ok
  have n0 := O.n0
  unfold pyNext
  refine wpAny_bind (wpAny_attempt (special_fn (K := hz.heap_251 w.params) (C := 68) (od := some emptyDict) (name := "__next__") (args := []) (f := 64) (X.keeps I.st) ⟨ho, rfl, rfl, I.dict⟩ (by k_is) (by k_is) ?_))
  refine wpAny_call (isl_next (gs := gs) (full := full) (l := l) (k := k) X T I.st (forall_cons ⟨ho, n0 _ (.head _)⟩ (forall_cons ⟨I.dict, n0 _ (.tail _ (.head _))⟩ (forall_cons ⟨I.gen, n0 _ (.tail _ (.tail _ (.head _)))⟩ (forall_cons ⟨hL, n0 _ (.tail _ (.tail _ (.tail _ (.head _))))⟩ (fun _ h => nomatch h))))) hd (by omega) O.e1 O.e2 O.e3 O.e4 O.e5 O.lz hgs ok I.kl I.ff O.nf ?_ ?_)
  · intro a as h' tk gens gs' oL' t ta' tb' el hg go ok' kp hi hL'
    refine wpAny_pure (hitem a as h' tk gens t el kp go ⟨⟨nx + 1, ta', tb', tc, td, by rw [show (nx + 1 : Int) - ((0 : Nat) : Int) = nx + 1 by omega]; exact hi⟩, kp _ _ (nm2 O.e1.symm O.e5) I.dict, kp _ _ (nm2 O.e2.symm O.e4) I.gen, ⟨gs', oL', hL', hg, ok'⟩, Nat.zero_le _, ff_keep I.ff fun b hb o e => kp _ _ (nm2 (O.nf b hb).1 (O.nf b hb).2.2.2) e, fun b o e => kp b o (nm2 ?_ ?_) (I.st b o e)⟩)
    · exact fun z => by have := n0 i (.head _); rw [← z, e] at this; cases this
    · exact fun z => by have := n0 Lg (.tail _ (.tail _ (.tail _ (.head _)))); rw [← z, e] at this; cases this
  · intro h' tk gens e a0 Bx el go kb fl up
    obtain ⟨ob, hob, hobc⟩ := fl.there
    refine wpAny_bind (wpAny_isInstance (T := "StopIteration") (b := true) ⟨ob, hob, hobc⟩ isSubtype_stop ?_)
    refine wpAny_pure (hstop h' tk gens el ⟨fun b o e n1 n2 _ => fl.1 _ _ (kb b o e n1 n2), up, ?_, go⟩)
    refine funFrames_base (fun b o e => kb b o (I.st b o e) (nm2 ?_ ?_) fun hm => ?_) fl.2.2.1
    · exact fun z => by have := n0 i (.head _); rw [← z, e] at this; cases this
    · exact fun z => by have := n0 Lg (.tail _ (.tail _ (.tail _ (.head _)))); rw [← z, e] at this; cases this
    · rw [(I.ff.mem hm).1] at e; cases e
theorem Took.after {i Lg : Addr} {gi : Nat} {X : List Addr} {h₁ h' : Heap} {tk : Nat} {gens₁ gens : Array GenState} (k : Took h₀ i Lg gi fr X { s with heap := h₁, toks := tk, gens := gens₁ } h' gens) (kp : ∀ b o, s.heap.get? b = some o → b ∉ [i, Lg] → b ∉ X → h₁.get? b = some o) (hnf : ∀ b ∈ frs fr, b ∉ [i, Lg] ∧ b ∉ X)
    (go : GenOnlyQ gi s.gens gens₁) : Took h₀ i Lg gi fr X s h' gens :=
  ⟨fun b o e n1 n2 n3 => k.keep b o (kp b o e n1 n3) n1 n2 n3, fun b hb o e hn => k.up b hb o (kp b o e (hnf b hb).1 (hnf b hb).2) hn, k.ff, go.trans k.gens⟩
theorem IslAt.keep {i di G Lg : Addr} {gi : Nat} {nm qn : Value} {full l : List Str} {k tk : Nat} {h' : Heap} (I : IslAt prog w h₀ i di G Lg gi nm qn full fr l k s) (kp : ∀ b o, b ∈ [i, di, G, Lg] ∨ b ∈ frs fr → s.heap.get? b = some o → h'.get? b = some o) (st : h₀.StaysIn h') : IslAt prog w h₀ i di G Lg gi nm qn full fr l k { s with heap := h', toks := tk } := by
  obtain ⟨nx, ta, tb, tc, td, ho⟩ := I.obj
  obtain ⟨gs, oL, hL, hgs, ok⟩ := I.ok
  exact ⟨⟨nx, ta, tb, tc, td, kp _ _ (.inl (.head _)) ho⟩, kp _ _ (.inl (.tail _ (.head _))) I.dict, kp _ _ (.inl (.tail _ (.tail _ (.head _)))) I.gen, ⟨gs, oL, kp _ _ (.inl (.tail _ (.tail _ (.tail _ (.head _))))) hL, hgs, ok⟩, I.kl, ff_keep I.ff fun b hb o e => kp b o (.inr hb) e, st⟩
theorem ext_loop {i di G Lg S : Addr} {gi : Nat} {nm qn res : Value} {full : List Str} (X : (hz.heap_251 w.params).In h₀) (T : Top p₀ loose mean mg mb h₀) (O : IslOff h₀ i di G Lg fr) (hS : ∀ b ∈ [i, di, G, Lg], @Ne Nat S b) (hSf : S ∉ frs fr) (hS0 : h₀.get? S = none) (hd : dp + 50 < 900) (hun : un + 70 < 8000) :
    ∀ (n : Nat) (l : List Str) (k : Nat) (acc : List Value) (c : Nat) (s : Shared) (R : Result → Shared → Prop), (l.drop k).length = n → acc.length + n ≤ 1000 → IslAt prog w h₀ i di G Lg gi nm qn full fr l k s → s.heap.get? S = some (W.listOf acc.toArray c) →
      (∀ h' tk gens (ts : List (Str × Nat)) c', ts.map (·.1) = l.drop k → Took h₀ i Lg gi fr [S] s h' gens → h'.get? S = some (W.listOf (acc ++ ts.map sv).toArray c') → R (.ok (.ret res)) { s with heap := h', toks := tk, gens := gens }) →
      codeAny (model prog w) (Ar dp un gd fr) (.builtin "list.extend.loop" ⟨[.ref S, .ref i, res], []⟩) R s := by
  intro n
  induction n with
  | zero =>
    intro l k acc c s R hn hz I hA hR
    refine codeAny_builtin PySem.F.entry_extend_loop ?_
    rw [Around.under_plainId PySem.F.plain_extend_loop _]
    show wpAny _ (Ar dp (un + 1) gd fr) (pyNext (.ref i) >>= _) _ _ s
    refine wpAny_bind (isl_pyNext X T O I hd (by omega) ?_ ?_)
    · intro a as h' tk gens t el
      rw [el] at hn; cases hn
    · intro h' tk gens el k'
      refine wpAny_pure (hR h' tk gens [] c el.symm ⟨fun b o e n1 n2 _ => k'.keep b o e n1 n2 nm0, k'.up, k'.ff, k'.gens⟩ ?_)
      rw [List.map_nil, List.append_nil]
      exact k'.keep _ _ hA (nm2 (hS _ (.head _)) (hS _ (.tail _ (.tail _ (.tail _ (.head _)))))) hSf nm0
  | succ n ih =>
    intro l k acc c s R hn hz I hA hR
    refine codeAny_builtin PySem.F.entry_extend_loop ?_
    rw [Around.under_plainId PySem.F.plain_extend_loop _]
    show wpAny _ (Ar dp (un + 1) gd fr) (pyNext (.ref i) >>= _) _ _ s
    refine wpAny_bind (isl_pyNext X T O I hd (by omega) ?_ ?_)
    · intro a as h' tk gens t el kp go I'
      have hA' := kp _ _ (nm2 (hS _ (.head _)) (hS _ (.tail _ (.tail _ (.tail _ (.head _)))))) hA
      show wpAny _ (Ar dp (un + 1) gd fr) (updateSeq S (·.push (.str a t)) >>= _) _ _ _
      refine wpAny_bind ?_
      have other : ∀ b o, b ≠ S → h'.get? b = some o → (h'.update S (Obj.mapSeq (·.push (.str a t)))).get? b = some o := fun b o hb e => (Heap.get?_update_other _ _ (Ne.symm hb)).trans e
      refine wpAny_updateSeq hA' rfl (wpAny_pure ⟨plainId_quiet PySem.F.plain_extend_loop _, ih as 0 (acc ++ [.str a t]) (c + 1) _ R (by rw [el] at hn; exact Nat.succ.inj hn) (by rw [List.length_append, List.length_singleton]; omega) (I'.keep (fun b o hb e => other b o (fun z => ?_) e) fun b o e => other b o (fun z => by rw [z, hS0] at e; cases e) (I'.st b o e)) ?_ ?_⟩)
        ?_ ?_
      · rcases hb with hb | hb
        · exact hS b hb z.symm
        · exact hSf (z ▸ hb)
      · rw [Heap.get?_update_self _ hA' rfl]; have q := mapSeq_push acc.toArray c (.str a t) none #[]; rw [List.push_toArray] at q; exact congrArg some q
      · intro h2 tk2 gens2 ts c' ets k2 hS2
        refine hR h2 tk2 gens2 ((a, t) :: ts) c' (by rw [List.map_cons, ets, el]; rfl) (Took.after k2 (fun b o e n1 n3 => other b o (fun z => n3 (z ▸ .head _)) (kp b o n1 e)) (fun b hb => ⟨nm2 (O.nf b hb).1 (O.nf b hb).2.2.2, nm1 fun z => hSf (z ▸ hb)⟩) go) ?_
        rw [List.map_cons]; rw [List.append_assoc] at hS2; exact hS2
      · rw [List.size_toArray, sizeLine_eq]; omega
      · show (acc.toArray.push _).size ≤ _; rw [Array.size_push, List.size_toArray, sizeLine_eq]; omega
    · intro h' tk gens el
      rw [el] at hn; cases hn
end
end Mine
end

section
open PySem PySem.W PyProof.Rows PySem.Calls 
namespace Mine
section
variable {prog : Program} {w : World} {p₀ : Program} {loose : List Str} {mean : ExcName → Option Value} {mg mb : Str → Option Value} {h₀ : Heap} {s : Shared} 
  {dp un : Nat} {gd : Option (List Code)} {fr : List Env} {R : Result → Shared → Prop}
theorem weakC {A : Around} {c : Code} (h : codeAny (model prog w) (Aw dp un) c R s) (hh : A.handled = none) (hd : A.depth ≤ dp) (hu : A.units ≤ un) : codeAny (model prog w) A c R s :=
  fun Γ p hc hΓ => h Γ p hc ⟨hΓ.1.trans hh, Nat.le_trans hΓ.2.1 hd, fun l q => (nomatch q), fun l q => (nomatch q), Nat.le_trans hΓ.2.2.2.2 hu⟩
theorem isl_iter {i : Addr} (X : (hz.heap_251 w.params).In s.heap) (T : Top p₀ loose mean mg mb s.heap) (hd : dp < recursionLimit)
    (hret : ∀ h' tk', Keep [] s.heap h' → R (.ok (.ret (.ref i))) { s with heap := h', toks := tk' }) :
    codeAny (model prog w) (Aw dp un) (.call (.ref 57) ⟨[.ref i], []⟩) R s := by
  refine enterW X T hd (ko57 _) (by k_is) (binds := [("self", .ref i)]) (BindsTo.of_eq rfl) (locs rfl) ?_ (by decide) rfl rfl rfl
  intro L' h₁ tk hL F'
  have N' := nNil (h₀ := s.heap) (L := L') (h := h₁)
  conv in execs _ _ => arg 1; whnf
  k_steps
  rename Fr s.heap L' _ _ => F1
  exact hret _ _ (fun b o _ e => F1.keep b o e)
theorem isl_extend {i di G Lg S L : Addr} {gi : Nat} {nm qn res : Value} {full l : List Str} {k : Nat} {m : Str → Option Value} (X : (hz.heap_251 w.params).In h₀) (T : Top p₀ loose mean mg mb h₀) (F : Fr h₀ L s.heap m) (O : IslOff h₀ i di G Lg fr) (I : IslAt prog w h₀ i di G Lg gi nm qn full fr l k s)
    (hS : ∀ b ∈ [i, di, G, Lg], @Ne Nat S b) (hSf : S ∉ frs fr) (hS0 : h₀.get? S = none) (hSL : S ≠ L) (hd : dp + 50 < 900) (hun : un + 80 < 8000) (hlen : l.length ≤ 1000) (hA : s.heap.get? S = some (W.listOf #[] 0))
    (hR : ∀ h' tk gens (ts : List (Str × Nat)) c', ts.map (·.1) = l.drop k → Took h₀ i Lg gi fr [S] s h' gens → h'.get? S = some (W.listOf (ts.map sv).toArray c') → R (.ok (.ret res)) { s with heap := h', toks := tk, gens := gens }) :
    wpAny (model prog w) (Ar dp (un + 1) gd fr) (Builtin.List.listExtendWith (.ref S) (.ref i) res)
      (fun fin s' => match fin with | .done f => R (.ok f) s' | .again c' => c'.quiet = true ∧ codeAny (model prog w) (Ar dp un gd fr) c' R s') (fun e s' => R (.error e) s') s := by
  obtain ⟨nx, ta, tb, tc, td, ho⟩ := I.obj
  have IA : ∀ h', (∀ b o, b ∈ [i, di] → s.heap.get? b = some o → h'.get? b = some o) → InstAt h' i (islObj di (.int (nx - k) ta) (.ref G) (.int nx tb) (.int 1 tc) (.int (-1) td)) 68 (some emptyDict) := fun h' kp => ⟨kp _ _ (.head _) ho, rfl, rfl, kp _ _ (.tail _ (.head _)) I.dict⟩
  have IA0 := IA s.heap fun _ _ _ e => e
  unfold Builtin.List.listExtendWith
  refine wpAny_bind (IA0.type.here ?_)
  have h1 : Builtin.List.listSameRef (.ref S) (.ref i) = false := by simp [Builtin.List.listSameRef]; exact hS _ (.head _)
  have h2 : (Value.ref 68 == Value.type "list") = false := by decide
  have h3 : (Value.ref 68 == Value.type "tuple") = false := by decide
  simp only [h1, h2, h3, Bool.or_false, Bool.false_eq_true, if_false]
  refine wpAny_bind (owit_iter (K := hz.heap_251 w.params) (f := 57) F X IA0 (by k_is) (by k_is) (wpAny_call (weakC (dp := dp) (un := un + 1) (isl_iter (X.keeps I.st) (T.keeps I.st) (by rw [show recursionLimit = 1000 from rfl]; omega) ?_) rfl (Nat.le_refl _) (Nat.le_refl _))))
  intro h' tk' k0
  have F' := frKept' F k0 (fun _ h => nomatch h)
  have kp' : ∀ b o, s.heap.get? b = some o → h'.get? b = some o := fun b o e => k0 b o nm0 e
  have IA' := IA h' fun b o _ e => kp' b o e
  refine owit_it (K := hz.heap_251 w.params) (g := .ref 64) F' X IA' (by k_is) ?_
  refine wpAny_bind (wpAny_holding ?_)
  unfold Builtin.List.listLengthHint
  refine wpAny_bind (wpAny_bind (IA'.type.here ((looks_findIn (X.keeps F'.keep) (r := none) (by k_is)).here ?_)))
  show wpAny _ (Ar dp (un + 1) gd fr) (specialOf (Value.ref i) (Str.ofString "__length_hint__") >>= _) _ _ _
  refine wpAny_bind (wpAny_bind (IA'.type.here ((looks_findIn (X.keeps F'.keep) (r := none) (by k_is)).here ?_)))
  refine wpAny_pure ?_
  show wpAny _ (Ar dp (un + 1) gd fr) (rule "list.extend.makes-room" >>= fun _ => Builtin.List.listTouch (.ref S) >>= fun _ =>
    again (.builtin "list.extend.loop" ⟨[.ref S, .ref i, res], []⟩)) _ _ _
  refine wpAny_bind (wpAny_rule ?_)
  refine wpAny_bind ?_
  show wpAny _ (Ar dp (un + 1) gd fr) (updateSeq S (·.push .none) >>= fun _ => updateSeq S (·.pop)) _ _ _
  have hA' := kp' _ _ hA
  refine wpAny_bind (wpAny_updateSeq hA' rfl ?_)
  have hS₂ := Heap.get?_update_self (Obj.mapSeq (·.push Value.none)) hA' rfl
  refine wpAny_updateSeq (hz := by seq_fits) hS₂ rfl ?_
  have hS₃ := Heap.get?_update_self (Obj.mapSeq (·.pop)) hS₂ rfl
  have oth : ∀ b o, b ≠ S → h'.get? b = some o → ((h'.update S (Obj.mapSeq (·.push Value.none))).update S (Obj.mapSeq (·.pop))).get? b = some o :=
    fun b o hb e => (Heap.get?_update_other _ _ (Ne.symm hb)).trans ((Heap.get?_update_other _ _ (Ne.symm hb)).trans e)
  refine wpAny_pure ⟨plainId_quiet PySem.F.plain_extend_loop _, ext_loop X T O hS hSf hS0 hd (by omega) _ l k [] 2 _ R rfl (by rw [List.length_drop, List.length_nil]; omega) (I.keep (fun b o hb e => oth b o (fun z => ?_) (kp' b o e)) fun b o e => oth b o (fun z => by rw [z, hS0] at e; cases e) (kp' _ _ (I.st b o e))) hS₃ ?_⟩
  · rcases hb with hb | hb
    · exact hS b hb z.symm
    · exact hSf (z ▸ hb)
  · intro h2 tk2 gens ts c' ets k2 hS2
    exact hR h2 tk2 gens ts c' ets (Took.after k2 (fun b o e n1 n3 => oth b o (fun z => n3 (z ▸ .head _)) (kp' b o e)) (fun b hb => ⟨nm2 (O.nf b hb).1 (O.nf b hb).2.2.2, nm1 fun z => hSf (z ▸ hb)⟩) (.inl rfl)) hS2
end
end Mine
end

section
open PySem PySem.W PyProof.Rows PySem.Calls 
namespace Mine
section
variable {prog : Program} {w : World} {p₀ : Program} {loose : List Str} {mean : ExcName → Option Value} {mg mb : Str → Option Value} {h₀ : Heap} {s : Shared} 
  {dp un : Nat} {gd : Option (List Code)} {fr : List Env} {R : Result → Shared → Prop}
theorem isl_new {i di G Lg L : Addr} {gi : Nat} {nm qn : Value} {full l : List Str} {k : Nat} {m : Str → Option Value} (F : Fr h₀ L s.heap m) (I : IslAt prog w h₀ i di G Lg gi nm qn full fr l k s) :
    (∀ b ∈ [i, di, G, Lg], @Ne Nat s.heap.objs.size b) ∧ s.heap.objs.size ∉ frs fr ∧ h₀.get? s.heap.objs.size = none ∧ s.heap.objs.size ≠ L := by
  obtain ⟨nx, ta, tb, tc, td, ho⟩ := I.obj
  obtain ⟨gs, oL, hL, hgs, ok⟩ := I.ok
  have e0 := fresh_none (env := { (default : Env) with locals := L }) (s := s) F noneAt
  refine ⟨forall_cons (neNone noneAt ho) (forall_cons (neNone noneAt I.dict) (forall_cons (neNone noneAt I.gen) (forall_cons (neNone noneAt hL) (fun _ h => nomatch h)))), fun hm => ?_, e0.2, e0.1⟩
  obtain ⟨_, o, ho, _⟩ := I.ff.mem hm
  rw [noneAt] at ho; cases ho
theorem isl_list {i di G Lg L : Addr} {gi : Nat} {nm qn : Value} {full l : List Str} {k : Nat} {m : Str → Option Value} {Q : Value → Shared → Prop} {E : Value → Shared → Prop} (X : (hz.heap_251 w.params).In h₀) (T : Top p₀ loose mean mg mb h₀) (F : Fr h₀ L s.heap m) (O : IslOff h₀ i di G Lg fr) (I : IslAt prog w h₀ i di G Lg gi nm qn full fr l k s)
    (hd : dp + 50 < 900) (hun : un + 90 < 8000) (hlen : l.length ≤ 1000)
    (hQ : ∀ h' tk gens S (ts : List (Str × Nat)) c', ts.map (·.1) = l.drop k → s.heap.get? S = none → Took h₀ i Lg gi fr [] s h' gens → h'.get? S = some (W.listOf (ts.map sv).toArray c') → Q (.ref S) { s with heap := h', toks := tk, gens := gens }) :
    wpAny (model prog w) (Ar dp un gd fr) (call (.type "list") [.ref i]) Q E s := by
  obtain ⟨n1, n2, n3, n4⟩ := isl_new F I
  have up : ∀ b o, s.heap.get? b = some o → (s.heap.push { cls := .type "list", data := .seq #[] }).get? b = some o := fun b o e => Heap.get?_push_of_some _ e
  refine callType_codes (Q₁ := fun obj s₁ => obj = .ref s.heap.objs.size ∧ s₁ = { s with heap := s.heap.push { cls := .type "list", data := .seq #[] } }) PySem.F.called_list (PySem.F.typeCall_list_1 _) PySem.F.entry_list_init
    (code_list_new _ ⟨rfl, rfl⟩) fun obj s₁ h₁ => ?_
  obtain ⟨rfl, rfl⟩ := h₁
  have hS : (s.heap.push { cls := .type "list", data := .seq #[] }).get? s.heap.objs.size = some { cls := .type "list", data := .seq #[] } := Heap.get?_push_size _ rfl
  refine ⟨⟨_, hS, rfl⟩, PySem.F.args_list_init_2 _ _, ?_⟩
  show wpAny _ (Ar dp (un + 1 + 1) gd fr) (do let old ← Builtin.List.listItems (.ref s.heap.objs.size); Builtin.List.listUpdate (.ref s.heap.objs.size) (fun _ => #[]); letGo old.toList.reverse; Builtin.List.listExtendWith (.ref s.heap.objs.size) (.ref i) .none) _ _ _
  refine wpAny_bind ?_
  unfold Builtin.List.listItems
  refine wpAny_bind (wpAny_seqItems hS rfl (wpAny_pure ?_))
  show wpAny _ (Ar dp (un + 1 + 1) gd fr) (updateSeq s.heap.objs.size (fun _ => #[]) >>= fun _ => letGo (#[] : Array Value).toList.reverse >>= fun _ => Builtin.List.listExtendWith (.ref s.heap.objs.size) (.ref i) .none) _ _ _
  refine wpAny_bind (wpAny_updateSeq hS rfl ?_)
  have hS₂ := Heap.get?_update_self (Obj.mapSeq (fun _ => (#[] : Array Value))) hS rfl
  have oth : ∀ b o, s.heap.get? b = some o → ((s.heap.push { cls := .type "list", data := .seq #[] }).update s.heap.objs.size (Obj.mapSeq (fun _ => (#[] : Array Value)))).get? b = some o :=
    fun b o e => (Heap.get?_update_other _ _ (fun z : s.heap.objs.size = b => by rw [← z, noneAt] at e; cases e)).trans (up b o e)
  refine wpAny_bind (wpAny_letGo ?_)
  refine isl_extend (un := un + 1) (L := L) (m := m) X T ⟨F.ns.at' (oth L), fun b o e => oth b o (F.keep b o e), F.above⟩ O (I.keep (fun b o _ e => oth b o e) fun b o e => oth b o (I.st b o e)) n1 n2 n3 n4 hd (by omega) hlen hS₂ ?_
  intro h2 tk2 gens ts c' ets k2 hS3
  exact ⟨rfl, hQ h2 tk2 gens _ ts c' ets noneAt ⟨fun b o e n1 n2 _ => k2.keep b o (oth b o e) n1 n2 (nm1 fun z => by rw [z, noneAt] at e; cases e), fun b hb o e hn => k2.up b hb o (oth b o e) hn, k2.ff, k2.gens⟩ hS3⟩
theorem isl_iadd {i di G Lg S L : Addr} {gi : Nat} {nm qn : Value} {full l : List Str} {k : Nat} {m : Str → Option Value} (X : (hz.heap_251 w.params).In h₀) (T : Top p₀ loose mean mg mb h₀) (F : Fr h₀ L s.heap m) (O : IslOff h₀ i di G Lg fr) (I : IslAt prog w h₀ i di G Lg gi nm qn full fr l k s)
    (hS : ∀ b ∈ [i, di, G, Lg], @Ne Nat S b) (hSf : S ∉ frs fr) (hS0 : h₀.get? S = none) (hSL : S ≠ L) (hd : dp + 50 < 900) (hun : un + 80 < 8000) (hz : l.length ≤ 1000) (hA : s.heap.get? S = some (W.listOf #[] 0))
    (hR : ∀ h' tk gens (ts : List (Str × Nat)) c', ts.map (·.1) = l.drop k → Took h₀ i Lg gi fr [S] s h' gens → h'.get? S = some (W.listOf (ts.map sv).toArray c') → R (.ok (.ret (.ref S))) { s with heap := h', toks := tk, gens := gens }) :
    codeAny (model prog w) (Ar dp un gd fr) (.builtin "list.__iadd__" ⟨[.ref S, .ref i], []⟩) R s := by
  refine codeAny_builtin PySem.F.entry_list_iadd ?_
  rw [Around.under_plainId PySem.F.plain_list_iadd _]
  exact isl_extend X T F O I hS hSf hS0 hSL hd hun hz hA hR
theorem isl_collect {i di G Lg L : Addr} {gi : Nat} {nm qn : Value} {full l : List Str} {k : Nat} {m : Str → Option Value} {Q : List Value → Shared → Prop} {E : Value → Shared → Prop} (X : (hz.heap_251 w.params).In h₀) (T : Top p₀ loose mean mg mb h₀) (F : Fr h₀ L s.heap m) (O : IslOff h₀ i di G Lg fr) (I : IslAt prog w h₀ i di G Lg gi nm qn full fr l k s)
    (hd : dp + 50 < 900) (hun : un + 90 < 8000) (hlen : l.length ≤ 1000)
    (hQ : ∀ h' tk gens (ts : List (Str × Nat)), ts.map (·.1) = l.drop k → Took h₀ i Lg gi fr [] s h' gens → Q (ts.map sv) { s with heap := h', toks := tk, gens := gens }) :
    wpAny (model prog w) (Ar dp un gd fr) (collect (.ref i)) Q E s := by
  obtain ⟨n1, n2, n3, n4⟩ := isl_new F I
  have up : ∀ b o, s.heap.get? b = some o → (s.heap.push { cls := .type "list", data := .seq ([] : List Value).toArray }).get? b = some o := fun b o e => Heap.get?_push_of_some _ e
  unfold collect
  refine wpAny_bind (wpAny_runValue (codeAny_builtin PySem.F.entry_proto_collect ?_))
  rw [Around.under_plainId PySem.F.plain_proto_collect _]
  show wpAny _ (Ar dp (un + 1) gd fr) (newList [] >>= fun l => again (.builtin "list.__iadd__" ⟨[l, .ref i], []⟩)) _ _ s
  refine wpAny_bind (wpAny_newObj_type ?_)
  refine wpAny_pure ⟨plainId_quiet PySem.F.plain_list_iadd _, isl_iadd (L := L) (m := m) X T ⟨F.ns.at' (up L), fun b o e => up b o (F.keep b o e), F.above⟩ O (I.keep (fun b o _ e => up b o e) fun b o e => up b o (I.st b o e)) n1 n2 n3 n4 hd (by omega) hlen (Heap.get?_push_size _ rfl) ?_⟩
  intro h2 tk2 gens ts c' ets k2 hS3
  show wpAny _ (Ar dp un gd fr) (load s.heap.objs.size >>= _) _ _ _
  refine wpAny_bind (wpAny_load hS3 ?_)
  refine wpAny_pure (hQ h2 tk2 gens ts ets ⟨fun b o e n1 n2 _ => k2.keep b o (up b o e) n1 n2 (nm1 fun z => by rw [z, noneAt] at e; cases e), fun b hb o e hn => k2.up b hb o (up b o e) hn, k2.ff, k2.gens⟩)
end
end Mine
end

section
open PySem PySem.W PyProof.Rows PySem.Calls 
namespace Mine
theorem slot_li_ga : Slot "list_iterator" "__getattribute__" "object.__getattribute__" :=
  .of (owner := "object") (n := "__getattribute__") (by rw [typeLookup_type, builtinLookup_eq_fast]; kernel_rfl) (by decide +kernel) (by decide +kernel) (by decide +kernel)
    (by first | exact .inl (by decide +kernel) | exact .inr (by decide +kernel)) (by rw [isSubtype_type]; kernel_rfl)
theorem slot_wd_get : Slot "wrapper_descriptor" "__get__" "wrapper_descriptor.__get__" :=
  .of (owner := "wrapper_descriptor") (n := "__get__") (by rw [typeLookup_type, builtinLookup_eq_fast]; kernel_rfl) (by decide +kernel) (by decide +kernel) (by decide +kernel)
    (by first | exact .inl (by decide +kernel) | exact .inr (by decide +kernel)) (by rw [isSubtype_type]; kernel_rfl)
theorem entry_wd_get : entryFor table "wrapper_descriptor.__get__" = some Builtin.«wrapper_descriptor.__get__» := entryFor_of_tree (by kernel_rfl)
theorem args_wd_get (a b c : Value) : argsOk "wrapper_descriptor.__get__" ⟨[a, b, c], []⟩ := by unfold argsOk; kernel_rfl
theorem li_nx : typeLookup (.type "list_iterator") "__next__" = pure (some (.builtin "list_iterator.__next__")) := by rw [typeLookup_type, builtinLookup_eq_fast]; kernel_rfl
theorem li_ty : typeOf (.builtin "list_iterator.__next__") = pure (.type "wrapper_descriptor") := by kernel_rfl
theorem wd_set : typeLookup (.type "wrapper_descriptor") "__set__" = pure none := by rw [typeLookup_type, builtinLookup_eq_fast]; kernel_rfl
theorem wd_del : typeLookup (.type "wrapper_descriptor") "__delete__" = pure none := by rw [typeLookup_type, builtinLookup_eq_fast]; kernel_rfl
theorem owner_li : (".".intercalate ("list_iterator.__next__".cutAt '.').dropLast) = "list_iterator" := by
  have e0 : "list_iterator.__next__".cutAt '.' = ["list_iterator", "__next__"] := by first | rfl | decide +kernel
  rw [e0]; decide +kernel
theorem sub_li : isSubtype (.type "list_iterator") (.type (".".intercalate ("list_iterator.__next__".cutAt '.').dropLast)) = pure true := by
  rw [owner_li, isSubtype_type]; kernel_rfl
theorem entry_obj_ga : entryFor table "object.__getattribute__" = some Builtin.«object.__getattribute__» := entryFor_of_tree (by kernel_rfl)
theorem args_obj_ga (a b : Value) : argsOk "object.__getattribute__" ⟨[a, b], []⟩ := by unfold argsOk; kernel_rfl
section
variable {prog : Program} {w : World} {A : Around} {E : Value → Shared → Prop} {h : Heap} {g : Array GenState} {d : Drawn} {t : Nat} {os : OsState} {a : Addr} {o : Obj}
theorem li_by {tk : Tok} {Q : Value → Shared → Prop} {l : Addr} {k : Nat} (hx : h.get? a = some { cls := .type "list_iterator", data := .fields #[.ref l, .int k 0] }) (hq : Q (.ref h.objs.size) ⟨h.push { cls := .type "method-wrapper", data := .fields #[.builtin "list_iterator.__next__", .ref a] }, g, d, t, os⟩) : wpAny (model prog w) A (getAttrBy (.ref a) (.str "__next__" tk) true true) Q E ⟨h, g, d, t, os⟩ := by
  have hT : (⟨h, g, d, t, os⟩ : Shared).TypeIs (.ref a) "list_iterator" := ⟨_, hx, rfl⟩
  have f2 := slot_li_ga.lookup
  have f3 := slot_li_ga.bind (.ref a)
  repeat (any_goals (first | assumption | wp_step))
  refine codeAny_call_builtin slot_li_ga.plain entry_obj_ga (slot_li_ga.check _ _ _ _ _ _ _ _ hT (args_obj_ga _ _) ?_)
  have f4 := li_nx
  have f5 := li_ty
  have f6 := slot_wd_get.lookup
  have f7 := wd_set
  have f8 := wd_del
  repeat (any_goals (first | assumption | wp_step))
  have f9 := sub_li
  have hT5 : (⟨h, g, d, t, os⟩ : Shared).TypeIs (.builtin "list_iterator.__next__") "wrapper_descriptor" := li_ty
  refine codeAny_call_builtin slot_wd_get.plain entry_wd_get (slot_wd_get.check _ _ _ _ _ _ _ _ hT5 (args_wd_get _ _ _) ?_)
  repeat (any_goals (first | assumption | wp_step))
theorem li_attr {s : Shared} {Q : Value → Shared → Prop} {l : Addr} {k : Nat} (hx : s.heap.get? a = some { cls := .type "list_iterator", data := .fields #[.ref l, .int k 0] })
    (hq : Q (.ref s.heap.objs.size) { s with heap := s.heap.push { cls := .type "method-wrapper", data := .fields #[.builtin "list_iterator.__next__", .ref a] }, toks := s.toks + 1 }) : wpAny (model prog w) A (getAttr (.ref a) "__next__" true) Q E s := by
  unfold getAttr
  exact wpAny_bind (wpAny_mkText (li_by hx hq))
end
end Mine
end

section
open PySem PySem.W PyProof.Rows PySem.Calls 
namespace Mine
noncomputable abbrev liO (l : Addr) (k : Nat) : Obj := { cls := .type "list_iterator", data := .fields #[.ref l, .int k 0] }
noncomputable abbrev mwO (it : Addr) : Obj := { cls := .type "method-wrapper", data := .fields #[.builtin "list_iterator.__next__", .ref it] }
section
variable {prog : Program} {w : World} {A : Around} {E : Value → Shared → Prop} {s : Shared}
theorem ifSo {α : Type} {c : Prop} [Decidable c] {t e : Sem α} {Q : α → Shared → Prop} (hc : c) (h : wpAny (model prog w) A t Q E s) : wpAny (model prog w) A (if c then t else e) Q E s := by rw [if_pos hc]; exact h
theorem check_mw (it : Addr) : checkBoundCall "list_iterator.__next__" ⟨[.ref it], []⟩ = pure () := by first | kernel_rfl | rfl
theorem mw_call {x it l : Addr} {k n : Nat} {vs : List Value} {Q : Value → Shared → Prop} (hh : A.handled = none) (ho : s.heap.get? x = some (mwO it)) (hit : s.heap.get? it = some (liO l k)) (hl : s.heap.get? l = some (W.listOf vs.toArray n))
    (hitem : ∀ v, vs[k]? = some v → ∀ h', Keep [it] s.heap h' → h'.get? it = some (liO l (k + 1)) → Q v { s with heap := h' })
    (hend : vs[k]? = none → ∀ h1 h' e, Keep [it] s.heap h1 → NewE h1 h' e "StopIteration" → E (.ref e) { s with heap := h' }) :
    wpAny (model prog w) A (call (.ref x) []) Q E s := by
  have up : ∀ (f : Obj → Obj), Keep [it] s.heap (s.heap.update it f) := fun f b o nb e => (Heap.get?_update_other _ _ (fun z : it = b => nb (z ▸ .head _))).trans e
  refine wpAny_call (codeAny_of_tree ?_)
  show wpAny _ A.in1 (callAny (.ref x) ⟨[], []⟩) _ _ s
  simp only [callAny]
  refine wpAny_bind (wpAny_load ho ?_)
  simp only [show (Value.type "method-wrapper" == Value.type "method" || Value.type "method-wrapper" == Value.type "builtin_function_or_method" || Value.type "method-wrapper" == Value.type "method-wrapper") = true by decide, if_true]
  refine ifSo (c := (Value.type "method-wrapper" != Value.type "method") = true) (by decide) ?_
  refine wpAny_bind (wpAny_of_eq (a := ()) (check_mw it) ?_)
  refine wpAny_bind (wpAny_pure (wpAny_pure ?_))
  refine ⟨Code.quiet_builtin _ (by decide +kernel), codeAny_builtin entry_listiter_next ?_⟩
  rw [Around.under_plainId slot_listiter_next.plain _]
  show wpAny _ _ (field (.ref it) 0 >>= _) _ _ s
  refine wpAny_bind (wpAny_field hit rfl (x := .ref l) rfl ?_)
  show wpAny _ _ (if (Value.ref l == Value.none) = true then _ else _) _ _ s
  rw [if_neg (show ¬ ((Value.ref l == Value.none) = true) from Bool.false_ne_true)]
  show wpAny _ _ (field (.ref it) 1 >>= _) _ _ s
  refine wpAny_bind (wpAny_field hit rfl (x := .int k 0) rfl ?_)
  show wpAny _ _ (seqItems? (.ref l) >>= _) _ _ s
  refine wpAny_bind (wpAny_seqItems hl rfl ?_)
  cases hx : vs[k]? with
  | some v =>
    simp only [Int.toNat_natCast, List.getElem?_toArray, hx]
    refine wpAny_bind (wpAny_setField hit rfl (by simp) (wpAny_pure (hitem v hx _ (up _) ?_)))
    rw [Heap.get?_update_self _ hit rfl]; rfl
  | none =>
    simp only [Int.toNat_natCast, List.getElem?_toArray, hx]
    refine wpAny_bind (wpAny_rule (wpAny_bind (wpAny_setField hit rfl (by simp) ?_)))
    show wpAny _ _ (newExc (.type "StopIteration") [] >>= _) _ _ _
    refine wpAny_bind ?_
    simp only [newExc, newTuple]
    refine wpAny_bind (wpAny_newObj_type ?_ (by size_fits))
    refine wpAny_bind (m := firstArgMember _ _) (wpAny_of_eq (a := Value.none) (by first | rfl | (simp only [firstArgMember]; rfl)) ?_)
    refine wpAny_newObj_type ?_ (by size_fits)
    simp only [raiseNew]
    refine wpAny_bind (wpAny_handled ?_)
    rw [show A.in1.handled = none from hh]
    refine wpAny_bind (wpAny_pure (wpAny_throw ?_))
    refine hend hx (s.heap.update it _) _ _ (up _) ⟨fun b o e => Heap.get?_push_of_some _ (Heap.get?_push_of_some _ e), ?_, _, _, _, Heap.get?_push_size _ rfl, rfl, rfl, rfl, rfl⟩
    generalize hH : s.heap.update it _ = H
    cases q : H.get? (H.push { cls := .type "tuple", data := .seq #[] }).objs.size with
    | none => rfl
    | some o => exact absurd (Heap.lt_size (Heap.get?_push_of_some { cls := .type "tuple", data := .seq #[] } q)) (Nat.lt_irrefl _)
end
end Mine
end

section
open PySem PySem.W PyProof.Rows PySem.Calls 
namespace Mine
local macro_rules | `(tactic| k_ne) => `(tactic| (refine neN ?_; (try dsimp only); first | assumption | (refine Ne.symm ?_; assumption)))
theorem meets_bool_list (l : Addr) (items : Array Value) (hfit : (items.size : Int) < 2 ^ 63) :
    Meets (Builtin.«bool.__new__» ⟨[.type "bool", .ref l], []⟩) (fun _ R s => s.heap.IsList l items ∧ ∀ tk, R (.ok (.ret (.bool (!items.isEmpty)))) { s with toks := tk }) :=
  Meets.of_wp fun prog w A R s hs => by
    obtain ⟨hp, g, d, tk, os⟩ := s
    obtain ⟨hl, hq⟩ := hs
    have f1 := PySem.F.conv_sub_bool
    repeat (any_goals (first | assumption | (with_reducible refine wpAny_truthy_list hl hfit ?_) | wp_step))
    all_goals first | exact ⟨_, rfl, hq _⟩ | exact hq _ | skip
section
variable {prog : Program} {w : World} {p : Program} {loose : List Str} {mean : ExcName → Option Value} {mg mb : Str → Option Value} {h₀ : Heap} {s : Shared} 
  {dp un : Nat} {R : Result → Shared → Prop}
theorem is_active {x dx nd rd : Addr} {k1 k2 k3 k4 : Nat} {po nf : Int} {t1 t2 n : Nat} {vs : List Value} {c : Nat}
    (X : (hz.heap_251 w.params).In h₀) (T : Top p loose mean mg mb h₀) (K : h₀.StaysIn s.heap) (N : Led h₀ s.heap [(x, instObj 226 dx), (dx, sDict w k1 k2 k3 k4 nd (.ref rd) po nf t1 t2 n), (rd, W.listOf vs.toArray c)]) (hd : dp + 5 < recursionLimit) (hz : vs.length ≤ 1000)
    (hret : ∀ h' tk', Keep [] s.heap h' → R (.ok (.ret (.bool (decide (nf < po) || !vs.isEmpty)))) { s with heap := h', toks := tk' }) :
    codeAny (model prog w) (Aw dp un) (.call (.ref 195) ⟨[.ref x], []⟩) R s := by
  refine enterF X T K N (by omega) (ko195 _) (by k_is) (binds := [("self", .ref x)]) (BindsTo.of_eq rfl) (locs rfl) ?_ (by decide) rfl rfl rfl
  intro g L' h₁ tk hL F' N' X' T' hlt hg
  conv in execs _ _ => arg 1; whnf
  k_steps
  · have hc : decide (nf < po) = true := decide_eq_true (by omega)
    rename Fr g L' _ _ => F1
    rename News g L' _ _ => N1
    have e : (decide (nf < po) || !vs.isEmpty) = decide (nf < po) := by rw [hc]; rfl
    show RetTo R (.ret (.bool _)) _
    rw [← e]
    exact hret _ _ (keep_of N hg F1 N1 (fun p hp => .inr hp))
  · have hc : decide (nf < po) = false := decide_eq_false (by omega)
    rename Fr g L' _ _ => F1
    rename News g L' _ _ => N1
    refine call_bool_1 (meets_bool_list rd vs.toArray (by rw [List.size_toArray]; omega)) ⟨⟨_, (N1 (rd, _) (by k_mem)).1, rfl, _, rfl⟩, fun tk => ⟨rfl, ?_⟩⟩
    have e : (decide (nf < po) || !vs.isEmpty) = !vs.toArray.isEmpty := by rw [hc, Bool.false_or, List.isEmpty_toArray]
    show RetTo R (.ret (.bool _)) _
    rw [← e]
    exact hret _ tk (keep_of N hg F1 N1 (fun p hp => .inr hp))
end
end Mine
end

section
open PySem PySem.W PyProof.Rows PySem.Calls 
namespace Mine
noncomputable def trio (j : Info) : List (Addr × Obj) := [(j.I, infoObj j), (j.D, emptyDict), (j.S, W.listOf (j.succ.map sv).toArray j.sn)]
/-- what a turn over a node leaves -/
noncomputable def TurnI {σ : Type} (g₂ : Heap) (L : Addr) (keepE : List (Addr × Obj)) (FX : σ → List (Addr × Obj) → Prop) (M : (Str → Option Value) → Prop) (B : Info → Prop) (j : Info) (res : Nd → σ → Prop) (s : Shared) (Q : Flow → Shared → Prop) (f : Flow) (s' : Shared) : Prop :=
  match f with
  | .ret v => Q (.ret v) s'
  | .brk => Q .next s'
  | _ => ∃ h' tk m' j' st' l', s' = { s with heap := h', toks := tk } ∧ Fr g₂ L h' m' ∧ M m' ∧ News g₂ L h' (keepE ++ (trio j' ++ l')) ∧ FX st' l' ∧ j'.pl = j.pl ∧ B j' ∧ res j'.abs st'
section
variable {prog : Program} {w : World} {A : Around} {E : Value → Shared → Prop} {s : Shared} {env : Env} {g : Heap} {x : Str} {body : List Stmt} {Q : Flow → Shared → Prop} {m : Str → Option Value}
theorem place_one {js : List Info} (Wf : WfI js) {j j' : Info} (hj : j ∈ js) (hp : j'.pl = j.pl) :
    ∃ f : Info → Info, SameAt f ∧ f j = j' ∧ absI (setI j.key f js) = setN j.key (fun _ => j'.abs) (absI js) := by
  have sa : SameAt fun i => if i.pl = j.pl then j' else i := fun i => by
    by_cases e : i.pl = j.pl
    · have q := hp.trans e.symm
      unfold Info.pl at q
      simp only [Prod.mk.injEq] at q
      simp only [if_pos e]; exact q
    · simp only [if_neg e]; exact ⟨trivial, trivial, trivial, trivial⟩
  refine ⟨_, sa, if_pos rfl, ?_⟩
  unfold absI setI setN; rw [List.map_map, List.map_map]
  refine List.map_congr_left fun i hi => ?_
  show Info.abs (if i.key = j.key then (if i.pl = j.pl then j' else i) else i) = if i.key = j.key then j'.abs else i.abs
  by_cases e : i.key = j.key
  · rw [if_pos e, if_pos e, Wf.key i hi j hj e, if_pos rfl]
  · rw [if_neg e, if_neg e]
theorem setN_one {js : List Info} (Wf : WfI js) {j : Info} (hj : j ∈ js) (F : Nd → Nd) : setN j.key F (absI js) = setN j.key (fun _ => F j.abs) (absI js) := by
  unfold absI setN; rw [List.map_map, List.map_map]
  refine List.map_congr_left fun i hi => ?_
  show (if i.key = j.key then F i.abs else i.abs) = if i.key = j.key then F j.abs else i.abs
  by_cases e : i.key = j.key
  · rw [if_pos e, if_pos e, Wf.key i hi j hj e]
  · rw [if_neg e, if_neg e]
theorem info_loop {σ : Type} {tp : Addr} {oA : Obj} {ps : List (Str × Nat)} {is : List Info} {l₀ : List (Addr × Obj)} {st₀ : σ} {ka : List Addr} (FX : σ → List (Addr × Obj) → Prop) (hFX : ∀ st l, FX st l → keys l = ka) (stp : Str → List Nd × σ → List Nd × σ) (M : (Str → Option Value) → Prop) (Bd : Nat → Info → Prop)
    (Wf : WfI is) (hA : s.heap.get? tp = some oA)
    (hloop : ∀ (Inv : Addr → Nat → Heap → (Str → Option Value) → Prop), (∀ I, s.heap.get? I = none → Inv I 0 s.heap m) → (∀ I i h h' m, s.heap.get? I = none → Inv I i h m → Keep [env.locals, I] h h' → Inv I i h' m) →
      (∀ I i v h tk m oI, s.heap.get? I = none → (ps.map sv)[i]? = some v → Inv I i h m → Fr g env.locals h (fun y => if y = x then some v else m y) → h.get? I = some oI → I ≠ env.locals ∧ g.get? I = none →
        wpAny (model prog w) A (execs body env) (TurnH g env.locals [I, tp] h (Inv I (i + 1)) s Q) E { s with heap := h, toks := tk }) →
      (∀ I h tk m, s.heap.get? I = none → Inv I (ps.map sv).length h m → Fr g env.locals h m → Q .next { s with heap := h, toks := tk }) →
      wpAny (model prog w) A (pyIter (.ref tp)) (fun it s₂ => LoopH prog w A g env x body Q E it s₂) E s)
    (F : Fr g env.locals s.heap m) (hM : M m) (h0 : FX st₀ l₀) (At0 : At s.heap (l₀ ++ ledI is)) (hne : ∀ a ∈ tp :: ka, a ≠ env.locals ∧ g.get? a = none) (hlt : ∀ a ∈ adI is, a < env.locals ∧ g.get? a = none)
    (hoff : ∀ a ∈ adI is, ∀ b ∈ ka, @Ne Nat a b) (hin : ∀ q ∈ ps, ∃ j ∈ is, j.key = q.1) (hB0 : ∀ j ∈ is, Bd 0 j) (hBs : ∀ k j, Bd k j → Bd (k + 1) j)
    (turn : ∀ I k p js j st l h tk m₁ oI g₂, ps[k]? = some p → plI js = plI is → (absI js, st) = (ps.take k).foldl (fun a p => stp p.1 a) (absI is, st₀) → FX st l → j ∈ js → j.key = p.1 → Bd k j → M m₁ → (∀ q ∈ (tp, oA) :: (trio j ++ l), @Ne Nat I q.1) →
      Fr g₂ env.locals h (fun y => if y = x then some (.str p.1 p.2) else m₁ y) → News g₂ env.locals h ([(I, oI), (tp, oA)] ++ (trio j ++ l)) → (∀ b o, g.get? b = some o → g₂.get? b = some o) →
      wpAny (model prog w) A (execs body env) (TurnI g₂ env.locals [(I, oI), (tp, oA)] FX M (Bd (k + 1)) j (fun n st' => stp p.1 (absI js, st) = (setN p.1 (fun _ => n) (absI js), st')) s Q) E { s with heap := h, toks := tk })
    (done : ∀ h tk m₁ js st l, plI js = plI is → (absI js, st) = ps.foldl (fun a p => stp p.1 a) (absI is, st₀) → FX st l → At h (l ++ ledI js) → (∀ j ∈ js, Bd ps.length j) → M m₁ → h.get? tp = some oA → Fr g env.locals h m₁ → Q .next { s with heap := h, toks := tk }) :
    wpAny (model prog w) A (pyIter (.ref tp)) (fun it s₂ => LoopH prog w A g env x body Q E it s₂) E s := by
  have hall : ∀ a ∈ tp :: (ka ++ adI is), a ≠ env.locals ∧ g.get? a = none := fun a ha => by
    rcases List.mem_append.mp (show a ∈ (tp :: ka) ++ adI is from ha) with h | h
    · exact hne a h
    · exact ⟨Nat.ne_of_lt (hlt a h).1, (hlt a h).2⟩
  have hex : ∀ a ∈ ka ++ adI is, ∃ o, s.heap.get? a = some o := fun a ha => by
    rcases List.mem_append.mp ha with ha | ha
    · rw [← hFX _ _ h0] at ha
      obtain ⟨q, hq, rfl⟩ := List.mem_map.mp ha
      exact ⟨_, At0 q (List.mem_append_left _ hq)⟩
    · obtain ⟨q, hq, rfl⟩ := List.mem_map.mp (keys_ledI.mpr ha)
      exact ⟨_, At0 q (List.mem_append_right _ hq)⟩
  have adr : ∀ st l js, FX st l → plI js = plI is → ∀ q ∈ l ++ ledI js, q.1 ∈ ka ++ adI is := fun st l js hf hpl q hq => by
    rcases List.mem_append.mp hq with h | h
    · exact List.mem_append_left _ (hFX _ _ hf ▸ List.mem_map_of_mem h)
    · exact List.mem_append_right _ (adI_of hpl ▸ keys_ledI.mp (List.mem_map_of_mem h))
  refine hloop (fun I k h m => ∃ js st l, plI js = plI is ∧ (absI js, st) = (ps.take k).foldl (fun a p => stp p.1 a) (absI is, st₀) ∧ FX st l ∧ At h (l ++ ledI js) ∧ h.get? tp = some oA ∧ (∀ j ∈ js, Bd k j) ∧ M m) ?_ ?_ ?_ ?_
  · exact fun I hI => ⟨is, st₀, l₀, rfl, rfl, h0, At0, hA, hB0, hM⟩
  · rintro I k h h' m' hI ⟨js, st, l, hpl, hab, hf, hAt, htp, hB, hm⟩ kp
    refine ⟨js, st, l, hpl, hab, hf, hAt.keep kp fun q hq => ?_, kp _ _ (nm2 (hall _ (.head _)).1 (neNone hI hA).symm) htp, hB, hm⟩
    have hq' := adr st l js hf hpl q hq
    obtain ⟨o, ho⟩ := hex _ hq'
    exact nm2 (hall _ (.tail _ hq')).1 (neNone hI ho).symm
  · rintro I k v h tk m₁ oI hI hv ⟨js, st, l, hpl, hab, hf, hAt, htp, hB, hm⟩ F₁ hoI hIL
    rw [List.getElem?_map] at hv
    obtain ⟨p, hp, hvp⟩ := Option.map_eq_some_iff.mp hv
    obtain rfl : Value.str p.1 p.2 = v := hvp
    obtain ⟨j0, hj0, ej0⟩ := hin p (List.mem_of_getElem? hp)
    obtain ⟨j, hj, ej⟩ := mem_pl hpl hj0
    have ejk : j.key = p.1 := (congrArg (·.1) ej).trans ej0
    have W2 := Wf.same hpl
    have offq : ∀ q ∈ (tp, oA) :: (trio j ++ l), q.1 ∈ tp :: (ka ++ adI is) := fun q hq => by
      rcases List.mem_cons.mp hq with rfl | hq
      · exact .head _
      · rcases List.mem_append.mp hq with h | h
        · exact .tail _ (adr st l js hf hpl q (List.mem_append_right _ (mem_ledI hj h)))
        · exact .tail _ (adr st l js hf hpl q (List.mem_append_left _ h))
    have getq : ∀ q ∈ (tp, oA) :: (trio j ++ l), h.get? q.1 = some q.2 := fun q hq => by
      rcases List.mem_cons.mp hq with rfl | hq
      · exact htp
      · rcases List.mem_append.mp hq with h | h
        · exact hAt q (List.mem_append_right _ (mem_ledI hj h))
        · exact hAt q (List.mem_append_left _ h)
    have exq : ∀ a ∈ tp :: (ka ++ adI is), ∃ o, s.heap.get? a = some o := forall_cons ⟨_, hA⟩ hex
    have nI : ∀ q ∈ (tp, oA) :: (trio j ++ l), @Ne Nat I q.1 := fun q hq => let ⟨o, ho⟩ := exq _ (offq q hq); neNone hI ho
    have N2 : News g env.locals h ([(I, oI), (tp, oA)] ++ (trio j ++ l)) := nCons ⟨hoI, hIL⟩ fun q hq => ⟨getq q hq, hall _ (offq q hq)⟩
    obtain ⟨g₂, F₂, N₂, up, hg₂⟩ := reground F₁ N2
    refine wpAny_mono (turn I k p js j st l h tk m₁ oI g₂ hp hpl hab hf hj ejk (hB j hj) hm nI F₂ N₂ up) (fun f s' hfl => ?_) fun _ _ e => e
    have fin : (∃ h' tk m' j' st' l', s' = { s with heap := h', toks := tk } ∧ Fr g₂ env.locals h' m' ∧ M m' ∧ News g₂ env.locals h' ([(I, oI), (tp, oA)] ++ (trio j' ++ l')) ∧ FX st' l' ∧ j'.pl = j.pl ∧ Bd (k + 1) j' ∧ stp p.1 (absI js, st) = (setN p.1 (fun _ => j'.abs) (absI js), st')) →
        ∃ h' tk m', s' = { s with heap := h', toks := tk } ∧ (∀ b ∈ [I, tp], ∀ o, h.get? b = some o → h'.get? b = some o) ∧ Fr g env.locals h' m' ∧ (∃ js st l, plI js = plI is ∧ (absI js, st) = (ps.take (k + 1)).foldl (fun a p => stp p.1 a) (absI is, st₀) ∧ FX st l ∧ At h' (l ++ ledI js) ∧ h'.get? tp = some oA ∧ (∀ j ∈ js, Bd (k + 1) j) ∧ M m') := by
      rintro ⟨h', tk', m', j', st', l', rfl, F', hm', N', hf', hpl', hB', hres⟩
      obtain ⟨fj, sa, efj, eab⟩ := place_one W2 hj hpl'
      have tp' := (N' (tp, oA) (.tail _ (.head _))).1
      refine ⟨h', tk', m', rfl, forall_cons (fun o e => by rw [hoI] at e; rw [← e]; exact (N' _ (.head _)).1) (forall_cons (fun o e => by rw [htp] at e; rw [← e]; exact tp') (fun _ h => nomatch h)), Fr.weak F' F.above up, setI j.key fj js, st', l', (plI_set sa).trans hpl, ?_, hf', At.append (fun q hq => (N' q (.tail _ (.tail _ (show q ∈ trio j' ++ l' from List.mem_append_right _ hq)))).1) (At.set (h := h) W2 hj hAt.right (fun q hq hn => ?_) ?_), tp', ?_, hm'⟩
      · rw [eab, List.take_add_one, hp, List.foldl_append, ← hab]
        show _ = stp p.1 (absI js, st)
        rw [hres, ejk]
      · have hq' := adr st l js hf hpl q (List.mem_append_right _ hq)
        have hqa : q.1 ∈ adI is := adI_of hpl ▸ keys_ledI.mp (List.mem_map_of_mem hq)
        obtain ⟨o, ho⟩ := hex _ hq'
        by_cases et : q.1 = tp
        · have e1 := hAt q (List.mem_append_right _ hq)
          rw [et, htp] at e1
          rw [et, ← e1]; exact tp'
        refine F'.keep _ _ (hg₂ _ _ (hAt q (List.mem_append_right _ hq)) (hlt _ hqa).1 fun hm => ?_)
        obtain ⟨q2, h2, e2⟩ := List.mem_map.mp hm
        rcases List.mem_cons.mp h2 with rfl | h2
        · exact neNone hI ho e2
        · rcases List.mem_cons.mp h2 with rfl | h2
          · exact et e2.symm
          · rcases List.mem_append.mp (show q2 ∈ trio j ++ l from h2) with h2 | h2
            · exact hn _ (led_ad h2) e2.symm
            · exact hoff _ hqa _ (hFX _ _ hf ▸ List.mem_map_of_mem h2) e2.symm
      · rw [efj]; exact fun q hq => (N' q (.tail _ (.tail _ (show q ∈ trio j' ++ l' from List.mem_append_left _ hq)))).1
      · intro i hi
        obtain ⟨i', hi', rfl⟩ := mem_setI.mp hi
        by_cases e : i'.key = j.key
        · rw [if_pos e, W2.key i' hi' j hj e, efj]; exact hB'
        · rw [if_neg e]; exact hBs _ _ (hB i' hi')
    cases f with
    | ret v => exact hfl
    | brk => exact hfl
    | cont => exact fin hfl
    | next => exact fin hfl
  · rintro I h tk m₁ hI ⟨js, st, l, hpl, hab, hf, hAt, htp, hB, hm⟩ F₁
    rw [List.length_map] at hB hab
    rw [List.take_length] at hab
    exact done h tk m₁ js st l hpl hab hf hAt hB hm htp F₁
end
end Mine
end

section
open PySem PySem.W PyProof.Rows PySem.Calls 
namespace Mine
/-- the sorter: its places and what it holds -/
structure Srt where
  x : Addr
  dx : Addr
  nd : Addr
  rd : Addr
  k1 : Nat
  k2 : Nat
  k3 : Nat
  k4 : Nat
  po : Int
  nf : Int
  t1 : Nat
  t2 : Nat
  c : Nat
  rs : List (Str × Nat)
  od : Obj
  is : List Info
noncomputable abbrev Srt.sd (w : World) (S : Srt) (rv : Value) : Obj := sDict w S.k1 S.k2 S.k3 S.k4 S.nd rv S.po S.nf S.t1 S.t2 4
noncomputable abbrev Srt.rl (S : Srt) : Obj := W.listOf (S.rs.map sv).toArray S.c
noncomputable abbrev Srt.four (w : World) (S : Srt) : List (Addr × Obj) := [(S.x, instObj 226 S.dx), (S.dx, S.sd w (.ref S.rd)), (S.nd, S.od), (S.rd, S.rl)]
noncomputable def Srt.led (w : World) (S : Srt) : List (Addr × Obj) := S.four w ++ ledI S.is
noncomputable def Srt.ads (S : Srt) : List Addr := [S.x, S.dx, S.nd, S.rd] ++ adI S.is
theorem Srt.led_ads (S : Srt) {w : World} {q : Addr × Obj} (h : q ∈ S.led w) : q.1 ∈ S.ads := by
  rcases List.mem_append.mp h with h | h
  · exact List.mem_append_left _ (show q.1 ∈ keys (S.four w) from List.mem_map_of_mem h)
  · exact List.mem_append_right _ (keys_ledI.mp (List.mem_map_of_mem h))
theorem Srt.ads_led (S : Srt) {w : World} {a : Addr} (h : a ∈ S.ads) : ∃ q ∈ S.led w, q.1 = a := by
  rcases List.mem_append.mp h with h | h
  · obtain ⟨q, hq, e⟩ := List.mem_map.mp (show a ∈ keys (S.four w) from h)
    exact ⟨q, List.mem_append_left _ hq, e⟩
  · obtain ⟨q, hq, e⟩ := List.mem_map.mp (keys_ledI.mpr h)
    exact ⟨q, List.mem_append_right _ hq, e⟩
theorem fold_fst {α β γ : Type} (f : β → α → α) (g : γ → β) : ∀ (l : List γ) (x : α), (l.foldl (fun a p => (f (g p) a.1, ())) (x, ())).1 = (l.map g).foldl (fun a k => f k a) x
  | [], _ => rfl
  | p :: l, x => fold_fst f g l (f (g p) x)
structure Srt.Ok (prog : Program) (w : World) (S : Srt) : Prop where
  wf : WfI S.is
  off : ∀ a ∈ adI S.is, @Ne Nat a S.x ∧ @Ne Nat a S.dx ∧ @Ne Nat a S.nd ∧ @Ne Nat a S.rd
  od : S.od.IsDictOf (strKind prog w) (kvI S.is)
  lo : (S.nd == sysModules) = false
  rsl : S.rs.length ≤ 1000
  rin : ∀ q ∈ S.rs, ∃ j ∈ S.is, j.key = q.1
  d1 : @Ne Nat S.x S.dx
  d2 : @Ne Nat S.x S.nd
  d3 : @Ne Nat S.x S.rd
  d4 : @Ne Nat S.dx S.nd
  d5 : @Ne Nat S.dx S.rd
  d6 : @Ne Nat S.nd S.rd
section
variable {prog : Program} {w : World} {p : Program} {loose : List Str} {mean : ExcName → Option Value} {mg mb : Str → Option Value} {h₀ : Heap} {L : Addr} {m : Str → Option Value} {s : Shared} {E : List (Addr × Obj)}
  {dp un : Nat} {R : Result → Shared → Prop}
theorem enterQ {name qual : Str} {params : Arguments} {body : List Stmt} {scope : Scope} {dV kV doc pm cdv ct : Value} {an : Option Addr} {f : Addr} {args : Args} {binds : List (Str × Value)}
    (X : (hz.heap_251 w.params).In h₀) (T : Top p loose mean mg mb h₀) (K : h₀.StaysIn s.heap) (N : Led h₀ s.heap E) (hd : dp < recursionLimit)
    (ho : (hz.heap_251 w.params).lookup f = some ⟨.type "function", none, .func (fnOf name qual params body scope dV kV doc pm an cdv ct), #[]⟩) (hcd : codeIn (hz.heap_251 w.params) cdv qual = true)
    (hbind : BindsTo s (fnOf name qual params body scope dV kV doc pm an cdv ct) args binds) (hloc : ∀ x ∈ binds, scope.names.lookup x.1 = some .local)
    (h : ∀ g L' h₁ tk, s.heap.get? L' = none → Fr g L' h₁ (fun y => binds.reverse.lookup y) → News g L' h₁ E → (hz.heap_251 w.params).In g → Top p loose mean mg mb g → (∀ p ∈ E, p.1 < L') →
      (∀ b o, s.heap.get? b = some o → b ∉ keys E → g.get? b = some o) →
      wpAny (model prog w) (Aw (dp + 1) (un + 3)) (execs body (envOf qual scope L' f cdv)) (RetTo R) (fun _ _ => False) { s with heap := h₁, toks := tk })
    (hcell : ∀ x ∈ scope.names, x.2 ≠ .cell) (hco : scope.isCoroutine = false) (hgen : scope.isGenerator = false) (hsk : scope.kind = .function) :
    codeAny (model prog w) (Aw dp un) (.call (.ref f) args) R s :=
  enterF X T K N hd ho hcd hbind hloc (fun g L' h₁ tk a b c d e f' g' => wpAny_mono (h g L' h₁ tk a b c d e f' g') (fun _ _ q => q) fun _ _ q => q.elim) hcell hco hgen hsk
end
end Mine
end

section
open PySem PySem.W PyProof.Rows PySem.Calls 
local macro_rules | `(tactic| ktr_unf) => `(tactic| repeat' ((fail_if_success (with_reducible show wpAny _ _ (exec (Stmt.For _ _ _ _ _) _) _ _ _)); (fail_if_success (with_reducible show wpAny _ _ (exec (Stmt.While _ _ _ _) _) _ _ _)); (fail_if_success (with_reducible show wpAny _ _ (exec (Stmt.Try _ _ _ _ _) _) _ _ _)); first | (k_unfold; (try dsimp only)) | (k_end; wrow_close) | walk1 | (dsimp only; walk1) | (leave1; (try dsimp only)) | fail "no step"))
namespace Mine
local macro_rules | `(tactic| k_ne) => `(tactic| (refine neN ?_; (try dsimp only); first | assumption | (refine Ne.symm ?_; assumption)))
theorem clear_M {prog : Program} {w : World} {A : Around} {E : Value → Shared → Prop} {s : Shared} {h₀ : Heap} {L D : Addr} {m : Str → Option Value} {news : List (Addr × Obj)} {g : Obj → List (Addr × Obj)} {vs : List Value} {n : Nat} {Q : Value → Shared → Prop} (F : Fr h₀ L s.heap m) (N : News h₀ L s.heap news) (U : UpdF D (W.listOf vs.toArray n) news g)
    (hsz : vs.length ≤ 2000) (h : ∀ h' c', Fr h₀ L h' m → News h₀ L h' (g (W.listOf #[] c')) → Q .none { s with heap := h' }) : wpAny (model prog w) A (call (.builtin "list.clear") [.ref D]) Q E s := by
  obtain ⟨pre, post, rfl, hg, a, b⟩ := U.split
  have z := N (D, W.listOf vs.toArray n) (List.mem_append.mpr (.inr (.head _)))
  have e : ∃ c', Obj.mapSeq (fun _ => #[]) (W.listOf vs.toArray n) = W.listOf #[] c' := ⟨_, rfl⟩
  obtain ⟨c', e⟩ := e
  refine call_meets PySem.F.slot_list_clear ⟨_, z.1, rfl⟩ PySem.F.entry_list_clear (PySem.F.args_list_clear_1 _) (PySem.AutoSeq1.list_clear_list_0 D vs.toArray n (by rw [List.size_toArray, sizeLine_eq]; omega)) ⟨z.1, h _ c' (F.change (Heap.SameBut.update ..) z.2.1 z.2.2) ?_⟩
  rw [hg, ← e]
  exact news_set N a b (Heap.SameBut.update ..) (Heap.get?_update_self _ z.1 (by rw [e]; rfl))
section
variable {prog : Program} {w : World} {p : Program} {loose : List Str} {mean : ExcName → Option Value} {mg mb : Str → Option Value} {h₀ : Heap} {s : Shared} 
  {dp un : Nat} {R : Result → Shared → Prop}
theorem get_ready {S : Srt} (X : (hz.heap_251 w.params).In h₀) (T : Top p loose mean mg mb h₀) (K : h₀.StaysIn s.heap) (N : Led h₀ s.heap (S.led w)) (hd : dp + 20 < recursionLimit) (ok : S.Ok prog w)
    (hret : ∀ h' tk' tp t1 c' is', plI is' = plI S.is → absI is' = (S.rs.map (·.1)).foldl (fun ns k => setN k (fun n => { n with np := -1 }) ns) (absI S.is) → Keep S.ads s.heap h' →
      At h' ({ S with po := S.po + S.rs.length, t1 := t1, c := c', rs := [], is := is' }.led w) → s.heap.get? tp = none → h'.get? tp = some (tupOf (S.rs.map sv)) → R (.ok (.ret (.ref tp))) { s with heap := h', toks := tk' }) :
    codeAny (model prog w) (Aw dp un) (.call (.ref 188) ⟨[.ref S.x], []⟩) R s := by
  obtain ⟨Wf, hoff, hod, lo, hrs, hin, d1, d2, d3, d4, d5, d6⟩ := ok
  refine enterQ X T K N (by omega) (ko188 _) (by k_is) (binds := [("self", .ref S.x)]) (BindsTo.of_eq rfl) (locs rfl) ?_ (by decide) rfl rfl rfl
  intro g L' h₁ tk hL F' N' X' T' hlt hg
  have N1 : News g L' h₁ (S.four w) := fun q hq => N' q (List.mem_append_left _ hq)
  obtain ⟨g1, F1, N1, up1, hg1⟩ := reground F' N1
  have X1 := X'.keeps up1
  have T1 := T'.keeps up1
  conv in execs _ _ => arg 1; whnf
  ktr_unf
  rename Fr g1 L' _ _ => F2
  rename News g1 L' _ _ => N2
  rename_i tp _ _ _ hX
  have F5 := Fr.weak F2 F'.above up1
  have At0 : At hX (S.four w ++ ledI S.is) := At.append (fun q hq => (N2 q (.tail _ hq)).1) fun q hq => by
    obtain ⟨o1, o2, o3, o4⟩ := hoff q.1 (keys_ledI.mp (List.mem_map_of_mem hq))
    exact F2.keep _ _ (hg1 _ _ (N' q (List.mem_append_right _ hq)).1 (hlt q (List.mem_append_right _ hq)) (nmem_cons o1 (nmem_cons o2 (nmem_cons o3 (nmem_cons o4 nmem_nil)))))
  have nt : ∀ a o, hX.get? a = some o → o.cls ≠ .type "tuple" → @Ne Nat tp a := fun a o e hc z => hc (by have := (N2 _ (.head _)).1; rw [z, e] at this; cases this; rfl)
  have n1 : @Ne Nat tp S.x := nt _ _ (N2 _ (.tail _ (.head _))).1 (fun q => nomatch q)
  have n2 : @Ne Nat tp S.dx := nt _ _ (N2 _ (.tail _ (.tail _ (.head _)))).1 (fun q => absurd q (show ¬ (Value.type "dict" = Value.type "tuple") by decide))
  have n3 : @Ne Nat tp S.nd := nt _ _ (N2 _ (.tail _ (.tail _ (.tail _ (.head _))))).1 (by obtain ⟨_, _, e, _⟩ := hod; show S.od.cls ≠ _; rw [e.1]; decide)
  have n4 : @Ne Nat tp S.rd := nt _ _ (N2 _ (.tail _ (.tail _ (.tail _ (.tail _ (.head _)))))).1 (fun q => absurd q (show ¬ (Value.type "list" = Value.type "tuple") by decide))
  have gt : g.get? tp = none := by
    cases q : g.get? tp with
    | none => rfl
    | some o => have := (N2 _ (.head _)).2.2; rw [up1 _ _ q] at this; cases this
  have tpA : ∀ a ∈ adI S.is, @Ne Nat a tp := fun a ha => by
    obtain ⟨q, hq, rfl⟩ := List.mem_map.mp (keys_ledI.mpr ha)
    obtain ⟨o1, o2, o3, o4⟩ := hoff q.1 ha
    exact fun z => by have := (N2 _ (.head _)).2.2; rw [← z, hg1 _ _ (N' q (List.mem_append_right _ hq)).1 (hlt q (List.mem_append_right _ hq)) (nmem_cons o1 (nmem_cons o2 (nmem_cons o3 (nmem_cons o4 nmem_nil))))] at this; cases this
  have tpn : s.heap.get? tp = none := by
    cases q : s.heap.get? tp with
    | none => rfl
    | some o =>
      have : tp ∉ keys (S.led w) := fun hm => by
        obtain ⟨q, hq, e⟩ := List.mem_map.mp hm
        rcases List.mem_append.mp hq with hq | hq
        · exact (show tp ∉ keys (S.four w) from nmem_cons n1 (nmem_cons n2 (nmem_cons n3 (nmem_cons n4 nmem_nil)))) (List.mem_map.mpr ⟨q, hq, e⟩)
        · exact tpA _ (keys_ledI.mp (List.mem_map_of_mem hq)) e
      rw [hg _ _ q this] at gt; cases gt
  have gn : ∀ q ∈ S.four w, g.get? q.1 = none := fun q hq => (N' q (List.mem_append_left _ hq)).2.2
  have hA := (N2 _ (.head _)).1
  have nL : ∀ q ∈ (tp, tupOf (S.rs.map sv)) :: S.four w, q.1 ≠ L' := fun q hq => (N2 q hq).2.1
  refine For_h g rfl rfl ?_
  k_steps
  refine info_loop (σ := Unit) (ps := S.rs) (is := S.is) (st₀ := ()) (ka := [S.x, S.dx, S.nd, S.rd]) (fun _ l => l = S.four w) (by rintro _ _ rfl; rfl) (fun k a => (setN k (fun n => { n with np := -1 }) a.1, ()))
    (fun m => m "self" = some (.ref S.x) ∧ m "n2i" = some (.ref S.nd) ∧ m "result" = some (.ref tp)) (fun _ _ => True) Wf hA (fun Inv h0 stab turn done => loop_tup hA rfl (nL _ (.head _)) F5 Inv h0 stab turn done) F5 ⟨rfl, rfl, rfl⟩ rfl At0 ?_ ?_ ?_ hin (fun _ _ => trivial) (fun _ _ _ => trivial) ?_ ?_
  · exact forall_cons ⟨nL _ (.head _), gt⟩ fun a ha => by
      obtain ⟨q, hq, rfl⟩ := List.mem_map.mp (show a ∈ keys (S.four w) from ha)
      exact ⟨nL q (.tail _ hq), gn q hq⟩
  · intro a ha
    obtain ⟨q, hq, rfl⟩ := List.mem_map.mp (keys_ledI.mpr ha)
    exact ⟨hlt q (List.mem_append_right _ hq), (N' q (List.mem_append_right _ hq)).2.2⟩
  · intro a ha
    obtain ⟨o1, o2, o3, o4⟩ := hoff a ha
    exact forall_cons o1 (forall_cons o2 (forall_cons o3 (forall_cons o4 (fun _ h => nomatch h))))
  · rintro I k p' js j st l h tk m₁ oI g₂ hp hpl hab rfl hj hjk - ⟨hm1, hm2, hm3⟩ nI F₁ Nt up2
    have X2 := X'.keeps up2
    have T2 := T'.keeps up2
    have F₂ := Fr.pin (Fr.pin (Fr.pin F₁ (y₀ := "self") hm1) (y₀ := "n2i") hm2) (y₀ := "result") hm3
    dsimp only [trio, List.cons_append, List.nil_append] at Nt
    clear F₁ F2 N2
    ktr_unf
    rename News g₂ _ _ _ => N5
    obtain ⟨o1, o2, o3, o4⟩ := hoff j.I (adI_of hpl ▸ mem_adI hj (.head _))
    have w1 := ((Wf.same hpl).inn j hj).1
    have w2 := ((Wf.same hpl).inn j hj).2.1
    have w3 := nI (j.I, infoObj j) (.tail _ (.head _))
    have w4 : @Ne Nat tp j.I := (tpA _ (adI_of hpl ▸ mem_adI hj (.head _))).symm
    refine kda_item (knd := strKind _ _) N5 (by k_mem) hod (strKind_is _ _ _ _) (v := .ref j.I) (by rw [← kvI_of hpl, ← hjk]; exact valueAt_info (Wf.same hpl) hj) ?_
    ktr_unf
    rename Fr g₂ _ _ _ => F6
    rename News g₂ _ _ _ => N6
    refine ⟨_, _, _, { j with np := -1, nt := 336 }, (), _, rfl, F6, ⟨rfl, rfl, rfl⟩, N6, rfl, rfl, trivial, ?_⟩
    rw [← hjk, setN_one (Wf.same hpl) hj]; rfl
  · rintro h tk m₁ js st l hpl hab rfl hAt - ⟨hm1, hm2, hm3⟩ htp F₁
    have N3 : News g L' h ((tp, tupOf (S.rs.map sv)) :: S.four w) :=
      nCons ⟨htp, nL _ (.head _), gt⟩ fun q hq => ⟨hAt q (List.mem_append_left _ hq), nL q (.tail _ hq), gn q hq⟩
    obtain ⟨g3, F3, N3, up3, hg3⟩ := reground F₁ N3
    have X3 := X'.keeps up3
    have T3 := T'.keeps up3
    have F₂ := Fr.pin (Fr.pin (Fr.pin F3 (y₀ := "self") hm1) (y₀ := "n2i") hm2) (y₀ := "result") hm3
    clear F₁ F3 F2 N2
    dsimp only
    ktr_unf
    rename Fr g3 _ _ _ => F4
    rename News g3 _ _ _ => N4
    refine clear_M F4 N4 (by k_updF) (by rw [List.length_map]; omega) ?_
    intro h5 c5 F5 N5
    clear F4 N4
    ktr_unf
    refine kun_lenT (k := (S.rs.length : Int)) (News.isTup (by assumption) (by k_mem)) (by rw [List.size_toArray, List.length_map]) (by omega) ?_
    ktr_unf
    rename Fr g3 _ _ _ => F6
    rename News g3 _ _ _ => N6
    show RetTo R (.ret (.ref tp)) _
    refine hret _ _ tp _ c5 js hpl ?_ (keep_of N hg (Fr.weak F6 F'.above up3) nNil fun q hq => .inl (S.led_ads hq)) (At.append (fun q hq => (N6 q (.tail _ hq)).1) fun q hq => ?_) tpn (N6 _ (.head _)).1
    · have := congrArg Prod.fst hab
      exact this.trans (fold_fst (fun k ns => setN k (fun n => { n with np := -1 }) ns) (fun q : Str × Nat => q.1) _ _)
    · have hqa : q.1 ∈ adI S.is := adI_of hpl ▸ keys_ledI.mp (List.mem_map_of_mem hq)
      obtain ⟨q', hq', e⟩ := List.mem_map.mp (keys_ledI.mpr hqa)
      obtain ⟨o1, o2, o3, o4⟩ := hoff q.1 hqa
      exact F6.keep _ _ (hg3 _ _ (hAt.right q hq) (e ▸ hlt q' (List.mem_append_right _ hq')) (nmem_cons (tpA _ hqa) (nmem_cons o1 (nmem_cons o2 (nmem_cons o3 (nmem_cons o4 nmem_nil))))))
end
end Mine
end

section
open PySem PySem.W PyProof.Rows PySem.Calls 
local macro_rules | `(tactic| ktr_unf) => `(tactic| repeat' ((fail_if_success (with_reducible show wpAny _ _ (exec (Stmt.For _ _ _ _ _) _) _ _ _)); (fail_if_success (with_reducible show wpAny _ _ (exec (Stmt.While _ _ _ _) _) _ _ _)); (fail_if_success (with_reducible show wpAny _ _ (exec (Stmt.Try _ _ _ _ _) _) _ _ _)); first | (k_unfold; (try dsimp only)) | (k_end; wrow_close) | walk1 | (dsimp only; walk1) | (leave1; (try dsimp only)) | fail "no step"))
local macro_rules | `(tactic| walk_at "unused 0") => `(tactic| fail "unused")
local macro_rules | `(tactic| walk_at "unused 1") => `(tactic| fail "unused")
namespace Mine
theorem bindDone (a b : Value) (cd : Value) (pm : Value) : bindArgs (fnOf "done" "TopologicalSorter.done" (fnP st209) (fnB st209) (fnS st209) .none .none .none pm none cd .none) ⟨[a, b], []⟩ = (newTuple [b] >>= fun t => pure [(("self" : Str), a), (("nodes" : Str), t)]) := by kernel_rfl
section
variable {prog : Program} {w : World} {p : Program} {loose : List Str} {mean : ExcName → Option Value} {mg mb : Str → Option Value} {h₀ : Heap} {s : Shared} {E : List (Addr × Obj)}
  {dp un : Nat} {R : Result → Shared → Prop}
theorem enterVQ {name qual : Str} {params : Arguments} {body : List Stmt} {scope : Scope} {dV kV doc pm cdv ct : Value} {an : Option Addr} {f : Addr} {args : Args} {binds : Value → List (Str × Value)} {vs : List Value}
    (X : (hz.heap_251 w.params).In h₀) (T : Top p loose mean mg mb h₀) (K : h₀.StaysIn s.heap) (N : Led h₀ s.heap E) (hd : dp < recursionLimit)
    (ho : (hz.heap_251 w.params).lookup f = some ⟨.type "function", none, .func (fnOf name qual params body scope dV kV doc pm an cdv ct), #[]⟩) (hcd : codeIn (hz.heap_251 w.params) cdv qual = true)
    (hbind : bindArgs (fnOf name qual params body scope dV kV doc pm an cdv ct) args = (newTuple vs >>= fun t => pure (binds t))) (hsz : vs.length ≤ sizeLine) (hloc : ∀ t, ∀ x ∈ binds t, scope.names.lookup x.1 = some .local)
    (h : ∀ tp g L' h₁ tk, s.heap.get? tp = none → s.heap.get? L' = none → Fr g L' h₁ (fun y => (binds (.ref tp)).reverse.lookup y) → News g L' h₁ ((tp, tupOf vs) :: E) → (hz.heap_251 w.params).In g → Top p loose mean mg mb g → tp < L' → (∀ p ∈ E, p.1 < tp) →
      (∀ b o, s.heap.get? b = some o → b ∉ keys E → g.get? b = some o) →
      wpAny (model prog w) (Aw (dp + 1) (un + 3)) (execs body (envOf qual scope L' f cdv)) (RetTo R) (fun _ _ => False) { s with heap := h₁, toks := tk })
    (hcell : ∀ x ∈ scope.names, x.2 ≠ .cell) (hco : scope.isCoroutine = false) (hgen : scope.isGenerator = false) (hsk : scope.kind = .function) :
    codeAny (model prog w) (Aw dp un) (.call (.ref f) args) R s :=
  enterV X T K N hd ho hcd hbind hsz hloc (fun tp g L' h₁ tk a b c d e f' g' h' i' => wpAny_mono (h tp g L' h₁ tk a b c d e f' g' h' i') (fun _ _ q => q) fun _ _ q => q.elim) hcell hco hgen hsk
end
local macro_rules | `(tactic| walk_at "call builtin:dict.get") => `(tactic| (k_here; k_dflt (refine kdg_get1 (knd := strKind _ _) (by k_asm) (by k_mem) (by k_asm) (by k_asm) (strKind_is _ _ _ _) _ (by assumption) ?_); (try dsimp only [Option.getD])))
local macro_rules | `(tactic| k_ne) => `(tactic| (refine neN ?_; (try dsimp only); first | assumption | (refine Ne.symm ?_; assumption)))
/-- one successor told: its count less one; at none it is ready -/
noncomputable def decN (k : Str) (a : List Nd × List Str) : List Nd × List Str := (setN k (fun n => { n with np := n.np - 1 }) a.1, if a.1.any (fun n => decide (n.key = k ∧ n.np = 1)) then a.2 ++ [k] else a.2)
theorem decN_len (l : List (Str × Nat)) : ∀ a, (l.foldl (fun a q => decN q.1 a) a).2.length ≤ a.2.length + l.length := by
  induction l with
  | nil => exact fun a => Nat.le_refl _
  | cons q l ih =>
    intro a
    refine Nat.le_trans (ih (decN q.1 a)) ?_
    have : (decN q.1 a).2.length ≤ a.2.length + 1 := by
      unfold decN; dsimp only
      split
      · rw [List.length_append]; exact Nat.le_refl _
      · exact Nat.le_succ _
    rw [List.length_cons]; omega
theorem any_key {js : List Info} (Wf : WfI js) {j : Info} (hj : j ∈ js) (P : Nd → Prop) [DecidablePred P] : (absI js).any (fun n => decide (n.key = j.key ∧ P n)) = decide (P j.abs) := by
  cases h : decide (P j.abs) with
  | true => exact List.any_eq_true.mpr ⟨j.abs, List.mem_map_of_mem hj, decide_eq_true ⟨rfl, of_decide_eq_true h⟩⟩
  | false =>
    refine Bool.eq_false_iff.mpr fun q => ?_
    obtain ⟨n, hn, e⟩ := List.any_eq_true.mp q
    obtain ⟨i, hi, rfl⟩ := List.mem_map.mp hn
    obtain ⟨e1, e2⟩ := of_decide_eq_true e
    obtain rfl := Wf.key i hi j hj e1
    exact of_decide_eq_false h e2
section
variable {prog : Program} {w : World} {p : Program} {loose : List Str} {mean : ExcName → Option Value} {mg mb : Str → Option Value} {h₀ : Heap} {s : Shared} 
  {dp un : Nat} {R : Result → Shared → Prop}
theorem done_one {S : Srt} {i : Info} {ntk : Tok} (X : (hz.heap_251 w.params).In h₀) (T : Top p loose mean mg mb h₀) (K : h₀.StaysIn s.heap) (N : Led h₀ s.heap (S.led w)) (hd : dp + 20 < recursionLimit) (ok : S.Ok prog w)
    (hi : i ∈ S.is) (hnp : i.np = -1) (hsl : i.succ.length ≤ 900) (hsi : ∀ q ∈ i.succ, q.1 ≠ i.key ∧ ∃ j ∈ S.is, j.key = q.1)
    (hret : ∀ h' tk' t2 c' rs' is', plI is' = plI S.is → (absI is', rs'.map (·.1)) = i.succ.foldl (fun a q => decN q.1 a) (setN i.key (fun n => { n with np := -2 }) (absI S.is), S.rs.map (·.1)) → (∀ q ∈ rs', ∃ j ∈ S.is, j.key = q.1) → Keep S.ads s.heap h' →
      At h' ({ S with nf := S.nf + 1, t2 := t2, c := c', rs := rs', is := is' }.led w) → R (.ok (.ret .none)) { s with heap := h', toks := tk' }) :
    codeAny (model prog w) (Aw dp un) (.call (.ref 209) ⟨[.ref S.x, .str i.key ntk], []⟩) R s := by
  obtain ⟨Wf, hoff, hod, lo, hrs, hin, d1, d2, d3, d4, d5, d6⟩ := ok
  refine enterVQ X T K N (by omega) (ko209 _) (by k_is) (bindDone _ _ (.ref 208) _) (show 1 ≤ sizeLine by decide) (fun t => locs rfl) ?_ (by decide) rfl rfl rfl
  intro tp g L' h₁ tk htp hL F' N' X' T' hlt hlt2 hg
  have a1 : ∀ q ∈ (tp, tupOf [.str i.key ntk]) :: S.led w, q.1 < L' ∧ q.1 ≠ L' ∧ g.get? q.1 = none := fun q hq => ⟨(forall_cons (P := fun q : Addr × Obj => q.1 < L') hlt fun p hp => Nat.lt_trans (hlt2 p hp) hlt) q hq, (N' q hq).2⟩
  obtain ⟨g1, F1, N1, up1, hg1⟩ := reground F' (nsub N' (E' := (tp, tupOf [.str i.key ntk]) :: S.four w) (forall_cons (.head _) fun q hq => .tail _ (List.mem_append_left _ hq)))
  have X1 := X'.keeps up1
  have T1 := T'.keeps up1
  conv in execs _ _ => arg 1; whnf
  ktr_unf
  rename Fr g1 L' _ _ => F2
  rename News g1 L' _ _ => N2
  rename Heap => hX
  have F5 := Fr.weak F2 F'.above up1
  have At0 : At hX ((tp, tupOf [.str i.key ntk]) :: S.led w) := At.cons (N2 _ (.head _)).1 (At.append (fun q hq => (N2 q (.tail _ hq)).1) fun q hq => by
    obtain ⟨o1, o2, o3, o4⟩ := hoff q.1 (keys_ledI.mp (List.mem_map_of_mem hq))
    have hq' : q ∈ S.led w := List.mem_append_right _ hq
    exact F2.keep _ _ (hg1 _ _ (N' q (.tail _ hq')).1 (a1 q (.tail _ hq')).1 (nmem_cons (Nat.ne_of_lt (hlt2 q hq')) (nmem_cons o1 (nmem_cons o2 (nmem_cons o3 (nmem_cons o4 nmem_nil)))))))
  clear N2 F2
  have ex : ∀ a ∈ tp :: S.ads, (∃ o, hX.get? a = some o) ∧ a < L' ∧ a ≠ L' ∧ g.get? a = none := forall_cons ⟨⟨_, At0 _ (.head _)⟩, a1 _ (.head _)⟩ fun a ha => by
    obtain ⟨q, hq, rfl⟩ := S.ads_led (w := w) ha
    exact ⟨⟨_, At0 q (.tail _ hq)⟩, a1 q (.tail _ hq)⟩
  have ni : ∀ j ∈ S.is, j.key ≠ i.key → ∀ a ∈ j.ad, ∀ b ∈ i.ad, @Ne Nat a b := fun j hj hk => Wf.out j hj i hi hk
  have tpa : ∀ a ∈ S.ads, @Ne Nat tp a := fun a ha => by
    obtain ⟨q, hq, rfl⟩ := S.ads_led (w := w) ha
    exact (Nat.ne_of_lt (hlt2 q hq)).symm
  refine For_h g rfl rfl ?_
  k_steps
  refine loop_tup (At0 (tp, _) (.head _)) rfl (ex _ (.head _)).2.2.1 F5 (fun I k h m => m "self" = some (.ref S.x) ∧ m "n2i" = some (.ref S.nd) ∧ h.get? tp = some (tupOf [.str i.key ntk]) ∧ ((k = 0 ∧ At h (S.led w)) ∨ (k = 1 ∧ ∃ t2 c' rs' is', plI is' = plI S.is ∧ (absI is', rs'.map (·.1)) = i.succ.foldl (fun a q => decN q.1 a) (setN i.key (fun n => { n with np := -2 }) (absI S.is), S.rs.map (·.1)) ∧ (∀ q ∈ rs', ∃ j ∈ S.is, j.key = q.1) ∧
    At h ({ S with nf := S.nf + 1, t2 := t2, c := c', rs := rs', is := is' }.led w)))) ?_ ?_ ?_ ?_
  · exact fun I hI => ⟨rfl, rfl, At0 _ (.head _), .inl ⟨rfl, fun q hq => At0 q (.tail _ hq)⟩⟩
  · rintro I k h h' m hI ⟨m1, m2, htp, hc⟩ kp
    have off : ∀ a ∈ tp :: S.ads, a ∉ [L', I] := fun a ha => nm2 (ex a ha).2.2.1 (let ⟨o, ho⟩ := (ex a ha).1; (neNone hI ho).symm)
    refine ⟨m1, m2, kp _ _ (off _ (.head _)) htp, hc.imp (fun ⟨e, a⟩ => ⟨e, a.keep kp fun q hq => off _ (.tail _ (S.led_ads hq))⟩) fun ⟨e, t2, c', rs', is', hpl, hab, hr, a⟩ => ⟨e, t2, c', rs', is', hpl, hab, hr, a.keep kp fun q hq => off _ (.tail _ ?_)⟩⟩
    have := Srt.led_ads _ hq
    unfold Srt.ads at this ⊢
    rw [adI_of hpl] at this; exact this
  · rintro I k v h tk m oI hI hv ⟨m1, m2, htp, ⟨rfl, hAt⟩ | ⟨rfl, -⟩⟩ F₁ hoI hIL
    · obtain rfl : Value.str i.key ntk = v := by simpa using hv
      have exI : ∀ a ∈ tp :: S.ads, @Ne Nat I a := fun a ha => let ⟨o, ho⟩ := (ex a ha).1; neNone hI ho
      have nL := fun q (hq : q ∈ S.led w) => ex q.1 (.tail _ (S.led_ads hq))
      have hi1 : (i.I, infoObj i) ∈ S.led w := List.mem_append_right _ (mem_ledI hi (.head _))
      have hi2 : (i.D, emptyDict) ∈ S.led w := List.mem_append_right _ (mem_ledI hi (.tail _ (.head _)))
      have hi3 : (i.S, W.listOf (i.succ.map sv).toArray i.sn) ∈ S.led w := List.mem_append_right _ (mem_ledI hi (.tail _ (.tail _ (.head _))))
      have N2 : News g L' h ((I, oI) :: (tp, tupOf [.str i.key ntk]) :: (i.I, ⟨.ref 129, some i.D, .plain, #[some (.str i.key i.kt), some (.int (-1) i.nt), some (.ref i.S)]⟩) :: (i.D, emptyDict) :: (i.S, W.listOf (i.succ.map sv).toArray i.sn) :: [(S.x, instObj 226 S.dx), (S.dx, S.sd w (.ref S.rd)), (S.nd, S.od), (S.rd, S.rl)]) :=
        nCons ⟨hoI, hIL⟩ (nCons ⟨htp, (ex _ (.head _)).2.2⟩ (nCons ⟨by have := hAt _ hi1; rw [← hnp]; exact this, (nL _ hi1).2.2⟩ (nCons ⟨hAt _ hi2, (nL _ hi2).2.2⟩ (nCons ⟨hAt _ hi3, (nL _ hi3).2.2⟩ fun q hq => ⟨hAt q (List.mem_append_left _ hq), (nL q (List.mem_append_left _ hq)).2.2⟩))))
      have F₂ := Fr.pin (Fr.pin F₁ (y₀ := "self") m1) (y₀ := "n2i") m2
      obtain ⟨g2, F3, N3, up3, hg3⟩ := reground F₂ N2
      have X3 := X'.keeps up3
      have T3 := T'.keeps up3
      clear F₁ F₂ N2
      have hv := valueAt_info Wf hi
      obtain ⟨o1, o2, o3, o4⟩ := hoff i.I (mem_adI hi (.head _))
      have w1 := (Wf.inn _ hi).1
      have w2 := (Wf.inn _ hi).2.1
      have w3 := tpa _ (S.led_ads hi1)
      have w4 := exI _ (.tail _ (S.led_ads hi1))
      ktr_unf
      rename Fr g2 _ _ _ => F4
      rename News g2 _ _ _ => N4
      rename Heap => hY
      have sa : SameAt fun j : Info => { j with np := -2, nt := 339 } := fun _ => ⟨rfl, rfl, rfl, rfl⟩
      have Wf1 := Wf.set (k := i.key) sa
      have hp1 : plI (setI i.key (fun j : Info => { j with np := -2, nt := 339 }) S.is) = plI S.is := plI_set sa
      have At1 : At hY ([(I, oI), (tp, tupOf [.str i.key ntk]), (S.x, instObj 226 S.dx), (S.dx, S.sd w (.ref S.rd)), (S.nd, S.od), (S.rd, W.listOf (S.rs.map sv).toArray S.c)] ++ ledI (setI i.key (fun j : Info => { j with np := -2, nt := 339 }) S.is)) := by
        refine At.append (forall_cons (N4 _ (.head _)).1 (forall_cons (N4 _ (.tail _ (.head _))).1 fun q hq => (N4 q (.tail _ (.tail _ (.tail _ (.tail _ (.tail _ hq)))))).1)) (At.set (h := h) Wf hi (fun q hq => hAt q (List.mem_append_right _ hq)) (fun q hq hn => ?_) (forall_cons (N4 _ (.tail _ (.tail _ (.head _)))).1 (forall_cons (N4 _ (.tail _ (.tail _ (.tail _ (.head _))))).1 (forall_cons (N4 _ (.tail _ (.tail _ (.tail _ (.tail _ (.head _)))))).1 (fun _ h => nomatch h)))))
        have hq' : q ∈ S.led w := List.mem_append_right _ hq
        obtain ⟨p1, p2, p3, p4⟩ := hoff q.1 (keys_ledI.mp (List.mem_map_of_mem hq))
        exact F4.keep _ _ (hg3 _ _ (hAt q hq') (nL q hq').2.1 (nmem_cons (exI _ (.tail _ (S.led_ads hq'))).symm (nmem_cons (tpa _ (S.led_ads hq')).symm (nmem_cons (hn _ (.head _)) (nmem_cons (hn _ (.tail _ (.head _))) (nmem_cons (hn _ (.tail _ (.tail _ (.head _)))) (nmem_cons p1 (nmem_cons p2 (nmem_cons p3 (nmem_cons p4 nmem_nil))))))))))
      have hA := (N4 (i.S, W.listOf (i.succ.map sv).toArray i.sn) (.tail _ (.tail _ (.tail _ (.tail _ (.head _)))))).1
      have gI : ∀ q ∈ [(I, oI), (tp, tupOf [.str i.key ntk]), (S.x, instObj 226 S.dx), (S.dx, S.sd w (.ref S.rd)), (S.nd, S.od), (S.rd, S.rl)], q.1 ≠ L' ∧ g.get? q.1 = none :=
        forall_cons hIL (forall_cons (ex _ (.head _)).2.2 fun q hq => (nL q (List.mem_append_left _ hq)).2.2)
      have lI : ∀ a ∈ adI S.is, a < L' ∧ g.get? a = none := fun a ha => have z := ex a (.tail _ (List.mem_append_right _ ha)); ⟨z.2.1, z.2.2.2⟩
      refine For_h g rfl rfl ?_
      k_steps
      have F6 := Fr.weak F4 F'.above up3
      clear F4 N4 N3 F3
      refine info_loop (σ := List Str) (tp := i.S) (ps := i.succ) (is := setI i.key (fun j : Info => { j with np := -2, nt := 339 }) S.is) (st₀ := S.rs.map (·.1)) (ka := [I, tp, S.x, S.dx, S.nd, S.rd])
        (fun st l => ∃ rs c, rs.map (fun q : Str × Nat => q.1) = st ∧ (∀ q ∈ rs, ∃ j ∈ S.is, j.key = q.1) ∧ l = [(I, oI), (tp, tupOf [.str i.key ntk]), (S.x, instObj 226 S.dx), (S.dx, S.sd w (.ref S.rd)), (S.nd, S.od), (S.rd, W.listOf (rs.map sv).toArray c)]) (by rintro _ _ ⟨rs, c, -, -, rfl⟩; rfl) decN
        (fun m => m "self" = some (.ref S.x) ∧ m "n2i" = some (.ref S.nd)) (fun _ _ => True) Wf1 hA (fun Inv h0 stab turn done => loop_list hA rfl (nL _ hi3).2.2.1 F6 Inv h0 stab turn done) F6 ⟨rfl, rfl⟩ ⟨S.rs, S.c, rfl, hin, rfl⟩ At1 ?_ ?_ ?_ ?_ (fun _ _ => trivial) (fun _ _ _ => trivial) ?_ ?_
      · exact forall_cons (nL _ hi3).2.2 fun a ha => by
          obtain ⟨q, hq, rfl⟩ := List.mem_map.mp (show a ∈ keys [(I, oI), (tp, tupOf [.str i.key ntk]), (S.x, instObj 226 S.dx), (S.dx, S.sd w (.ref S.rd)), (S.nd, S.od), (S.rd, S.rl)] from ha)
          exact gI q hq
      · exact fun a ha => lI a (adI_of hp1 ▸ ha)
      · intro a ha
        rw [adI_of hp1] at ha
        obtain ⟨p1, p2, p3, p4⟩ := hoff a ha
        have ha' : a ∈ S.ads := List.mem_append_right _ ha
        exact forall_cons (exI _ (.tail _ ha')).symm (forall_cons (tpa _ ha').symm (forall_cons p1 (forall_cons p2 (forall_cons p3 (forall_cons p4 (fun _ h => nomatch h))))))
      · intro q hq
        obtain ⟨j, hj, e⟩ := (hsi q hq).2
        obtain ⟨j', hj', e'⟩ := mem_pl hp1 hj
        exact ⟨j', hj', (congrArg (·.1) e').trans e⟩
      · rintro I2 k p' js j st l h2 tk2 m₂ oI2 g₃ hp hpl hab ⟨rs, c, hst, hrin, rfl⟩ hj hjk - ⟨hm1, hm2⟩ nI F₁ Nt up4
        have hp2 := hpl.trans hp1
        have W2 := Wf.same hp2
        obtain ⟨j0, hj0, ej0⟩ := mem_pl hp2.symm hj
        have hk : j0.key ≠ i.key := by rw [show j0.key = j.key from congrArg (·.1) ej0, hjk]; exact (hsi p' (List.mem_of_getElem? hp)).1
        have eI : j0.I = j.I := congrArg (·.2.1) ej0
        have c1 : @Ne Nat j.I i.S := eI ▸ ni j0 hj0 hk _ (.head _) _ (.tail _ (.tail _ (.head _)))
        have jA : ∀ a ∈ j.ad, a ∈ adI S.is := fun a ha => adI_of hp2 ▸ mem_adI hj ha
        have c2 := (W2.inn j hj).1
        have c3 := (W2.inn j hj).2.1
        obtain ⟨c4, c5, c6, c7⟩ := hoff j.I (jA _ (.head _))
        have c8 := exI j.I (.tail _ (List.mem_append_right _ (jA _ (.head _))))
        have c9 := tpa j.I (List.mem_append_right _ (jA _ (.head _)))
        have c10 : @Ne Nat I2 j.I := nI (j.I, infoObj j) (.tail _ (.head _))
        have r1 : @Ne Nat I2 S.rd := nI (S.rd, _) (.tail _ (List.mem_append_right _ (.tail _ (.tail _ (.tail _ (.tail _ (.tail _ (.head _))))))))
        have r2 := (hoff i.S (mem_adI hi (.tail _ (.tail _ (.head _))))).2.2.2
        have r3 := (hoff j.D (jA _ (.tail _ (.head _)))).2.2.2
        have r4 := (hoff j.S (jA _ (.tail _ (.tail _ (.head _))))).2.2.2
        have r5 := exI S.rd (.tail _ (.tail _ (.tail _ (.tail _ (.head _)))))
        have r6 := tpa S.rd (.tail _ (.tail _ (.tail _ (.head _))))
        have X4 := X'.keeps up4
        have T4 := T'.keeps up4
        have F₂ := Fr.pin (Fr.pin F₁ (y₀ := "self") hm1) (y₀ := "n2i") hm2
        dsimp only [trio, List.cons_append, List.nil_append] at Nt
        clear F₁
        ktr_unf
        rename News g₃ _ _ _ => N5
        refine kda_item (knd := strKind _ _) N5 (by k_mem) hod (strKind_is _ _ _ _) (v := .ref j.I) (by rw [← kvI_of hp2, ← hjk]; exact valueAt_info W2 hj) ?_
        ktr_unf
        · rename Fr g₃ _ _ _ => F7
          rename News g₃ _ _ _ => N7
          obtain ⟨nt', N7⟩ : ∃ nt', News g₃ L' _ ((I2, oI2) :: (i.S, W.listOf (i.succ.map sv).toArray i.sn) :: (j.I, infoObj { j with np := j.np - 1, nt := nt' }) :: _) := ⟨_, N7⟩
          have hz : j.np = 1 := by omega
          have hl : rs.length ≤ 1900 := by
            have := decN_len (i.succ.take k) (absI (setI i.key (fun j : Info => { j with np := -2, nt := 339 }) S.is), S.rs.map (·.1))
            rw [← hab, List.length_map, List.length_take] at this
            have e : st.length = rs.length := by rw [← hst, List.length_map]
            dsimp only at this; omega
          refine append_M F7 N7 (by k_upd) (by rw [List.length_map]; omega) ?_
          intro h9 F9 N9
          clear F7 N7
          rw [show rs.map sv ++ [Value.str p'.1 p'.2] = (rs ++ [p']).map sv by rw [List.map_append]; rfl] at N9
          ktr_unf
          rename Fr g₃ _ _ _ => F10
          rename News g₃ _ _ _ => N10
          refine ⟨_, _, _, { j with np := j.np - 1, nt := nt' }, st ++ [p'.1], _, rfl, F10, ⟨rfl, rfl⟩, N10, ⟨rs ++ [p'], c + 1, by rw [List.map_append, hst]; rfl, fun q hq => ?_, rfl⟩, rfl, trivial, ?_⟩
          · rcases List.mem_append.mp hq with hq | hq
            · exact hrin q hq
            · rw [List.mem_singleton.mp hq]; exact (hsi p' (List.mem_of_getElem? hp)).2
          · unfold decN
            rw [← hjk, any_key W2 hj (fun n => n.np = 1), setN_one W2 hj, if_pos (show decide (j.abs.np = 1) = true from decide_eq_true hz)]
            rfl
        · rename Fr g₃ _ _ _ => F7
          rename News g₃ _ _ _ => N7
          obtain ⟨nt', N7⟩ : ∃ nt', News g₃ L' _ ((I2, oI2) :: (i.S, W.listOf (i.succ.map sv).toArray i.sn) :: (j.I, infoObj { j with np := j.np - 1, nt := nt' }) :: _) := ⟨_, N7⟩
          refine ⟨_, _, _, { j with np := j.np - 1, nt := nt' }, st, _, rfl, F7, ⟨rfl, rfl⟩, N7, ⟨rs, c, hst, hrin, rfl⟩, rfl, trivial, ?_⟩
          unfold decN
          rw [← hjk, any_key W2 hj (fun n => n.np = 1), setN_one W2 hj, if_neg (show ¬ decide (j.abs.np = 1) = true from fun q => by have := of_decide_eq_true q; have : j.np = 1 := this; omega)]
          rfl
      · rintro h2 tk2 m₂ js st l hpl hab ⟨rs, c, hst, hrin, rfl⟩ hAt2 - ⟨hm1, hm2⟩ htp2 F₁
        have hp2 := hpl.trans hp1
        have N3 : News g L' h2 [(S.dx, S.sd w (.ref S.rd)), (S.x, instObj 226 S.dx), (I, oI)] := nCons ⟨hAt2 _ (.tail _ (.tail _ (.tail _ (.head _)))), gI (S.dx, _) (.tail _ (.tail _ (.tail _ (.head _))))⟩ (nCons ⟨hAt2 _ (.tail _ (.tail _ (.head _))), gI (S.x, _) (.tail _ (.tail _ (.head _)))⟩ (nCons ⟨hAt2 _ (.head _), hIL⟩ nNil))
        have y1 := exI S.dx (.tail _ (.tail _ (.head _)))
        obtain ⟨g5, F5, N5, up5, hg5⟩ := reground F₁ N3
        have X5 := X'.keeps up5
        have T5 := T'.keeps up5
        have F₂ := Fr.pin (Fr.pin F5 (y₀ := "self") hm1) (y₀ := "n2i") hm2
        clear F₁ F5
        dsimp only
        ktr_unf
        rename Fr g5 _ _ _ => F7
        rename News g5 _ _ _ => N7
        obtain ⟨t2', N7⟩ : ∃ t2', News g5 L' _ ((S.dx, Srt.sd w { S with nf := S.nf + 1, t2 := t2' } (.ref S.rd)) :: _) := ⟨_, N7⟩
        have kd := F7.keep
        have far : ∀ q ∈ [(tp, tupOf [.str i.key ntk]), (S.nd, S.od), (S.rd, W.listOf (rs.map sv).toArray c)] ++ ledI js, (Heap.get? _ q.1) = some q.2 := fun q hq => by
          have hm : q ∈ [(I, oI), (tp, tupOf [.str i.key ntk]), (S.x, instObj 226 S.dx), (S.dx, S.sd w (.ref S.rd)), (S.nd, S.od), (S.rd, W.listOf (rs.map sv).toArray c)] ++ ledI js := by
            rcases List.mem_append.mp hq with h | h
            · exact List.mem_append_left _ (forall_cons (P := fun x => x ∈ [(I, oI), (tp, tupOf [.str i.key ntk]), (S.x, instObj 226 S.dx), (S.dx, S.sd w (.ref S.rd)), (S.nd, S.od), (S.rd, W.listOf (rs.map sv).toArray c)]) (.tail _ (.head _)) (fun x hx => .tail _ (.tail _ (.tail _ (.tail _ hx)))) q h)
            · exact List.mem_append_right _ h
          have hs : q.1 ∈ tp :: S.ads ∧ q.1 ≠ S.dx ∧ q.1 ≠ S.x := by
            rcases List.mem_append.mp hq with h | h
            · exact forall_cons (P := fun x : Addr × Obj => x.1 ∈ tp :: S.ads ∧ x.1 ≠ S.dx ∧ x.1 ≠ S.x) ⟨.head _, tpa _ (.tail _ (.head _)), tpa _ (.head _)⟩ (forall_cons ⟨.tail _ (.tail _ (.tail _ (.head _))), d4.symm, d2.symm⟩ (forall_cons ⟨.tail _ (.tail _ (.tail _ (.tail _ (.head _)))), d5.symm, d3.symm⟩ (fun _ h => absurd h List.not_mem_nil))) q h
            · have ha : q.1 ∈ adI S.is := adI_of hp2 ▸ keys_ledI.mp (List.mem_map_of_mem h)
              exact ⟨.tail _ (List.mem_append_right _ ha), (hoff _ ha).2.1, (hoff _ ha).1⟩
          exact kd _ _ (hg5 _ _ (hAt2 q hm) (ex _ hs.1).2.1 (nmem_cons hs.2.1 (nmem_cons hs.2.2 (nmem_cons (exI _ hs.1).symm nmem_nil))))
        refine ⟨_, _, _, rfl, forall_cons (fun o e => ?_) (forall_cons (fun o e => ?_) (fun _ h => nomatch h)), Fr.weak F7 F'.above up5, rfl, rfl, far _ (.head _), .inr ⟨trivial, t2', c, rs, js, hp2, ?_, hrin, At.append (forall_cons (N7 _ (.tail _ (.head _))).1 (forall_cons (N7 _ (.head _)).1 (forall_cons (far _ (.tail _ (.head _))) (forall_cons (far _ (.tail _ (.tail _ (.head _)))) (fun _ h => absurd h List.not_mem_nil))))) fun q hq => far q (List.mem_append_right _ hq)⟩⟩
        · rw [hoI] at e; rw [← e]; exact (N7 _ (.tail _ (.tail _ (.head _)))).1
        · rw [htp] at e; rw [← e]; exact far _ (.head _)
        · rw [hst, hab, absI_set (f' := fun n => { n with np := -2 }) (fun _ => rfl)]
    · exact absurd hv (by simp)
  · rintro I h tk m hI ⟨m1, m2, htp, ⟨e, -⟩ | ⟨-, t2, c', rs', is', hpl, hab, hr, hAt⟩⟩ F₁
    · exact absurd e Nat.one_ne_zero
    · ktr_unf
      exact hret _ _ t2 c' rs' is' hpl hab hr (keep_of N hg F₁ nNil fun q hq => .inl (S.led_ads hq)) hAt
end
end Mine
end

section
open PySem PySem.W PyProof.Rows PySem.Calls 
namespace Mine
section
variable {prog : Program} {w : World} {p : Program} {loose : List Str} {mean : ExcName → Option Value} {mg mb : Str → Option Value} {h₀ : Heap} {s : Shared} 
  {dp un : Nat} {R : Result → Shared → Prop}
theorem srtinit {x dx : Addr}
    (X : (hz.heap_251 w.params).In h₀) (T : Top p loose mean mg mb h₀) (K : h₀.StaysIn s.heap) (N : Led h₀ s.heap [(x, instObj 226 dx), (dx, emptyDict)]) (hd : dp < recursionLimit) (hlt : dx < x)
    (hret : ∀ h' tk' nd od k1 k2 k3 k4 t1 t2, Keep [x, dx] s.heap h' → s.heap.get? nd = none → @Ne Nat nd x → @Ne Nat nd dx → (nd == sysModules) = false → od.IsDictOf (strKind prog w) [] → h'.get? x = some (instObj 226 dx) → h'.get? dx = some (sDict w k1 k2 k3 k4 nd .none 0 0 t1 t2 4) → h'.get? nd = some od → R (.ok (.ret .none)) { s with heap := h', toks := tk' }) :
    codeAny (model prog w) (Aw dp un) (.call (.ref 162) ⟨[.ref x], []⟩) R s := by
  refine enterQ X T K N hd (ko162 _) (by k_is) (binds := [("self", .ref x), ("graph", .none)]) ?_ (locs rfl) ?_ (by decide) rfl rfl rfl
  · exact binds_K (X.keeps K) rfl (by k_is) rfl (by with_unfolding_all rfl) (by with_unfolding_all rfl)
  intro g L' h₁ tk hL F' N' X' T' hlt hg
  k_lt hlt; have hne := ltN (by assumption : dx < x)
  conv in execs _ _ => arg 1; whnf
  k_steps
  rename Fr g L' _ _ => F1
  rename News g L' _ _ => N1
  show RetTo R (.ret .none) _
  rename_i d _ od lo hs _ _ _ l1 _ _ _ _
  have n1 := neN (show @Ne Nat d x by omega)
  have n2 := neN (show @Ne Nat d dx by omega)
  exact hret _ _ d od _ _ _ _ _ _ (keep_of N hg F1 N1 (forall_cons (.inl (.head _)) (forall_cons (.inl (.tail _ (.head _))) (fun _ h => nomatch h)))) (fresh_of hg N1 (by k_mem) (nmem_cons n1 (nmem_cons n2 nmem_nil))) n1 n2 lo hs (N1 (x, _) (by k_mem)).1 (N1 (dx, _) (by k_mem)).1 (N1 (d, od) (by k_mem)).1
end
end Mine
end

section
open PySem PySem.W PyProof.Rows PySem.Calls 
namespace Mine
section
variable {prog : Program} {w : World} {A : Around} {E : Value → Shared → Prop} {s : Shared}
theorem get_slotX {K : Frag} {x C p : Addr} {ox od : Obj} {name : Str} {v : Value} {i : Nat} {expr : Bool} {Q : Value → Shared → Prop} (X : K.In s.heap) (I : InstAt s.heap x ox C (some od)) (hg : plainGet K C name = true) (hc : isClsIn K C = true)
    (ha : findIn K (.ref C) name = some (some (.ref p))) (hn : specialIn K (.ref p) "__get__" = some (some (.builtin "member_descriptor.__get__"))) (ht : takesIn K (.ref p) = some true) (hp : slotIn K p C = some i)
    (hv : (ox.slots[i]?).join = some v) (hh : handedIn v = true) (h : Q v { s with toks := s.toks + 1 }) : wpAny (model prog w) A (getAttr (.ref x) name expr) Q E s :=
  get_bind X I (plainGet_of hg).1 (findObj_data hc ha hn ht) (plainGet_of hg).2 (wpAny_call (slot_get (s := { s with toks := s.toks + 1 }) X I hp hv (handed_on hh h)))
theorem read_info {i : Info} {Q : Value → Shared → Prop} (X : (hz.heap_251 w.params).In s.heap) (hI : s.heap.get? i.I = some (infoObj i)) (hD : s.heap.get? i.D = some emptyDict) :
    (Q (.str i.key i.kt) { s with toks := s.toks + 1 } → wpAny (model prog w) A (getAttr (.ref i.I) "node" true) Q E s) ∧ (Q (.int i.np i.nt) { s with toks := s.toks + 1 } → wpAny (model prog w) A (getAttr (.ref i.I) "npredecessors" true) Q E s) := by
  constructor
  · intro h
    refine' get_slotX X (C := 129) (od := emptyDict) ⟨hI, rfl, rfl, hD⟩ ?k1 ?k2 ?k3 ?k4 ?k5 ?k6 (v := .str i.key i.kt) ?k7 rfl h
    case k1 => k_is
    case k2 => k_is
    case k3 => k_is
    case k4 => k_is
    case k5 => k_is
    case k6 => k_is
    case k7 => rfl
  · intro h
    refine' get_slotX X (C := 129) (od := emptyDict) ⟨hI, rfl, rfl, hD⟩ ?k1 ?k2 ?k3 ?k4 ?k5 ?k6 (v := .int i.np i.nt) ?k7 rfl h
    case k1 => k_is
    case k2 => k_is
    case k3 => k_is
    case k4 => k_is
    case k5 => k_is
    case k6 => k_is
    case k7 => rfl
noncomputable def cScope : Scope := { kind := .function, names := [(Str.ofString ".0", .local), (Str.ofString "i", .local)], isGenerator := false, isCoroutine := false }
theorem comp_name {env : Env} {C : Addr} {m : Str → Option Value} {v : Value} {px : Pos} {Q : Value → Shared → Prop} (hn : s.heap.Ns C m) (hv : m "i" = some v) (h : Q v s) : wpAny (model prog w) A (eval (.Name "i" px) (compEnv cScope C env)) Q E s :=
  wpAny_Name (wpAny_loadName_local (env := compEnv cScope C env) rfl rfl hn hv h) (by decide)
theorem paired_map {α : Type} {F : Value → Value → Prop} {f g : α → Value} : ∀ {l : List α} {ys : List Value}, Paired F (l.map f) ys → (∀ j ∈ l, ∀ y, F (f j) y → y = g j) → ys = l.map g
  | [], _, .nil, _ => rfl
  | a :: l, _, .cons h t, k => by rw [k a (.head _) _ h, paired_map t fun j hj => k j (.tail _ hj)]; rfl
theorem of_kv {is : List Info} {i : Nat} {k : Str} {v : Value} (h : (kvI is)[i]? = some (k, v)) : ∃ j ∈ is, v = .ref j.I := by
  unfold kvI at h
  rw [List.getElem?_map] at h
  obtain ⟨j, hj, e⟩ := Option.map_eq_some_iff.mp h
  exact ⟨j, List.mem_of_getElem? hj, (Prod.mk.inj e).2.symm⟩
theorem sK {K : Frag} {h h₁ h₂ : Heap} (X : K.In h) (up : ∀ b o, h.get? b = some o → h₁.get? b = some o) (k : ∀ b o, b ∉ [h.objs.size] → h₁.get? b = some o → h₂.get? b = some o) : K.In h₂ := X.keeps fun b o e => k b o (nm1 (Nat.ne_of_lt (Heap.lt_size e))) (up b o e)
theorem ready_comp {vw nd : Addr} {od : Obj} {is : List Info} {env : Env} {p1 p2 p3 p4 p5 p6 : Pos} {k0 : Nat} {Q : Value → Shared → Prop} (hh : A.handled = none) (X : (hz.heap_251 w.params).In s.heap) (hv : s.heap.get? vw = some { cls := .type "dict_values", data := .fields #[.ref nd] })
    (hnd : s.heap.get? nd = some od) (hod : od.IsDictOf (strKind prog w) (kvI is)) (Wf : WfI is) (at_ : At s.heap (ledI is)) (hsz : is.length ≤ 1000)
    (h : ∀ D h' tk c, s.heap.get? D = none → h'.get? D = some (W.listOf (((is.filter fun j => decide (j.np = 0)).map fun j => (j.key, j.kt)).map sv).toArray c) → Keep [] s.heap h' → Q (.ref D) { s with heap := h', toks := tk }) :
    wpAny (model prog w) A (pyIter (.ref vw)) (CompPost prog w A env cScope "i" [.Compare (.Attribute (.Name "i" p1) "npredecessors" p2) [.Eq] [.Constant (.int 0) k0 p3] p4] (.Attribute (.Name "i" p5) "node" p6) Q) E s := by
  obtain ⟨es, ep, o1, o2, o3, o4, o5⟩ := id hod
  have hm : s.heap.DictAt (strKind prog w) nd (kvI is) ep := ⟨od, es, hnd, o1, o2, o3, o4, o5⟩
  refine wpAny_pyIter_values ⟨_, hv, rfl, rfl⟩ hm ?_
  have nI : nd ≠ s.heap.objs.size := Nat.ne_of_lt (Heap.lt_size hnd)
  have up : ∀ b o, s.heap.get? b = some o → (s.heap.push { cls := .type "dict_valueiterator", data := .fields #[.ref nd, .int 0 0, .int (kvI is).length 0, .int ep 0] }).get? b = some o := fun b o e => Heap.get?_push_of_some _ e
  have inj : ∀ i ∈ is, ∀ j ∈ is, i.I = j.I → i = j := fun i hi j hj e => by
    by_cases k : i.key = j.key
    · exact Wf.key i hi j hj k
    · exact absurd e (Wf.out i hi j hj k _ (.head _) _ (.head _))
  refine ⟨fun v => decide (∃ j ∈ is, v = .ref j.I ∧ j.np = 0), fun v y => ∃ j ∈ is, v = .ref j.I ∧ y = .str j.key j.kt, s.heap.objs.size, [s.heap.objs.size, nd], [s.heap.objs.size], (kvI is).length, _, _, rfl, Walks.dictValues (knd := strKind prog w) hh _ nd nI (kvI is) ep, ?_, ⟨⟨_, Heap.get?_push_size _ rfl, rfl, rfl⟩, hm.push _⟩, ?_, ⟨?_, ?_⟩, ?_⟩
  · rw [show (kvI is).length = is.length from List.length_map _, sizeLine_eq]; omega
  · have z : (s.heap.push { cls := .type "dict_valueiterator", data := .fields #[.ref nd, .int 0 0, .int (kvI is).length 0, .int ep 0] }).objs.size = s.heap.objs.size + 1 := Heap.size_push ..
    have z2 := Heap.lt_size hnd
    exact forall_cons (by rw [z]; exact Nat.lt_succ_self _) (forall_cons (by rw [z]; exact Nat.lt_succ_of_lt z2) (fun _ h => absurd h List.not_mem_nil))
  · rintro C i v s₃ m₃ E' ⟨k, hk⟩ hns hm3 keep htk
    obtain ⟨j, hj, rfl⟩ := of_kv hk
    have g1 : ∀ q ∈ j.led, s₃.heap.get? q.1 = some q.2 := fun q hq => keep _ _ (nm1 (Nat.ne_of_lt (Heap.lt_size (at_ q (mem_ledI hj hq))))) (up _ _ (at_ q (mem_ledI hj hq)))
    refine wpAny_tests_one (wpAny_isTrue_Compare1 (Attribute_name (comp_name hns hm3 ((read_info (sK X up keep) (g1 _ (.head _)) (g1 _ (.tail _ (.head _)))).2 ?_))))
    repeat walk1
    · show decide (j.np = 0) = decide _
      refine decide_eq_decide.mpr ⟨fun z => ⟨j, hj, rfl, z⟩, fun ⟨i, hi, e, z⟩ => ?_⟩
      rw [inj j hj i hi (Value.ref.inj e)]; exact z
    · exact ⟨_, _, rfl, fun _ _ e => e⟩
  · rintro C i v s₃ m₃ E' ⟨k, hk⟩ hp hns hm3 keep htk
    obtain ⟨j, hj, rfl⟩ := of_kv hk
    have g1 : ∀ q ∈ j.led, s₃.heap.get? q.1 = some q.2 := fun q hq => keep _ _ (nm1 (Nat.ne_of_lt (Heap.lt_size (at_ q (mem_ledI hj hq))))) (up _ _ (at_ q (mem_ledI hj hq)))
    exact Attribute_name (comp_name hns hm3 ((read_info (sK X up keep) (g1 _ (.head _)) (g1 _ (.tail _ (.head _)))).1 ⟨⟨j, hj, rfl, rfl⟩, _, _, rfl, fun _ _ e => e⟩))
  · rintro D h' tk ys vs hD hl ⟨c, hc⟩ hn hP hF keep
    have e1 : vs = is.map fun j => Value.ref j.I := by
      refine List.ext_getElem? fun q => ?_
      by_cases hq : q < vs.length
      · obtain ⟨k, hk⟩ := hP q vs[q] (List.getElem?_eq_getElem hq)
        rw [List.getElem?_eq_getElem hq, List.getElem?_map]
        unfold kvI at hk
        rw [List.getElem?_map] at hk
        obtain ⟨j, hj, e⟩ := Option.map_eq_some_iff.mp hk
        rw [hj]; exact congrArg some (Prod.mk.inj e).2.symm
      · rw [List.getElem?_eq_none (Nat.le_of_not_lt hq), List.getElem?_eq_none (by rw [List.length_map, ← show (kvI is).length = is.length from List.length_map _, ← hn]; exact Nat.le_of_not_lt hq)]
    have e2 : vs.filter (fun v => decide (∃ j ∈ is, v = .ref j.I ∧ j.np = 0)) = (is.filter fun j => decide (j.np = 0)).map fun j => Value.ref j.I := by
      rw [e1, List.filter_map]
      congr 1
      refine List.filter_congr fun j hj => ?_
      show decide (∃ i ∈ is, Value.ref j.I = .ref i.I ∧ i.np = 0) = decide (j.np = 0)
      refine decide_eq_decide.mpr ⟨fun ⟨i, hi, e, z⟩ => ?_, fun z => ⟨j, hj, rfl, z⟩⟩
      rw [inj j hj i hi (Value.ref.inj e)]; exact z
    rw [e2] at hF
    have e3 : ys.toList = (is.filter fun j => decide (j.np = 0)).map fun j => Value.str j.key j.kt := paired_map hF fun j hj y hy => by
      obtain ⟨i, hi, e, z⟩ := hy
      rw [inj j (List.mem_filter.mp hj).1 i hi (Value.ref.inj e)]; exact z
    refine h D h' tk c ?_ ?_ fun b o _ e => keep b o (nm1 (Nat.ne_of_lt (Heap.lt_size e))) (up _ _ e)
    · cases q : s.heap.get? D with
      | none => rfl
      | some o => rw [up _ _ q] at hD; cases hD
    · rw [hc, List.map_map]
      show some (W.listOf ys c) = some (W.listOf ((is.filter fun j => decide (j.np = 0)).map fun j => Value.str j.key j.kt).toArray c)
      rw [← e3, Array.toArray_toList]
end
end Mine
end

section
open PySem PySem.W PyProof.Rows PySem.Calls 
local macro_rules | `(tactic| ktr_unf) => `(tactic| repeat' ((fail_if_success (with_reducible show wpAny _ _ (exec (Stmt.For _ _ _ _ _) _) _ _ _)); (fail_if_success (with_reducible show wpAny _ _ (exec (Stmt.While _ _ _ _) _) _ _ _)); (fail_if_success (with_reducible show wpAny _ _ (exec (Stmt.Try _ _ _ _ _) _) _ _ _)); first | (k_unfold; (try dsimp only)) | (k_end; wrow_close) | walk1 | (dsimp only; walk1) | (leave1; (try dsimp only)) | fail "no step"))
namespace Mine
noncomputable def foB : Stmt → List Stmt | .For _ _ b _ _ => b | _ => []
noncomputable def ifE : Stmt → List Stmt | .If _ _ b _ => b | _ => []
noncomputable def trB : Stmt → List Stmt | .Try b _ _ _ _ => b | _ => []
noncomputable def fcFor : Stmt := stN (fnB st216) 5
noncomputable def fcW : Stmt := stN (foB fcFor) 1
noncomputable def fcIf : Stmt := stN (whB fcW) 0
noncomputable def fcW2 : Stmt := stN (whB fcW) 1
noncomputable abbrev fcEnv (L : Addr) : Env := envOf "TopologicalSorter._find_cycle" (fnS st216) L 216 (.ref 215)
local macro_rules | `(tactic| k_all) => `(tactic| assumption)
local macro_rules | `(tactic| k_ne) => `(tactic| (refine neN ?_; (try dsimp only); first | assumption | (refine Ne.symm ?_; assumption)))
theorem pin_eq {m m' : Str → Option Value} {y₀ : Str} {v : Value} (e : m' = m) (h : m y₀ = some v) : (fun y => if y = y₀ then some v else m' y) = m := by
  funext y
  by_cases q : y = y₀
  · rw [if_pos q, q, h]
  · rw [if_neg q, e]
theorem Fr.to {g h : Heap} {L : Addr} {m m' : Str → Option Value} (F : Fr g L h m') (e : m' = m) : Fr g L h m := e ▸ F
theorem neCls {h : Heap} {a b : Addr} {o o' : Obj} (e : h.get? a = some o) (e' : h.get? b = some o') (n : o.cls ≠ o'.cls) : @Ne Nat a b := fun z => n (by rw [z, e'] at e; cases e; rfl)
section
variable {prog : Program} {w : World} {p₀ : Program} {loose : List Str} {mean : ExcName → Option Value} {mg mb : Str → Option Value} {g : Heap} {s : Shared} {m : Str → Option Value} {Q : Flow → Shared → Prop} {E : Value → Shared → Prop}
  {dp un : Nat} {gd : Option (List Code)} {fr : List Env}
theorem fc_push {L nd st its sn ni : Addr} {od on so : Obj} {nt : Nat} {i : Info} {is : List Info} {stk itl : List Value} {kvs : List (Str × Value)} {c1 c2 : Nat} {Ss : Str → Bool} {n : Nat}
    (X : (hz.heap_251 w.params).In g) (T : Top p₀ loose mean mg mb g) (F : Fr g L s.heap m) (N : News g L s.heap [(nd, od), (i.I, infoObj i), (i.D, emptyDict), (i.S, W.listOf (i.succ.map sv).toArray i.sn), (st, W.listOf stk.toArray c1), (its, W.listOf itl.toArray c2), (ni, on), (sn, so)])
    (hm1 : m "n2i" = some (.ref nd)) (hm2 : m "node" = some (.str i.key nt)) (hm3 : m "stack" = some (.ref st)) (hm4 : m "itstack" = some (.ref its)) (hm5 : m "seen" = some (.ref sn)) (hm6 : m "node2stacki" = some (.ref ni))
    (hod : od.IsDictOf (strKind prog w) (kvI is)) (Wf : WfI is) (hi : i ∈ is) (hon : on.IsDictOf (strKind prog w) kvs) (hso : so.SetObjOf (strKind prog w) Ss n) (hn : n ≤ 1000) (hkv : kvs.length ≤ 1000) (hst : stk.length ≤ 1000) (hit : itl.length ≤ 1000)
    (d1 : @Ne Nat st its) (d2 : @Ne Nat st i.S) (d3 : @Ne Nat its i.S) (d4 : @Ne Nat ni nd) (d5 : @Ne Nat ni i.D)
    (hQ : ∀ h' tk it mw so' on', Keep [L, sn, its, ni, st] s.heap h' → s.heap.get? it = none → s.heap.get? mw = none → @Ne Nat it mw → h'.get? it = some (liO i.S 0) → h'.get? mw = some (mwO it) → h'.get? sn = some so' → so'.SetObjOf (strKind prog w) (fun k => Ss k || decide (k = i.key)) (if Ss i.key then n else n + 1) →
      h'.get? its = some (W.listOf (itl ++ [Value.ref mw]).toArray (c2 + 1)) → h'.get? ni = some on' → (∃ v, on'.IsDictOf (strKind prog w) (stored kvs i.key v)) → h'.get? st = some (W.listOf (stk ++ [Value.str i.key nt]).toArray (c1 + 1)) → Fr g L h' m → Q .next { s with heap := h', toks := tk }) :
    wpAny (model prog w) (Ar dp un gd (fcEnv L :: fr)) (execs (ifE fcIf) (fcEnv L)) Q E s := by
  obtain ⟨rest, hr1, hr2⟩ := restX g s.heap [L, nd, i.I, i.D, i.S, st, its, ni, sn]
  have N1 : News g L s.heap ((nd, od) :: (i.I, infoObj i) :: (i.D, emptyDict) :: (i.S, W.listOf (i.succ.map sv).toArray i.sn) :: (st, W.listOf stk.toArray c1) :: (its, W.listOf itl.toArray c2) :: (ni, on) :: (sn, so) :: rest) :=
    fun q hq => (List.mem_append.mp (show q ∈ [(nd, od), (i.I, infoObj i), (i.D, emptyDict), (i.S, W.listOf (i.succ.map sv).toArray i.sn), (st, W.listOf stk.toArray c1), (its, W.listOf itl.toArray c2), (ni, on), (sn, so)] ++ rest from hq)).elim (N q) fun hq => ⟨(hr1 q hq).1, fun z => (hr1 q hq).2.1 (z ▸ .head _), (hr1 q hq).2.2⟩
  have r1 : ∀ q ∈ rest, q.1 ≠ st := fun q hq z => (hr1 q hq).2.1 (z ▸ .tail _ (.tail _ (.tail _ (.tail _ (.tail _ (.head _))))))
  have r2 : ∀ q ∈ rest, q.1 ≠ its := fun q hq z => (hr1 q hq).2.1 (z ▸ .tail _ (.tail _ (.tail _ (.tail _ (.tail _ (.tail _ (.head _)))))))
  have r3 : ∀ q ∈ rest, q.1 ≠ ni := fun q hq z => (hr1 q hq).2.1 (z ▸ .tail _ (.tail _ (.tail _ (.tail _ (.tail _ (.tail _ (.tail _ (.head _))))))))
  have r4 : ∀ q ∈ rest, q.1 ≠ sn := fun q hq z => (hr1 q hq).2.1 (z ▸ .tail _ (.tail _ (.tail _ (.tail _ (.tail _ (.tail _ (.tail _ (.tail _ (.head _)))))))))
  have F2 := Fr.pin (Fr.pin (Fr.pin (Fr.pin (Fr.pin (Fr.pin F (y₀ := "n2i") hm1) (y₀ := "node") hm2) (y₀ := "stack") hm3) (y₀ := "itstack") hm4) (y₀ := "seen") hm5) (y₀ := "node2stacki") hm6
  have cs : so.cls = .type "set" := hso.1.1
  have co : od.cls = .type "dict" := by obtain ⟨_, _, e, _⟩ := hod; exact e.1
  have cn : on.cls = .type "dict" := by obtain ⟨_, _, e, _⟩ := hon; exact e.1
  have H := fun q (hq : q ∈ [(nd, od), (i.I, infoObj i), (i.D, emptyDict), (i.S, W.listOf (i.succ.map sv).toArray i.sn), (st, W.listOf stk.toArray c1), (its, W.listOf itl.toArray c2), (ni, on), (sn, so)]) => (N q hq).1
  have hnd := H (nd, od) (by k_mem)
  have hI := H (i.I, infoObj i) (by k_mem)
  have hD := H (i.D, emptyDict) (by k_mem)
  have hS := H (i.S, W.listOf (i.succ.map sv).toArray i.sn) (by k_mem)
  have hT := H (st, W.listOf stk.toArray c1) (by k_mem)
  have hU := H (its, W.listOf itl.toArray c2) (by k_mem)
  have hV := H (ni, on) (by k_mem)
  have hW := H (sn, so) (by k_mem)
  have s1 := neCls hW hnd (by rw [cs, co]; decide)
  have s2 := neCls hW hI (by rw [cs]; exact fun q => nomatch q)
  have s3 := neCls hW hD (by rw [cs]; exact show ¬ (Value.type "set" = Value.type "dict") by decide)
  have s4 := neCls hW hS (by rw [cs]; exact show ¬ (Value.type "set" = Value.type "list") by decide)
  have s5 := neCls hW hT (by rw [cs]; exact show ¬ (Value.type "set" = Value.type "list") by decide)
  have s6 := neCls hW hU (by rw [cs]; exact show ¬ (Value.type "set" = Value.type "list") by decide)
  have s7 := neCls hW hV (by rw [cs, cn]; decide)
  have u1 := neCls hU hnd (by rw [co]; exact show ¬ (Value.type "list" = Value.type "dict") by decide)
  have u2 := neCls hU hI (fun q => nomatch q)
  have u3 := neCls hU hD (show ¬ (Value.type "list" = Value.type "dict") by decide)
  have u4 := neCls hU hV (by rw [cn]; exact show ¬ (Value.type "list" = Value.type "dict") by decide)
  have t1 := neCls hT hnd (by rw [co]; exact show ¬ (Value.type "list" = Value.type "dict") by decide)
  have t2 := neCls hT hI (fun q => nomatch q)
  have t3 := neCls hT hD (show ¬ (Value.type "list" = Value.type "dict") by decide)
  have t4 := neCls hT hV (by rw [cn]; exact show ¬ (Value.type "list" = Value.type "dict") by decide)
  have v1 := neCls hV hI (by rw [cn]; exact fun q => nomatch q)
  have v2 := neCls hV hS (by rw [cn]; exact show ¬ (Value.type "dict" = Value.type "list") by decide)
  have kF := F.keep
  clear F N
  conv in execs _ _ => arg 1; whnf
  ktr_unf
  rename Obj.SetObjOf _ _ _ _ => hso2
  rename Obj => so2
  rename Heap => h5
  rename News g L _ _ => N3
  refine kda_item (knd := strKind _ _) N3 (.head _) hod (strKind_is _ _ _ _) (valueAt_info Wf hi) ?_
  ktr_unf
  rename Fr g L _ _ => F4
  rename News g L _ _ => N4
  refine iter_any (wpAny_pyIter_list ⟨_, (N4 (i.S, W.listOf (i.succ.map sv).toArray i.sn) (by k_mem)).1, rfl, _, rfl⟩ ?_)
  have n0 : ∀ q ∈ _, @Ne Nat h5.objs.size (Prod.fst q) := fun q hq => (Nat.ne_of_lt (Heap.lt_size (N4 q hq).1)).symm
  have N5 := News.push F4 N4 (liO i.S 0)
  have F5 := F4.push (liO i.S 0)
  have n5 : ∀ q ∈ _, @Ne Nat (h5.push (liO i.S 0)).objs.size (Prod.fst q) := fun q hq => (Nat.ne_of_lt (Heap.lt_size (N5 q hq).1)).symm
  clear F4 N4
  refine li_attr (l := i.S) (k := 0) (N5 _ (.head _)).1 ?_
  have N6 := News.push F5 N5 (mwO h5.objs.size)
  have F6 := F5.push (mwO h5.objs.size)
  clear F5 N5
  dsimp only
  ktr_unf
  rename Fr g L _ _ => F6
  rename News g L _ _ => N6
  have m1 := n5 (its, W.listOf itl.toArray c2) (by k_mem)
  have m2 := n5 (ni, on) (by k_mem)
  have m3 := n5 (st, W.listOf stk.toArray c1) (by k_mem)
  have m4 := n0 (its, W.listOf itl.toArray c2) (by k_mem)
  have m5 := n0 (ni, on) (by k_mem)
  have m6 := n0 (st, W.listOf stk.toArray c1) (by k_mem)
  refine append_M F6 N6 (by k_upd) (by omega) ?_
  intro h7 F7 N7
  clear F6 N6
  ktr_unf
  rename News g L _ _ => N7
  have nL := (N7 (st, W.listOf stk.toArray c1) (by k_mem)).1
  refine kun_lenL (k := (stk.length : Int)) ⟨_, nL, rfl, _, rfl⟩ (by rw [List.size_toArray]) (by omega) ?_
  ktr_unf
  rename Fr g L _ _ => F8
  rename News g L _ _ => N8
  refine kda_set (knd := strKind _ _) F8 N8 (by k_updF) hon (strKind_is _ _ _ _) (by rw [sizeLine_eq]; omega) ?_
  intro h9 on' F9 N9 hon'
  clear F8 N8
  ktr_unf
  rename Fr g L _ _ => F10
  rename News g L _ _ => N10
  rename Heap => h11
  have fin : ∀ b o, s.heap.get? b = some o → b ∉ [L, sn, its, ni, st] → h11.get? b = some o := fun b o e n => by
    cases q : g.get? b with
    | some o' => have := kF b o' q; rw [e] at this; cases this; exact F10.keep b o q
    | none =>
      by_cases hx : b ∈ [L, nd, i.I, i.D, i.S, st, its, ni, sn]
      · have hb : b ∈ [nd, i.I, i.D, i.S] := by
          simp only [List.mem_cons, List.not_mem_nil, or_false, not_or] at hx n ⊢
          obtain ⟨a1, a2, a3, a4, a5⟩ := n
          rcases hx with z | z | z | z | z | z | z | z | z
          · exact absurd z a1
          · exact .inl z
          · exact .inr (.inl z)
          · exact .inr (.inr (.inl z))
          · exact .inr (.inr (.inr z))
          · exact absurd z a5
          · exact absurd z a3
          · exact absurd z a4
          · exact absurd z a2
        have kk : ∀ q ∈ [(nd, od), (i.I, infoObj i), (i.D, emptyDict), (i.S, W.listOf (i.succ.map sv).toArray i.sn)], s.heap.get? q.1 = some q.2 ∧ h11.get? q.1 = some q.2 :=
          forall_cons ⟨hnd, (N10 (nd, od) (by k_mem)).1⟩ (forall_cons ⟨hI, (N10 (i.I, infoObj i) (by k_mem)).1⟩ (forall_cons ⟨hD, (N10 (i.D, emptyDict) (by k_mem)).1⟩ (forall_cons ⟨hS, (N10 (i.S, W.listOf (i.succ.map sv).toArray i.sn) (by k_mem)).1⟩ (fun _ h => absurd h List.not_mem_nil))))
        obtain ⟨q', hq', rfl⟩ := List.mem_map.mp (show b ∈ keys [(nd, od), (i.I, infoObj i), (i.D, emptyDict), (i.S, W.listOf (i.succ.map sv).toArray i.sn)] from hb)
        obtain ⟨k1, k2⟩ := kk q' hq'
        rw [e] at k1; rw [k2, k1]
      · exact (N10 (b, o) (by
          have := hr2 b o e hx q
          simp only [List.mem_cons]
          iterate 10 right
          exact this)).1
  have fresh : ∀ a : Addr, a ≠ L → g.get? a = none → (∀ q ∈ (nd, od) :: (i.I, infoObj i) :: (i.D, emptyDict) :: (i.S, W.listOf (i.succ.map sv).toArray i.sn) :: (st, W.listOf stk.toArray c1) :: (its, W.listOf itl.toArray c2) :: (ni, on) :: (sn, so2) :: rest, a ≠ q.1) → s.heap.get? a = none := fun a a1 a2 a3 => by
    cases q : s.heap.get? a with
    | none => rfl
    | some o =>
      by_cases hx : a ∈ [L, nd, i.I, i.D, i.S, st, its, ni, sn]
      · rcases List.mem_cons.mp hx with z | hx
        · exact absurd z a1
        · obtain ⟨q', hq', z⟩ := List.mem_map.mp (show a ∈ keys [(nd, od), (i.I, infoObj i), (i.D, emptyDict), (i.S, W.listOf (i.succ.map sv).toArray i.sn), (st, W.listOf stk.toArray c1), (its, W.listOf itl.toArray c2), (ni, on), (sn, so2)] from hx)
          exact absurd z.symm (a3 q' (List.mem_append_left rest hq'))
      · exact absurd rfl (a3 (a, o) (List.mem_append_right [(nd, od), (i.I, infoObj i), (i.D, emptyDict), (i.S, W.listOf (i.succ.map sv).toArray i.sn), (st, W.listOf stk.toArray c1), (its, W.listOf itl.toArray c2), (ni, on), (sn, so2)] (hr2 a o q hx a2)))
  have z1 := N10 _ (.head _)
  have z2 := N10 _ (.tail _ (.head _))
  have Fm := Fr.to F10 (pin_eq (pin_eq (pin_eq (pin_eq (pin_eq (pin_eq rfl hm1) hm2) hm3) hm4) hm5) hm6)
  rw [List.push_toArray] at N10
  exact hQ h11 tk _ _ so2 on' (fun b o n e => fin b o e n) (fresh _ z2.2.1 z2.2.2 n0) (fresh _ z1.2.1 z1.2.2 fun q hq => n5 q (.tail _ hq)) (n5 _ (.head _)).symm z2.1 z1.1 (N10 (sn, so2) (by k_mem)).1 hso2 (N10 (its, _) (by k_mem)).1 (N10 (ni, on') (by k_mem)).1 ⟨_, hon'⟩ (N10 (st, _) (by k_mem)).1 Fm
end
end Mine
end

section
open PySem PySem.W PyProof.Rows PySem.Calls 
local macro_rules | `(tactic| ktr_unf) => `(tactic| repeat' ((fail_if_success (with_reducible show wpAny _ _ (exec (Stmt.For _ _ _ _ _) _) _ _ _)); (fail_if_success (with_reducible show wpAny _ _ (exec (Stmt.While _ _ _ _) _) _ _ _)); (fail_if_success (with_reducible show wpAny _ _ (exec (Stmt.Try _ _ _ _ _) _) _ _ _)); first | (k_unfold; (try dsimp only)) | (k_end; wrow_close) | walk1 | (dsimp only; walk1) | (leave1; (try dsimp only)) | fail "no step"))
namespace Mine
local macro_rules | `(tactic| k_all) => `(tactic| assumption)
local macro_rules | `(tactic| k_ne) => `(tactic| (refine neN ?_; (try dsimp only); first | assumption | (refine Ne.symm ?_; assumption)))
section
variable {M : Model} {A : Around} {E : Value → Shared → Prop} {s : Shared}
theorem keeps_mw {mw it : Addr} (h : Heap) (X : h.get? mw = some (mwO it)) : ∃ k, (k = Keeper.frame ∨ k = Keeper.machine ∨ k = Keeper.boundFrame) ∧ Looks M h (keeperOf (.ref mw)) k := by
  refine ⟨.machine, .inr (.inl rfl), ?_⟩
  intro A Q E s hs hq
  unfold keeperOf
  refine wpAny_bind (wpAny_load (hs _ _ X) ?_)
  exact wpAny_pure hq
theorem callWith_mw {pos : Pos} {mw it : Addr} {env : Env} {Q : Value → Shared → Prop} (X : s.heap.get? mw = some (mwO it)) (h : wpAny M A (call (.ref mw) []) Q E s) : wpAny M A (callWith pos (.ref mw) [] (backTo pos (starEach [] env)) []) Q E s :=
  callWith_of (P := fun h => h.get? mw = some (mwO it)) rfl (keeps_mw) (evalArgs_nil3 ⟨X, h⟩)
end
section
variable {prog : Program} {w : World} {p₀ : Program} {loose : List Str} {mean : ExcName → Option Value} {mg mb : Str → Option Value} {g h₀ : Heap} {s : Shared} {m : Str → Option Value} {Q : Flow → Shared → Prop} {E : Value → Shared → Prop}
  {dp un : Nat} {gd : Option (List Code)} {fr : List Env}
theorem kl_last_app {y : Value} : ∀ p : List Value, kl_last (p ++ [y]) = some (p, y)
  | [] => rfl
  | [a] => rfl
  | a :: b :: p => by
    show kl_last (a :: ((b :: p) ++ [y])) = _
    have := kl_last_app (y := y) (b :: p)
    unfold kl_last
    simp only [List.cons_append] at this ⊢
    rw [this]
theorem pop_M {A : Around} {D : Addr} {news news' : List (Addr × Obj)} {L : Addr} {g : Heap} {p : List Value} {y : Value} {n : Nat} {Q : Value → Shared → Prop} (F : Fr g L s.heap m) (N : News g L s.heap news) (U : Upd D (W.listOf (p ++ [y]).toArray n) (W.listOf p.toArray (n + 1)) news news') (hz : p.length ≤ 2000)
    (h : ∀ h', Fr g L h' m → News g L h' news' → Q y { s with heap := h' }) : wpAny (model prog w) A (call (.builtin "list.pop") [.ref D]) Q E s :=
  kl_pop F N (kl_last_app p) U (by rw [List.length_append, List.length_singleton, sizeLine_eq]; omega) h
theorem fc_turn {L st its ni mw it lS : Addr} {on : Obj} {zk : Str} {zt k sn' : Nat} {succ : List (Str × Nat)} {stk itl : List Value} {kvs : List (Str × Value)} {c1 c2 : Nat}
    (X : (hz.heap_251 w.params).In g) (T : Top p₀ loose mean mg mb g) (F : Fr g L s.heap m) (N : News g L s.heap [(st, W.listOf (stk ++ [Value.str zk zt]).toArray c1), (its, W.listOf (itl ++ [Value.ref mw]).toArray c2), (ni, on), (mw, mwO it), (it, liO lS k), (lS, W.listOf (succ.map sv).toArray sn')])
    (hm3 : m "stack" = some (.ref st)) (hm4 : m "itstack" = some (.ref its)) (hm6 : m "node2stacki" = some (.ref ni))
    (hon : on.IsDictOf (strKind prog w) kvs) (hkv : kvs.length ≤ 1000) (hst : stk.length ≤ 1000) (hit : itl.length ≤ 1000) (hz : (valueAt kvs zk).isSome = true)
    (d1 : @Ne Nat st its) (d2 : @Ne Nat st lS) (d3 : @Ne Nat its lS) (hgb : h₀.StaysIn g) (hff : s.heap.FunFrames h₀ fr) (hgf : ∀ b ∈ frs fr, g.get? b = none) (hL0 : h₀.get? L = none) (hLf : L ∉ frs fr) (hnf : ∀ b ∈ frs fr, b ∉ [st, its, ni, mw, it, lS])
    (hitem : ∀ p h' tk, succ[k]? = some p → Keep [L, it] s.heap h' → h'.get? it = some (liO lS (k + 1)) → Fr g L h' (fun y => if y = "node" then some (.str p.1 p.2) else m y) → Q .brk { s with heap := h', toks := tk })
    (hpop : ∀ h' tk on', succ[k]? = none → (∀ b o, s.heap.get? b = some o → b ∉ [L, st, its, ni, it] → b ∉ frs fr → h'.get? b = some o) → h'.get? st = some (W.listOf stk.toArray (c1 + 1)) → h'.get? its = some (W.listOf itl.toArray (c2 + 1)) → h'.get? ni = some on' → on'.IsDictOf (strKind prog w) (without kvs zk) →
      UpF fr s.heap h' → Fr g L h' m → Q .next { s with heap := h', toks := tk }) :
    wpAny (model prog w) (Ar dp un gd (fcEnv L :: fr)) (execs (whB fcW2) (fcEnv L)) Q (fun _ _ => False) s := by
  have kF := F.keep
  have nsF := F.ns
  have FF := F
  have NN := N
  have F2 := Fr.pin (Fr.pin (Fr.pin F (y₀ := "stack") hm3) (y₀ := "itstack") hm4) (y₀ := "node2stacki") hm6
  clear F N
  have N := NN
  conv in execs _ _ => arg 1; whnf
  ktr_unf
  refine wpAny_Try_except ?_
  ktr_unf
  rename Fr g L _ _ => F3
  rename News g L _ _ => N3
  have hits := (N3 (its, W.listOf (itl ++ [Value.ref mw]).toArray c2) (by k_mem)).1
  refine subscriptTail_builtin (T := "list") ⟨_, hits, rfl⟩ slot_list_getitem.lookup (wpAny_getItem_list_neg (x := .ref mw) ⟨_, hits, rfl, _, rfl⟩ (by decide) (by rw [List.size_toArray, List.length_append]; simp; omega) (by decide) (by rw [List.size_toArray, List.length_append, List.length_singleton, show (-1 + ((itl.length + 1 : Nat) : Int)).toNat = itl.length by omega]; simp) ?_)
  have hmw := (N3 (mw, mwO it) (by k_mem)).1
  refine callWith_mw hmw ?_
  have hitt := (N3 (it, liO lS k) (by k_mem)).1
  have hlS := (N3 (lS, W.listOf (succ.map sv).toArray sn') (by k_mem)).1
  refine mw_call rfl hmw hitt hlS ?_ ?_
  · intro v hv h4 k4 hit4
    rw [List.getElem?_map] at hv
    obtain ⟨p, hp, hvp⟩ := Option.map_eq_some_iff.mp hv
    obtain rfl : Value.str p.1 p.2 = v := hvp
    have F4 := frKept' FF k4 (by intro b hb; rw [List.mem_singleton.mp hb]; exact (N3 (it, liO lS k) (by k_mem)).2)
    refine wpAny_storeName_local (by with_unfolding_all rfl) F4.ns (fun h5 hn5 hs5 => ?_) (by with_unfolding_all rfl)
    have F5 := F4.set hn5 hs5
    clear F3 F4
    dsimp only
    ktr_unf
    exact hitem p h5 _ hp (fun b o n e => (hs5.2 b fun z => n (z ▸ .head _)).trans (k4 b o (fun z => n (.tail _ z)) e)) ((hs5.2 it (N3 (it, liO lS k) (by k_mem)).2.1).trans hit4) F5
  · intro hv h4 h5 e k4 ne
    have hv' : succ[k]? = none := by rw [List.getElem?_map] at hv; exact Option.map_eq_none_iff.mp hv
    have Fk := frKept' FF k4 (by intro b hb; rw [List.mem_singleton.mp hb]; exact (N3 (it, liO lS k) (by k_mem)).2)
    have hl2 : h4.FunFrames h₀ (fcEnv L :: fr) := .cons (show ScopeKind.function ≠ ScopeKind.module by decide) rfl Fk.ns hL0 (ff_keep hff fun b hb o e => k4 b o (nm1 fun z => hnf b hb (z ▸ .tail _ (.tail _ (.tail _ (.tail _ (.head _)))))) e)
    have hl3 := funFrames_hide (as := frs (fcEnv L :: fr)) hl2 fun env he a ha => List.mem_filterMap.mpr ⟨env, he, ha⟩
    refine looks_new rfl rfl hl3 (fun b o e => of_hideAll _ e) ne ?_
    intro h6 a0 held sm1
    refine wpAny_landsW held ?_
    intro h7 fl sm2
    have gL : g.get? L = none := by
      cases q : g.get? L with
      | none => rfl
      | some o => exact absurd (Nat.lt_of_lt_of_le (Heap.lt_size q) FF.above) (Nat.lt_irrefl _)
    have gk : ∀ hh, (hideAll h4 (frs (fcEnv L :: fr))).StaysIn hh → ∀ b o, g.get? b = some o → hh.get? b = some o := fun hh f1 b o q => f1 b o (hideAll_get _ (Fk.keep b o q) fun hm => by
      rcases List.mem_cons.mp hm with z | z
      · rw [z, gL] at q; cases q
      · rw [hgf b z] at q; cases q)
    have F7 : Fr g L h7 m := ⟨(sm1.trans sm2).ns (Fk.ns.at' (ne.1 _)), gk h7 fl.1, FF.above⟩
    refine wpAny_handleBy_builtin (X := "StopIteration") (T := "StopIteration") (b := true) (by rw [isSubtype_type]; kernel_rfl) (by rw [isSubtype_type]; kernel_rfl) (by rw [isSubtype_type]; kernel_rfl) ?_
    have hev : ∀ (Q : Value → Shared → Prop) (E : Value → Shared → Prop) (A : Around) p (s' : Shared), s'.heap = h7 → Q (.type "StopIteration") s' → wpAny (model prog w) A (eval (.Name "StopIteration" p) (fcEnv L)) Q E s' := by
      intro Q E A p s' es hq
      subst es
      clear F3 N3 FF Fk
      k_steps
      exact hq
    refine hev _ _ _ _ _ rfl ⟨rfl, fl.there, ?_⟩
    rw [if_pos rfl]
    refine lands_againW fl ?_
    intro h8 fl8 sm3
    have F8 : Fr g L h8 m := ⟨((sm1.trans sm2).trans sm3).ns (Fk.ns.at' (ne.1 _)), gk h8 fl8.1, FF.above⟩
    have g8 : ∀ b o, s.heap.get? b = some o → b ∉ [L, it] → b ∉ frs fr → h8.get? b = some o := fun b o e n1 n2 => fl8.1 b o (hideAll_get _ (k4 b o (fun z => n1 (.tail _ z)) e) fun hm => (List.mem_cons.mp hm).elim (fun z => n1 (z ▸ .head _)) n2)
    have hst8 := g8 st _ (NN (st, W.listOf (stk ++ [Value.str zk zt]).toArray c1) (by k_mem)).1 (nm2 (NN (st, _) (by k_mem)).2.1 (neCls (NN (st, W.listOf (stk ++ [Value.str zk zt]).toArray c1) (by k_mem)).1 hitt (show ¬ (Value.type "list" = Value.type "list_iterator") by decide))) fun z => hnf _ z (.head _)
    have hit8 := g8 its _ (NN (its, W.listOf (itl ++ [Value.ref mw]).toArray c2) (by k_mem)).1 (nm2 (NN (its, _) (by k_mem)).2.1 (neCls hits hitt (show ¬ (Value.type "list" = Value.type "list_iterator") by decide))) fun z => hnf _ z (.tail _ (.head _))
    have cn : on.cls = .type "dict" := by obtain ⟨_, _, e, _⟩ := hon; exact e.1
    have hni8 := g8 ni _ (NN (ni, on) (by k_mem)).1 (nm2 (NN (ni, on) (by k_mem)).2.1 (neCls (NN (ni, on) (by k_mem)).1 hitt (by rw [cn]; exact show ¬ (Value.type "dict" = Value.type "list_iterator") by decide))) fun z => hnf _ z (.tail _ (.tail _ (.head _)))
    obtain ⟨rest, hr1, hr2⟩ := restX g h8 [L, st, its, ni]
    have N8 : News g L h8 ((st, W.listOf (stk ++ [Value.str zk zt]).toArray c1) :: (its, W.listOf (itl ++ [Value.ref mw]).toArray c2) :: (ni, on) :: rest) :=
      nCons ⟨hst8, (NN (st, _) (by k_mem)).2⟩ (nCons ⟨hit8, (NN (its, _) (by k_mem)).2⟩ (nCons ⟨hni8, (NN (ni, on) (by k_mem)).2⟩ fun q hq => ⟨(hr1 q hq).1, fun z => (hr1 q hq).2.1 (z ▸ .head _), (hr1 q hq).2.2⟩))
    have r1 : ∀ q ∈ rest, q.1 ≠ st := fun q hq z => (hr1 q hq).2.1 (z ▸ .tail _ (.head _))
    have r2 : ∀ q ∈ rest, q.1 ≠ its := fun q hq z => (hr1 q hq).2.1 (z ▸ .tail _ (.tail _ (.head _)))
    have r3 : ∀ q ∈ rest, q.1 ≠ ni := fun q hq z => (hr1 q hq).2.1 (z ▸ .tail _ (.tail _ (.tail _ (.head _))))
    have v1 := neCls hni8 hst8 (by rw [cn]; exact show ¬ (Value.type "dict" = Value.type "list") by decide)
    have v2 := neCls hni8 hit8 (by rw [cn]; exact show ¬ (Value.type "dict" = Value.type "list") by decide)
    have U8 : UpF fr s.heap h8 := (((UpF.refl.keep fun b hb o e => ne.1 _ _ (k4 b o (nm1 fun z => hnf b hb (z ▸ .tail _ (.tail _ (.tail _ (.tail _ (.head _)))))) e)).step sm1).step sm2).step sm3
    have F9 := Fr.pin (Fr.pin (Fr.pin F8 (y₀ := "stack") hm3) (y₀ := "itstack") hm4) (y₀ := "node2stacki") hm6
    clear F3 N3 FF Fk F8 F7 fl fl8 hev held hl3 hl2
    refine wpAny_mono (E := fun _ _ => False) (Q := fun f s' => f = .next ∧ Q .next s') ?_ (fun f s' hf => by obtain ⟨rfl, hq⟩ := hf; exact wpAny_execs_nil hq) fun _ _ f => f.elim
    dsimp only
    ktr_unf
    rename News g L _ _ => N10
    rename Fr g L _ _ => F10
    refine pop_M F10 N10 (by k_upd) (by omega) ?_
    intro h11 F11 N11
    clear F10 N10
    dsimp only
    refine kob_del (knd := strKind _ _) F11 N11 (by k_updF) hon (strKind_is _ _ _ _) hz (by rw [sizeLine_eq]; omega) ?_
    intro h12 on' F12 N12 hon'
    clear F11 N11
    ktr_unf
    rename News g L _ _ => N13
    rename Fr g L _ _ => F13
    refine pop_M F13 N13 (by k_upd) (by omega) ?_
    intro h14 F14 N14
    clear F13 N13
    ktr_unf
    refine hpop h14 _ on' hv' (fun b o e n1 n2 => ?_) (N14 (st, _) (by k_mem)).1 (N14 (its, _) (by k_mem)).1 (N14 (ni, on') (by k_mem)).1 hon' ?_ (Fr.to F14 (pin_eq (pin_eq (pin_eq rfl hm3) hm4) hm6))
    · have e8 := g8 b o e (fun hm => n1 ((List.mem_cons.mp hm).elim (fun z => z ▸ .head _) fun hm => .tail _ (.tail _ (.tail _ (.tail _ hm))))) n2
      cases q : g.get? b with
      | some o' => have z := kF b o' q; rw [e] at z; cases z; exact F14.keep b o q
      | none =>
        refine (N14 (b, o) (.tail _ (.tail _ (.tail _ (hr2 b o e8 (fun hm => n1 ?_) q))))).1
        simp only [List.mem_cons, List.not_mem_nil, or_false] at hm ⊢
        rcases hm with z | z | z | z
        · exact .inl z
        · exact .inr (.inl z)
        · exact .inr (.inr (.inl z))
        · exact .inr (.inr (.inr (.inl z)))
    · refine U8.keep fun b hb o e => ?_
      refine (N14 (b, o) (.tail _ (.tail _ (.tail _ (hr2 b o e (fun hm => ?_) (hgf b hb)))))).1
      rcases List.mem_cons.mp hm with z | hm
      · exact hLf (z ▸ hb)
      · exact hnf b hb (by
          simp only [List.mem_cons, List.not_mem_nil, or_false] at hm ⊢
          rcases hm with z | z | z
          · exact .inl z
          · exact .inr (.inl z)
          · exact .inr (.inr (.inl z)))
end
end Mine
end

section
open PySem PySem.W PyProof.Rows PySem.Calls 
namespace Mine
local macro_rules | `(tactic| k_all) => `(tactic| assumption)
local macro_rules | `(tactic| k_ne) => `(tactic| (refine neN ?_; (try dsimp only); first | assumption | (refine Ne.symm ?_; assumption)))
/-- one node on the stack -/
structure Zf where
  mw : Addr
  it : Addr
  i : Info
  t : Nat
  k : Nat
noncomputable def Zf.sv (z : Zf) : Value := .str z.i.key z.t
noncomputable def Zf.mv (z : Zf) : Value := .ref z.mw
/-- the places of _find_cycle -/
structure Fp where
  L : Addr
  st : Addr
  its : Addr
  sn : Addr
  ni : Addr
  nd : Addr
  kx : Option (Addr × Obj)
noncomputable def Fp.all (P : Fp) : List Addr := [P.st, P.its, P.sn, P.ni, P.nd]
structure FcS (prog : Program) (w : World) (g h₀ : Heap) (fr : List Env) (P : Fp) (od : Obj) (is : List Info) (h : Heap) (m : Str → Option Value) (zs : List Zf) (Ss : Str → Bool) : Prop where
  F : Fr g P.L h m
  st : ∃ c, h.get? P.st = some (W.listOf (zs.map Zf.sv).toArray c)
  its : ∃ c, h.get? P.its = some (W.listOf (zs.map Zf.mv).toArray c)
  ni : ∃ on kvs, h.get? P.ni = some on ∧ on.IsDictOf (strKind prog w) kvs ∧ kvs.map (·.1) = zs.map (·.i.key)
  sn : ∃ so n, h.get? P.sn = some so ∧ so.SetObjOf (strKind prog w) Ss n ∧ n + (is.filter fun i => !Ss i.key).length ≤ is.length ∧ zs.length ≤ n
  nd : h.get? P.nd = some od
  infos : At h (ledI is)
  zf : ∀ z ∈ zs, h.get? z.mw = some (mwO z.it) ∧ h.get? z.it = some (liO z.i.S z.k) ∧ z.i ∈ is ∧ (∀ a ∈ [z.mw, z.it], a ∉ frs fr ∧ a ≠ P.L ∧ g.get? a = none)
  nod : (zs.map (·.it)).Nodup
  keys : (zs.map (·.i.key)).Nodup
  ff : h.FunFrames h₀ fr
  kx : ∀ q, P.kx = some q → h.get? q.1 = some q.2
/-- what stays true of the places -/
structure FcP (prog : Program) (w : World) (g h₀ : Heap) (fr : List Env) (P : Fp) (od : Obj) (is : List Info) : Prop where
  off : ∀ a ∈ P.all ++ adI is, a ∉ frs fr ∧ a ≠ P.L ∧ g.get? a = none
  d1 : @Ne Nat P.st P.its
  d2 : ∀ i ∈ is, @Ne Nat P.st i.S ∧ @Ne Nat P.its i.S ∧ @Ne Nat P.ni i.D
  d3 : @Ne Nat P.ni P.nd
  od : od.IsDictOf (strKind prog w) (kvI is)
  wf : WfI is
  len : is.length ≤ 900
  hgb : h₀.StaysIn g
  hgf : ∀ b ∈ frs fr, g.get? b = none
  L0 : h₀.get? P.L = none
  Lf : P.L ∉ frs fr
  lo : (P.ni == sysModules) = false
  ln : (P.nd == sysModules) = false
  kx : ∀ q, P.kx = some q → q.1 ∉ frs fr ∧ q.1 ≠ P.L ∧ g.get? q.1 = none ∧ q.2.cls = .type "dict_keyiterator"
/-- the frame's names -/
noncomputable def FcM (P : Fp) (m : Str → Option Value) : Prop := m "n2i" = some (.ref P.nd) ∧ m "stack" = some (.ref P.st) ∧ m "itstack" = some (.ref P.its) ∧ m "seen" = some (.ref P.sn) ∧ m "node2stacki" = some (.ref P.ni)
section
variable {prog : Program} {w : World} {p₀ : Program} {loose : List Str} {mean : ExcName → Option Value} {mg mb : Str → Option Value} {g h₀ : Heap} {s : Shared} {m : Str → Option Value} {Q : Flow → Shared → Prop} {E : Value → Shared → Prop}
  {dp un : Nat} {gd : Option (List Code)} {fr : List Env} {P : Fp} {od : Obj} {is : List Info}
theorem without_last {kvs : List (Str × Value)} {l : List Str} {k : Str} (e : kvs.map (·.1) = l ++ [k]) (h : k ∉ l) : (without kvs k).map (·.1) = l := by
  have : (without kvs k).map (·.1) = (kvs.map (·.1)).filter fun x => decide (x ≠ k) := by
    unfold without; rw [List.filter_map]; rfl
  rw [this, e, List.filter_append]
  have h1 : l.filter (fun x => decide (x ≠ k)) = l := List.filter_eq_self.mpr fun x hx => decide_eq_true fun z => h (z ▸ hx)
  rw [h1]
  simp
theorem fc_test {L st : Addr} {vs : List Value} {c : Nat} {p : Pos} {Q : Bool → Shared → Prop} (X : (hz.heap_251 w.params).In g) (F : Fr g L s.heap m) (hm : m "stack" = some (.ref st)) (hs : s.heap.get? st = some (W.listOf vs.toArray c)) (hz : vs.length ≤ 1000) (h : ∀ tk, Q (!vs.isEmpty) { s with toks := tk }) :
    wpAny (model prog w) (Ar dp un gd (fcEnv L :: fr)) (isTrue (.Name "stack" p) (fcEnv L) (eval (.Name "stack" p) (fcEnv L))) Q E s := by
  refine wpAny_isTrue_value ?_
  have F2 := Fr.pin F (y₀ := "stack") hm
  clear F
  k_steps
  refine wpAny_truthy_list ⟨_, hs, rfl, _, rfl⟩ (by rw [List.size_toArray]; omega) ?_
  rw [List.isEmpty_toArray]
  exact h _
theorem FcS.len {h : Heap} {zs : List Zf} {Ss : Str → Bool} (S : FcS prog w g h₀ fr P od is h m zs Ss) (hP : FcP prog w g h₀ fr P od is) : zs.length ≤ 900 := by
  obtain ⟨so, n, _, _, h1, h2⟩ := S.sn
  have := hP.len
  omega
/-- no place of another kind is an iterator's -/
theorem FcS.noit {h : Heap} {zs : List Zf} {Ss : Str → Bool} (S : FcS prog w g h₀ fr P od is h m zs Ss) (hP : FcP prog w g h₀ fr P od is) {z : Zf} (hz : z ∈ zs) : (∀ a ∈ P.all ++ adI is, @Ne Nat a z.it) ∧ (∀ y ∈ zs, @Ne Nat y.mw z.it) := by
  have hi := (S.zf z hz).2.1
  constructor
  · intro a ha
    rcases List.mem_append.mp ha with ha | ha
    · obtain ⟨c, e1⟩ := S.st
      obtain ⟨c2, e2⟩ := S.its
      obtain ⟨so, n, e3, e4, -⟩ := S.sn
      obtain ⟨on, kvs, e5, ⟨_, _, e6, _⟩, -⟩ := S.ni
      obtain ⟨_, _, e7, _⟩ := hP.od
      refine forall_cons (P := fun a => @Ne Nat a z.it) ?_ (forall_cons ?_ (forall_cons ?_ (forall_cons ?_ (forall_cons ?_ (fun _ h => absurd h List.not_mem_nil))))) a ha
      · exact neCls e1 hi (show ¬ (Value.type "list" = Value.type "list_iterator") by decide)
      · exact neCls e2 hi (show ¬ (Value.type "list" = Value.type "list_iterator") by decide)
      · exact neCls e3 hi (by rw [e4.1.1]; exact show ¬ (Value.type "set" = Value.type "list_iterator") by decide)
      · exact neCls e5 hi (by rw [e6.1]; exact show ¬ (Value.type "dict" = Value.type "list_iterator") by decide)
      · exact neCls S.nd hi (by rw [e7.1]; exact show ¬ (Value.type "dict" = Value.type "list_iterator") by decide)
    · obtain ⟨q, hq, rfl⟩ := List.mem_map.mp (keys_ledI.mpr ha)
      have hh := S.infos q hq
      obtain ⟨i, -, hq⟩ := of_ledI hq
      refine forall_cons (P := fun q : Addr × Obj => h.get? q.1 = some q.2 → @Ne Nat q.1 z.it) ?_ (forall_cons ?_ (forall_cons ?_ (fun _ h => absurd h List.not_mem_nil))) q hq hh
      · exact fun e => neCls e hi (fun q => nomatch q)
      · exact fun e => neCls e hi (show ¬ (Value.type "dict" = Value.type "list_iterator") by decide)
      · exact fun e => neCls e hi (show ¬ (Value.type "list" = Value.type "list_iterator") by decide)
  · exact fun y hy => neCls (S.zf y hy).1 hi (show ¬ (Value.type "method-wrapper" = Value.type "list_iterator") by decide)
theorem UpF.trans {l : List Env} {h h' h'' : Heap} (a : UpF l h h') (b : UpF l h' h'') : UpF l h h'' := fun c hc o e n => by
  obtain ⟨sl, e1⟩ := a c hc o e n
  obtain ⟨sl2, e2⟩ := b c hc _ e1 n
  exact ⟨sl2, e2⟩
theorem ff_up {h h' base : Heap} : ∀ {l : List Env}, h.FunFrames base l → UpF l h h' → h'.FunFrames base l
  | [], _, _ => trivial
  | env :: l, ⟨q1, ⟨L, o, hf, hn, ho, hd⟩, hr⟩, k => by
    obtain ⟨sl, e⟩ := k L (List.mem_filterMap.mpr ⟨env, .head _, hf⟩) o ho hd
    exact ⟨q1, ⟨L, _, hf, hn, e, hd⟩, ff_up hr fun b hb => k b (by
      obtain ⟨e, he, hb⟩ := List.mem_filterMap.mp hb
      exact List.mem_filterMap.mpr ⟨e, .tail _ he, hb⟩)⟩
theorem FcS.item {h h' : Heap} {m' : Str → Option Value} {ys : List Zf} {z : Zf} {Ss : Str → Bool} (S : FcS prog w g h₀ fr P od is h m (ys ++ [z]) Ss) (hP : FcP prog w g h₀ fr P od is) (k : Keep [P.L, z.it] h h') (e : h'.get? z.it = some (liO z.i.S (z.k + 1))) (F' : Fr g P.L h' m') :
    FcS prog w g h₀ fr P od is h' m' (ys ++ [{ z with k := z.k + 1 }]) Ss := by
  have hz : z ∈ ys ++ [z] := List.mem_append_right _ (.head _)
  obtain ⟨no1, no2⟩ := S.noit hP hz
  have pres : ∀ a o, a ∈ P.all ++ adI is → h.get? a = some o → h'.get? a = some o := fun a o ha ho => k a o (nm2 (hP.off a ha).2.1 (no1 a ha)) ho
  have pa : ∀ a ∈ P.all, a ∈ P.all ++ adI is := fun a ha => List.mem_append_left _ ha
  have e1 : (ys ++ [{ z with k := z.k + 1 }]).map Zf.sv = (ys ++ [z]).map Zf.sv := by rw [List.map_append, List.map_append]; rfl
  have e2 : (ys ++ [{ z with k := z.k + 1 }]).map Zf.mv = (ys ++ [z]).map Zf.mv := by rw [List.map_append, List.map_append]; rfl
  have e3 : (ys ++ [{ z with k := z.k + 1 }]).map (fun y : Zf => y.i.key) = (ys ++ [z]).map (fun y : Zf => y.i.key) := by rw [List.map_append, List.map_append]; rfl
  have e4 : (ys ++ [{ z with k := z.k + 1 }]).map (fun y : Zf => y.it) = (ys ++ [z]).map (fun y : Zf => y.it) := by rw [List.map_append, List.map_append]; rfl
  obtain ⟨c, s1⟩ := S.st
  obtain ⟨c2, s2⟩ := S.its
  obtain ⟨on, kvs, s3, s4, s5⟩ := S.ni
  obtain ⟨so, n, s6, s7, s8, s9⟩ := S.sn
  have zz := S.zf z hz
  refine ⟨F', ⟨c, e1 ▸ pres _ _ (pa _ (.head _)) s1⟩, ⟨c2, e2 ▸ pres _ _ (pa _ (.tail _ (.head _))) s2⟩, ⟨on, kvs, pres _ _ (pa _ (.tail _ (.tail _ (.tail _ (.head _))))) s3, s4, e3 ▸ s5⟩, ⟨so, n, pres _ _ (pa _ (.tail _ (.tail _ (.head _)))) s6, s7, s8, ?_⟩, pres _ _ (pa _ (.tail _ (.tail _ (.tail _ (.tail _ (.head _)))))) S.nd,
    fun q hq => pres _ _ (List.mem_append_right _ (keys_ledI.mp (List.mem_map_of_mem hq))) (S.infos q hq), fun y hy => ?_, e4 ▸ S.nod, e3 ▸ S.keys, ff_keep S.ff fun b hb o eo => k b o (nm2 (fun q => hP.Lf (q ▸ hb)) fun q => (zz.2.2.2 z.it (.tail _ (.head _))).1 (q ▸ hb)) eo, fun q hq => k _ _ (nm2 (hP.kx q hq).2.1 (neCls (S.kx q hq) zz.2.1 (by rw [(hP.kx q hq).2.2.2]; exact show ¬ (Value.type "dict_keyiterator" = Value.type "list_iterator") by decide))) (S.kx q hq)⟩
  · rw [List.length_append] at s9 ⊢; exact s9
  · rcases List.mem_append.mp hy with hy | hy
    · obtain ⟨y1, y2, y3, y4⟩ := S.zf y (List.mem_append_left _ hy)
      have ne : @Ne Nat y.it z.it := fun q => by
        have := S.nod
        rw [List.map_append, List.nodup_append] at this
        exact this.2.2 _ (List.mem_map_of_mem hy) _ (.head _) q
      exact ⟨k _ _ (nm2 (y4 _ (.head _)).2.1 (no2 y (List.mem_append_left _ hy))) y1, k _ _ (nm2 (y4 _ (.tail _ (.head _))).2.1 ne) y2, y3, y4⟩
    · rw [List.mem_singleton.mp hy]
      exact ⟨k _ _ (nm2 (zz.2.2.2 _ (.head _)).2.1 (no2 z hz)) zz.1, e, zz.2.2.1, zz.2.2.2⟩
theorem FcS.pop {h h' : Heap} {m' : Str → Option Value} {ys : List Zf} {z : Zf} {Ss : Str → Bool} {c c2 : Nat} {on' : Obj} {kvs : List (Str × Value)} (S : FcS prog w g h₀ fr P od is h m (ys ++ [z]) Ss) (hP : FcP prog w g h₀ fr P od is)
    (k : ∀ b o, h.get? b = some o → b ∉ [P.L, P.st, P.its, P.ni, z.it] → b ∉ frs fr → h'.get? b = some o) (e1 : h'.get? P.st = some (W.listOf (ys.map Zf.sv).toArray c)) (e2 : h'.get? P.its = some (W.listOf (ys.map Zf.mv).toArray c2)) (e3 : h'.get? P.ni = some on')
    (k1 : kvs.map (·.1) = (ys ++ [z]).map (·.i.key)) (e4 : on'.IsDictOf (strKind prog w) (without kvs z.i.key)) (U : UpF fr h h') (F' : Fr g P.L h' m') :
    FcS prog w g h₀ fr P od is h' m' ys Ss := by
  have hz : z ∈ ys ++ [z] := List.mem_append_right _ (.head _)
  obtain ⟨no1, no2⟩ := S.noit hP hz
  obtain ⟨so, n, s6, s7, s8, s9⟩ := S.sn
  obtain ⟨c0, s1⟩ := S.st
  obtain ⟨c20, s2⟩ := S.its
  obtain ⟨on0, kvs0, s3, ⟨_, _, s4, _⟩, s5⟩ := S.ni
  have cn := s4.1
  have kys := S.keys
  rw [List.map_append, List.nodup_append] at kys
  have nin : z.i.key ∉ ys.map (·.i.key) := fun hm => kys.2.2 _ hm _ (.head _) rfl
  have ts : ∀ a o, a ∉ frs fr → a ≠ P.L → @Ne Nat a P.st → @Ne Nat a P.its → @Ne Nat a P.ni → @Ne Nat a z.it → h.get? a = some o → h'.get? a = some o := fun a o f0 f1 f2 f3 f4 f5 e => k a o e (fun hm => by
    simp only [List.mem_cons, List.not_mem_nil, or_false] at hm
    rcases hm with q | q | q | q | q
    · exact f1 q
    · exact f2 q
    · exact f3 q
    · exact f4 q
    · exact f5 q) f0
  have mem : ∀ a ∈ P.all, a ∈ P.all ++ adI is := fun a ha => List.mem_append_left _ ha
  have o1 := hP.off P.sn (mem _ (.tail _ (.tail _ (.head _))))
  have o2 := hP.off P.nd (mem _ (.tail _ (.tail _ (.tail _ (.tail _ (.head _))))))
  have cso := s7.1.1
  have cod : od.cls = .type "dict" := by obtain ⟨_, _, e, _⟩ := hP.od; exact e.1
  refine ⟨F', ⟨c, e1⟩, ⟨c2, e2⟩, ⟨on', _, e3, e4, without_last (by rw [k1, List.map_append]; rfl) nin⟩, ⟨so, n, ts _ _ o1.1 o1.2.1 ?_ ?_ ?_ (no1 _ (mem _ (.tail _ (.tail _ (.head _))))) s6, s7, s8, by rw [List.length_append] at s9; omega⟩,
    ts _ _ o2.1 o2.2.1 ?_ ?_ hP.d3.symm (no1 _ (mem _ (.tail _ (.tail _ (.tail _ (.tail _ (.head _))))))) S.nd, fun q hq => ?_, fun y hy => ?_, ?_, kys.1, ff_up S.ff U, fun q hq => ?_⟩
  · exact neCls s6 s1 (by rw [cso]; exact show ¬ (Value.type "set" = Value.type "list") by decide)
  · exact neCls s6 s2 (by rw [cso]; exact show ¬ (Value.type "set" = Value.type "list") by decide)
  · exact neCls s6 s3 (by rw [cso, cn]; decide)
  · exact neCls S.nd s1 (by rw [cod]; exact show ¬ (Value.type "dict" = Value.type "list") by decide)
  · exact neCls S.nd s2 (by rw [cod]; exact show ¬ (Value.type "dict" = Value.type "list") by decide)
  · have hqa : q.1 ∈ adI is := keys_ledI.mp (List.mem_map_of_mem hq)
    have oq := hP.off q.1 (List.mem_append_right _ hqa)
    have hh := S.infos q hq
    have n5 := no1 q.1 (List.mem_append_right _ hqa)
    obtain ⟨i, hi, hq⟩ := of_ledI hq
    obtain ⟨x1, x2, x3⟩ := hP.d2 i hi
    refine forall_cons (P := fun q : Addr × Obj => h.get? q.1 = some q.2 → q.1 ∉ frs fr → q.1 ≠ P.L → @Ne Nat q.1 z.it → h'.get? q.1 = some q.2) ?_ (forall_cons ?_ (forall_cons ?_ (fun _ h => absurd h List.not_mem_nil))) q hq hh oq.1 oq.2.1 n5
    · exact fun e a b c => ts _ _ a b (neCls e s1 (fun q => nomatch q)) (neCls e s2 (fun q => nomatch q)) (neCls e s3 (by rw [cn]; exact fun q => nomatch q)) c e
    · exact fun e a b c => ts _ _ a b (neCls e s1 (show ¬ (Value.type "dict" = Value.type "list") by decide)) (neCls e s2 (show ¬ (Value.type "dict" = Value.type "list") by decide)) x3.symm c e
    · exact fun e a b c => ts _ _ a b x1.symm x2.symm (neCls e s3 (by rw [cn]; exact show ¬ (Value.type "list" = Value.type "dict") by decide)) c e
  · obtain ⟨y1, y2, y3, y4⟩ := S.zf y (List.mem_append_left _ hy)
    have ne : @Ne Nat y.it z.it := fun q => by
      have := S.nod
      rw [List.map_append, List.nodup_append] at this
      exact this.2.2 _ (List.mem_map_of_mem hy) _ (.head _) q
    refine ⟨ts _ _ (y4 _ (.head _)).1 (y4 _ (.head _)).2.1 (neCls y1 s1 (show ¬ (Value.type "method-wrapper" = Value.type "list") by decide)) (neCls y1 s2 (show ¬ (Value.type "method-wrapper" = Value.type "list") by decide)) (neCls y1 s3 (by rw [cn]; exact show ¬ (Value.type "method-wrapper" = Value.type "dict") by decide)) (no2 y (List.mem_append_left _ hy)) y1,
      ts _ _ (y4 _ (.tail _ (.head _))).1 (y4 _ (.tail _ (.head _))).2.1 (neCls y2 s1 (show ¬ (Value.type "list_iterator" = Value.type "list") by decide)) (neCls y2 s2 (show ¬ (Value.type "list_iterator" = Value.type "list") by decide)) (neCls y2 s3 (by rw [cn]; exact show ¬ (Value.type "list_iterator" = Value.type "dict") by decide)) ne y2, y3, y4⟩
  · have := S.nod
    rw [List.map_append, List.nodup_append] at this
    exact this.1
  · obtain ⟨x1, x2, x3, x4⟩ := hP.kx q hq
    have e := S.kx q hq
    exact ts _ _ x1 x2 (neCls e s1 (by rw [x4]; exact show ¬ (Value.type "dict_keyiterator" = Value.type "list") by decide)) (neCls e s2 (by rw [x4]; exact show ¬ (Value.type "dict_keyiterator" = Value.type "list") by decide)) (neCls e s3 (by rw [x4, cn]; decide)) (neCls e (S.zf z hz).2.1 (by rw [x4]; exact show ¬ (Value.type "dict_keyiterator" = Value.type "list_iterator") by decide)) e
end
end Mine
end

section
open PySem PySem.W PyProof.Rows PySem.Calls 
namespace Mine
theorem valueAt_some {kvs : List (Str × Value)} {k : Str} : (valueAt kvs k).isSome = true ↔ k ∈ kvs.map (·.1) := by
  induction kvs with
  | nil => simp [valueAt]
  | cons p l ih =>
    by_cases e : p.1 = k
    · simp [valueAt, e]
    · simp only [valueAt, List.map_cons, List.mem_cons] at ih ⊢
      simp [e, Ne.symm e] at ih ⊢
section
variable {prog : Program} {w : World} {p₀ : Program} {loose : List Str} {mean : ExcName → Option Value} {mg mb : Str → Option Value} {g h₀ : Heap} {s : Shared} {m : Str → Option Value} {Q : Flow → Shared → Prop} {E : Value → Shared → Prop}
  {dp un : Nat} {gd : Option (List Code)} {fr : List Env} {P : Fp} {od : Obj} {is : List Info}
noncomputable def FcN (m : Str → Option Value) (p : Str × Nat) : Str → Option Value := fun y => if y = "node" then some (.str p.1 p.2) else m y
theorem fc_inner {zs : List Zf} {Ss : Str → Bool} (X : (hz.heap_251 w.params).In g) (T : Top p₀ loose mean mg mb g) (hP : FcP prog w g h₀ fr P od is) (hM : FcM P m) (S : FcS prog w g h₀ fr P od is s.heap m zs Ss)
    (hnext : ∀ h' tk ys z r p, zs = ys ++ [z] ++ r → z.i.succ[z.k]? = some p → FcS prog w g h₀ fr P od is h' (FcN m p) (ys ++ [{ z with k := z.k + 1 }]) Ss → UpF fr s.heap h' → Q .next { s with heap := h', toks := tk })
    (hend : ∀ h' tk, FcS prog w g h₀ fr P od is h' m [] Ss → UpF fr s.heap h' → Q .brk { s with heap := h', toks := tk }) :
    wpAny (model prog w) (Ar dp un gd (fcEnv P.L :: fr)) (exec fcW2 (fcEnv P.L)) Q E s := by
  conv in exec _ _ => arg 1; whnf
  refine While_F (fun n s₁ => ∃ h tk zs₁ r, s₁ = { s with heap := h, toks := tk } ∧ zs = zs₁ ++ r ∧ zs₁.length = n ∧ FcS prog w g h₀ fr P od is h m zs₁ Ss ∧ UpF fr s.heap h) ?_ zs.length ⟨s.heap, s.toks, zs, [], rfl, (List.append_nil _).symm, rfl, S, UpF.refl⟩
  rintro n s₁ ⟨h, tk, zs₁, r, rfl, ez, rfl, S₁, U₁⟩
  obtain ⟨c, hst⟩ := S₁.st
  have hlen := S₁.len hP
  refine fc_test X S₁.F hM.2.1 hst (by rw [List.length_map]; omega) fun tk2 => ?_
  rcases List.eq_nil_or_concat zs₁ with rfl | ⟨ys, z, rfl⟩
  · show wpAny _ _ (execs _ _) _ _ _
    have F := S₁.F
    k_steps
    exact hend _ _ S₁ U₁
  · rw [List.concat_eq_append] at *
    rw [show (!((ys ++ [z]).map Zf.sv).isEmpty) = true by simp, if_pos rfl]
    rw [List.map_append] at hst
    obtain ⟨c2, hits⟩ := S₁.its
    rw [List.map_append] at hits
    obtain ⟨on, kvs, hni, hon, hk⟩ := S₁.ni
    obtain ⟨z1, z2, z3, z4⟩ := S₁.zf z (List.mem_append_right _ (.head _))
    have hS := S₁.infos (z.i.S, _) (mem_ledI z3 (.tail _ (.tail _ (.head _))))
    have mem : ∀ a ∈ P.all, a ∈ P.all ++ adI is := fun a ha => List.mem_append_left _ ha
    have o1 := hP.off P.st (mem _ (.head _))
    have o2 := hP.off P.its (mem _ (.tail _ (.head _)))
    have o3 := hP.off P.ni (mem _ (.tail _ (.tail _ (.tail _ (.head _)))))
    have o4 := z4 _ (.head _)
    have o5 := z4 _ (.tail _ (.head _))
    have o6 := hP.off z.i.S (List.mem_append_right _ (mem_adI z3 (.tail _ (.tail _ (.head _)))))
    have hl : kvs.length = ys.length + 1 := by have := congrArg List.length hk; rw [List.length_map, List.length_map, List.length_append] at this; exact this
    rw [List.length_append, List.length_singleton] at hlen
    refine fc_turn (st := P.st) (its := P.its) (ni := P.ni) (mw := z.mw) (it := z.it) (lS := z.i.S) (zk := z.i.key) (zt := z.t) (succ := z.i.succ) (stk := ys.map Zf.sv) (itl := ys.map Zf.mv) (kvs := kvs) X T S₁.F
      (nCons ⟨hst, o1.2⟩ (nCons ⟨hits, o2.2⟩ (nCons ⟨hni, o3.2⟩ (nCons ⟨z1, o4.2⟩ (nCons ⟨z2, o5.2⟩ (nCons ⟨hS, o6.2⟩ nNil)))))) hM.2.1 hM.2.2.1 hM.2.2.2.2 hon (by omega) (by rw [List.length_map]; omega) (by rw [List.length_map]; omega)
      (valueAt_some.mpr (by rw [hk]; exact List.mem_map_of_mem (List.mem_append_right _ (.head _)))) hP.d1 (hP.d2 _ z3).1 (hP.d2 _ z3).2.1 hP.hgb S₁.ff hP.hgf hP.L0 hP.Lf (fun b hb hm => ?_) ?_ ?_
    · simp only [List.mem_cons, List.not_mem_nil, or_false] at hm
      rcases hm with q | q | q | q | q | q
      · exact o1.1 (q ▸ hb)
      · exact o2.1 (q ▸ hb)
      · exact o3.1 (q ▸ hb)
      · exact o4.1 (q ▸ hb)
      · exact o5.1 (q ▸ hb)
      · exact o6.1 (q ▸ hb)
    · intro p h' tk' hp kp e F'
      exact hnext h' tk' ys z r p ez hp (S₁.item hP kp e F') (U₁.keep fun b hb o eo => kp b o (nm2 (fun q => hP.Lf (q ▸ hb)) fun q => o5.1 (q ▸ hb)) eo)
    · intro h' tk' on' hp kp e1 e2 e3 e4 U F'
      exact ⟨ys.length, by rw [List.length_append]; exact Nat.lt_succ_self _, h', tk', ys, z :: r, rfl, by rw [ez, List.append_assoc]; rfl, rfl, S₁.pop hP kp e1 e2 e3 hk e4 U F', UpF.trans U₁ U⟩
end
end Mine
end

section
open PySem PySem.W PyProof.Rows PySem.Calls 
namespace Mine
section
variable {prog : Program} {w : World} {p₀ : Program} {loose : List Str} {mean : ExcName → Option Value} {mg mb : Str → Option Value} {g h₀ : Heap} {s : Shared} {m : Str → Option Value} {Q : Flow → Shared → Prop} {E : Value → Shared → Prop}
  {dp un : Nat} {gd : Option (List Code)} {fr : List Env} {P : Fp} {od : Obj} {is : List Info}
noncomputable def seenAlso (Ss : Str → Bool) (k : Str) : Str → Bool := fun x => Ss x || decide (x = k)
noncomputable def unS (wt : Info → Nat) (Ss : Str → Bool) (l : List Info) : Nat := ((l.filter fun i => !Ss i.key).map wt).sum
theorem unS_cons (wt : Info → Nat) (Ss : Str → Bool) (j : Info) (l : List Info) : unS wt Ss (j :: l) = (if Ss j.key then 0 else wt j) + unS wt Ss l := by
  unfold unS
  cases h : Ss j.key with
  | true => rw [List.filter_cons_of_neg (by rw [h]; decide), if_pos rfl, Nat.zero_add]
  | false => rw [List.filter_cons_of_pos (by rw [h]; rfl), List.map_cons, List.sum_cons, if_neg Bool.false_ne_true]
theorem unS_mono (wt : Info → Nat) (Ss : Str → Bool) (k : Str) : ∀ l : List Info, unS wt (seenAlso Ss k) l ≤ unS wt Ss l
  | [] => Nat.le_refl _
  | j :: l => by
    rw [unS_cons, unS_cons]
    have := unS_mono wt Ss k l
    unfold seenAlso at this ⊢
    cases h : Ss j.key with
    | true => simp only [Bool.true_or, if_true]; omega
    | false => split <;> simp only [Bool.false_eq_true, if_false] <;> omega
theorem unS_drop (wt : Info → Nat) (Ss : Str → Bool) {i : Info} (h : Ss i.key = false) : ∀ l : List Info, i ∈ l → unS wt (seenAlso Ss i.key) l + wt i ≤ unS wt Ss l
  | [], hi => nomatch hi
  | j :: l, hi => by
    rw [unS_cons, unS_cons]
    rcases List.mem_cons.mp hi with rfl | hi
    · have := unS_mono wt Ss i.key l
      have e : seenAlso Ss i.key i.key = true := by unfold seenAlso; rw [decide_eq_true rfl, Bool.or_true]
      rw [e, h, if_pos rfl, if_neg Bool.false_ne_true]
      omega
    · have := unS_drop wt Ss h l hi
      have : (if seenAlso Ss i.key j.key then 0 else wt j) ≤ (if Ss j.key then 0 else wt j) := by
        unfold seenAlso
        cases h : Ss j.key with
        | true => simp only [Bool.true_or, if_true]; omega
        | false => split <;> simp only [Bool.false_eq_true, if_false] <;> omega
      omega
theorem unS_len (Ss : Str → Bool) (l : List Info) : (l.filter fun i => !Ss i.key).length = unS (fun _ => 1) Ss l := by
  unfold unS
  generalize l.filter _ = l'
  induction l' with
  | nil => rfl
  | cons a l ih => rw [List.length_cons, List.map_cons, List.sum_cons, ih]; omega
theorem stored_new {kvs : List (Str × Value)} {k : Str} {v : Value} (h : k ∉ kvs.map (·.1)) : (stored kvs k v).map (·.1) = kvs.map (·.1) ++ [k] := by
  unfold stored
  rw [if_neg, List.map_append]
  · rfl
  · intro q
    obtain ⟨p, hp, e⟩ := List.any_eq_true.mp q
    exact h (of_decide_eq_true e ▸ List.mem_map_of_mem hp)
theorem FcS.push {h h' : Heap} {m' : Str → Option Value} {zs : List Zf} {Ss : Str → Bool} {i : Info} {it mw : Addr} {nt c1 c2 n : Nat} {so' on' : Obj} {kvs : List (Str × Value)} {v : Value} (S : FcS prog w g h₀ fr P od is h m zs Ss) (hP : FcP prog w g h₀ fr P od is) (hi : i ∈ is) (hs : Ss i.key = false) (hzs : ∀ z ∈ zs, Ss z.i.key = true)
    (k : Keep [P.L, P.sn, P.its, P.ni, P.st] h h') (f1 : h.get? it = none) (f2 : h.get? mw = none) (e1 : h'.get? it = some (liO i.S 0)) (e2 : h'.get? mw = some (mwO it)) (e3 : h'.get? P.sn = some so') (n1 : n + (is.filter fun i => !Ss i.key).length ≤ is.length) (n2 : zs.length ≤ n)
    (e4 : so'.SetObjOf (strKind prog w) (fun k => Ss k || decide (k = i.key)) (if Ss i.key then n else n + 1)) (e5 : h'.get? P.its = some (W.listOf (zs.map Zf.mv ++ [Value.ref mw]).toArray (c2 + 1))) (e6 : h'.get? P.ni = some on') (k1 : kvs.map (·.1) = zs.map (·.i.key)) (e7 : on'.IsDictOf (strKind prog w) (stored kvs i.key v))
    (e8 : h'.get? P.st = some (W.listOf (zs.map Zf.sv ++ [Value.str i.key nt]).toArray (c1 + 1))) (F' : Fr g P.L h' m') :
    FcS prog w g h₀ fr P od is h' m' (zs ++ [⟨mw, it, i, nt, 0⟩]) (seenAlso Ss i.key) := by
  have knew : i.key ∉ zs.map (·.i.key) := fun hm => by
    obtain ⟨z, hz, e⟩ := List.mem_map.mp hm
    have := hzs z hz
    rw [e, hs] at this; cases this
  obtain ⟨c, s1⟩ := S.st
  obtain ⟨c20, s2⟩ := S.its
  obtain ⟨on0, kvs0, s3, ⟨_, _, s4, _⟩, s5⟩ := S.ni
  obtain ⟨so, n0, s6, s7, -⟩ := S.sn
  have cn := s4.1
  have cs := s7.1.1
  have ts : ∀ a o, a ≠ P.L → @Ne Nat a P.sn → @Ne Nat a P.its → @Ne Nat a P.ni → @Ne Nat a P.st → h.get? a = some o → h'.get? a = some o := fun a o f1 f2 f3 f4 f5 e => k a o (fun hm => by
    simp only [List.mem_cons, List.not_mem_nil, or_false] at hm
    rcases hm with q | q | q | q | q
    · exact f1 q
    · exact f2 q
    · exact f3 q
    · exact f4 q
    · exact f5 q) e
  have cod : od.cls = .type "dict" := by obtain ⟨_, _, e, _⟩ := hP.od; exact e.1
  have fresh : ∀ a, h.get? a = none → a ∉ frs fr ∧ a ≠ P.L ∧ g.get? a = none := by
    intro a ha
    refine ⟨?_, ?_, ?_⟩
    · intro hm
      obtain ⟨_, o, ho, _⟩ := S.ff.mem hm
      rw [ha] at ho; cases ho
    · intro z
      obtain ⟨_, _, _, hL, _⟩ := S.F.ns
      rw [z, hL] at ha; cases ha
    · cases q : g.get? a with
      | none => rfl
      | some o => rw [S.F.keep _ _ q] at ha; cases ha
  have o2 := hP.off P.nd (List.mem_append_left _ (.tail _ (.tail _ (.tail _ (.tail _ (.head _))))))
  refine ⟨F', ⟨c1 + 1, by rw [List.map_append]; exact e8⟩, ⟨c2 + 1, by rw [List.map_append]; exact e5⟩, ⟨on', _, e6, e7, by rw [stored_new (by rw [k1]; exact knew), k1, List.map_append]; rfl⟩, ⟨so', _, e3, e4, ?_, ?_⟩, ts _ _ o2.2.1 ?_ ?_ hP.d3.symm ?_ S.nd, fun q hq => ?_, fun y hy => ?_, ?_, ?_, ?_, fun q hq => ?_⟩
  · have := unS_drop (fun _ => 1) Ss hs is hi
    rw [unS_len] at n1
    rw [if_neg (by rw [hs]; exact Bool.false_ne_true)]
    have e : (is.filter fun j => !seenAlso Ss i.key j.key).length = unS (fun _ => 1) (seenAlso Ss i.key) is := unS_len _ _
    rw [e]; omega
  · rw [if_neg (by rw [hs]; exact Bool.false_ne_true), List.length_append, List.length_singleton]; omega
  · exact neCls S.nd s6 (by rw [cod, cs]; decide)
  · exact neCls S.nd s2 (by rw [cod]; exact show ¬ (Value.type "dict" = Value.type "list") by decide)
  · exact neCls S.nd s1 (by rw [cod]; exact show ¬ (Value.type "dict" = Value.type "list") by decide)
  · have hqa : q.1 ∈ adI is := keys_ledI.mp (List.mem_map_of_mem hq)
    have oq := hP.off q.1 (List.mem_append_right _ hqa)
    have hh := S.infos q hq
    obtain ⟨j, hj, hq⟩ := of_ledI hq
    obtain ⟨x1, x2, x3⟩ := hP.d2 j hj
    refine forall_cons (P := fun q : Addr × Obj => h.get? q.1 = some q.2 → q.1 ≠ P.L → h'.get? q.1 = some q.2) ?_ (forall_cons ?_ (forall_cons ?_ (fun _ h => absurd h List.not_mem_nil))) q hq hh oq.2.1
    · exact fun e b => ts _ _ b (neCls e s6 (by rw [cs]; exact fun q => nomatch q)) (neCls e s2 (fun q => nomatch q)) (neCls e s3 (by rw [cn]; exact fun q => nomatch q)) (neCls e s1 (fun q => nomatch q)) e
    · exact fun e b => ts _ _ b (neCls e s6 (by rw [cs]; exact show ¬ (Value.type "dict" = Value.type "set") by decide)) (neCls e s2 (show ¬ (Value.type "dict" = Value.type "list") by decide)) x3.symm (neCls e s1 (show ¬ (Value.type "dict" = Value.type "list") by decide)) e
    · exact fun e b => ts _ _ b (neCls e s6 (by rw [cs]; exact show ¬ (Value.type "list" = Value.type "set") by decide)) x2.symm (neCls e s3 (by rw [cn]; exact show ¬ (Value.type "list" = Value.type "dict") by decide)) x1.symm e
  · rcases List.mem_append.mp hy with hy | hy
    · obtain ⟨y1, y2, y3, y4⟩ := S.zf y hy
      exact ⟨ts _ _ (y4 _ (.head _)).2.1 (neCls y1 s6 (by rw [cs]; exact show ¬ (Value.type "method-wrapper" = Value.type "set") by decide)) (neCls y1 s2 (show ¬ (Value.type "method-wrapper" = Value.type "list") by decide)) (neCls y1 s3 (by rw [cn]; exact show ¬ (Value.type "method-wrapper" = Value.type "dict") by decide)) (neCls y1 s1 (show ¬ (Value.type "method-wrapper" = Value.type "list") by decide)) y1,
        ts _ _ (y4 _ (.tail _ (.head _))).2.1 (neCls y2 s6 (by rw [cs]; exact show ¬ (Value.type "list_iterator" = Value.type "set") by decide)) (neCls y2 s2 (show ¬ (Value.type "list_iterator" = Value.type "list") by decide)) (neCls y2 s3 (by rw [cn]; exact show ¬ (Value.type "list_iterator" = Value.type "dict") by decide)) (neCls y2 s1 (show ¬ (Value.type "list_iterator" = Value.type "list") by decide)) y2, y3, y4⟩
    · rw [List.mem_singleton.mp hy]
      exact ⟨e2, e1, hi, forall_cons (fresh _ f2) (forall_cons (fresh _ f1) (fun _ h => absurd h List.not_mem_nil))⟩
  · rw [List.map_append, List.nodup_append]
    refine ⟨S.nod, List.nodup_cons.mpr ⟨List.not_mem_nil, List.nodup_nil⟩, fun a ha b hb z => ?_⟩
    obtain ⟨y, hy, rfl⟩ := List.mem_map.mp ha
    rw [List.mem_singleton.mp hb] at z
    have := (S.zf y hy).2.1
    rw [z] at this
    rw [show h.get? _ = _ from f1] at this; cases this
  · rw [List.map_append, List.nodup_append]
    refine ⟨S.keys, List.nodup_cons.mpr ⟨List.not_mem_nil, List.nodup_nil⟩, fun a ha b hb z => ?_⟩
    rw [List.mem_singleton.mp hb] at z
    exact knew (show i.key ∈ _ from (show a = i.key from z) ▸ ha)
  · refine ff_keep S.ff fun b hb o eo => ?_
    have nf := fun a (ha : a ∈ P.all) => (hP.off a (List.mem_append_left _ ha)).1
    exact ts b o (fun q => hP.Lf (q ▸ hb)) (fun q => nf _ (.tail _ (.tail _ (.head _))) (q ▸ hb)) (fun q => nf _ (.tail _ (.head _)) (q ▸ hb)) (fun q => nf _ (.tail _ (.tail _ (.tail _ (.head _)))) (q ▸ hb)) (fun q => nf _ (.head _) (q ▸ hb)) eo
  · obtain ⟨x1, x2, x3, x4⟩ := hP.kx q hq
    have e := S.kx q hq
    exact ts _ _ x2 (neCls e s6 (by rw [x4, cs]; decide)) (neCls e s2 (by rw [x4]; exact show ¬ (Value.type "dict_keyiterator" = Value.type "list") by decide)) (neCls e s3 (by rw [x4, cn]; decide)) (neCls e s1 (by rw [x4]; exact show ¬ (Value.type "dict_keyiterator" = Value.type "list") by decide)) e
end
end Mine
end

section
open PySem PySem.W PyProof.Rows PySem.Calls 
local macro_rules | `(tactic| ktr_unf) => `(tactic| repeat' ((fail_if_success (with_reducible show wpAny _ _ (exec (Stmt.For _ _ _ _ _) _) _ _ _)); (fail_if_success (with_reducible show wpAny _ _ (exec (Stmt.While _ _ _ _) _) _ _ _)); (fail_if_success (with_reducible show wpAny _ _ (exec (Stmt.Try _ _ _ _ _) _) _ _ _)); first | (k_unfold; (try dsimp only)) | (k_end; wrow_close) | walk1 | (dsimp only; walk1) | (leave1; (try dsimp only)) | fail "no step"))
namespace Mine
section
variable {prog : Program} {w : World} {p₀ : Program} {loose : List Str} {mean : ExcName → Option Value} {mg mb : Str → Option Value} {g h₀ : Heap} {s : Shared} {m : Str → Option Value} {Q : Flow → Shared → Prop} {E : Value → Shared → Prop}
  {dp un : Nat} {gd : Option (List Code)} {fr : List Env} {P : Fp} {od : Obj} {is : List Info}
theorem fc_seen {Ss : Str → Bool} {i : Info} {nt n : Nat} {so : Obj} {p1 p2 p3 : Pos} {wh : Sem Value} {Q : Bool → Shared → Prop} (X : (hz.heap_251 w.params).In g) (F : Fr g P.L s.heap m) (hm : m "seen" = some (.ref P.sn)) (hnode : m "node" = some (.str i.key nt)) (N : News g P.L s.heap [(P.sn, so)])
    (hso : so.SetObjOf (strKind prog w) Ss n) (hn : n ≤ 1000) (h : ∀ tk, Q (Ss i.key) { s with toks := tk }) :
    wpAny (model prog w) (Ar dp un gd (fcEnv P.L :: fr)) (isTrue (.Compare (.Name "node" p1) [.In] [.Name "seen" p2] p3) (fcEnv P.L) wh) Q E s := by
  have F1 := Fr.pin (Fr.pin F (y₀ := "node") hnode) (y₀ := "seen") hm
  clear F
  k_steps
  exact h _
theorem fc_on {i : Info} {nt : Nat} {on : Obj} {kvs : List (Str × Value)} {p1 p2 p3 : Pos} {wh : Sem Value} {Q : Bool → Shared → Prop} (X : (hz.heap_251 w.params).In g) (F : Fr g P.L s.heap m) (hm : m "node2stacki" = some (.ref P.ni)) (hnode : m "node" = some (.str i.key nt)) (N : News g P.L s.heap [(P.ni, on)])
    (hon : on.IsDictOf (strKind prog w) kvs) (lo : (P.ni == sysModules) = false) (hk : (valueAt kvs i.key).isSome = false) (h : ∀ tk, Q false { s with toks := tk }) :
    wpAny (model prog w) (Ar dp un gd (fcEnv P.L :: fr)) (isTrue (.Compare (.Name "node" p1) [.In] [.Name "node2stacki" p2] p3) (fcEnv P.L) wh) Q E s := by
  have F1 := Fr.pin (Fr.pin F (y₀ := "node") hnode) (y₀ := "node2stacki") hm
  clear F
  ktr_unf
  refine kda_in (knd := strKind _ _) N (.head _) hon lo (strKind_is _ _ _ _) false hk ?_
  k_steps
  exact h _
/-- the branch: seen and off the stack, or put on it -/
theorem fc_if {zs : List Zf} {Ss : Str → Bool} {i : Info} {nt : Nat} (X : (hz.heap_251 w.params).In g) (T : Top p₀ loose mean mg mb g) (hP : FcP prog w g h₀ fr P od is) (hM : FcM P m) (hnode : m "node" = some (.str i.key nt)) (hi : i ∈ is) (S : FcS prog w g h₀ fr P od is s.heap m zs Ss)
    (hzs : ∀ z ∈ zs, Ss z.i.key = true) (hoff : i.key ∉ zs.map (·.i.key))
    (hold : ∀ tk, Ss i.key = true → Q .next { s with toks := tk })
    (hnew : ∀ h' tk mw it, Ss i.key = false → FcS prog w g h₀ fr P od is h' m (zs ++ [⟨mw, it, i, nt, 0⟩]) (seenAlso Ss i.key) → UpF fr s.heap h' → Q .next { s with heap := h', toks := tk }) :
    wpAny (model prog w) (Ar dp un gd (fcEnv P.L :: fr)) (exec fcIf (fcEnv P.L)) Q E s := by
  obtain ⟨so, n, e1, hso, n1, n2⟩ := S.sn
  obtain ⟨on, kvs, e2, hon, hk⟩ := S.ni
  have hlen := S.len hP
  have hn : n ≤ 900 := by have := hP.len; omega
  have o1 := hP.off P.sn (List.mem_append_left _ (.tail _ (.tail _ (.head _))))
  have o2 := hP.off P.ni (List.mem_append_left _ (.tail _ (.tail _ (.tail _ (.head _)))))
  have d := neCls e1 e2 (by obtain ⟨_, _, q, _⟩ := hon; rw [hso.1.1, q.1]; decide)
  conv in exec _ _ => arg 1; whnf
  refine wpAny_If (fc_seen X S.F hM.2.2.2.1 hnode (nCons ⟨e1, o1.2⟩ nNil) hso (by omega) fun tk => ?_)
  cases hs : Ss i.key with
  | true =>
    rw [if_pos rfl]
    refine wpAny_execs_cons (wpAny_If (fc_on X S.F hM.2.2.2.2 hnode (nCons ⟨e2, o2.2⟩ nNil) hon hP.lo (Bool.eq_false_iff.mpr fun q => hoff (hk ▸ valueAt_some.mp q)) fun tk => ?_))
    rw [if_neg Bool.false_ne_true]
    exact wpAny_execs_nil (wpAny_execs_nil (hold _ hs))
  | false =>
    rw [if_neg Bool.false_ne_true]
    obtain ⟨c, hst⟩ := S.st
    obtain ⟨c2, hits⟩ := S.its
    have mem : ∀ a ∈ P.all, a ∈ P.all ++ adI is := fun a ha => List.mem_append_left _ ha
    have q1 := hP.off P.st (mem _ (.head _))
    have q2 := hP.off P.its (mem _ (.tail _ (.head _)))
    have q3 := hP.off P.nd (mem _ (.tail _ (.tail _ (.tail _ (.tail _ (.head _))))))
    have ai := fun a ha => hP.off a (List.mem_append_right _ (mem_adI hi ha))
    have hl : kvs.length = zs.length := by have := congrArg List.length hk; rw [List.length_map, List.length_map] at this; exact this
    refine fc_push (st := P.st) (its := P.its) (sn := P.sn) (ni := P.ni) (nd := P.nd) (i := i) (stk := zs.map Zf.sv) (itl := zs.map Zf.mv) (kvs := kvs) X T S.F
      (nCons ⟨S.nd, q3.2⟩ (nCons ⟨S.infos _ (mem_ledI hi (.head _)), (ai _ (.head _)).2⟩ (nCons ⟨S.infos _ (mem_ledI hi (.tail _ (.head _))), (ai _ (.tail _ (.head _))).2⟩ (nCons ⟨S.infos _ (mem_ledI hi (.tail _ (.tail _ (.head _)))), (ai _ (.tail _ (.tail _ (.head _)))).2⟩ (nCons ⟨hst, q1.2⟩ (nCons ⟨hits, q2.2⟩ (nCons ⟨e2, o2.2⟩ (nCons ⟨e1, o1.2⟩ nNil))))))))
      hM.1 hnode hM.2.1 hM.2.2.1 hM.2.2.2.1 hM.2.2.2.2 hP.od hP.wf hi hon hso (by omega) (by omega) (by rw [List.length_map]; omega) (by rw [List.length_map]; omega) hP.d1 (hP.d2 i hi).1 (hP.d2 i hi).2.1 hP.d3 (hP.d2 i hi).2.2 ?_
    rintro h' tk' it mw so' on' kp f1 f2 - x1 x2 x3 x4 x5 x6 ⟨v, x7⟩ x8 F'
    refine hnew h' tk' mw it hs (S.push hP hi hs hzs kp f1 f2 x1 x2 x3 n1 n2 x4 x5 x6 hk x7 x8 F') (UpF.refl.keep fun b hb o eo => kp b o (fun hm => ?_) eo)
    have nf := fun a (ha : a ∈ P.all) => (hP.off a (List.mem_append_left _ ha)).1
    simp only [List.mem_cons, List.not_mem_nil, or_false] at hm
    rcases hm with q | q | q | q | q
    · exact hP.Lf (q ▸ hb)
    · exact nf _ (.tail _ (.tail _ (.head _))) (q ▸ hb)
    · exact nf _ (.tail _ (.head _)) (q ▸ hb)
    · exact nf _ (.tail _ (.tail _ (.tail _ (.head _)))) (q ▸ hb)
    · exact nf _ (.head _) (q ▸ hb)
end
end Mine
end

section
open PySem PySem.W PyProof.Rows PySem.Calls 
namespace Mine
section
variable {prog : Program} {w : World} {p₀ : Program} {loose : List Str} {mean : ExcName → Option Value} {mg mb : Str → Option Value} {g h₀ : Heap} {s : Shared} {m : Str → Option Value} {Q : Flow → Shared → Prop} {E : Value → Shared → Prop}
  {dp un : Nat} {gd : Option (List Code)} {fr : List Env} {P : Fp} {od : Obj} {is : List Info}
noncomputable def wz (z : Zf) : Nat := z.i.succ.length + 1 - z.k
noncomputable def mu (is : List Info) (zs : List Zf) (Ss : Str → Bool) : Nat := unS (fun i => i.succ.length + 2) Ss is + (zs.map wz).sum
/-- no way round: a rank that every step raises -/
noncomputable def Acyc (is : List Info) (rk : Str → Nat) : Prop := ∀ i ∈ is, ∀ q ∈ i.succ, ∃ j ∈ is, j.key = q.1 ∧ rk i.key < rk q.1
theorem fcm_n {p : Str × Nat} (h : FcM P m) : FcM P (FcN m p) := h
theorem fc_while {Ss : Str → Bool} {i : Info} {nt : Nat} {rk : Str → Nat} (X : (hz.heap_251 w.params).In g) (T : Top p₀ loose mean mg mb g) (hP : FcP prog w g h₀ fr P od is) (ac : Acyc is rk) (hM : FcM P m) (hnode : m "node" = some (.str i.key nt)) (hi : i ∈ is) (S : FcS prog w g h₀ fr P od is s.heap m [] Ss)
    (hQ : ∀ h' tk m' Ss', FcM P m' → FcS prog w g h₀ fr P od is h' m' [] Ss' → UpF fr s.heap h' → Q .next { s with heap := h', toks := tk }) :
    wpAny (model prog w) (Ar dp un gd (fcEnv P.L :: fr)) (exec fcW (fcEnv P.L)) Q E s := by
  obtain ⟨q1, q2, eW⟩ : ∃ q1 q2, fcW = .While (.Constant (.bool true) 0 q1) [fcIf, fcW2] [] q2 := ⟨_, _, rfl⟩
  rw [eW]
  refine While_F (fun n s₁ => ∃ h tk m' zs Ss' i nt, s₁ = { s with heap := h, toks := tk } ∧ FcM P m' ∧ m' "node" = some (.str i.key nt) ∧ i ∈ is ∧ FcS prog w g h₀ fr P od is h m' zs Ss' ∧ UpF fr s.heap h ∧ (∀ z ∈ zs, Ss' z.i.key = true) ∧ (∀ z ∈ zs, rk z.i.key < rk i.key) ∧ zs.Pairwise (fun a b => rk a.i.key < rk b.i.key) ∧ mu is zs Ss' = n) ?_ _
    ⟨s.heap, s.toks, m, [], Ss, i, nt, rfl, hM, hnode, hi, S, UpF.refl, fun _ h => absurd h List.not_mem_nil, fun _ h => absurd h List.not_mem_nil, .nil, rfl⟩
  rintro n s₁ ⟨h, tk, m', zs, Ss', i', nt', rfl, hM', hnode', hi', S', U', hzs, hrk, hpw, rfl⟩
  refine wpAny_isTrue_value ?_
  walk1
  walk1
  rw [if_pos rfl]
  have rest : ∀ (h₂ : Heap) tk₂ zs₂ Ss₂, FcS prog w g h₀ fr P od is h₂ m' zs₂ Ss₂ → UpF fr s.heap h₂ → (∀ z ∈ zs₂, Ss₂ z.i.key = true) → zs₂.Pairwise (fun a b => rk a.i.key < rk b.i.key) → mu is zs₂ Ss₂ ≤ mu is zs Ss' →
      wpAny (model prog w) (Ar dp un gd (fcEnv P.L :: fr)) (execs [fcW2] (fcEnv P.L)) (fun f s₃ => match f with
        | .next | .cont => Again (fun n s₁ => ∃ h tk m' zs Ss' i nt, s₁ = { s with heap := h, toks := tk } ∧ FcM P m' ∧ m' "node" = some (.str i.key nt) ∧ i ∈ is ∧ FcS prog w g h₀ fr P od is h m' zs Ss' ∧ UpF fr s.heap h ∧ (∀ z ∈ zs, Ss' z.i.key = true) ∧ (∀ z ∈ zs, rk z.i.key < rk i.key) ∧ zs.Pairwise (fun a b => rk a.i.key < rk b.i.key) ∧ mu is zs Ss' = n) (mu is zs Ss') s₃
        | .brk => Q .next s₃
        | .ret v => Q (.ret v) s₃) (fun _ _ => False) { s with heap := h₂, toks := tk₂ } := by
    intro h₂ tk₂ zs₂ Ss₂ S₂ U₂ hz₂ hp₂ hmu
    refine wpAny_execs_cons (fc_inner X T hP hM' S₂ ?_ ?_)
    · intro h3 tk3 ys z r p ez hp S₃ U₃
      subst ez
      have zm : z ∈ ys ++ [z] ++ r := List.mem_append_left _ (List.mem_append_right _ (.head _))
      have zi := (S₂.zf z zm).2.2.1
      obtain ⟨j, hj, hjk, hr⟩ := ac z.i zi p (List.mem_of_getElem? hp)
      have pw := List.pairwise_append.mp (List.pairwise_append.mp hp₂).1
      have hk : z.k < z.i.succ.length := by obtain ⟨q, _⟩ := List.getElem?_eq_some_iff.mp hp; exact q
      refine wpAny_execs_nil ⟨mu is (ys ++ [{ z with k := z.k + 1 }]) Ss₂, ?_, h3, tk3, FcN m' p, _, Ss₂, j, p.2, rfl, hM', by rw [hjk]; exact if_pos rfl, hj, S₃, UpF.trans U₂ U₃, fun y hy => ?_, fun y hy => ?_, ?_, rfl⟩
      · have e1 : mu is (ys ++ [z] ++ r) Ss₂ = unS (fun i => i.succ.length + 2) Ss₂ is + ((ys.map wz).sum + wz z + (r.map wz).sum) := by
          unfold mu; rw [List.map_append, List.map_append, List.sum_append, List.sum_append]; simp
        have e2 : mu is (ys ++ [{ z with k := z.k + 1 }]) Ss₂ = unS (fun i => i.succ.length + 2) Ss₂ is + ((ys.map wz).sum + wz { z with k := z.k + 1 }) := by
          unfold mu; rw [List.map_append, List.sum_append]; simp
        have e3 : wz z = wz { z with k := z.k + 1 } + 1 := by unfold wz; dsimp only; omega
        omega
      · rcases List.mem_append.mp hy with hy | hy
        · exact hz₂ y (List.mem_append_left _ (List.mem_append_left _ hy))
        · rw [List.mem_singleton.mp hy]; exact hz₂ z zm
      · rcases List.mem_append.mp hy with hy | hy
        · rw [hjk]; exact Nat.lt_trans (pw.2.2 y hy z (.head _)) hr
        · rw [List.mem_singleton.mp hy, hjk]; exact hr
      · refine List.pairwise_append.mpr ⟨pw.1, List.pairwise_singleton _ _, fun a ha b hb => ?_⟩
        rw [List.mem_singleton.mp hb]; exact pw.2.2 a ha z (.head _)
    · intro h3 tk3 S₃ U₃
      exact hQ h3 tk3 m' Ss₂ hM' S₃ (UpF.trans U₂ U₃)
  refine wpAny_execs_cons (fc_if X T hP hM' hnode' hi' S' hzs (fun hm => ?_) ?_ ?_)
  · obtain ⟨z, hz, e⟩ := List.mem_map.mp hm
    have := hrk z hz
    rw [e] at this
    exact Nat.lt_irrefl _ this
  · intro tk2 hs
    exact rest h tk2 zs Ss' S' U' hzs hpw (Nat.le_refl _)
  · intro h2 tk2 mw it hs S2 U2
    refine rest h2 tk2 _ _ S2 (UpF.trans U' U2) (fun z hz => ?_) ?_ ?_
    · rcases List.mem_append.mp hz with hz | hz
      · show (Ss' _ || _) = true
        rw [hzs z hz]; rfl
      · rw [List.mem_singleton.mp hz]
        show (Ss' _ || decide (_ = _)) = true
        rw [decide_eq_true rfl, Bool.or_true]
    · refine List.pairwise_append.mpr ⟨hpw, List.pairwise_singleton _ _, fun a ha b hb => ?_⟩
      rw [List.mem_singleton.mp hb]; exact hrk a ha
    · have := unS_drop (fun i => i.succ.length + 2) Ss' hs is hi'
      unfold mu
      rw [List.map_append, List.sum_append]
      show _ + (_ + [wz ⟨mw, it, i', nt', 0⟩].sum) ≤ _
      have e : [wz ⟨mw, it, i', nt', 0⟩].sum = i'.succ.length + 1 := by simp [wz]
      rw [e]
      omega
end
end Mine
end

section
open PySem PySem.W PyProof.Rows PySem.Calls 
namespace Mine
section
variable {prog : Program} {w : World} {p₀ : Program} {loose : List Str} {mean : ExcName → Option Value} {mg mb : Str → Option Value} {g h₀ : Heap} {s : Shared} {m : Str → Option Value} {Q : Flow → Shared → Prop} {E : Value → Shared → Prop}
  {dp un : Nat} {gd : Option (List Code)} {fr : List Env} {P : Fp} {od : Obj} {is : List Info}
theorem FcS.move0 {h h' : Heap} {m' : Str → Option Value} {Ss : Str → Bool} {I : Addr} (S : FcS prog w g h₀ fr P od is h m [] Ss) (hP : FcP prog w g h₀ fr P od is) (hI : ∀ a ∈ P.all ++ adI is, @Ne Nat a I) (hIf : I ∉ frs fr) (k : Keep [P.L, I] h h') (hkx : P.kx = none) (F' : Fr g P.L h' m') :
    FcS prog w g h₀ fr P od is h' m' [] Ss := by
  have pres : ∀ a o, a ∈ P.all ++ adI is → h.get? a = some o → h'.get? a = some o := fun a o ha ho => k a o (nm2 (hP.off a ha).2.1 (hI a ha)) ho
  have pa : ∀ a ∈ P.all, a ∈ P.all ++ adI is := fun a ha => List.mem_append_left _ ha
  obtain ⟨c, s1⟩ := S.st
  obtain ⟨c2, s2⟩ := S.its
  obtain ⟨on, kvs, s3, s4, s5⟩ := S.ni
  obtain ⟨so, n, s6, s7, s8, s9⟩ := S.sn
  refine ⟨F', ⟨c, pres _ _ (pa _ (.head _)) s1⟩, ⟨c2, pres _ _ (pa _ (.tail _ (.head _))) s2⟩, ⟨on, kvs, pres _ _ (pa _ (.tail _ (.tail _ (.tail _ (.head _))))) s3, s4, s5⟩, ⟨so, n, pres _ _ (pa _ (.tail _ (.tail _ (.head _)))) s6, s7, s8, s9⟩, pres _ _ (pa _ (.tail _ (.tail _ (.tail _ (.tail _ (.head _)))))) S.nd,
    fun q hq => pres _ _ (List.mem_append_right _ (keys_ledI.mp (List.mem_map_of_mem hq))) (S.infos q hq), fun y hy => absurd hy List.not_mem_nil, S.nod, S.keys, ff_keep S.ff fun b hb o eo => k b o (nm2 (fun q => hP.Lf (q ▸ hb)) fun q => hIf (q ▸ hb)) eo, fun q hq => by rw [hkx] at hq; cases hq⟩
theorem FcS.kxUp {h : Heap} {Ss : Str → Bool} {q : Addr × Obj} (S : FcS prog w g h₀ fr P od is h m [] Ss) (e : h.get? q.1 = some q.2) : FcS prog w g h₀ fr { P with kx := some q } od is h m [] Ss :=
  ⟨S.F, S.st, S.its, S.ni, S.sn, S.nd, S.infos, S.zf, S.nod, S.keys, S.ff, fun q' h => by cases h; exact e⟩
theorem FcP.kxUp {q : Addr × Obj} (hP : FcP prog w g h₀ fr P od is) (e : q.1 ∉ frs fr ∧ q.1 ≠ P.L ∧ g.get? q.1 = none ∧ q.2.cls = .type "dict_keyiterator") : FcP prog w g h₀ fr { P with kx := some q } od is :=
  ⟨hP.off, hP.d1, hP.d2, hP.d3, hP.od, hP.wf, hP.len, hP.hgb, hP.hgf, hP.L0, hP.Lf, hP.lo, hP.ln, fun q' h => by cases h; exact e⟩
theorem FcS.kxDn {h : Heap} {Ss : Str → Bool} {q : Addr × Obj} (S : FcS prog w g h₀ fr { P with kx := some q } od is h m [] Ss) (hkx : P.kx = none) : FcS prog w g h₀ fr P od is h m [] Ss :=
  ⟨S.F, S.st, S.its, S.ni, S.sn, S.nd, S.infos, S.zf, S.nod, S.keys, S.ff, fun q' h => by rw [hkx] at h; cases h⟩
theorem fc_for {Ss : Str → Bool} {rk : Str → Nat} (X : (hz.heap_251 w.params).In g) (T : Top p₀ loose mean mg mb g) (hP : FcP prog w g h₀ fr P od is) (hkx : P.kx = none) (ac : Acyc is rk) (hM : FcM P m) (S : FcS prog w g h₀ fr P od is s.heap m [] Ss)
    (hQ : ∀ h' tk m', Fr g P.L h' m' → UpF fr s.heap h' → h'.FunFrames h₀ fr → At h' ((P.nd, od) :: ledI is) → Q .next { s with heap := h', toks := tk }) :
    wpAny (model prog w) (Ar dp un gd (fcEnv P.L :: fr)) (exec fcFor (fcEnv P.L)) Q (fun _ _ => False) s := by
  obtain ⟨q1, q2, q3, q4, q5, q6, q7, q8, q9, eF⟩ : ∃ q1 q2 q3 q4 q5 q6 q7 q8 q9, fcFor = .For (.Name "node" q1) (.Name "n2i" q2) [.If (.Compare (.Name "node" q3) [.In] [.Name "seen" q4] q5) [.Continue q6] [] q7, fcW] [] q8 ∧ q9 = q8 := ⟨_, _, _, _, _, _, _, _, _, rfl, rfl⟩
  rw [eF.1]
  refine For_h g rfl rfl ?_
  have F := S.F
  have F1 := Fr.pin F (y₀ := "n2i") hM.1
  clear F
  k_steps
  obtain ⟨es, ep, o1, o2, o3, o4, o5⟩ := id hP.od
  have hm : s.heap.DictAt (strKind prog w) P.nd (kvI is) ep := ⟨od, es, S.nd, o1, o2, o3, o4, o5⟩
  refine wpAny_pyIter_dict hP.ln hm ?_
  have pa : ∀ a ∈ P.all, a ∈ P.all ++ adI is := fun a ha => List.mem_append_left _ ha
  have hndm := pa P.nd (.tail _ (.tail _ (.tail _ (.tail _ (.head _)))))
  have exs : ∀ a ∈ P.all ++ adI is, ∃ o, s.heap.get? a = some o := fun a ha => by
    rcases List.mem_append.mp ha with ha | ha
    · obtain ⟨c, s1⟩ := S.st
      obtain ⟨c2, s2⟩ := S.its
      obtain ⟨on, kvs, s3, -⟩ := S.ni
      obtain ⟨so, n, s6, -⟩ := S.sn
      exact forall_cons (P := fun a => ∃ o, s.heap.get? a = some o) ⟨_, s1⟩ (forall_cons ⟨_, s2⟩ (forall_cons ⟨_, s6⟩ (forall_cons ⟨_, s3⟩ (forall_cons ⟨_, S.nd⟩ (fun _ h => absurd h List.not_mem_nil))))) a ha
    · obtain ⟨q, hq, rfl⟩ := List.mem_map.mp (keys_ledI.mpr ha)
      exact ⟨_, S.infos q hq⟩
  have nI : s.heap.get? s.heap.objs.size = none := noneAt
  have hI : ∀ a ∈ P.all ++ adI is, @Ne Nat a s.heap.objs.size := fun a ha => let ⟨o, e⟩ := exs a ha; (neNone nI e).symm
  have fI := fresh_none (env := fcEnv P.L) S.F nI
  have hIf : s.heap.objs.size ∉ frs fr := fun hm => by
    obtain ⟨_, o, ho, _⟩ := S.ff.mem hm
    rw [nI] at ho; cases ho
  have up : ∀ b o, s.heap.get? b = some o → (s.heap.push { cls := .type "dict_keyiterator", data := .fields #[.ref P.nd, .int 0 0, .int (kvI is).length 0, .int ep 0] }).get? b = some o := fun b o e => Heap.get?_push_of_some _ e
  refine ⟨s.heap.objs.size, [s.heap.objs.size, P.nd], [s.heap.objs.size], (kvI is).length, _, _, m, fun _ h m => ∃ Ss' h₁ m₁, FcM P m ∧ FcS prog w g h₀ fr P od is h₁ m₁ [] Ss' ∧ Keep [P.L, s.heap.objs.size] h₁ h ∧ UpF fr s.heap h, rfl, Walks.dictKeys (knd := strKind prog w) rfl _ _ (hI _ hndm) (kvI is) ep, ?_, ?_,
    ⟨⟨_, Heap.get?_push_size _ rfl, rfl, rfl⟩, hm.push _⟩, S.F.push _, ⟨Ss, s.heap, m, hM, S, fun b o _ e => up b o e, UpF.refl.keep fun b _ o e => up b o e⟩, ?_, ?_, ?_⟩
  · intro hm'
    rcases List.mem_cons.mp hm' with e | hm'
    · exact fI.1 e.symm
    · exact (hP.off _ hndm).2.1 (List.mem_singleton.mp hm').symm
  · intro b hb; rw [List.mem_singleton.mp hb]; exact fI.2
  · rintro i h h' m' ⟨Ss', h₁, m₁, hM', S', k', U'⟩ k
    exact ⟨Ss', h₁, m₁, hM', S', k'.trans k, U'.keep fun b hb o e => k b o (nm2 (fun q => hP.Lf ((show b = P.L from q) ▸ hb)) fun q => hIf (q ▸ hb)) e⟩
  · rintro i v h tk m' hlt ⟨k, x, hkx', hv⟩ ⟨⟨oI, hoI, hcI, hdI⟩, hdict⟩ ⟨Ss', h₁, m₁, hM', S', k', U'⟩ F'
    obtain ⟨t, rfl⟩ := Value.isStrOf_shape hv
    obtain ⟨j, hj, hje⟩ : ∃ j ∈ is, j.key = k := by
      unfold kvI at hkx'
      rw [List.getElem?_map] at hkx'
      obtain ⟨j, hj, e⟩ := Option.map_eq_some_iff.mp hkx'
      exact ⟨j, List.mem_of_getElem? hj, congrArg Prod.fst e⟩
    subst hje
    have S2 := (S'.move0 hP hI hIf k' hkx F').kxUp (q := (s.heap.objs.size, oI)) hoI
    have hP2 := hP.kxUp (q := (s.heap.objs.size, oI)) ⟨hIf, fI.1, fI.2, hcI⟩
    have hM2 : FcM P (fun y => if y = "node" then some (.str j.key t) else m' y) := hM'
    have hnode : (fun y => if y = Str.ofString "node" then some (Value.str j.key t) else m' y) "node" = some (.str j.key t) := if_pos rfl
    obtain ⟨so, n, e1, hso, n1, n2⟩ := S2.sn
    have hlen := hP.len
    have o1 := hP.off P.sn (pa _ (.tail _ (.tail _ (.head _))))
    have fin : ∀ h2 tk2 m2 Ss2, FcM P m2 → FcS prog w g h₀ fr { P with kx := some (s.heap.objs.size, oI) } od is h2 m2 [] Ss2 → UpF fr h h2 →
        ∃ h' tk' m3, ({ s with heap := h2, toks := tk2 } : Shared) = { s with heap := h', toks := tk' } ∧ (∀ b ∈ [s.heap.objs.size, P.nd], ∀ o, h.get? b = some o → h'.get? b = some o) ∧ Fr g P.L h' m3 ∧ ∃ Ss' h₁ m₁, FcM P m3 ∧ FcS prog w g h₀ fr P od is h₁ m₁ [] Ss' ∧ Keep [P.L, s.heap.objs.size] h₁ h' ∧ UpF fr s.heap h' := by
      intro h2 tk2 m2 Ss2 hM3 S3 U3
      refine ⟨h2, tk2, m2, rfl, forall_cons (fun o e => ?_) (forall_cons (fun o e => ?_) (fun _ h => absurd h List.not_mem_nil)), S3.F, Ss2, h2, m2, hM3, S3.kxDn hkx, Keep.refl, UpF.trans U' U3⟩
      · rw [hoI] at e; rw [← e]; exact S3.kx _ rfl
      · rw [S2.nd] at e; rw [← e]; exact S3.nd
    refine wpAny_execs_cons (wpAny_If (fc_seen (P := P) X F' hM2.2.2.2.1 hnode (nCons ⟨e1, o1.2⟩ nNil) hso (by omega) fun tk2 => ?_))
    cases hs : Ss' j.key with
    | true =>
      rw [if_pos rfl]
      k_steps
      exact fin h _ _ Ss' hM2 S2 UpF.refl
    | false =>
      rw [if_neg Bool.false_ne_true]
      refine wpAny_execs_nil (wpAny_execs_cons (fc_while (P := { P with kx := some (s.heap.objs.size, oI) }) (m := fun y => if y = Str.ofString "node" then some (Value.str j.key t) else m' y) X T hP2 ac hM2 hnode hj S2 ?_))
      intro h2 tk3 m2 Ss2 hM3 S3 U3
      exact wpAny_execs_nil (fin h2 tk3 m2 Ss2 hM3 S3 U3)
  · rintro h tk m' ⟨Ss', h₁, m₁, hM', S', k', U'⟩ F'
    have S2 := S'.move0 hP hI hIf k' hkx F'
    exact hQ h tk m' F' U' S2.ff (At.cons S2.nd S2.infos)
end
end Mine
end

section
open PySem PySem.W PyProof.Rows PySem.Calls 
local macro_rules | `(tactic| ktr_unf) => `(tactic| repeat' ((fail_if_success (with_reducible show wpAny _ _ (exec (Stmt.For _ _ _ _ _) _) _ _ _)); (fail_if_success (with_reducible show wpAny _ _ (exec (Stmt.While _ _ _ _) _) _ _ _)); (fail_if_success (with_reducible show wpAny _ _ (exec (Stmt.Try _ _ _ _ _) _) _ _ _)); first | (k_unfold; (try dsimp only)) | (k_end; wrow_close) | walk1 | (dsimp only; walk1) | (leave1; (try dsimp only)) | fail "no step"))
namespace Mine
local macro_rules | `(tactic| k_ne) => `(tactic| (refine neN ?_; (try dsimp only); first | assumption | (refine Ne.symm ?_; assumption) | omega))
theorem nm3 {a b c d : Addr} (h : @Ne Nat a b) (k : @Ne Nat a c) (l : @Ne Nat a d) : a ∉ [b, c, d] := fun hm => (List.mem_cons.mp hm).elim h fun hm => (List.mem_cons.mp hm).elim k fun hm => l (List.mem_singleton.mp hm)
section
variable {prog : Program} {w : World} {p₀ : Program} {loose : List Str} {mean : ExcName → Option Value} {mg mb : Str → Option Value} {h₀ : Heap} {s : Shared}
  {dp un : Nat} {gd : Option (List Code)} {fr : List Env} {R : Result → Shared → Prop}
theorem find_cycle {x dx nd : Addr} {k1 k2 k3 k4 : Nat} {rv : Value} {po nf : Int} {t1 t2 : Nat} {od : Obj} {is : List Info} {rk : Str → Nat}
    (X : (hz.heap_251 w.params).In h₀) (T : Top p₀ loose mean mg mb h₀) (K : h₀.StaysIn s.heap) (N : Led h₀ s.heap ([(x, instObj 226 dx), (dx, sDict w k1 k2 k3 k4 nd rv po nf t1 t2 4), (nd, od)] ++ ledI is)) (hd : dp + 50 < recursionLimit)
    (Wf : WfI is) (hoff : ∀ a ∈ adI is, @Ne Nat a x ∧ @Ne Nat a dx ∧ @Ne Nat a nd) (hod : od.IsDictOf (strKind prog w) (kvI is)) (lo : (nd == sysModules) = false) (hlen : is.length ≤ 900) (ac : Acyc is rk)
    (hff : s.heap.FunFrames h₀ fr) (hnf : ∀ b ∈ frs fr, b ∉ [x, dx, nd] ++ adI is)
    (hret : ∀ h' tk', (∀ b o, s.heap.get? b = some o → b ∉ frs fr → h'.get? b = some o) → UpF fr s.heap h' → h'.FunFrames h₀ fr → R (.ok (.ret .none)) { s with heap := h', toks := tk' }) :
    codeAny (model prog w) (Ar dp un gd fr) (.call (.ref 216) ⟨[.ref x], []⟩) R s := by
  refine enterR X T K N (by omega) (ko216 _) (by k_is) (binds := [("self", .ref x)]) (BindsTo.of_eq rfl) (locs rfl) ?_ (by decide) rfl rfl rfl
  intro g0 L' h₁ tk hL F' N' X' T' hlt hg
  refine wpAny_mono (E := fun _ _ => False) ?_ (fun _ _ q => q) fun _ _ f => f.elim
  have st5 : h₀.StaysIn (hideAll g0 (frs fr)) := fun b o q => hideAll_get _ (led_stay K N hg b o q) fun hm => by rw [(hff.mem hm).1] at q; cases q
  have X5 := X.keeps st5
  have T5 := T.keeps st5
  have F5 : Fr (hideAll g0 (frs fr)) L' h₁ _ := ⟨F'.ns, fun b o q => F'.keep b o (of_hideAll _ q), by rw [hideAll_size]; exact F'.above⟩
  have gn : ∀ b, g0.get? b = none → (hideAll g0 (frs fr)).get? b = none := fun b hb => by
    cases q : (hideAll g0 (frs fr)).get? b with
    | none => rfl
    | some o => rw [of_hideAll _ q] at hb; cases hb
  obtain ⟨g1, F1, N1, up1, hg1⟩ := reground F5 (E₁ := [(x, instObj 226 dx), (dx, sDict w k1 k2 k3 k4 nd rv po nf t1 t2 4), (nd, od)]) fun q hq => ⟨(N' q (List.mem_append_left _ hq)).1, (N' q (List.mem_append_left _ hq)).2.1, gn _ (N' q (List.mem_append_left _ hq)).2.2⟩
  have X1 := X5.keeps up1
  have T1 := T5.keeps up1
  conv in execs _ _ => arg 1; whnf
  ktr_unf
  rename Fr g1 L' _ _ => F6
  rename News g1 L' _ _ => N6
  rename_i st _ _ _ _ its _ _ _ sn _ _ _ hz _ _ ni _ on lon hon _ _ _ l1 hX
  have F7 := Fr.weak F6 F5.above up1
  have fresh : ∀ a, g1.get? a = none → a ≠ L' → a ∉ [x, dx, nd] → ∀ b o, s.heap.get? b = some o → @Ne Nat a b := fun a h1 h2 h3 b o e z => by
    subst z
    by_cases hm : a ∈ keys ([(x, instObj 226 dx), (dx, sDict w k1 k2 k3 k4 nd rv po nf t1 t2 4), (nd, od)] ++ ledI is)
    · obtain ⟨q, hq, z⟩ := List.mem_map.mp hm
      rcases List.mem_append.mp hq with hq' | hq'
      · exact h3 (z ▸ List.mem_map_of_mem (f := Prod.fst) hq')
      · have e1 := (N' q hq).1
        have := hg1 _ _ e1 (hlt q hq) fun hm => h3 (z ▸ hm)
        rw [z, h1] at this; cases this
    · by_cases hf : a ∈ frs fr
      · have e1 := F'.keep _ _ (hg _ _ e hm)
        have := hg1 _ _ e1 (Nat.lt_of_lt_of_le (Heap.lt_size (hg _ _ e hm)) F'.above) h3
        rw [h1] at this; cases this
      · have := up1 _ _ (hideAll_get _ (hg _ _ e hm) hf)
        rw [h1] at this; cases this
  have f4 : ∀ a ∈ [st, its, sn, ni], g1.get? a = none ∧ a ≠ L' ∧ a ∉ [x, dx, nd] := by
    have z : ∀ a : Addr, @Ne Nat a x → @Ne Nat a dx → @Ne Nat a nd → a ∉ [x, dx, nd] := fun a h1 h2 h3 hm => by
      simp only [List.mem_cons, List.not_mem_nil, or_false] at hm
      rcases hm with q | q | q
      · exact h1 q
      · exact h2 q
      · exact h3 q
    exact forall_cons ⟨(N6 (st, _) (by k_mem)).2.2, (N6 (st, _) (by k_mem)).2.1, z st (by omega) (by omega) (by omega)⟩ (forall_cons ⟨(N6 (its, _) (by k_mem)).2.2, (N6 (its, _) (by k_mem)).2.1, z its (by omega) (by omega) (by omega)⟩ (forall_cons ⟨(N6 (sn, _) (by k_mem)).2.2, (N6 (sn, _) (by k_mem)).2.1, z sn (by omega) (by omega) (by omega)⟩
      (forall_cons ⟨(N6 (ni, on) (by k_mem)).2.2, (N6 (ni, on) (by k_mem)).2.1, z ni (by omega) (by omega) (by omega)⟩ (fun _ h => absurd h List.not_mem_nil))))
  have fr4 : ∀ a ∈ [st, its, sn, ni], ∀ b o, s.heap.get? b = some o → @Ne Nat a b := fun a ha => fresh a (f4 a ha).1 (f4 a ha).2.1 (f4 a ha).2.2
  have ffm : ∀ b ∈ frs fr, ∃ o, s.heap.get? b = some o := fun b hb => let ⟨_, o, ho, _⟩ := hff.mem hb; ⟨o, ho⟩
  have low : ∀ b o, s.heap.get? b = some o → b ∉ [x, dx, nd] → b < L' ∧ hX.get? b = some o := fun b o e n => by
    by_cases hm : b ∈ keys ([(x, instObj 226 dx), (dx, sDict w k1 k2 k3 k4 nd rv po nf t1 t2 4), (nd, od)] ++ ledI is)
    · obtain ⟨q, hq, z⟩ := List.mem_map.mp hm
      have e1 := (N' q hq).1
      have e2 := (N q hq).1
      rw [z, e] at e2
      have := hlt q hq
      rw [z] at e1 this
      exact ⟨this, by rw [e2, ← e1, F6.keep b q.2 (hg1 _ _ e1 this n)]; exact e1.symm⟩
    · have e1 := F'.keep _ _ (hg _ _ e hm)
      have l := Nat.lt_of_lt_of_le (Heap.lt_size (hg _ _ e hm)) F'.above
      exact ⟨l, F6.keep b o (hg1 _ _ e1 l n)⟩
  have hinf : At hX (ledI is) := fun q hq => by
    have := (N q (List.mem_append_right _ hq)).1
    obtain ⟨o1, o2, o3⟩ := hoff q.1 (keys_ledI.mp (List.mem_map_of_mem hq))
    exact (low _ _ this (nm3 o1 o2 o3)).2
  obtain ⟨gL, FL, NL, upL, hgL⟩ := reground F7 (E₁ := (nd, od) :: ledI is) (nCons ⟨(N6 (nd, od) (by k_mem)).1, (N6 (nd, od) (by k_mem)).2.1, gn _ (N' (nd, od) (by k_mem)).2.2⟩ fun q hq => ⟨hinf q hq, (N' q (List.mem_append_right _ hq)).2.1, gn _ (N' q (List.mem_append_right _ hq)).2.2⟩)
  have bn : ∀ a ∈ [st, its, sn, ni], (hideAll gL (frs fr ++ [st, its, sn, ni])).get? a = none := fun a ha => hideAll_none _ (List.mem_append_right _ ha)
  have bL : ∀ b, gL.get? b = none → (hideAll gL (frs fr ++ [st, its, sn, ni])).get? b = none := fun b hb => by
    cases q : (hideAll gL (frs fr ++ [st, its, sn, ni])).get? b with
    | none => rfl
    | some o => rw [of_hideAll _ q] at hb; cases hb
  have st6 : h₀.StaysIn (hideAll gL (frs fr ++ [st, its, sn, ni])) := fun b o q => hideAll_get _ (upL _ _ (st5 b o q)) fun hm => by
    rcases List.mem_append.mp hm with hm | hm
    · rw [(hff.mem hm).1] at q; cases q
    · have := up1 _ _ (st5 b o q)
      rw [(f4 b hm).1] at this; cases this
  have FB : Fr (hideAll gL (frs fr ++ [st, its, sn, ni])) L' hX _ := ⟨FL.ns, fun b o q => FL.keep b o (of_hideAll _ q), by rw [hideAll_size]; exact FL.above⟩
  have gb : ∀ b o, s.heap.get? b = some o → b ∉ frs fr → b ∉ keys ((nd, od) :: ledI is) → (hideAll gL (frs fr ++ [st, its, sn, ni])).get? b = some o := fun b o e n1 n2 => by
    refine hideAll_get _ ?_ fun hm => (List.mem_append.mp hm).elim n1 fun hm => fr4 b hm b o e rfl
    by_cases hx : b ∈ [x, dx, nd]
    · have kk : ∀ q ∈ [(x, instObj 226 dx), (dx, sDict w k1 k2 k3 k4 nd rv po nf t1 t2 4), (nd, od)], s.heap.get? q.1 = some q.2 ∧ hX.get? q.1 = some q.2 ∧ q.1 < L' :=
        forall_cons ⟨(N (x, instObj 226 dx) (by k_mem)).1, (N6 (x, _) (by k_mem)).1, hlt (x, instObj 226 dx) (by k_mem)⟩ (forall_cons ⟨(N (dx, _) (.tail _ (.head _))).1, (N6 (dx, sDict w k1 k2 k3 k4 nd rv po nf t1 t2 4) (by k_mem)).1, hlt (dx, _) (.tail _ (.head _))⟩ (forall_cons ⟨(N (nd, od) (by k_mem)).1, (N6 (nd, od) (by k_mem)).1, hlt (nd, od) (by k_mem)⟩ (fun _ h => absurd h List.not_mem_nil)))
      obtain ⟨q, hq, z⟩ := List.mem_map.mp (show b ∈ keys [(x, instObj 226 dx), (dx, sDict w k1 k2 k3 k4 nd rv po nf t1 t2 4), (nd, od)] from hx)
      obtain ⟨c1, c2, c3⟩ := kk q hq
      rw [z] at c1 c2 c3
      rw [e] at c1; rw [c1]
      exact hgL _ _ c2 c3 n2
    · obtain ⟨l, e'⟩ := low b o e hx
      exact hgL _ _ e' l n2
  have hadI : ∀ a ∈ adI is, ∃ o, s.heap.get? a = some o := fun a ha => by
    obtain ⟨q, hq, rfl⟩ := List.mem_map.mp (keys_ledI.mpr ha)
    exact ⟨_, (N q (List.mem_append_right _ hq)).1⟩
  have hP : FcP prog w (hideAll gL (frs fr ++ [st, its, sn, ni])) h₀ fr ⟨L', st, its, sn, ni, nd, none⟩ od is := by
    refine ⟨fun a ha => ?_, ?_, fun i hi => ⟨?_, ?_, ?_⟩, ?_, hod, Wf, hlen, st6, fun b hb => hideAll_none _ (List.mem_append_left _ hb), ?_, ?_, lon, lo, fun q h => by cases h⟩
    · have old : a ∉ [st, its, sn, ni] → (∃ q ∈ (nd, od) :: ledI is, q.1 = a) → a ∉ frs fr ∧ a ≠ L' ∧ (hideAll gL (frs fr ++ [st, its, sn, ni])).get? a = none := fun _ ⟨q, hq, z⟩ => by
        subst z
        refine ⟨fun hb => hnf _ hb ?_, (NL q hq).2.1, bL _ (NL q hq).2.2⟩
        rcases List.mem_cons.mp hq with rfl | hq
        · exact List.mem_append_left _ (.tail _ (.tail _ (.head _)))
        · exact List.mem_append_right _ (keys_ledI.mp (List.mem_map_of_mem hq))
      have new : a ∈ [st, its, sn, ni] → a ∉ frs fr ∧ a ≠ L' ∧ (hideAll gL (frs fr ++ [st, its, sn, ni])).get? a = none := fun hm => ⟨fun hb => by
        obtain ⟨o, e⟩ := ffm a hb
        exact fr4 a hm a o e rfl, (f4 a hm).2.1, bn a hm⟩
      by_cases hm : a ∈ [st, its, sn, ni]
      · exact new hm
      · refine old hm ?_
        rcases List.mem_append.mp ha with ha | ha
        · refine ⟨(nd, od), .head _, ?_⟩
          have hq : a ∈ [st, its, sn, ni] ++ [nd] := ha
          rcases List.mem_append.mp hq with hq | hq
          · exact absurd hq hm
          · exact (List.mem_singleton.mp hq).symm
        · obtain ⟨q, hq, z⟩ := List.mem_map.mp (keys_ledI.mpr ha)
          exact ⟨q, .tail _ hq, z⟩
    · show @Ne Nat st its; omega
    · obtain ⟨o, e⟩ := hadI i.S (mem_adI hi (.tail _ (.tail _ (.head _)))); exact fr4 st (.head _) _ _ e
    · obtain ⟨o, e⟩ := hadI i.S (mem_adI hi (.tail _ (.tail _ (.head _)))); exact fr4 its (.tail _ (.head _)) _ _ e
    · obtain ⟨o, e⟩ := hadI i.D (mem_adI hi (.tail _ (.head _))); exact fr4 ni (.tail _ (.tail _ (.tail _ (.head _)))) _ _ e
    · show @Ne Nat ni nd; omega
    · cases q : h₀.get? L' with
      | none => rfl
      | some o => have := K _ _ q; rw [hL] at this; cases this
    · intro hb
      obtain ⟨o, e⟩ := ffm L' hb
      rw [hL] at e; cases e
  have hffX : hX.FunFrames h₀ fr := ff_keep hff fun b hb o e => by
    refine (low b o e fun hm => hnf b hb ?_).2
    exact List.mem_append_left _ hm
  have S : FcS prog w (hideAll gL (frs fr ++ [st, its, sn, ni])) h₀ fr ⟨L', st, its, sn, ni, nd, none⟩ od is hX _ [] (fun _ => false) :=
    ⟨FB, ⟨0, (N6 (st, W.listOf #[] 0) (by k_mem)).1⟩, ⟨0, (N6 (its, W.listOf #[] 0) (by k_mem)).1⟩, ⟨on, [], (N6 (ni, on) (by k_mem)).1, hon, rfl⟩, ⟨_, 0, (N6 (sn, _) (by k_mem)).1, hz, by rw [Nat.zero_add]; exact List.length_filter_le _ _, Nat.le_refl _⟩, (N6 (nd, od) (by k_mem)).1, hinf, fun y hy => absurd hy List.not_mem_nil, List.nodup_nil, List.nodup_nil, hffX, fun q h => by cases h⟩
  have XB := X.keeps st6
  have TB := T.keeps st6
  refine wpAny_mono (fc_for (P := ⟨L', st, its, sn, ni, nd, none⟩) (Q := fun f s' => f = .next ∧ RetTo R (.ret .none) s') XB TB hP rfl ac ⟨rfl, rfl, rfl, rfl, rfl⟩ S ?_) (fun f s' hf => ?_) fun _ _ f => f
  · intro h' tk' m' F'' U' ff' At'
    refine ⟨rfl, hret h' _ (fun b o e n => ?_) (UpF.trans (UpF.refl.keep fun b hb o e => (low b o e fun hm => hnf b hb (List.mem_append_left _ hm)).2) U') ff'⟩
    by_cases hm : b ∈ keys ((nd, od) :: ledI is)
    · obtain ⟨q, hq, z⟩ := List.mem_map.mp hm
      have e1 := At' q hq
      have e2 : s.heap.get? q.1 = some q.2 := by
        rcases List.mem_cons.mp hq with rfl | hq
        · exact (N (nd, od) (.tail _ (.tail _ (.head _)))).1
        · exact (N q (List.mem_append_right _ hq)).1
      rw [z] at e1 e2
      rw [e] at e2; rw [e1, e2]
    · exact F''.keep b o (gb b o e n hm)
  · obtain ⟨rfl, hq⟩ := hf
    dsimp only
    have N9 := nNil (h₀ := hideAll gL (frs fr ++ [st, its, sn, ni])) (L := L') (h := s'.heap)
    k_steps
    exact hq
end
end Mine
end

section
open PySem PySem.W PyProof.Rows PySem.Calls 
local macro_rules | `(tactic| ktr_unf) => `(tactic| repeat' ((fail_if_success (with_reducible show wpAny _ _ (exec (Stmt.For _ _ _ _ _) _) _ _ _)); (fail_if_success (with_reducible show wpAny _ _ (exec (Stmt.While _ _ _ _) _) _ _ _)); (fail_if_success (with_reducible show wpAny _ _ (exec (Stmt.Try _ _ _ _ _) _) _ _ _)); first | (k_unfold; (try dsimp only)) | (k_end; wrow_close) | walk1 | (dsimp only; walk1) | (leave1; (try dsimp only)) | fail "no step"))
namespace Mine
local macro_rules | `(tactic| k_ne) => `(tactic| (refine neN ?_; (try dsimp only); first | assumption | (refine Ne.symm ?_; assumption) | omega))
/-- a frame, but for what is noted of it -/
theorem fr_up {g h h' : Heap} {L : Addr} {m : Str → Option Value} (F : Fr g L h m) (U : ∀ o, h.get? L = some o → (∀ vs, o.data ≠ .fields vs) → ∃ sl, h'.get? L = some { o with slots := sl }) (k : ∀ b o, g.get? b = some o → h'.get? b = some o) : Fr g L h' m := by
  obtain ⟨oL, es, ep, hL, hd, r⟩ := F.ns
  obtain ⟨sl, e⟩ := U oL hL (fun vs q => by rw [hd] at q; cases q)
  exact ⟨⟨_, es, ep, e, hd, r⟩, k, F.above⟩
section
variable {prog : Program} {w : World} {p₀ : Program} {loose : List Str} {mean : ExcName → Option Value} {mg mb : Str → Option Value} {h₀ : Heap} {s : Shared}
  {dp un : Nat} {gd : Option (List Code)} {fr : List Env} {R : Result → Shared → Prop}
theorem prepare {x dx nd : Addr} {k1 k2 k3 k4 : Nat} {po nf : Int} {t1 t2 : Nat} {od : Obj} {is : List Info} {rk : Str → Nat}
    (X : (hz.heap_251 w.params).In h₀) (T : Top p₀ loose mean mg mb h₀) (K : h₀.StaysIn s.heap) (N : Led h₀ s.heap ([(x, instObj 226 dx), (dx, sDict w k1 k2 k3 k4 nd .none po nf t1 t2 4), (nd, od)] ++ ledI is)) (hd : dp + 60 < recursionLimit)
    (Wf : WfI is) (hoff : ∀ a ∈ adI is, @Ne Nat a x ∧ @Ne Nat a dx ∧ @Ne Nat a nd) (d1 : @Ne Nat x dx) (d2 : @Ne Nat x nd) (d3 : @Ne Nat dx nd) (hod : od.IsDictOf (strKind prog w) (kvI is)) (lo : (nd == sysModules) = false) (hlen : is.length ≤ 900) (ac : Acyc is rk)
    (hff : s.heap.FunFrames h₀ fr) (hnf : ∀ b ∈ frs fr, b ∉ [x, dx, nd] ++ adI is)
    (hret : ∀ h' tk' rd c, s.heap.get? rd = none → (∀ b o, s.heap.get? b = some o → b ≠ dx → b ∉ frs fr → h'.get? b = some o) → UpF fr s.heap h' → h'.FunFrames h₀ fr → h'.get? dx = some (sDict w k1 k2 k3 k4 nd (.ref rd) po nf t1 t2 4) →
      h'.get? rd = some (W.listOf (((is.filter fun j => decide (j.np = 0)).map fun j => (j.key, j.kt)).map sv).toArray c) → R (.ok (.ret .none)) { s with heap := h', toks := tk' }) :
    codeAny (model prog w) (Ar dp un gd fr) (.call (.ref 181) ⟨[.ref x], []⟩) R s := by
  refine enterR X T K N (by omega) (ko181 _) (by k_is) (binds := [("self", .ref x)]) (BindsTo.of_eq rfl) (locs rfl) ?_ (by decide) rfl rfl rfl
  intro g0 L' h₁ tk hL F' N' X' T' hlt hg
  refine wpAny_mono (E := fun _ _ => False) ?_ (fun _ _ q => q) fun _ _ f => f.elim
  have st5 : h₀.StaysIn (hideAll g0 (frs fr)) := fun b o q => hideAll_get _ (led_stay K N hg b o q) fun hm => by rw [(hff.mem hm).1] at q; cases q
  have X5 := X.keeps st5
  have T5 := T.keeps st5
  have F5 : Fr (hideAll g0 (frs fr)) L' h₁ _ := ⟨F'.ns, fun b o q => F'.keep b o (of_hideAll _ q), by rw [hideAll_size]; exact F'.above⟩
  have gn : ∀ b, g0.get? b = none → (hideAll g0 (frs fr)).get? b = none := fun b hb => by
    cases q : (hideAll g0 (frs fr)).get? b with
    | none => rfl
    | some o => rw [of_hideAll _ q] at hb; cases hb
  obtain ⟨g1, F1, N1, up1, hg1⟩ := reground F5 (E₁ := [(x, instObj 226 dx), (dx, sDict w k1 k2 k3 k4 nd .none po nf t1 t2 4), (nd, od)]) fun q hq => ⟨(N' q (List.mem_append_left _ hq)).1, (N' q (List.mem_append_left _ hq)).2.1, gn _ (N' q (List.mem_append_left _ hq)).2.2⟩
  have X1 := X5.keeps up1
  have T1 := T5.keeps up1
  conv in execs _ _ => arg 1; whnf
  ktr_unf
  rename Fr g1 L' _ _ => F6
  rename News g1 L' _ _ => N6
  rename_i vw hX l1
  have low : ∀ b o, s.heap.get? b = some o → b ∉ [x, dx, nd] → g1.get? b = some o := fun b o e n => by
    by_cases hm : b ∈ keys ([(x, instObj 226 dx), (dx, sDict w k1 k2 k3 k4 nd .none po nf t1 t2 4), (nd, od)] ++ ledI is)
    · obtain ⟨q, hq, z⟩ := List.mem_map.mp hm
      have e1 := (N' q hq).1
      have e2 := (N q hq).1
      rw [z, e] at e2
      have := hlt q hq
      rw [z] at e1 this
      rw [e2, ← e1, hg1 _ _ e1 this n]; exact e1.symm
    · exact hg1 _ _ (F'.keep _ _ (hg _ _ e hm)) (Nat.lt_of_lt_of_le (Heap.lt_size (hg _ _ e hm)) F'.above) n
  have hinf : At hX (ledI is) := fun q hq => by
    obtain ⟨o1, o2, o3⟩ := hoff q.1 (keys_ledI.mp (List.mem_map_of_mem hq))
    exact F6.keep _ _ (hg1 _ _ (N' q (List.mem_append_right _ hq)).1 (hlt q (List.mem_append_right _ hq)) (nm3 o1 o2 o3))
  refine ready_comp rfl (X1.keeps F6.keep) (N6 (vw, _) (by k_mem)).1 (N6 (nd, od) (by k_mem)).1 hod Wf hinf (by omega) ?_
  intro D h2 tk2 c hD hDo kD
  have F7 := frKept' F6 kD (fun _ h => absurd h List.not_mem_nil)
  have e1 := neNone hD (N6 (x, instObj 226 dx) (by k_mem)).1
  have e2 := neNone hD (N6 (dx, sDict w k1 _ k3 k4 nd .none po nf t1 t2 4) (by k_mem)).1
  have e3 := neNone hD (N6 (nd, od) (by k_mem)).1
  have N7 := nCons (nNew F6 hD hDo) (fun q hq => ⟨kD _ _ nm0 (N6 q (.tail _ hq)).1, (N6 q (.tail _ hq)).2⟩ : News g1 L' h2 [(x, instObj 226 dx), (dx, sDict w k1 _ k3 k4 nd .none po nf t1 t2 4), (nd, od)])
  have nfD : D ∉ frs fr := fun hm => by
    obtain ⟨_, o, ho, _⟩ := hff.mem hm
    have := F6.keep _ _ (low D o ho fun hx => hnf D hm (List.mem_append_left _ hx))
    rw [hD] at this; cases this
  have frD : s.heap.get? D = none := by
    cases q : s.heap.get? D with
    | none => rfl
    | some o =>
      have := F6.keep _ _ (low D o q (nm3 e1 e2 e3))
      rw [hD] at this; cases this
  clear F6 N6
  dsimp only
  ktr_unf
  rename Fr g1 L' _ _ => F8
  rename News g1 L' _ _ => N8
  rename Heap => h3
  have gk : ∀ b o, s.heap.get? b = some o → b ∉ [x, dx, nd] → h3.get? b = some o := fun b o e n => F8.keep _ _ (low b o e n)
  have st1 : h₀.StaysIn g1 := fun b o q => up1 _ _ (st5 b o q)
  have hL0 : h₀.get? L' = none := by
    cases q : h₀.get? L' with
    | none => rfl
    | some o => have := K _ _ q; rw [hL] at this; cases this
  have hLf : L' ∉ frs fr := fun hb => by
    obtain ⟨_, o, ho, _⟩ := hff.mem hb
    rw [hL] at ho; cases ho
  have hi3 : At h3 (ledI is) := fun q hq => by
    obtain ⟨o1, o2, o3⟩ := hoff q.1 (keys_ledI.mp (List.mem_map_of_mem hq))
    exact gk _ _ (N q (List.mem_append_right _ hq)).1 (nm3 o1 o2 o3)
  have hff3 : h3.FunFrames h₀ fr := ff_keep hff fun b hb o e => gk b o e fun hm => hnf b hb (List.mem_append_left _ hm)
  have ffE : h3.FunFrames h₀ (envOf "TopologicalSorter.prepare" (fnS st181) L' 181 (.ref 180) :: fr) := .cons (show ScopeKind.function ≠ ScopeKind.module by decide) rfl F8.ns hL0 hff3
  refine wpAny_call (find_cycle (x := x) (dx := dx) (nd := nd) (k1 := k1) (k2 := k2) (k3 := k3) (k4 := k4) (rv := .ref D) (po := po) (nf := nf) (t1 := t1) (t2 := t2) (is := is) (rk := rk) X T (fun b o q => F8.keep _ _ (st1 b o q)) ?_ (by show dp + 1 + 50 < _; omega) Wf hoff hod lo hlen ac ffE ?_ ?_)
  · intro q hq
    refine ⟨?_, ?_⟩
    · rcases List.mem_append.mp hq with hq | hq
      · exact (N8 q (.tail _ hq)).1
      · exact hi3 q hq
    · rcases List.mem_append.mp hq with hq | hq
      · cases z : h₀.get? q.1 with
        | none => rfl
        | some o => have := st1 _ _ z; rw [(N8 q (.tail _ hq)).2.2] at this; cases this
      · exact (N q (List.mem_append_right _ hq)).2
  · intro b hb
    rcases List.mem_cons.mp hb with z | hb
    · rw [show b = L' from z]
      intro hm
      rcases List.mem_append.mp hm with hm | hm
      · obtain ⟨q, hq, z⟩ := List.mem_map.mp (show L' ∈ keys [(x, instObj 226 dx), (dx, sDict w k1 k2 k3 k4 nd .none po nf t1 t2 4), (nd, od)] from hm)
        exact (N' q (List.mem_append_left _ hq)).2.1 z
      · obtain ⟨q, hq, z⟩ := List.mem_map.mp (keys_ledI.mpr hm)
        exact (N' q (List.mem_append_right _ hq)).2.1 z
    · exact hnf b hb
  · intro h4 tk4 kp U ff4
    dsimp only
    have kp' : ∀ b o, h3.get? b = some o → b ≠ L' → b ∉ frs fr → h4.get? b = some o := fun b o e n1 n2 => kp b o e fun hm => (List.mem_cons.mp hm).elim n1 n2
    have F9 : Fr (hideAll g1 (frs fr)) L' h4 _ := fr_up ⟨F8.ns, fun b o q => F8.keep b o (of_hideAll _ q), by rw [hideAll_size]; exact F8.above⟩ (fun o e n => U L' (.head _) o e n) fun b o q => kp' b o (F8.keep b o (of_hideAll _ q)) (fun z => by
      have := Heap.lt_size (of_hideAll _ q)
      rw [z] at this
      exact absurd (Nat.lt_of_lt_of_le this F8.above) (Nat.lt_irrefl _)) fun hm => by rw [hideAll_none _ hm] at q; cases q
    have N9 := nNil (h₀ := hideAll g1 (frs fr)) (L := L') (h := h4)
    have nfx : ∀ b ∈ [x, dx, nd], b ∉ frs fr := fun b hb hm => hnf b hm (List.mem_append_left _ hb)
    have hx3 := N8 (x, instObj 226 dx) (by k_mem)
    have hd3 := N8 (dx, sDict w k1 k2 k3 k4 nd (.ref D) po nf t1 t2 4) (.tail _ (.tail _ (.head _)))
    have hn3 := N8 (nd, od) (by k_mem)
    have hD3 := N8 (D, W.listOf (((is.filter fun j => decide (j.np = 0)).map fun j => (j.key, j.kt)).map sv).toArray c) (.head _)
    refine wpAny_storeName_local (by with_unfolding_all rfl) F9.ns (fun h5 hn5 hs5 => ?_) (by with_unfolding_all rfl)
    have F10 := F9.set hn5 hs5
    clear F8 F9 N8 N9
    have N9 := nNil (h₀ := hideAll g1 (frs fr)) (L := L') (h := h5)
    have k5 : ∀ b o, h3.get? b = some o → b ≠ L' → b ∉ frs fr → h5.get? b = some o := fun b o e n1 n2 => (hs5.2 b n1).trans (kp' b o e n1 n2)
    have U5 : UpF fr s.heap h5 := UpF.trans (UpF.refl.keep fun b hb o e => gk b o e fun hm => nfx b hm hb) (UpF.keep (h' := h4) (fun b hb o e n => U b (.tail _ hb) o e n) fun b hb o e => (hs5.2 b fun z => hLf ((show b = L' from z) ▸ hb)).trans e)
    dsimp only
    k_steps
    show RetTo R (.ret .none) _
    refine hret h5 _ D c frD (fun b o e n1 n2 => ?_) U5 (ff_up hff U5) (k5 _ _ hd3.1 hd3.2.1 (nfx _ (.tail _ (.head _)))) (k5 _ _ hD3.1 hD3.2.1 nfD)
    have nL : b ≠ L' := fun z => by rw [z, hL] at e; cases e
    by_cases hx : b ∈ [x, dx, nd]
    · have ox := (N (x, instObj 226 dx) (.head _)).1
      have on := (N (nd, od) (.tail _ (.tail _ (.head _)))).1
      simp only [List.mem_cons, List.not_mem_nil, or_false] at hx
      rcases hx with z | z | z
      · rw [z] at e ⊢; rw [ox] at e; rw [← e]; exact k5 _ _ hx3.1 hx3.2.1 (z ▸ n2)
      · exact absurd z n1
      · rw [z] at e ⊢; rw [on] at e; rw [← e]; exact k5 _ _ hn3.1 hn3.2.1 (z ▸ n2)
    · exact k5 _ _ (gk b o e hx) nL n2
end
end Mine
end

section
open PySem PySem.W PyProof.Rows PySem.Calls 
namespace Mine
/-- what a turn leaves -/
noncomputable def TurnG (g : Heap) (L : Addr) (fp : List Addr) (h : Heap) (Inv : Heap → (Str → Option Value) → Array GenState → Prop) (s : Shared) (Q : Flow → Shared → Prop) (f : Flow) (s' : Shared) : Prop :=
  match f with
  | .ret v => Q (.ret v) s'
  | .brk => Q .next s'
  | _ => ∃ h' tk gens m', s' = { s with heap := h', toks := tk, gens := gens } ∧ (∀ b ∈ fp, ∀ o, h.get? b = some o → h'.get? b = some o) ∧ Fr g L h' m' ∧ Inv h' m' gens
noncomputable def LoopG (prog : Program) (w : World) (A : Around) (g : Heap) (env : Env) (x : Str) (body : List Stmt) (Q : Flow → Shared → Prop) (E : Value → Shared → Prop) (it : Value) (s : Shared) : Prop :=
  ∃ (I : Addr) (fp wr : List Addr) (n : Nat) (P : Nat → Value → Prop) (St : Nat → Heap → Prop) (m : Str → Option Value) (Inv : Nat → Heap → (Str → Option Value) → Array GenState → Prop),
    it = .ref I ∧ Walks prog w A I fp wr n P St ∧ env.locals ∉ fp ∧ (∀ b ∈ wr, g.get? b = none) ∧ St 0 s.heap ∧ Fr g env.locals s.heap m ∧ Inv 0 s.heap m s.gens ∧
    (∀ i h h' m gens, Inv i h m gens → Keep (env.locals :: wr) h h' → Inv i h' m gens) ∧
    (∀ i v h tk m gens, i < n → P i v → St (i + 1) h → Inv i h m gens → Fr g env.locals h (fun y => if y = x then some v else m y) → wpAny (model prog w) A (execs body env) (TurnG g env.locals fp h (Inv (i + 1)) s Q) E { s with heap := h, toks := tk, gens := gens }) ∧
    ∀ h tk m gens, Inv n h m gens → Fr g env.locals h m → Q .next { s with heap := h, toks := tk, gens := gens }
section
variable {prog : Program} {w : World} {A : Around} {E : Value → Shared → Prop} {s : Shared} {env : Env} {g : Heap} {x : Str} {body : List Stmt} {Q : Flow → Shared → Prop} {m : Str → Option Value}
theorem For_g {px pos : Pos} {iter : Expr} (g : Heap) (hx : env.kindOf x = some .local)
    (hp : (env.scope.kind == .class || (env.scope.kind == .module && env.locals != env.globals)) = false)
    (h : wpAny (model prog w) A (eval iter env) (fun xv s₁ => wpAny (model prog w) A (pyIter xv) (fun it s₂ => LoopG prog w A g env x body Q E it s₂) E s₁) E s)
    (hs : ∀ x, foldedSetIterable iter env x = pure x := by intro _; rfl)
    (hE : PassesOwn (model prog w) A env E := by passes_own) :
    wpAny (model prog w) A (exec (.For (.Name x px) iter body [] pos) env) Q E s := by
  refine wpAny_For (wpAny_mono h (fun xv s₁ h₁ => wpAny_mono h₁ (fun it s₂ h₂ => ?_) fun _ _ e => e) fun _ _ e => e) hs
  obtain ⟨I, fp, wr, n, P, St, m, Inv, rfl, W, hLf, hwr, hst, F, h0, stab, turn, done⟩ := h₂
  have hLw : env.locals ∉ wr := fun h => hLf (W.sub _ h)
  refine codeAny_forLoop (fun k s' => ∃ h' tk m' gens i, s' = { s₂ with heap := h', toks := tk, gens := gens } ∧ St i h' ∧ Fr g env.locals h' m' ∧ Inv i h' m' gens ∧ i ≤ n ∧ k = n + 1 - i) ?_ (n + 1) ⟨_, _, m, s₂.gens, 0, rfl, hst, F, h0, Nat.zero_le _, rfl⟩
  rintro k s' ⟨h', tk, m', gens, i, rfl, hst', F', hJ, hi, rfl⟩
  have next : ∀ h₁ : Heap, Keep wr h' h₁ → Fr g env.locals h₁ m' := fun h₁ hk₁ =>
    ⟨F'.ns.at' fun o e => hk₁ _ o hLw e, fun b o e => hk₁ b o (fun q => by rw [hwr b q] at e; cases e) (F'.keep b o e), F'.above⟩
  by_cases hlt : i < n
  · refine W.item i _ _ _ hlt hst' fun v h₁ tk₁ hP hst₁ hk₁ => ?_
    refine wpAny_assign_Name (wpAny_storeName_local hx (next h₁ hk₁).ns (fun h₂ hn₂ hs₂ => ?_) hp)
    have F₂ := (next h₁ hk₁).set hn₂ hs₂
    have hst₂ : St (i + 1) h₂ := W.frame _ _ _ hst₁ fun b hb o e => (hs₂.2 b fun q => hLf (q ▸ hb)).trans e
    have J₂ : Inv i h₂ m' gens := stab i h' h₂ m' gens hJ fun b o hb e => (hs₂.2 b fun q => hb (q ▸ .head _)).trans (hk₁ b o (fun q => hb (.tail _ q)) e)
    refine wpAny_mono (wpAny_passesOwn hE (turn i v h₂ _ m' gens hlt hP hst₂ J₂ F₂)) (fun f s₃ h₃ => ?_) fun _ _ e => e
    have fin : (∃ h'' tk gens m', s₃ = { s₂ with heap := h'', toks := tk, gens := gens } ∧ (∀ b ∈ fp, ∀ o, h₂.get? b = some o → h''.get? b = some o) ∧ Fr g env.locals h'' m' ∧ Inv (i + 1) h'' m' gens) → ∃ k, k < n + 1 - i ∧ ∃ h' tk m' gens i, s₃ = { s₂ with heap := h', toks := tk, gens := gens } ∧ St i h' ∧ Fr g env.locals h' m' ∧ Inv i h' m' gens ∧ i ≤ n ∧ k = n + 1 - i := by
      rintro ⟨h'', tk', gens', m'', rfl, hk, F'', J''⟩
      exact ⟨n + 1 - (i + 1), by omega, h'', tk', m'', gens', i + 1, rfl, W.frame _ _ _ hst₂ hk, F'', J'', hlt, rfl⟩
    cases f with
    | ret v => exact h₃
    | brk => exact h₃
    | cont => exact fin h₃
    | next => exact fin h₃
  · have hin : i = n := by omega
    subst hin
    refine W.done _ _ _ hst' fun h₁ tk₁ hk₁ => wpAny_execs_nil ?_
    exact done h₁ tk₁ m' gens (stab _ h' h₁ m' gens hJ fun b o hb e => hk₁ b o (fun q => hb (.tail _ q)) e) (next h₁ hk₁)
theorem loopG_core {ax : Addr} {oA : Obj} {vs : List Value} {St : Addr → Nat → Heap → Prop} (oI : Obj) (hfree : oI.isFreed = false) (W : ∀ I, ax ≠ I → Walks prog w A I [I, ax] [I] vs.length (fun i v => vs[i]? = some v) (St I))
    (there : ∀ I i h, St I i h → h.get? ax = some oA → ∃ o, h.get? I = some o) (hst : ∀ I h, h.get? I = some oI → h.get? ax = some oA → St I 0 h)
    (hA : s.heap.get? ax = some oA) (nA : ax ≠ env.locals)
    (F : Fr g env.locals s.heap m) (Inv : Addr → Nat → Heap → (Str → Option Value) → Array GenState → Prop) (h0 : ∀ I, s.heap.get? I = none → Inv I 0 s.heap m s.gens)
    (stab : ∀ I i h h' m gens, s.heap.get? I = none → Inv I i h m gens → Keep [env.locals, I] h h' → Inv I i h' m gens)
    (turn : ∀ I i v h tk m gens oI, s.heap.get? I = none → vs[i]? = some v → Inv I i h m gens → Fr g env.locals h (fun y => if y = x then some v else m y) → h.get? I = some oI → I ≠ env.locals ∧ g.get? I = none →
      wpAny (model prog w) A (execs body env) (TurnG g env.locals [I, ax] h (Inv I (i + 1)) s Q) E { s with heap := h, toks := tk, gens := gens })
    (done : ∀ I h tk m gens, s.heap.get? I = none → Inv I vs.length h m gens → Fr g env.locals h m → Q .next { s with heap := h, toks := tk, gens := gens }) :
    LoopG prog w A g env x body Q E (.ref s.heap.objs.size) { s with heap := s.heap.push oI } := by
  have nI : s.heap.get? s.heap.objs.size = none := noneAt
  have fI := fresh_none F nI
  have hne : ax ≠ s.heap.objs.size := fun e => by rw [← e, hA] at nI; cases nI
  have up : ∀ b o, s.heap.get? b = some o → (s.heap.push oI).get? b = some o := fun b o e => Heap.get?_push_of_some _ e
  refine ⟨_, [s.heap.objs.size, ax], [s.heap.objs.size], vs.length, _, _, m, fun i h m gens => Inv s.heap.objs.size i h m gens ∧ h.get? ax = some oA, rfl, W _ hne, ?_, ?_, ?_, F.push _, ⟨stab _ _ _ _ _ _ nI (h0 _ nI) fun b o _ e => up b o e, up _ _ hA⟩, ?_, ?_, ?_⟩
  · intro hm
    rcases List.mem_cons.mp hm with e | hm
    · exact fI.1 e.symm
    · exact nA (List.mem_singleton.mp hm).symm
  · intro b hb; rw [List.mem_singleton.mp hb]; exact fI.2
  · exact hst _ _ (Heap.get?_push_size _ hfree) (up _ _ hA)
  · intro i h h' m gens hJ k
    refine ⟨stab _ _ _ _ _ _ nI hJ.1 k, k _ _ ?_ hJ.2⟩
    intro hm
    rcases List.mem_cons.mp hm with e | hm
    · exact nA e
    · exact hne (List.mem_singleton.mp hm)
  · intro i v h tk m' gens hi hv hst' hJ F'
    obtain ⟨o, ho⟩ := there _ _ _ hst' hJ.2
    refine wpAny_mono (turn _ i v h tk m' gens o nI hv hJ.1 F' ho fI) (fun f s' hf => ?_) fun _ _ e => e
    have fin : (∃ h'' tk gens m', s' = { s with heap := h'', toks := tk, gens := gens } ∧ (∀ b ∈ [s.heap.objs.size, ax], ∀ o, h.get? b = some o → h''.get? b = some o) ∧ Fr g env.locals h'' m' ∧ Inv s.heap.objs.size (i + 1) h'' m' gens) →
        ∃ h'' tk gens m', s' = { s with heap := h'', toks := tk, gens := gens } ∧ (∀ b ∈ [s.heap.objs.size, ax], ∀ o, h.get? b = some o → h''.get? b = some o) ∧ Fr g env.locals h'' m' ∧ Inv s.heap.objs.size (i + 1) h'' m' gens ∧ h''.get? ax = some oA := by
      rintro ⟨h'', tk, gens, m', e, k, F'', J⟩
      exact ⟨h'', tk, gens, m', e, k, F'', J, k _ (.tail _ (.head _)) _ hJ.2⟩
    cases f with
    | ret v => exact hf
    | brk => exact hf
    | cont => exact fin hf
    | next => exact fin hf
  · intro h tk m' gens hJ F'
    exact done _ h tk m' gens nI hJ.1 F'
theorem loopG_list {tp : Addr} {vs : List Value} {n : Nat} (hA : s.heap.get? tp = some (W.listOf vs.toArray n)) (hh : A.handled = none) (nA : tp ≠ env.locals)
    (F : Fr g env.locals s.heap m) (Inv : Addr → Nat → Heap → (Str → Option Value) → Array GenState → Prop) (h0 : ∀ I, s.heap.get? I = none → Inv I 0 s.heap m s.gens)
    (stab : ∀ I i h h' m gens, s.heap.get? I = none → Inv I i h m gens → Keep [env.locals, I] h h' → Inv I i h' m gens)
    (turn : ∀ I i v h tk m gens oI, s.heap.get? I = none → vs[i]? = some v → Inv I i h m gens → Fr g env.locals h (fun y => if y = x then some v else m y) → h.get? I = some oI → I ≠ env.locals ∧ g.get? I = none →
      wpAny (model prog w) A (execs body env) (TurnG g env.locals [I, tp] h (Inv I (i + 1)) s Q) E { s with heap := h, toks := tk, gens := gens })
    (done : ∀ I h tk m gens, s.heap.get? I = none → Inv I vs.length h m gens → Fr g env.locals h m → Q .next { s with heap := h, toks := tk, gens := gens }) :
    wpAny (model prog w) A (pyIter (.ref tp)) (fun it s₂ => LoopG prog w A g env x body Q E it s₂) E s := by
  refine wpAny_pyIter_list ⟨_, hA, rfl, _, rfl⟩ ?_
  have W := fun I (h : tp ≠ I) => Walks.list (prog := prog) (w := w) (A := A) hh I tp h vs.toArray
  simp only [List.size_toArray, List.getElem?_toArray] at W
  exact loopG_core _ rfl W (fun I i h st _ => let ⟨o, e, _⟩ := st.1; ⟨o, e⟩) (fun I h e1 e2 => ⟨⟨_, e1, rfl, rfl⟩, ⟨_, e2, rfl, _, rfl⟩⟩) hA nA F Inv h0 stab turn done
end
end Mine
end

section
open PySem PySem.W PyProof.Rows PySem.Calls 
namespace Mine
/-- the sorter ahead of prepare() -/
structure Ph1 (prog : Program) (w : World) (S : Srt) (F : Addr → Prop) (h : Heap) (od : Obj) (is : List Info) : Prop where
  hx : h.get? S.x = some (instObj 226 S.dx)
  hdx : h.get? S.dx = some (S.sd w .none)
  hnd : h.get? S.nd = some od
  infos : At h (ledI is)
  od : od.IsDictOf (strKind prog w) (kvI is)
  wf : WfI is
  off : ∀ a ∈ adI is, @Ne Nat a S.x ∧ @Ne Nat a S.dx ∧ @Ne Nat a S.nd
  own : ∀ a ∈ [S.x, S.dx, S.nd] ++ adI is, F a
structure Sd (S : Srt) : Prop where
  lo : (S.nd == sysModules) = false
  d1 : @Ne Nat S.x S.dx
  d2 : @Ne Nat S.x S.nd
  d3 : @Ne Nat S.dx S.nd
theorem kvI_app {is : List Info} {i : Info} (h : i.key ∉ is.map (·.key)) : stored (kvI is) i.key (.ref i.I) = kvI (is ++ [i]) := by
  unfold stored
  rw [if_neg]
  · unfold kvI; rw [List.map_append]; rfl
  · intro q
    obtain ⟨p, hp, e⟩ := List.any_eq_true.mp q
    obtain ⟨j, hj, rfl⟩ := List.mem_map.mp hp
    exact h (of_decide_eq_true e ▸ List.mem_map_of_mem (f := fun j : Info => j.key) hj)
theorem valueAt_none {is : List Info} {k : Str} (h : k ∉ is.map (·.key)) : valueAt (kvI is) k = none := by
  cases q : valueAt (kvI is) k with
  | none => rfl
  | some v =>
    have : (valueAt (kvI is) k).isSome = true := by rw [q]; rfl
    have := valueAt_some.mp this
    unfold kvI at this
    rw [List.map_map] at this
    exact absurd this h
theorem ledI_app {is : List Info} {i : Info} : ledI (is ++ [i]) = ledI is ++ i.led := by unfold ledI; rw [List.flatMap_append]; simp
theorem adI_app {is : List Info} {i : Info} : adI (is ++ [i]) = adI is ++ i.ad := by unfold adI; rw [List.flatMap_append]; simp
theorem wf_app {is : List Info} {i : Info} (W : WfI is) (hk : i.key ∉ is.map (·.key)) (h1 : @Ne Nat i.I i.D) (h2 : @Ne Nat i.I i.S) (h3 : @Ne Nat i.D i.S) (hf : ∀ a ∈ adI is, ∀ b ∈ i.ad, @Ne Nat a b) : WfI (is ++ [i]) := by
  refine ⟨?_, fun j hj => ?_, fun j hj j' hj' e a ha b hb => ?_⟩
  · rw [List.map_append, List.nodup_append]
    exact ⟨W.nd, List.nodup_cons.mpr ⟨List.not_mem_nil, List.nodup_nil⟩, fun a ha b hb z => hk (by rw [List.mem_singleton.mp hb] at z; exact (show a = i.key from z) ▸ ha)⟩
  · rcases List.mem_append.mp hj with hj | hj
    · exact W.inn j hj
    · rw [List.mem_singleton.mp hj]; exact ⟨h1, h2, h3⟩
  · rcases List.mem_append.mp hj with hj | hj <;> rcases List.mem_append.mp hj' with hj' | hj'
    · exact W.out j hj j' hj' e a ha b hb
    · rw [List.mem_singleton.mp hj'] at hb; exact hf a (mem_adI hj ha) b hb
    · rw [List.mem_singleton.mp hj] at ha; exact (hf b (mem_adI hj' hb) a ha).symm
    · rw [List.mem_singleton.mp hj, List.mem_singleton.mp hj'] at e; exact absurd rfl e
section
variable {prog : Program} {w : World} {p₀ : Program} {loose : List Str} {mean : ExcName → Option Value} {mg mb : Str → Option Value} {h₀ : Heap} {s : Shared}
  {dp un : Nat} {R : Result → Shared → Prop}
theorem ph1_new {S : Srt} {F F' : Addr → Prop} {od : Obj} {is : List Info} {nk : Str} {ntk : Tok} (hS : Sd S) (X : (hz.heap_251 w.params).In h₀) (T : Top p₀ loose mean mg mb h₀) (K : h₀.StaysIn s.heap) (Ph : Ph1 prog w S F s.heap od is) (h0 : ∀ a, F a → h₀.get? a = none) (hd : dp + 20 < recursionLimit)
    (hk : nk ∉ is.map (·.key)) (hlen : is.length ≤ 900) (hF : ∀ a, F a → F' a) (hF' : ∀ a, s.heap.get? a = none → F' a)
    (hret : ∀ h' tk' i od', i.abs = ⟨nk, 0, []⟩ → Keep [S.nd] s.heap h' → Ph1 prog w S F' h' od' (is ++ [i]) → (∀ a ∈ i.ad, s.heap.get? a = none) → R (.ok (.ret .none)) { s with heap := h', toks := tk' }) :
    codeAny (model prog w) (Aw dp un) (.call (.ref 176) ⟨[.ref S.x, .str nk ntk], []⟩) R s := by
  have N : Led h₀ s.heap [(S.x, instObj 226 S.dx), (S.dx, S.sd w .none), (S.nd, od)] := forall_cons ⟨Ph.hx, h0 _ (Ph.own _ (.head _))⟩ (forall_cons ⟨Ph.hdx, h0 _ (Ph.own _ (.tail _ (.head _)))⟩ (forall_cons ⟨Ph.hnd, h0 _ (Ph.own _ (.tail _ (.tail _ (.head _))))⟩ (fun _ h => absurd h List.not_mem_nil)))
  refine add_new (nk := nk) (ntk := ntk) X T K N hd Ph.od hS.lo (valueAt_none hk) (by unfold kvI; rw [List.length_map]; omega) ⟨hS.d2.symm, hS.d3.symm⟩ ?_
  intro h' tk' i od' kp hkey hnp hsu hfr hled l1 n1 n2 hnd hod'
  have hki : i.key ∉ is.map (·.key) := hkey ▸ hk
  have fr : ∀ a ∈ i.ad, s.heap.get? a = none := fun a ha => let ⟨o, ho⟩ := ad_led ha; hfr (a, o) ho
  have old : ∀ a ∈ adI is, ∃ o, s.heap.get? a = some o := fun a ha => by
    obtain ⟨q, hq, rfl⟩ := List.mem_map.mp (keys_ledI.mpr ha); exact ⟨_, Ph.infos q hq⟩
  rw [← hkey, kvI_app hki] at hod'
  refine hret h' tk' i od' (by unfold Info.abs; rw [hkey, hnp, hsu]; rfl) kp ⟨kp _ _ (nm1 hS.d2) Ph.hx, kp _ _ (nm1 hS.d3) Ph.hdx, hnd, ?_, hod', ?_, ?_, ?_⟩ fr
  · rw [ledI_app]
    exact At.append (fun q hq => kp _ _ (nm1 (Ph.off _ (keys_ledI.mp (List.mem_map_of_mem hq))).2.2) (Ph.infos q hq)) hled
  · refine wf_app Ph.wf hki (Nat.ne_of_gt l1) n1.symm n2.symm fun a ha b hb => ?_
    obtain ⟨o, e⟩ := old a ha
    exact (neNone (fr b hb) e).symm
  · intro a ha
    rw [adI_app] at ha
    rcases List.mem_append.mp ha with ha | ha
    · exact Ph.off a ha
    · exact ⟨neNone (fr a ha) Ph.hx, neNone (fr a ha) Ph.hdx, neNone (fr a ha) Ph.hnd⟩
  · intro a ha
    rw [adI_app, ← List.append_assoc] at ha
    rcases List.mem_append.mp ha with ha | ha
    · exact hF a (Ph.own a ha)
    · exact hF' a (fr a ha)
end
end Mine
end

section
open PySem PySem.W PyProof.Rows PySem.Calls 
local macro_rules | `(tactic| ktr_unf) => `(tactic| repeat' ((fail_if_success (with_reducible show wpAny _ _ (exec (Stmt.For _ _ _ _ _) _) _ _ _)); (fail_if_success (with_reducible show wpAny _ _ (exec (Stmt.While _ _ _ _) _) _ _ _)); (fail_if_success (with_reducible show wpAny _ _ (exec (Stmt.Try _ _ _ _ _) _) _ _ _)); first | (k_unfold; (try dsimp only)) | (k_end; wrow_close) | walk1 | (dsimp only; walk1) | (leave1; (try dsimp only)) | fail "no step"))
namespace Mine
local macro_rules | `(tactic| k_ne) => `(tactic| (refine neN ?_; (try dsimp only); first | assumption | (refine Ne.symm ?_; assumption) | omega))
noncomputable def bnd (B : Nat) (ns : List Nd) : Prop := ∀ n ∈ ns, n.succ.length ≤ B
theorem bnd_setN {B C : Nat} {k : Str} {f : Nd → Nd} {ns : List Nd} (h : bnd B ns) (hf : ∀ n, (f n).succ.length ≤ n.succ.length + C) : bnd (B + C) (setN k f ns) := fun n hn => by
  obtain ⟨m, hm, rfl⟩ := List.mem_map.mp hn
  have := h m hm
  have := hf m
  split <;> omega
theorem bnd_addP {B : Nat} {k : Str} {ps : List Str} {ns : List Nd} (h : bnd B ns) : bnd (B + ps.length) (addP k ps ns) := by
  have : ∀ (l : List Str) (B : Nat) (ns : List Nd), bnd B ns → bnd (B + l.length) (l.foldl (fun ns p => setN p (fun n => { n with succ := n.succ ++ [k] }) ns) ns) := by
    intro l
    induction l with
    | nil => exact fun B ns h => h
    | cons a l ih =>
      intro B ns h
      have := ih (B + 1) _ (bnd_setN (k := a) (f := fun n => { n with succ := n.succ ++ [k] }) (C := 1) h fun n => by simp)
      rw [List.length_cons, show B + (l.length + 1) = B + 1 + l.length by omega]
      exact this
  exact this ps B _ (bnd_setN (C := 0) h fun n => Nat.le_refl _)
section
variable {prog : Program} {w : World} {p₀ : Program} {loose : List Str} {mean : ExcName → Option Value} {mg mb : Str → Option Value} {h₀ : Heap} {s : Shared}
  {dp un : Nat} {gd : Option (List Code)} {fr : List Env} {R : Result → Shared → Prop}
theorem ph1_preds {S : Srt} {F : Addr → Prop} {od : Obj} {is : List Info} {i : Info} {ntk : Tok} {ps : List (Str × Nat)} (hS : Sd S) (X : (hz.heap_251 w.params).In h₀) (T : Top p₀ loose mean mg mb h₀) (K : h₀.StaysIn s.heap) (Ph : Ph1 prog w S F s.heap od is) (h0 : ∀ a, F a → h₀.get? a = none) (hd : dp + 20 < recursionLimit)
    (hi : i ∈ is) (hps : ps.length ≤ 1000) (hin : ∀ q ∈ ps, ∃ j ∈ is, j.key = q.1) (hb : bnd 1000 (absI is))
    (hret : ∀ h' tk' is', plI is' = plI is → absI is' = addP i.key (ps.map (·.1)) (absI is) → Keep (adI is) s.heap h' → Ph1 prog w S F h' od is' → R (.ok (.ret .none)) { s with heap := h', toks := tk' }) :
    codeAny (model prog w) (Aw dp un) (.call (.ref 176) ⟨.ref S.x :: .str i.key ntk :: ps.map sv, []⟩) R s := by
  have N : Led h₀ s.heap ([(S.x, instObj 226 S.dx), (S.dx, S.sd w .none), (S.nd, od)] ++ ledI is) := fun q hq => by
    rcases List.mem_append.mp hq with hq | hq
    · exact forall_cons (P := fun q : Addr × Obj => s.heap.get? q.1 = some q.2 ∧ h₀.get? q.1 = none) ⟨Ph.hx, h0 _ (Ph.own _ (.head _))⟩ (forall_cons ⟨Ph.hdx, h0 _ (Ph.own _ (.tail _ (.head _)))⟩ (forall_cons ⟨Ph.hnd, h0 _ (Ph.own _ (.tail _ (.tail _ (.head _))))⟩ (fun _ h => absurd h List.not_mem_nil))) q hq
    · exact ⟨Ph.infos q hq, h0 _ (Ph.own _ (List.mem_append_right _ (keys_ledI.mp (List.mem_map_of_mem hq))))⟩
  refine add_preds X T K N hd Ph.wf Ph.off Ph.od hS.lo hi ⟨hS.d2.symm, hS.d3.symm⟩ hps hin (fun j hj => ?_) ?_
  · have := hb _ (List.mem_map_of_mem (f := Info.abs) hj)
    unfold Info.abs at this
    rw [List.length_map] at this; exact this
  · intro h' tk' is' hpl hab kp hat _
    have na : ∀ a, (∀ b ∈ adI is, @Ne Nat b a) → a ∉ adI is := fun a h hm => h a hm rfl
    refine hret h' tk' is' hpl hab kp ⟨kp _ _ (na _ fun b hb => (Ph.off b hb).1) Ph.hx, kp _ _ (na _ fun b hb => (Ph.off b hb).2.1) Ph.hdx, kp _ _ (na _ fun b hb => (Ph.off b hb).2.2) Ph.hnd, hat, kvI_of hpl ▸ Ph.od, Ph.wf.same hpl, fun a ha => Ph.off a (adI_of hpl ▸ ha), fun a ha => Ph.own a (adI_of hpl ▸ ha)⟩
theorem lw_one {L' pl : Addr} {ps : List (Str × Nat)} {c : Nat} {m : Str → Option Value} {g : Heap} {S : Srt} {od : Obj} {Q : Flow → Shared → Prop}
    (X : (hz.heap_251 w.params).In g) (T : Top p₀ loose mean mg mb g) (hd : dp + 50 < 900) (hun : un + 100 < 8000) (F : Fr g L' s.heap m) (hm1 : m "places" = some (.ref pl)) (hm2 : m "sorter" = some (.ref S.x)) (gpl : g.get? pl = some (W.listOf (ps.map sv).toArray c)) (hps : ps.length ≤ 100) (hnd : (ps.map (·.1)).Nodup)
    (hS : Sd S) (Ph : Ph1 prog w S (fun a => g.get? a = none ∧ a ≠ L') s.heap od [])
    (hQ : ∀ h' tk' m' od' is, m' "places" = some (.ref pl) → m' "sorter" = some (.ref S.x) → Fr g L' h' m' → Ph1 prog w S (fun a => g.get? a = none ∧ a ≠ L') h' od' is → absI is = ps.map (fun q => ⟨q.1, 0, []⟩) → Q .next { s with heap := h', toks := tk' }) :
    wpAny (model prog w) (Ar dp un gd (envOf "_law_walk" (fnS st244) L' 244 (.ref 243) :: fr)) (exec (stN (fnB st244) 1) (envOf "_law_walk" (fnS st244) L' 244 (.ref 243))) Q (fun _ _ => False) s := by
  have hrl : recursionLimit = 1000 := rfl
  conv in exec _ _ => arg 1; whnf
  refine For_h g rfl rfl ?_
  have F1 := Fr.pin F (y₀ := "places") hm1
  k_steps
  clear F1
  have plL : pl ≠ L' := fun z => by
    have := Heap.lt_size gpl
    rw [z] at this
    exact absurd (Nat.lt_of_lt_of_le this F.above) (Nat.lt_irrefl _)
  refine loop_list (F.keep _ _ gpl) rfl plL F (fun I k h m => m "places" = some (.ref pl) ∧ m "sorter" = some (.ref S.x) ∧ ∃ od is, Ph1 prog w S (fun a => (g.get? a = none ∧ a ≠ L') ∧ a ≠ I) h od is ∧ absI is = (ps.take k).map (fun q => ⟨q.1, 0, []⟩)) ?_ ?_ ?_ ?_
  · intro I hI
    refine ⟨hm1, hm2, od, [], ⟨Ph.hx, Ph.hdx, Ph.hnd, Ph.infos, Ph.od, Ph.wf, Ph.off, fun a ha => ⟨Ph.own a ha, ?_⟩⟩, rfl⟩
    rcases List.mem_append.mp ha with ha | ha
    · exact forall_cons (P := fun a => a ≠ I) (neNone hI Ph.hx).symm (forall_cons (neNone hI Ph.hdx).symm (forall_cons (neNone hI Ph.hnd).symm (fun _ h => absurd h List.not_mem_nil))) a ha
    · exact absurd ha List.not_mem_nil
  · rintro I k h h' m hI ⟨m1, m2, od, is, P1, hab⟩ kp
    have off : ∀ a ∈ [S.x, S.dx, S.nd] ++ adI is, a ∉ [L', I] := fun a ha => nm2 (P1.own a ha).1.2 (P1.own a ha).2
    exact ⟨m1, m2, od, is, ⟨kp _ _ (off _ (.head _)) P1.hx, kp _ _ (off _ (.tail _ (.head _))) P1.hdx, kp _ _ (off _ (.tail _ (.tail _ (.head _)))) P1.hnd, P1.infos.keep kp fun q hq => off _ (List.mem_append_right _ (keys_ledI.mp (List.mem_map_of_mem hq))), P1.od, P1.wf, P1.off, P1.own⟩, hab⟩
  · rintro I k v h tk m oI hI hv ⟨m1, m2, od, is, P1, hab⟩ F₁ hoI hIL
    rw [List.getElem?_map] at hv
    obtain ⟨p, hp, hvp⟩ := Option.map_eq_some_iff.mp hv
    obtain rfl : Value.str p.1 p.2 = v := hvp
    have hk : k < ps.length := by obtain ⟨q, _⟩ := List.getElem?_eq_some_iff.mp hp; exact q
    have F₂ := Fr.pin (Fr.pin F₁ (y₀ := "places") m1) (y₀ := "sorter") m2
    have N1 : News g L' h [(S.x, instObj 226 S.dx), (S.dx, S.sd w .none)] := nCons ⟨P1.hx, (P1.own _ (.head _)).1.2, (P1.own _ (.head _)).1.1⟩ (nCons ⟨P1.hdx, (P1.own _ (.tail _ (.head _))).1.2, (P1.own _ (.tail _ (.head _))).1.1⟩ nNil)
    clear F₁
    ktr_unf
    have keysE : is.map (·.key) = (ps.take k).map (·.1) := by
      have := congrArg (List.map Nd.key) hab
      unfold absI at this
      rw [List.map_map, List.map_map] at this
      exact this
    have hnew : p.1 ∉ is.map (·.key) := by
      rw [keysE]
      intro hm
      have h1 : ps.map (·.1) = (ps.take k).map (·.1) ++ (ps.drop k).map (·.1) := by rw [← List.map_append, List.take_append_drop]
      rw [h1, List.nodup_append] at hnd
      refine hnd.2.2 _ hm p.1 ?_ rfl
      refine List.mem_map_of_mem (f := fun q : Str × Nat => q.1) ?_
      refine List.mem_of_getElem? (i := 0) ?_
      rw [List.getElem?_drop]; exact hp
    have hlen : is.length ≤ 900 := by
      have := congrArg List.length hab
      unfold absI at this
      rw [List.length_map, List.length_map, List.length_take] at this
      omega
    refine wpAny_call (weakC (dp := dp + 10) (un := un + 50) (ph1_new (h₀ := g) (F := fun a => (g.get? a = none ∧ a ≠ L') ∧ a ≠ I) (F' := fun a => (g.get? a = none ∧ a ≠ L') ∧ a ≠ I) hS X T F₂.keep P1 (fun a h => h.1.1) (by omega) hnew hlen (fun a h => h) (fun a ha => ?_) ?_) rfl (by show dp ≤ dp + 10; omega) (by show un ≤ un + 50; omega))
    · refine ⟨?_, (neNone ha hoI)⟩
      have := fresh_none (env := envOf "_law_walk" (fnS st244) L' 244 (.ref 243)) F₂ ha
      exact ⟨this.2, this.1⟩
    · intro h2 tk2 i od' habs kp P2 _
      have F3 := frKept' F₂ kp (by intro b hb; rw [List.mem_singleton.mp hb]; exact ⟨(P1.own _ (.tail _ (.tail _ (.head _)))).1.2, (P1.own _ (.tail _ (.tail _ (.head _)))).1.1⟩)
      have N3 := nNil (h₀ := g) (L := L') (h := h2)
      clear F₂ N1
      dsimp only
      k_steps
      refine ⟨h2, _, _, rfl, forall_cons (fun o e => kp _ _ (nm1 (P1.own _ (.tail _ (.tail _ (.head _)))).2.symm) e) (forall_cons (fun o e => kp _ _ (nm1 fun z => by rw [z, (P1.own _ (.tail _ (.tail _ (.head _)))).1.1] at gpl; cases gpl) e) (fun _ h => absurd h List.not_mem_nil)), F3, rfl, rfl, od', _, P2, ?_⟩
      unfold absI at hab ⊢
      rw [List.map_append, hab, List.take_add_one, hp, List.map_append]
      show _ ++ [i.abs] = _ ++ [_]
      rw [habs]
  · rintro I h tk m hI ⟨m1, m2, od, is, P1, hab⟩ F₁
    refine hQ h tk m od is m1 m2 F₁ ⟨P1.hx, P1.hdx, P1.hnd, P1.infos, P1.od, P1.wf, P1.off, fun a ha => (P1.own a ha).1⟩ ?_
    rw [hab, List.length_map, List.take_length]
end
end Mine
end

section
open PySem PySem.W PyProof.Rows PySem.Calls 
local macro_rules | `(tactic| ktr_unf) => `(tactic| repeat' ((fail_if_success (with_reducible show wpAny _ _ (exec (Stmt.For _ _ _ _ _) _) _ _ _)); (fail_if_success (with_reducible show wpAny _ _ (exec (Stmt.While _ _ _ _) _) _ _ _)); (fail_if_success (with_reducible show wpAny _ _ (exec (Stmt.Try _ _ _ _ _) _) _ _ _)); first | (k_unfold; (try dsimp only)) | (k_end; wrow_close) | walk1 | (dsimp only; walk1) | (leave1; (try dsimp only)) | fail "no step"))
namespace Mine
theorem bare_push {gens : Array GenState} {gs : GenState} (h : AllBare gens) (hb : gs.bare = true) : AllBare (gens.push gs) := fun y hy => by
  rcases Array.mem_push.mp hy with h' | rfl
  · exact h y h'
  · exact hb
theorem bare_only {gi : Nat} {a b : Array GenState} (h : AllBare a) (o : GenOnlyQ gi a b) : AllBare b := by
  rcases o with rfl | ⟨⟨hs, ho⟩, hb⟩
  · exact h
  · intro y hy
    obtain ⟨k, hk, rfl⟩ := Array.mem_iff_getElem.mp hy
    by_cases e : k = gi
    · exact hb _ (by rw [← e]; exact Array.getElem?_eq_getElem hk)
    · have := ho k e
      rw [Array.getElem?_eq_getElem hk] at this
      exact h _ (Array.mem_of_getElem? this.symm)
theorem ff_base {h b b' : Heap} : ∀ {l : List Env}, h.FunFrames b l → (∀ a ∈ frs l, b'.get? a = none) → h.FunFrames b' l
  | [], _, _ => trivial
  | env :: l, ⟨q1, ⟨L, o, hf, _, ho, hd⟩, hr⟩, k => ⟨q1, ⟨L, o, hf, k L (List.mem_filterMap.mpr ⟨env, .head _, hf⟩), ho, hd⟩, ff_base hr fun a ha => k a (by
      obtain ⟨e, he, hb⟩ := List.mem_filterMap.mp ha
      exact List.mem_filterMap.mpr ⟨e, .tail _ he, hb⟩)⟩
/-- a place and those that it lies in -/
noncomputable def PlaceOk (anc : Str → List Str) (p : Str) : Prop := p.length ≤ 1000 ∧ ∃ full, Chain (Txt.rstripChars p (Str.ofString "/")) full ∧ full.drop 1 = anc p ∧ 1 ≤ full.length ∧ full.length ≤ 10
theorem starCall {M : Model} {A : Around} {E : Value → Shared → Prop} {s : Shared} {env : Env} {n attr : Str} {np apos pos : Pos} {args : List Expr} {Q : Value → Shared → Prop}
    (h : wpAny M A (eval (.Name n np) env) (fun ov s₁ => wpAny M A (getAttr ov attr true) (fun f s₂ => wpAny M A (callWith pos f [] (backTo pos (starEach args env)) []) Q E s₂) E s₁) E s)
    (hf : methodCallForm (args.length + ([] : List Keyword).length) (backTo pos (starEach args env)) (backToKw pos (keywordEach [] env)) = false := by rfl) :
    wpAny M A (eval (.Call (.Attribute (.Name n np) attr apos) args [] pos) env) Q E s := by
  rw [arm_eval_Call]
  have e1 : attributeBase (.Name n np) attr env (eval (.Name n np) env) = eval (.Name n np) env := rfl
  rw [e1]
  refine wpAny_bind (wpAny_mono h (fun ov s₁ h₁ => wpAny_bind (wpAny_standAt ?_)) fun _ _ y => y)
  unfold methodCall
  rw [hf]
  refine wpAny_bind (wpAny_holding ?_)
  show wpAny M A (getAttr ov attr true >>= fun v => pure (v, [])) _ _ _
  refine wpAny_bind (wpAny_mono h₁ (fun f s₂ h₂ => wpAny_pure ?_) fun _ _ y => y)
  exact wpAny_bind (wpAny_pure h₂)
theorem star_isl {prog : Program} {w : World} {A : Around} {E : Value → Shared → Prop} {s : Shared} {i : Addr} {ox : Obj} {od : Option Obj} {Q : List Value → Shared → Prop} (X : (hz.heap_251 w.params).In s.heap) (I : InstAt s.heap i ox 68 od) (h : wpAny (model prog w) A (collect (.ref i)) Q E s) : StarOf (model prog w) A E (.ref i) Q s := by
  unfold StarOf notIterableAtAll specialOf
  have e : findIn (hz.heap_251 w.params) (.ref 68) "__iter__" = some (some (.ref 57)) := by k_is
  refine wpAny_bind (wpAny_bind (I.type.here ((looks_findIn X e).here ?_)))
  exact wpAny_pure ⟨rfl, h⟩
theorem allLt_to {d : Addr} {l : List (Addr × Obj)} (h : AllLt d l) : ∀ p ∈ l, p.1 < d := by
  induction l with
  | nil => exact fun p hp => absurd hp List.not_mem_nil
  | cons a l ih =>
    intro p hp
    rcases List.mem_cons.mp hp with z | hp
    · rw [z]; exact h.1
    · exact ih h.2 p hp
theorem callWith_MS {M : Model} {A : Around} {E : Value → Shared → Prop} {s : Shared} {K : Frag} {q gf : Addr} {self : Value} {env : Env} {e : Expr} {rest : List Expr} {first : List Value} {pos : Pos} {Q : Value → Shared → Prop} (hf : fnIn K gf = true)
    (h : wpAny M A (spliced (backTo pos (starEach (e :: rest) env))) (fun vs s₁ => MethP K q gf self s₁.heap ∧ wpAny M A (call (.ref q) (first ++ vs)) Q E s₁) E s)
    (he : starEach (e :: rest) env = (false, eval e env) :: starEach rest env := by rfl) (hst : (backTo pos (starEach rest env)).any (·.1) = true := by rfl) :
    wpAny M A (callWith pos (.ref q) first (backTo pos (starEach (e :: rest) env)) []) Q E s := by
  rw [he] at h ⊢
  exact ks_call (by show (false || (backTo pos (starEach rest env)).any (·.1)) = true; rw [hst]; rfl) (keeps_M hf) (evalArgs_plain h)
section
variable {prog : Program} {w : World} {p₀ : Program} {loose : List Str} {mean : ExcName → Option Value} {mg mb : Str → Option Value} {h₀ : Heap} {s : Shared}
  {dp un : Nat} {gd : Option (List Code)} {fr : List Env} {R : Result → Shared → Prop}
noncomputable abbrev lwEnv (L' : Addr) : Env := envOf "_law_walk" (fnS st244) L' 244 (.ref 243)
noncomputable def addAll (anc : Str → List Str) (l : List Str) (ns : List Nd) : List Nd := l.foldl (fun ns p => addP p (anc p) ns) ns
theorem bnd_all {anc : Str → List Str} : ∀ (l : List Str) (B : Nat) (ns : List Nd), (∀ p ∈ l, (anc p).length ≤ 9) → bnd B ns → bnd (B + 9 * l.length) (addAll anc l ns)
  | [], B, ns, _, h => h
  | p :: l, B, ns, ha, h => by
    have h1 := bnd_addP (k := p) (ps := anc p) h
    have h2 : bnd (B + 9) (addP p (anc p) ns) := fun n hn => Nat.le_trans (h1 n hn) (Nat.add_le_add_left (ha p (.head _)) _)
    have := bnd_all l (B + 9) _ (fun q hq => ha q (.tail _ hq)) h2
    rw [List.length_cons, show B + 9 * (l.length + 1) = B + 9 + 9 * l.length by omega]
    exact this
theorem lw_two {L' pl : Addr} {ps : List (Str × Nat)} {c : Nat} {m : Str → Option Value} {g : Heap} {S : Srt} {od : Obj} {is : List Info} {anc : Str → List Str} {Q : Flow → Shared → Prop}
    (X : (hz.heap_251 w.params).In g) (T : Top p₀ loose mean mg mb g) (hd : dp + 70 < 900) (hun : un + 150 < 8000) (F : Fr g L' s.heap m) (hm1 : m "places" = some (.ref pl)) (hm2 : m "sorter" = some (.ref S.x)) (gpl : g.get? pl = some (W.listOf (ps.map sv).toArray c)) (hps : ps.length ≤ 50)
    (hS : Sd S) (Ph : Ph1 prog w S (fun a => (g.get? a = none ∧ a ≠ L') ∧ a ∉ frs fr) s.heap od is) (hff : s.heap.FunFrames g fr) (hLf : L' ∉ frs fr) (hgs : AllBare s.gens) (hgf : ∀ b ∈ frs fr, g.get? b = none)
    (hpo : ∀ q ∈ ps, PlaceOk anc q.1) (hanc : ∀ q ∈ ps, ∀ a ∈ anc q.1, ∃ j ∈ is, j.key = a) (hin : ∀ q ∈ ps, ∃ j ∈ is, j.key = q.1) (hb : bnd 0 (absI is)) (hlen : is.length ≤ 900)
    (hQ : ∀ h' tk' gens' m' is', m' "places" = some (.ref pl) → m' "sorter" = some (.ref S.x) → Fr g L' h' m' → Ph1 prog w S (fun a => (g.get? a = none ∧ a ≠ L') ∧ a ∉ frs fr) h' od is' → absI is' = addAll anc (ps.map (·.1)) (absI is) → plI is' = plI is → AllBare gens' → UpF fr s.heap h' → h'.FunFrames g fr → Q .next { s with heap := h', toks := tk', gens := gens' }) :
    wpAny (model prog w) (Ar dp un gd (lwEnv L' :: fr)) (exec (stN (fnB st244) 2) (lwEnv L')) Q (fun _ _ => False) s := by
  have hrl : recursionLimit = 1000 := rfl
  conv in exec _ _ => arg 1; whnf
  refine For_g g rfl rfl ?_
  have F1 := Fr.pin F (y₀ := "places") hm1
  k_steps
  clear F1
  have plL : pl ≠ L' := fun z => by
    have := Heap.lt_size gpl
    rw [z] at this
    exact absurd (Nat.lt_of_lt_of_le this F.above) (Nat.lt_irrefl _)
  refine loopG_list (F.keep _ _ gpl) rfl plL F (fun I k h m gens => m "places" = some (.ref pl) ∧ m "sorter" = some (.ref S.x) ∧ AllBare gens ∧ UpF fr s.heap h ∧ h.FunFrames g fr ∧ ∃ js, Ph1 prog w S (fun a => ((g.get? a = none ∧ a ≠ L') ∧ a ∉ frs fr) ∧ a ≠ I) h od js ∧ plI js = plI is ∧ absI js = addAll anc ((ps.take k).map (·.1)) (absI is)) ?_ ?_ ?_ ?_
  · intro I hI
    have old : ∀ a ∈ [S.x, S.dx, S.nd] ++ adI is, a ≠ I := fun a ha => by
      rcases List.mem_append.mp ha with ha | ha
      · exact forall_cons (P := fun a => a ≠ I) (neNone hI Ph.hx).symm (forall_cons (neNone hI Ph.hdx).symm (forall_cons (neNone hI Ph.hnd).symm (fun _ h => absurd h List.not_mem_nil))) a ha
      · obtain ⟨q, hq, rfl⟩ := List.mem_map.mp (keys_ledI.mpr ha)
        exact (neNone hI (Ph.infos q hq)).symm
    exact ⟨hm1, hm2, hgs, UpF.refl, hff, is, ⟨Ph.hx, Ph.hdx, Ph.hnd, Ph.infos, Ph.od, Ph.wf, Ph.off, fun a ha => ⟨Ph.own a ha, old a ha⟩⟩, rfl, rfl⟩
  · rintro I k h h' m gens hI ⟨m1, m2, gb, U, ff, js, P1, hpl, hab⟩ kp
    have off : ∀ a ∈ [S.x, S.dx, S.nd] ++ adI js, a ∉ [L', I] := fun a ha => nm2 (P1.own a ha).1.1.2 (P1.own a ha).2
    have fI : ∀ b ∈ frs fr, b ∉ [L', I] := fun b hb => nm2 (fun z => hLf (z ▸ hb)) fun z => by
      obtain ⟨_, o, ho, _⟩ := hff.mem hb
      rw [z, hI] at ho; cases ho
    exact ⟨m1, m2, gb, U.keep fun b hb o e => kp b o (fI b hb) e, ff_keep ff fun b hb o e => kp b o (fI b hb) e, js, ⟨kp _ _ (off _ (.head _)) P1.hx, kp _ _ (off _ (.tail _ (.head _))) P1.hdx, kp _ _ (off _ (.tail _ (.tail _ (.head _)))) P1.hnd, P1.infos.keep kp fun q hq => off _ (List.mem_append_right _ (keys_ledI.mp (List.mem_map_of_mem hq))), P1.od, P1.wf, P1.off, P1.own⟩, hpl, hab⟩
  · rintro I k v h tk m gens oI hI hv ⟨m1, m2, gb, U, ff, js, P1, hpl, hab⟩ F₁ hoI hIL
    rw [List.getElem?_map] at hv
    obtain ⟨p, hp, hvp⟩ := Option.map_eq_some_iff.mp hv
    obtain rfl : Value.str p.1 p.2 = v := hvp
    have hpm := List.mem_of_getElem? hp
    have hk : k < ps.length := by obtain ⟨q, _⟩ := List.getElem?_eq_some_iff.mp hp; exact q
    have F₂ := Fr.pin (Fr.pin F₁ (y₀ := "places") m1) (y₀ := "sorter") m2
    obtain ⟨rest, hr1, hr2⟩ := restX g h [L', S.x, S.dx]
    have N1 : News g L' h ((S.x, instObj 226 S.dx) :: (S.dx, S.sd w .none) :: rest) := nCons ⟨P1.hx, (P1.own _ (.head _)).1.1.2, (P1.own _ (.head _)).1.1.1⟩ (nCons ⟨P1.hdx, (P1.own _ (.tail _ (.head _))).1.1.2, (P1.own _ (.tail _ (.head _))).1.1.1⟩ fun q hq => ⟨(hr1 q hq).1, fun z => (hr1 q hq).2.1 (z ▸ .head _), (hr1 q hq).2.2⟩)
    have kF := F₂.keep
    clear F₁
    ktr_unf
    refine starCall ?_
    ktr_unf
    rename Fr g _ _ _ => F3
    rename News g _ _ _ => N3
    rename_i qm h2 l1
    have k2 : Keep [L'] h h2 := fun b o nb e => by
      cases q : g.get? b with
      | some o' => have z := kF b o' q; rw [e] at z; cases z; exact F3.keep b o q
      | none =>
        by_cases hx : b ∈ [L', S.x, S.dx]
        · simp only [List.mem_cons, List.not_mem_nil, or_false] at hx
          rcases hx with z | z | z
          · exact absurd (z ▸ .head _) nb
          · rw [z] at e ⊢; rw [P1.hx] at e; rw [← e]; exact (N3 (S.x, _) (by k_mem)).1
          · rw [z] at e ⊢; rw [P1.hdx] at e; rw [← e]; exact (N3 (S.dx, S.sd w .none) (.tail _ (.tail _ (.head _)))).1
        · exact (N3 (b, o) (.tail _ (.tail _ (.tail _ (hr2 b o e hx q))))).1
    have hqm := N3 (qm, methodObj (.ref 176) (.ref S.x)) (.head _)
    have fqm : h.get? qm = none := by
      cases q : h.get? qm with
      | none => rfl
      | some o =>
        by_cases hx : qm ∈ [L', S.x, S.dx]
        · simp only [List.mem_cons, List.not_mem_nil, or_false] at hx
          rcases hx with z | z | z
          · exact absurd z hqm.2.1
          · exact absurd (z ▸ l1.1) (Nat.lt_irrefl _)
          · exact absurd (z ▸ l1.2.1) (Nat.lt_irrefl _)
        · exact absurd (allLt_to l1.2.2 (qm, o) (hr2 qm o q hx hqm.2.2)) (Nat.lt_irrefl _)
    clear N1 N3
    refine callWith_MS (K := hz.heap_251 w.params) (gf := 176) (self := .ref S.x) (by k_is) ?_
    have N4 := nNil (h₀ := g) (L := L') (h := h2)
    ktr_unf
    obtain ⟨hlp, full, hc, hdrop, hf1, hf2⟩ := hpo p hpm
    have hsz : g.objs.size ≤ h2.objs.size := Nat.le_trans F3.above (by obtain ⟨_, _, _, e, _⟩ := F3.ns; exact Nat.le_of_lt (Heap.lt_size e))
    refine wpAny_call (weakC (dp := dp + 10) (un := un + 50) (parents (h₀ := g) X T F3.keep hsz (by omega) hlp hc ?_) rfl (by show dp ≤ dp + 10; omega) (by show un ≤ un + 50; omega))
    intro h3 tk3 i di G Lg oL nm qn gs na nb nc nd kp3 hfr nGL e2 e3 e1 e5 hi hdi hG hLg hlz hbare ok
    dsimp only
    have F4 := frKept' F3 kp3 (fun _ h => absurd h List.not_mem_nil)
    have gi0 : ∀ x ∈ [i, di, G, Lg], g.get? x = none ∧ x ≠ L' ∧ x ∉ frs fr ∧ h.get? x = none := fun x hx => by
      have hn := hfr x hx
      have fz := fresh_none (env := lwEnv L') (s := { s with heap := h2, toks := tk, gens := gens }) F3 hn
      have fh : h.get? x = none := by
        cases q : h.get? x with
        | none => rfl
        | some o => rw [k2 x o (fun z => fz.1 (List.mem_singleton.mp z)) q] at hn; cases hn
      refine ⟨fz.2, fz.1, fun hm => ?_, fh⟩
      obtain ⟨_, o, ho, _⟩ := ff.mem hm
      rw [fh] at ho; cases ho
    have ffE : h3.FunFrames g (lwEnv L' :: fr) := by
      refine .cons (show ScopeKind.function ≠ ScopeKind.module by decide) rfl F4.ns ?_ (ff_keep ff fun b hb o e => kp3 _ _ nm0 (k2 b o (nm1 fun z => hLf (z ▸ hb)) e))
      cases q : g.get? L' with
      | none => rfl
      | some o => exact absurd (Nat.lt_of_lt_of_le (Heap.lt_size q) F4.above) (Nat.lt_irrefl _)
    have O : IslOff g i di G Lg (lwEnv L' :: fr) := by
      have far : ∀ b ∈ frs (lwEnv L' :: fr), ∀ x ∈ [i, di, G, Lg], @Ne Nat b x := fun b hb x hx z => by
        rcases List.mem_cons.mp hb with q | q
        · exact (gi0 x hx).2.1 (z.symm.trans q)
        · exact (gi0 x hx).2.2.1 (z ▸ q)
      exact ⟨e1, e2, e3, nGL, e5, hlz, fun b hb => ⟨far b hb _ (.head _), far b hb _ (.tail _ (.head _)), far b hb _ (.tail _ (.tail _ (.head _))), far b hb _ (.tail _ (.tail _ (.tail _ (.head _))))⟩, fun x hx => (gi0 x hx).1⟩
    refine star_isl (od := some emptyDict) (X.keeps F4.keep) ⟨hi, rfl, rfl, hdi⟩ (isl_collect (h₀ := g) (full := full) (l := full) (k := 1) (gi := gens.size) (nm := nm) (qn := qn) X T F4 O ⟨⟨1, na, nb, nc, nd, hi⟩, hdi, hG, ⟨gs, oL, hLg, by simp, ok⟩, hf1, ffE, F4.keep⟩ (by omega) (by omega) (by omega) ?_)
    intro h4 tk4 gens4 ts hts tk_
    have ffm : ∀ b ∈ frs fr, ∃ o, h.get? b = some o := fun b hb => let ⟨_, o, ho, _⟩ := ff.mem hb; ⟨o, ho⟩
    have k4 : ∀ b o, h.get? b = some o → b ≠ L' → b ∉ frs fr → h4.get? b = some o := fun b o e n1 n2 => by
      refine tk_.keep b o (kp3 _ _ nm0 (k2 b o (nm1 n1) e)) (nm2 (fun z => ?_) fun z => ?_) (fun hm => (List.mem_cons.mp hm).elim n1 n2) List.not_mem_nil
      · rw [z, (gi0 i (.head _)).2.2.2] at e; cases e
      · rw [z, (gi0 Lg (.tail _ (.tail _ (.tail _ (.head _))))).2.2.2] at e; cases e
    have U4 : UpF fr h h4 := UpF.trans (UpF.refl.keep fun b hb o e => kp3 _ _ nm0 (k2 b o (nm1 fun z => hLf (z ▸ hb)) e)) fun b hb o e n => tk_.up b (.tail _ hb) o e n
    have hq4 : h4.get? qm = some (methodObj (.ref 176) (.ref S.x)) := by
      refine tk_.keep qm _ (kp3 _ _ nm0 hqm.1) (nm2 (fun z => ?_) fun z => ?_) (fun hm => (List.mem_cons.mp hm).elim hqm.2.1 fun hb => ?_) List.not_mem_nil
      · have := hfr i (.head _); rw [← z, hqm.1] at this; cases this
      · have := hfr Lg (.tail _ (.tail _ (.tail _ (.head _)))); rw [← z, hqm.1] at this; cases this
      · obtain ⟨o, ho⟩ := ffm qm hb; rw [fqm] at ho; cases ho
    have F5 : Fr g L' h4 _ := fr_up F4 (fun o e n => tk_.up L' (.head _) o e n) fun b o e => by
      have bL : b ≠ L' := fun z => by
        have := Heap.lt_size e
        rw [z] at this
        exact absurd (Nat.lt_of_lt_of_le this F4.above) (Nat.lt_irrefl _)
      have bf : b ∉ frs fr := fun hm => by rw [hgf b hm] at e; cases e
      exact k4 b o (kF b o e) bL bf
    have P4 : Ph1 prog w S (fun a => ((g.get? a = none ∧ a ≠ L') ∧ a ∉ frs fr) ∧ a ≠ I) h4 od js := by
      have kk : ∀ a o, a ∈ [S.x, S.dx, S.nd] ++ adI js → h.get? a = some o → h4.get? a = some o := fun a o ha e => k4 a o e (P1.own a ha).1.1.2 (P1.own a ha).1.2
      exact ⟨kk _ _ (.head _) P1.hx, kk _ _ (.tail _ (.head _)) P1.hdx, kk _ _ (.tail _ (.tail _ (.head _))) P1.hnd, fun q hq => kk _ _ (List.mem_append_right _ (keys_ledI.mp (List.mem_map_of_mem hq))) (P1.infos q hq), P1.od, P1.wf, P1.off, P1.own⟩
    obtain ⟨j0, hj0, ej0⟩ := hin p hpm
    obtain ⟨j, hj, ej⟩ := mem_pl hpl hj0
    have hjk : j.key = p.1 := (congrArg (·.1) ej).trans ej0
    have htl : ts.length ≤ 10 := by have := congrArg List.length hts; rw [List.length_map, List.length_drop] at this; omega
    have hlen9 : ∀ q ∈ (ps.take k).map (·.1), (anc q).length ≤ 9 := fun q hq => by
      obtain ⟨q', hq', rfl⟩ := List.mem_map.mp hq
      obtain ⟨_, f2, _, hd2, _, hl2⟩ := hpo q' (List.mem_of_mem_take hq')
      have := congrArg List.length hd2
      rw [List.length_drop] at this; omega
    have hbn : bnd 1000 (absI js) := by
      rw [hab]
      have h1 := bnd_all ((ps.take k).map (·.1)) 0 (absI is) hlen9 hb
      intro n hn
      have := h1 n hn
      rw [List.length_map, List.length_take] at this
      omega
    rw [← hjk]
    walk1
    refine ⟨⟨hq4, X.keeps F5.keep⟩, ?_⟩
    rw [List.append_nil]
    refine wpAny_call (method_call hq4 (weakC (dp := dp + 10) (un := un + 50) (ph1_preds (h₀ := g) (F := fun a => ((g.get? a = none ∧ a ≠ L') ∧ a ∉ frs fr) ∧ a ≠ I) (i := j) hS X T F5.keep P4 (fun a h => h.1.1.1) (by omega) hj (by omega) (fun q hq => ?_) hbn ?_) rfl (by show dp ≤ dp + 10; omega) (by show un ≤ un + 50; omega)))
    · have hqa : q.1 ∈ anc p.1 := by rw [← hdrop, ← hts]; exact List.mem_map_of_mem hq
      obtain ⟨j1, hj1, e1'⟩ := hanc p hpm q.1 hqa
      obtain ⟨j2, hj2, e2'⟩ := mem_pl hpl hj1
      exact ⟨j2, hj2, (congrArg (·.1) e2').trans e1'⟩
    · intro h5 tk5 is' hpl' hab' kp5 P5
      have own5 : ∀ b, (∀ a ∈ adI js, @Ne Nat a b) → b ∉ adI js := fun b hb hm => hb b hm rfl
      have F6 := frKept' F5 kp5 fun a ha => (P4.own a (List.mem_append_right _ ha)).1.1.symm
      have gb5 : AllBare gens4 := bare_only (bare_push gb hbare) tk_.gens
      have N6 := nNil (h₀ := g) (L := L') (h := h5)
      have fn : ∀ b ∈ frs fr, b ∉ adI js := fun b hb hm => (P4.own b (List.mem_append_right _ hm)).1.2 hb
      have U5 : UpF fr s.heap h5 := (UpF.trans U U4).keep fun b hb o e => kp5 b o (fn b hb) e
      have nIf : I ∉ frs fr := fun hm => by
        obtain ⟨_, o, ho, _⟩ := hff.mem hm
        rw [hI] at ho; cases ho
      have hI5 : ∀ o, h.get? I = some o → h5.get? I = some o := fun o e => kp5 I o (fun hm => (P1.own I (List.mem_append_right _ hm)).2 rfl) (k4 I o e hIL.1 nIf)
      have hp5 : ∀ o, h.get? pl = some o → h5.get? pl = some o := fun o e => by
        have q := kF pl _ gpl
        rw [e] at q; cases q
        exact F6.keep _ _ gpl
      have hab5 : absI is' = addAll anc ((ps.take (k + 1)).map (·.1)) (absI is) := by
        rw [hab', hjk, hts, hdrop, hab, List.take_add_one, hp, List.map_append]
        unfold addAll
        rw [List.foldl_append]
        rfl
      clear kp3 kp5 tk_ ffE O F3 F4 F5 kF k2 k4 U U4 ok
      dsimp only
      k_steps
      exact ⟨h5, _, gens4, _, rfl, forall_cons hI5 (forall_cons hp5 fun _ h => absurd h List.not_mem_nil), F6, rfl, rfl, gb5, U5, ff_up hff U5, is', P5, hpl'.trans hpl, hab5⟩
  · rintro I h tk m gens hI ⟨m1, m2, gb, U, ff, js, P1, hpl, hab⟩ F₁
    refine hQ h tk gens m js m1 m2 F₁ ⟨P1.hx, P1.hdx, P1.hnd, P1.infos, P1.od, P1.wf, P1.off, fun a ha => (P1.own a ha).1⟩ ?_ hpl gb U ff
    rw [hab, List.length_map, List.take_length]
end
end Mine
end

section
open PySem PySem.W PyProof.Rows PySem.Calls 
namespace Mine
/-- the while loop of _law_walk, with no heap -/
structure Wst where
  ns : List Nd
  ready : List Str
  wait : List Str
  walk : List Str
noncomputable def passN (l : List Str) (ns : List Nd) : List Nd := l.foldl (fun ns k => setN k (fun n => { n with np := -1 }) ns) ns
noncomputable def doneN (p : Str) (succ : List Str) (ns : List Nd) (rd : List Str) : List Nd × List Str := succ.foldl (fun a q => decN q a) (setN p (fun n => { n with np := -2 }) ns, rd)
noncomputable def stepW (σ : Wst) : Option Wst :=
  match (σ.wait ++ σ.ready).getLast? with
  | none => none
  | some p => match (passN σ.ready σ.ns).find? (fun n => decide (n.key = p)) with
    | none => none
    | some n => if n.np = -1 ∧ (∀ q ∈ n.succ, q ≠ p ∧ ∃ m ∈ passN σ.ready σ.ns, m.key = q) ∧ n.succ.length ≤ 900 ∧ (σ.wait ++ σ.ready).length ≤ 900 ∧ σ.walk.length ≤ 900 then
        some ⟨(doneN p n.succ (passN σ.ready σ.ns) []).1, (doneN p n.succ (passN σ.ready σ.ns) []).2, (σ.wait ++ σ.ready).dropLast, σ.walk ++ [p]⟩
      else none
noncomputable def runW : Nat → Wst → Option (List Str)
  | 0, _ => none
  | n + 1, σ => if σ.wait = [] ∧ σ.ready = [] then some σ.walk else (stepW σ).bind (runW n)
end Mine
end

section
open PySem PySem.W PyProof.Rows PySem.Calls 
namespace Mine
/-- the sorter behind prepare() -/
structure Ph2 (prog : Program) (w : World) (S : Srt) (F : Addr → Prop) (h : Heap) : Prop where
  at_ : At h (S.led w)
  ok : S.Ok prog w
  own : ∀ a ∈ S.ads, F a
theorem ok_same {prog : Program} {w : World} {S : Srt} {is : List Info} {rs : List (Str × Nat)} {po nf : Int} {t1 t2 c : Nat} (ok : S.Ok prog w) (hpl : plI is = plI S.is) (h1 : rs.length ≤ 1000) (h2 : ∀ q ∈ rs, ∃ j ∈ S.is, j.key = q.1) :
    ({ S with po := po, nf := nf, t1 := t1, t2 := t2, c := c, rs := rs, is := is } : Srt).Ok prog w :=
  ⟨ok.wf.same hpl, fun a ha => ok.off a (adI_of hpl ▸ ha), kvI_of hpl ▸ ok.od, ok.lo, h1, fun q hq => by
    obtain ⟨j, hj, e⟩ := h2 q hq
    obtain ⟨j', hj', e'⟩ := mem_pl hpl hj
    exact ⟨j', hj', (congrArg (·.1) e').trans e⟩, ok.d1, ok.d2, ok.d3, ok.d4, ok.d5, ok.d6⟩
section
variable {prog : Program} {w : World} {p₀ : Program} {loose : List Str} {mean : ExcName → Option Value} {mg mb : Str → Option Value} {h₀ : Heap} {s : Shared}
  {dp un : Nat} {R : Result → Shared → Prop} {S : Srt} {F : Addr → Prop}
theorem Ph2.led (P : Ph2 prog w S F s.heap) (h0 : ∀ a, F a → h₀.get? a = none) : Led h₀ s.heap (S.led w) := fun q hq => ⟨P.at_ q hq, h0 _ (P.own _ (S.led_ads hq))⟩
theorem ph2_active (X : (hz.heap_251 w.params).In h₀) (T : Top p₀ loose mean mg mb h₀) (K : h₀.StaysIn s.heap) (P : Ph2 prog w S F s.heap) (h0 : ∀ a, F a → h₀.get? a = none) (hd : dp + 20 < recursionLimit)
    (hret : ∀ h' tk', Keep [] s.heap h' → R (.ok (.ret (.bool (decide (S.nf < S.po) || !S.rs.isEmpty)))) { s with heap := h', toks := tk' }) :
    codeAny (model prog w) (Aw dp un) (.call (.ref 195) ⟨[.ref S.x], []⟩) R s := by
  have L := P.led h0
  refine is_active X T K (vs := S.rs.map sv) (x := S.x) (dx := S.dx) (nd := S.nd) (rd := S.rd) (k1 := S.k1) (k2 := S.k2) (k3 := S.k3) (k4 := S.k4) (po := S.po) (nf := S.nf) (t1 := S.t1) (t2 := S.t2) (n := 4) (c := S.c) (forall_cons (L _ (.head _)) (forall_cons (L (S.dx, S.sd w (.ref S.rd)) (.tail _ (.head _))) (forall_cons (L (S.rd, S.rl) (.tail _ (.tail _ (.tail _ (.head _))))) (fun _ h => absurd h List.not_mem_nil)))) (by omega) (by rw [List.length_map]; exact P.ok.rsl) ?_
  intro h' tk' k
  rw [List.isEmpty_map]
  exact hret h' tk' k
theorem ph2_ready (X : (hz.heap_251 w.params).In h₀) (T : Top p₀ loose mean mg mb h₀) (K : h₀.StaysIn s.heap) (P : Ph2 prog w S F s.heap) (h0 : ∀ a, F a → h₀.get? a = none) (hd : dp + 20 < recursionLimit)
    (hret : ∀ h' tk' tp (S' : Srt), S'.x = S.x → S'.ads = S.ads → plI S'.is = plI S.is → absI S'.is = passN (S.rs.map (·.1)) (absI S.is) → S'.rs = [] → S'.po = S.po + S.rs.length → S'.nf = S.nf → Keep S.ads s.heap h' → Ph2 prog w S' F h' → s.heap.get? tp = none → h'.get? tp = some (tupOf (S.rs.map sv)) → R (.ok (.ret (.ref tp))) { s with heap := h', toks := tk' }) :
    codeAny (model prog w) (Aw dp un) (.call (.ref 188) ⟨[.ref S.x], []⟩) R s := by
  refine get_ready X T K (P.led h0) hd P.ok ?_
  intro h' tk' tp t1 c' is' hpl hab kp hat htp hto
  have ea : ({ S with po := S.po + S.rs.length, t1 := t1, c := c', rs := [], is := is' } : Srt).ads = S.ads := by unfold Srt.ads; dsimp only; rw [adI_of hpl]
  exact hret h' tk' tp { S with po := S.po + S.rs.length, t1 := t1, c := c', rs := [], is := is' } rfl ea hpl hab rfl rfl rfl kp ⟨hat, ok_same P.ok hpl (Nat.zero_le _) (fun q hq => absurd hq List.not_mem_nil), fun a ha => P.own a (ea ▸ ha)⟩ htp hto
theorem ph2_done {i : Info} {ntk : Tok} (X : (hz.heap_251 w.params).In h₀) (T : Top p₀ loose mean mg mb h₀) (K : h₀.StaysIn s.heap) (P : Ph2 prog w S F s.heap) (h0 : ∀ a, F a → h₀.get? a = none) (hd : dp + 20 < recursionLimit)
    (hi : i ∈ S.is) (hnp : i.np = -1) (hsl : i.succ.length ≤ 900) (hsi : ∀ q ∈ i.succ, q.1 ≠ i.key ∧ ∃ j ∈ S.is, j.key = q.1) (hrs : S.rs = [])
    (hret : ∀ h' tk' (S' : Srt), S'.x = S.x → S'.ads = S.ads → plI S'.is = plI S.is → (absI S'.is, S'.rs.map (·.1)) = doneN i.key (i.succ.map (·.1)) (absI S.is) [] → S'.po = S.po → S'.nf = S.nf + 1 → Keep S.ads s.heap h' → Ph2 prog w S' F h' → R (.ok (.ret .none)) { s with heap := h', toks := tk' }) :
    codeAny (model prog w) (Aw dp un) (.call (.ref 209) ⟨[.ref S.x, .str i.key ntk], []⟩) R s := by
  refine done_one X T K (P.led h0) hd P.ok hi hnp hsl hsi ?_
  intro h' tk' t2 c' rs' is' hpl hab hrin kp hat
  have ea : ({ S with nf := S.nf + 1, t2 := t2, c := c', rs := rs', is := is' } : Srt).ads = S.ads := by unfold Srt.ads; dsimp only; rw [adI_of hpl]
  have hl : rs'.length ≤ 1000 := by
    have := decN_len i.succ (setN i.key (fun n => { n with np := -2 }) (absI S.is), S.rs.map (·.1))
    rw [← hab, hrs] at this
    have : (rs'.map (·.1)).length ≤ 0 + i.succ.length := this
    rw [List.length_map] at this; omega
  refine hret h' tk' { S with nf := S.nf + 1, t2 := t2, c := c', rs := rs', is := is' } rfl ea hpl ?_ rfl rfl kp ⟨hat, ok_same P.ok hpl hl hrin, fun a ha => P.own a (ea ▸ ha)⟩
  rw [hab, hrs]
  unfold doneN
  rw [List.foldl_map]
  rfl
end
end Mine
end

section
open PySem PySem.W PyProof.Rows PySem.Calls 
local macro_rules | `(tactic| ktr_unf) => `(tactic| repeat' ((fail_if_success (with_reducible show wpAny _ _ (exec (Stmt.For _ _ _ _ _) _) _ _ _)); (fail_if_success (with_reducible show wpAny _ _ (exec (Stmt.While _ _ _ _) _) _ _ _)); (fail_if_success (with_reducible show wpAny _ _ (exec (Stmt.Try _ _ _ _ _) _) _ _ _)); first | (k_unfold; (try dsimp only)) | (k_end; wrow_close) | walk1 | (dsimp only; walk1) | (leave1; (try dsimp only)) | fail "no step"))
namespace Mine
section
variable {prog : Program} {w : World} {A : Around} {E : Value → Shared → Prop} {s : Shared} {Q : Value → Shared → Prop}
theorem add_listsX {l b : Addr} {vs ws : List Value} {c1 c2 : Nat} (hl : s.heap.get? l = some (W.listOf vs.toArray c1)) (hb : s.heap.get? b = some (W.listOf ws.toArray c2)) (hsz : vs.length + ws.length ≤ sizeLine)
    (h : Q (.ref s.heap.objs.size) { s with heap := s.heap.push (W.listOf (vs ++ ws).toArray 0) }) : wpAny (model prog w) A (binaryOp .Add (.ref l) (.ref b)) Q E s := by
  have e : vs.toArray ++ ws.toArray = (vs ++ ws).toArray := by simp
  refine concat_meets ⟨_, hl, rfl⟩ ⟨_, hb, rfl⟩ noFill_list_add seq_list_add PySem.F.slot_list_add PySem.F.entry_list_add (PySem.F.args_list_add_2 _ _) (list_addW l b vs.toArray ws.toArray c1 c2 none none #[] #[] (by simpa using hsz)) ⟨hl, hb, ?_⟩
  rw [e]
  exact h
end
section
variable {prog : Program} {w : World} {p₀ : Program} {loose : List Str} {mean : ExcName → Option Value} {mg mb : Str → Option Value} {h₀ : Heap} {s : Shared}
  {dp un : Nat} {gd : Option (List Code)} {fr : List Env} {R : Result → Shared → Prop}
noncomputable def WInv (prog : Program) (w : World) (g : Heap) (L' wk : Addr) (S : Srt) (out : List Str) (s : Shared) (n : Nat) (s₁ : Shared) : Prop :=
  ∃ (h : Heap) (tk : Nat) (m : Str → Option Value) (S' : Srt) (wt : Addr) (ws : List (Str × Nat)) (c1 : Nat) (kk : List (Str × Nat)) (c2 : Nat), s₁ = { s with heap := h, toks := tk } ∧ m "sorter" = some (.ref S.x) ∧ m "waiting" = some (.ref wt) ∧ m "walk" = some (.ref wk) ∧ Fr g L' h m ∧ Ph2 prog w S' (fun a => g.get? a = none ∧ a ≠ L') h ∧ S'.x = S.x ∧ S'.ads = S.ads ∧ h.get? wt = some (W.listOf (ws.map sv).toArray c1) ∧ h.get? wk = some (W.listOf (kk.map sv).toArray c2) ∧ g.get? wt = none ∧ @Ne Nat wt L' ∧ wt ∉ S.ads ∧ @Ne Nat wt wk ∧ S'.po = S'.nf + ws.length ∧ runW n ⟨absI S'.is, S'.rs.map (·.1), ws.map (·.1), kk.map (·.1)⟩ = some out ∧ Keep ([L', wk] ++ S.ads) s.heap h
theorem lw_while {L' wt wk : Addr} {ws kk : List (Str × Nat)} {c1 c2 n : Nat} {m : Str → Option Value} {g : Heap} {S : Srt} {out : List Str} {Q : Flow → Shared → Prop}
    (X : (hz.heap_251 w.params).In g) (T : Top p₀ loose mean mg mb g) (hd : dp + 70 < 900) (hun : un + 150 < 8000) (F : Fr g L' s.heap m) (hm1 : m "sorter" = some (.ref S.x)) (hm2 : m "waiting" = some (.ref wt)) (hm3 : m "walk" = some (.ref wk))
    (P : Ph2 prog w S (fun a => g.get? a = none ∧ a ≠ L') s.heap) (hwt : s.heap.get? wt = some (W.listOf (ws.map sv).toArray c1)) (hwk : s.heap.get? wk = some (W.listOf (kk.map sv).toArray c2)) (gwt : g.get? wt = none) (gwk : g.get? wk = none) (wtL : @Ne Nat wt L') (wkL : @Ne Nat wk L') (wtS : wt ∉ S.ads) (wkS : wk ∉ S.ads) (ne : @Ne Nat wt wk)
    (hpo : S.po = S.nf + ws.length) (hrun : runW n ⟨absI S.is, S.rs.map (·.1), ws.map (·.1), kk.map (·.1)⟩ = some out)
    (hQ : ∀ h' tk' m' (os : List (Str × Nat)) c, m' "walk" = some (.ref wk) → Fr g L' h' m' → h'.get? wk = some (W.listOf (os.map sv).toArray c) → os.map (·.1) = out → Keep ([L', wk] ++ S.ads) s.heap h' → Q .next { s with heap := h', toks := tk' }) :
    wpAny (model prog w) (Ar dp un gd (lwEnv L' :: fr)) (exec (stN (fnB st244) 6) (lwEnv L')) Q (fun _ _ => False) s := by
  have hrl : recursionLimit = 1000 := rfl
  have kF0 := F.keep
  conv in exec _ _ => arg 1; whnf
  refine While_F (WInv prog w g L' wk S out s) ?_ n
    ⟨s.heap, s.toks, m, S, wt, ws, c1, kk, c2, rfl, hm1, hm2, hm3, F, P, rfl, rfl, hwt, hwk, gwt, wtL, wtS, ne, hpo, hrun, fun b o _ e => e⟩
  rintro n s₁ ⟨h, tk, m, S', wt, ws, c1, kk, c2, rfl, m1, m2, m3, F1, P1, ex, ea, wt1, wk1, gwt1, wtL1, wtS1, ne1, hpo1, hrun1, kp1⟩
  have oS := P1.own
  have hx1 := P1.at_ _ (show (S'.x, instObj 226 S'.dx) ∈ S'.led w from .head _)
  have hdx1 := P1.at_ _ (show (S'.dx, S'.sd w (.ref S'.rd)) ∈ S'.led w from .tail _ (.head _))
  rw [← ex] at m1
  have F2 := Fr.pin (Fr.pin (Fr.pin F1 (y₀ := "sorter") m1) (y₀ := "waiting") m2) (y₀ := "walk") m3
  have N1 : News g L' h [(S'.x, instObj 226 S'.dx), (S'.dx, S'.sd w (.ref S'.rd))] := nCons ⟨hx1, (oS _ (.head _)).2, (oS _ (.head _)).1⟩ (nCons ⟨hdx1, (oS _ (.tail _ (.head _))).2, (oS _ (.tail _ (.head _))).1⟩ nNil)
  clear F1
  refine wpAny_isTrue_value ?_
  ktr_unf
  refine wpAny_call (weakC (dp := dp + 10) (un := un + 50) (ph2_active (h₀ := g) X T F2.keep P1 (fun a h => h.1) (by omega) ?_) rfl (by show dp ≤ dp + 10; omega) (by show un ≤ un + 50; omega))
  intro h2 tk2 kp2
  dsimp only
  have F3 := frKept' F2 kp2 (fun _ h => absurd h List.not_mem_nil)
  have P3 : Ph2 prog w S' (fun a => g.get? a = none ∧ a ≠ L') h2 := ⟨fun q hq => kp2 _ _ nm0 (P1.at_ q hq), P1.ok, P1.own⟩
  have wt2 := kp2 _ _ nm0 wt1
  have wk2 := kp2 _ _ nm0 wk1
  have hx2 := kp2 _ _ nm0 hx1
  have hdx2 := kp2 _ _ nm0 hdx1
  have kp3 : Keep ([L', wk] ++ S.ads) s.heap h2 := fun b o nb e => kp2 _ _ nm0 (kp1 b o nb e)
  cases n with
  | zero => cases hrun1
  | succ n =>
  by_cases he : ws = [] ∧ S'.rs = []
  · obtain ⟨rfl, hrs⟩ := he
    have e : (decide (S'.nf < S'.po) || !S'.rs.isEmpty) = false := by rw [hrs, hpo1]; simp
    have hout : kk.map (·.1) = out := by
      unfold runW at hrun1
      rw [hrs, if_pos ⟨rfl, rfl⟩] at hrun1
      exact Option.some.inj hrun1
    rw [e]
    walk1
    walk1
    exact wpAny_execs_nil (hQ h2 tk2 _ kk c2 rfl F3 wk2 hout kp3)
  · have e : (decide (S'.nf < S'.po) || !S'.rs.isEmpty) = true := by
      rw [hpo1]
      cases ws with
      | cons a l => simp; omega
      | nil => cases q : S'.rs with
        | nil => exact absurd ⟨rfl, q⟩ he
        | cons a l => simp
    rw [e]
    unfold runW at hrun1
    rw [if_neg (fun z => he ⟨List.map_eq_nil_iff.mp z.1, List.map_eq_nil_iff.mp z.2⟩)] at hrun1
    have N3 : News g L' h2 [(S'.x, instObj 226 S'.dx), (S'.dx, S'.sd w (.ref S'.rd)), (wt, W.listOf (ws.map sv).toArray c1)] := nCons ⟨hx2, (oS _ (.head _)).2, (oS _ (.head _)).1⟩ (nCons ⟨hdx2, (oS _ (.tail _ (.head _))).2, (oS _ (.tail _ (.head _))).1⟩ (nCons ⟨wt2, wtL1, gwt1⟩ nNil))
    clear F2 N1
    ktr_unf
    refine wpAny_call (weakC (dp := dp + 10) (un := un + 50) (ph2_ready (h₀ := g) X T F3.keep P3 (fun a h => h.1) (by omega) ?_) rfl (by show dp ≤ dp + 10; omega) (by show un ≤ un + 50; omega))
    intro h3 tk3 tp S3 hx3 ha3 hpl3 hab3 hrs3 hpo3 hnf3 kp4 P4 htp gtp
    dsimp only
    have F5 := frKept' F3 kp4 (fun a ha => (P3.own a ha).symm)
    have ftp := fresh_none (env := lwEnv L') (s := { s with heap := h2, toks := tk2 }) F3 htp
    have wt3 : h3.get? wt = _ := kp4 _ _ (ea ▸ wtS1) wt2
    have N5 : News g L' h3 [(tp, tupOf (S'.rs.map sv)), (wt, W.listOf (ws.map sv).toArray c1)] := nCons ⟨gtp, ftp.1, ftp.2⟩ (nCons ⟨wt3, wtL1, gwt1⟩ nNil)
    clear F3 N3
    ktr_unf
    have hlen : (ws ++ S'.rs).length ≤ 900 ∧ kk.length ≤ 900 := by
      cases q : stepW ⟨absI S'.is, S'.rs.map (·.1), ws.map (·.1), kk.map (·.1)⟩ with
      | none => rw [q] at hrun1; cases hrun1
      | some σ =>
        unfold stepW at q
        dsimp only at q
        split at q
        · cases q
        · split at q
          · cases q
          · split at q
            · rename_i z
              have z1 := z.2.2.2.1
              have z2 := z.2.2.2.2
              rw [List.length_append, List.length_map, List.length_map] at z1
              rw [List.length_map] at z2
              exact ⟨by rw [List.length_append]; exact z1, z2⟩
            · cases q
    rename Fr g L' _ _ => F6
    rename News g L' _ _ => N6
    have sl : ∀ x, x ≤ 1800 → x ≤ sizeLine := fun x hx => by rw [sizeLine_eq]; omega
    rw [List.length_append] at hlen
    refine call_list_seq tp (.inr rfl) gtp rfl rfl ?_ (sl _ (by rw [List.size_toArray, List.length_map]; omega))
    intro h4 c4 k4 hD4
    have F7 := F6.keeps k4
    refine add_listsX (k4 _ _ wt3) hD4 (sl _ (by rw [List.length_map, List.length_map]; omega)) ?_
    obtain ⟨al, z, eal⟩ : ∃ al z, ws ++ S'.rs = al ++ [z] := by
      have : ws ++ S'.rs ≠ [] := fun q => he (List.append_eq_nil_iff.mp q)
      exact ⟨_, _, (List.dropLast_concat_getLast this).symm⟩
    have e1 : ws.map sv ++ S'.rs.map sv = al.map sv ++ [Value.str z.1 z.2] := by rw [← List.map_append, eal, List.map_append]; rfl
    rw [e1]
    have k5 : ∀ b o, h4.get? b = some o → (h4.push (W.listOf (al.map sv ++ [Value.str z.1 z.2]).toArray 0)).get? b = some o := fun b o e => Heap.get?_push_of_some _ e
    have hD5 : (h4.push (W.listOf (al.map sv ++ [Value.str z.1 z.2]).toArray 0)).get? h4.objs.size = some (W.listOf (al.map sv ++ [Value.str z.1 z.2]).toArray 0) := Heap.get?_push_size _ rfl
    have F8 := F7.keeps k5
    have gD : g.get? h4.objs.size = none := none_at_size (s := { s with heap := h4 }) F7
    have DL : @Ne Nat h4.objs.size L' := Nat.ne_of_gt F7.ns.lt
    have fD : ∀ b o, h3.get? b = some o → b < h4.objs.size := fun b o e => Heap.lt_size (k4 b o e)
    have kp5 : ∀ b o, h3.get? b = some o → (h4.push (W.listOf (al.map sv ++ [Value.str z.1 z.2]).toArray 0)).get? b = some o := fun b o e => k5 b o (k4 b o e)
    generalize hh5 : h4.push (W.listOf (al.map sv ++ [Value.str z.1 z.2]).toArray 0) = h5 at *
    dsimp only
    generalize hDD : h4.objs.size = D at *
    clear k4 k5 F7 F6 N6 hD4 hh5 hDD
    obtain ⟨rest, hr1, hr2⟩ := restX g h5 [L', D, wk]
    have wk3 : h3.get? wk = _ := kp4 _ _ (ea ▸ wkS) wk2
    have N8 : News g L' h5 ((D, W.listOf (al.map sv ++ [Value.str z.1 z.2]).toArray 0) :: (wk, W.listOf (kk.map sv).toArray c2) :: rest) := nCons ⟨hD5, DL, gD⟩ (nCons ⟨kp5 _ _ wk3, wkL, gwk⟩ fun q hq => ⟨(hr1 q hq).1, fun z => (hr1 q hq).2.1 (z ▸ .head _), (hr1 q hq).2.2⟩)
    have at4 : ∀ q ∈ S3.led w, q ∈ rest := fun q hq => hr2 q.1 q.2 (kp5 _ _ (P4.at_ q hq)) (nm3 (P4.own _ (S3.led_ads hq)).2 (Nat.ne_of_lt (fD _ _ (P4.at_ q hq))) fun e => wkS (by rw [← ea, ← ha3, ← e]; exact S3.led_ads hq)) (P4.own _ (S3.led_ads hq)).1
    have wkD : @Ne Nat wk D := Nat.ne_of_lt (fD _ _ wk3)
    have hrD : ∀ q ∈ rest, @Ne Nat q.1 D := fun q hq z => (hr1 q hq).2.1 (z ▸ .tail _ (.head _))
    have hrW : ∀ q ∈ rest, @Ne Nat q.1 wk := fun q hq z => (hr1 q hq).2.1 (z ▸ .tail _ (.tail _ (.head _)))
    ktr_unf
    rename Fr g L' _ _ => F9
    rename News g L' _ _ => N9
    refine pop_M (D := D) (p := al.map sv) (y := Value.str z.1 z.2) (n := 0) F9 N9 (.head (forall_cons wkD hrD)) (by rw [List.length_map]; have := congrArg List.length eal; rw [List.length_append, List.length_append, List.length_singleton] at this; omega) ?_
    clear F9 N9
    intro h6 F9 N9
    dsimp only
    ktr_unf
    rename Fr g L' _ _ => F10
    rename News g L' _ _ => N10
    refine append_M (vs := kk.map sv) (n := c2) F10 N10 (.tail (Ne.symm wkD) (.head hrW)) (by rw [List.length_map]; omega) ?_
    clear F10 N10
    intro h7 F10 N10
    dsimp only
    have P7 : Ph2 prog w S3 (fun a => g.get? a = none ∧ a ≠ L') h7 := ⟨fun q hq => (N10 q (.tail _ (.tail _ (at4 q hq)))).1, P4.ok, P4.own⟩
    have N11 : News g L' h7 [(S3.x, instObj 226 S3.dx), (S3.dx, S3.sd w (.ref S3.rd))] := nCons ⟨P7.at_ _ (.head _), (P7.own _ (.head _)).2, (P7.own _ (.head _)).1⟩ (nCons ⟨P7.at_ (S3.dx, S3.sd w (.ref S3.rd)) (.tail _ (.head _)), (P7.own _ (.tail _ (.head _))).2, (P7.own _ (.tail _ (.head _))).1⟩ nNil)
    rw [← hx3] at F10
    have mem7 : ∀ q ∈ (D, W.listOf (al.map sv).toArray (0 + 1)) :: (wk, W.listOf (kk.map sv ++ [Value.str z.1 z.2]).toArray (c2 + 1)) :: rest, h7.get? q.1 = some q.2 := fun q hq => (N10 q hq).1
    clear N10
    ktr_unf
    rename Fr g L' _ _ => F12
    rename News g L' _ _ => N12
    have hst : ∃ i ∈ S3.is, i.key = z.1 ∧ i.np = -1 ∧ (∀ q ∈ i.succ, q.1 ≠ i.key ∧ ∃ j ∈ S3.is, j.key = q.1) ∧ i.succ.length ≤ 900 ∧ runW n ⟨(doneN i.key (i.succ.map (·.1)) (absI S3.is) []).1, (doneN i.key (i.succ.map (·.1)) (absI S3.is) []).2, al.map (·.1), kk.map (·.1) ++ [z.1]⟩ = some out := by
      have ez : ws.map (·.1) ++ S'.rs.map (·.1) = al.map (·.1) ++ [z.1] := by rw [← List.map_append, eal, List.map_append]; rfl
      unfold stepW at hrun1
      dsimp only at hrun1
      rw [ez, List.getLast?_concat, List.dropLast_concat, ← hab3] at hrun1
      dsimp only at hrun1
      cases q : (absI S3.is).find? (fun n => decide (n.key = z.1)) with
      | none => rw [q] at hrun1; cases hrun1
      | some nd =>
        rw [q] at hrun1
        dsimp only at hrun1
        split at hrun1
        · rename_i c
          obtain ⟨i, hi, rfl⟩ := List.mem_map.mp (List.mem_of_find?_eq_some q)
          have hk : i.key = z.1 := by have := List.find?_some q; exact of_decide_eq_true this
          refine ⟨i, hi, hk, c.1, fun q hq => ?_, ?_, ?_⟩
          · obtain ⟨h1, m, hm, h2⟩ := c.2.1 q.1 (List.mem_map_of_mem hq)
            obtain ⟨j, hj, rfl⟩ := List.mem_map.mp hm
            exact ⟨hk ▸ h1, j, hj, h2⟩
          · have := c.2.2.1
            exact (List.length_map (as := i.succ) (·.1)) ▸ this
          · rw [hk]; exact hrun1
        · cases hrun1
    obtain ⟨i, hi, hk, hnp, hsi, hsl, hrun2⟩ := hst
    rw [← hk]
    refine wpAny_call (weakC (dp := dp + 10) (un := un + 50) (ph2_done (h₀ := g) X T F12.keep P7 (fun a h => h.1) (by omega) hi hnp hsl hsi hrs3 ?_) rfl (by show dp ≤ dp + 10; omega) (by show un ≤ un + 50; omega))
    intro h8 tk8 S4 hx4 ha4 hpl4 hab4 hpo4 hnf4 kp8 P8
    dsimp only
    refine wpAny_execs_nil ?_
    have DS : D ∉ S3.ads := fun hm => by
      obtain ⟨q, hq, e⟩ := S3.ads_led (w := w) hm
      exact absurd (e ▸ fD q.1 q.2 (P4.at_ q hq)) (Nat.lt_irrefl _)
    have wkS3 : wk ∉ S3.ads := by rw [ha3, ea]; exact wkS
    have hlen2 := congrArg List.length eal
    rw [List.length_append, List.length_append, List.length_singleton] at hlen2
    have r1 := congrArg Prod.fst hab4
    have r2 := congrArg Prod.snd hab4
    dsimp only at r1 r2
    refine ⟨n, Nat.lt_succ_self n, h8, tk8, _, S4, D, al, 1, kk ++ [(i.key, z.2)], c2 + 1, rfl, ?_, rfl, rfl, frKept' F12 kp8 (fun a ha => (P7.own a ha).symm), P8, (hx4.trans hx3).trans ex, (ha4.trans ha3).trans ea, kp8 _ _ DS (mem7 _ (.head _)), ?_, gD, DL, by rw [← ea, ← ha3]; exact DS, Ne.symm wkD, ?_, ?_, ?_⟩
    · rw [← ex, ← hx3]; rfl
    · rw [List.map_append]
      have := kp8 _ _ wkS3 (mem7 _ (.tail _ (.head _)))
      rw [← hk] at this
      exact this
    · rw [hpo4, hnf4, hpo3, hnf3, hpo1]; omega
    · rw [r1, r2, List.map_append]; rw [← hk] at hrun2; exact hrun2
    · intro b o nb e
      have n1 : b ∉ S.ads := fun hm => nb (List.mem_append_right _ hm)
      have nL : b ≠ L' := fun z => nb (z ▸ .head _)
      have nw : b ≠ wk := fun z => nb (z ▸ .tail _ (.head _))
      refine kp8 b o (by rw [ha3, ea]; exact n1) ?_
      cases q : g.get? b with
      | some o' =>
        have := kF0 _ _ q
        rw [e] at this; cases this
        exact F12.keep _ _ q
      | none =>
        have e3 := kp4 b o (by rw [ea]; exact n1) (kp3 b o nb e)
        exact mem7 (b, o) (.tail _ (.tail _ (hr2 b o (kp5 b o e3) (nm3 nL (Nat.ne_of_lt (fD b o e3)) nw) q)))
end
end Mine
end

section
open PySem PySem.W PyProof.Rows PySem.Calls 
namespace Mine
/-- a forest told by what lies above each node -/
structure Forest (anc : Str → List Str) (ps : List Str) : Prop where
  nd : ps.Nodup
  len : ps.length ≤ 100
  mem : ∀ p ∈ ps, ∀ a ∈ anc p, a ∈ ps
  shape : ∀ p ∈ ps, anc p = [] ∨ ∃ q, anc p = q :: anc q
section
variable {anc : Str → List Str} {ps : List Str}
theorem Forest.rev (F : Forest anc ps) : Forest anc ps.reverse := ⟨List.pairwise_reverse.mpr (F.nd.imp fun h => Ne.symm h), by rw [List.length_reverse]; exact F.len, fun p hp a ha => List.mem_reverse.mpr (F.mem p (List.mem_reverse.mp hp) a ha), fun p hp => F.shape p (List.mem_reverse.mp hp)⟩
theorem Forest.up (F : Forest anc ps) : ∀ (n : Nat) (p : Str), p ∈ ps → (anc p).length = n → ∀ a ∈ anc p, (anc a).length < n ∧ ∀ b ∈ anc a, b ∈ anc p := by
  intro n
  induction n with
  | zero => intro p hp h a ha; rw [List.length_eq_zero_iff.mp h] at ha; exact absurd ha List.not_mem_nil
  | succ n ih =>
    intro p hp h a ha
    rcases F.shape p hp with e | ⟨q, e⟩
    · rw [e] at ha; exact absurd ha List.not_mem_nil
    · have hq : q ∈ ps := F.mem p hp q (by rw [e]; exact .head _)
      have hl : (anc q).length = n := by rw [e, List.length_cons] at h; omega
      rw [e] at ha ⊢
      rcases List.mem_cons.mp ha with rfl | ha
      · exact ⟨by omega, fun b hb => .tail _ hb⟩
      · obtain ⟨h1, h2⟩ := ih q hq hl a ha
        exact ⟨by omega, fun b hb => .tail _ (h2 b hb)⟩
theorem Forest.lt (F : Forest anc ps) {p a : Str} (hp : p ∈ ps) (ha : a ∈ anc p) : (anc a).length < (anc p).length := (F.up _ p hp rfl a ha).1
theorem Forest.tr (F : Forest anc ps) {p a b : Str} (hp : p ∈ ps) (ha : a ∈ anc p) (hb : b ∈ anc a) : b ∈ anc p := (F.up _ p hp rfl a ha).2 b hb
theorem Forest.irr (F : Forest anc ps) {p : Str} (hp : p ∈ ps) : p ∉ anc p := fun h => Nat.lt_irrefl _ (F.lt hp h)
theorem Forest.anodup (F : Forest anc ps) : ∀ (n : Nat) (p : Str), p ∈ ps → (anc p).length = n → (anc p).Nodup := by
  intro n
  induction n with
  | zero => intro p hp h; rw [List.length_eq_zero_iff.mp h]; exact List.nodup_nil
  | succ n ih =>
    intro p hp h
    rcases F.shape p hp with e | ⟨q, e⟩
    · rw [e]; exact List.nodup_nil
    · have hq : q ∈ ps := F.mem p hp q (by rw [e]; exact .head _)
      rw [e]
      exact List.nodup_cons.mpr ⟨F.irr hq, ih q hq (by rw [e, List.length_cons] at h; omega)⟩
/-- the one below q on the way to p -/
theorem Forest.below (F : Forest anc ps) : ∀ (n : Nat) (p q : Str), p ∈ ps → (anc p).length = n → q ∈ anc p → ∃ c ∈ ps, (c = p ∨ c ∈ anc p) ∧ anc c = q :: anc q := by
  intro n
  induction n with
  | zero => intro p q hp h ha; rw [List.length_eq_zero_iff.mp h] at ha; exact absurd ha List.not_mem_nil
  | succ n ih =>
    intro p q hp h ha
    rcases F.shape p hp with e | ⟨r, e⟩
    · rw [e] at ha; exact absurd ha List.not_mem_nil
    · have hr : r ∈ ps := F.mem p hp r (by rw [e]; exact .head _)
      have ha' := ha
      rw [e] at ha'
      rcases List.mem_cons.mp ha' with rfl | hb
      · exact ⟨p, hp, .inl rfl, e⟩
      · obtain ⟨c, hc, h1, h2⟩ := ih r q hr (by rw [e, List.length_cons] at h; omega) hb
        refine ⟨c, hc, .inr ?_, h2⟩
        rw [e]
        rcases h1 with rfl | h1
        · exact .head _
        · exact .tail _ h1
/-- c at or below a -/
noncomputable def Le (anc : Str → List Str) (a c : Str) : Prop := a = c ∨ a ∈ anc c
/-- two nodes that are not one above the other come of two siblings -/
theorem Forest.part (F : Forest anc ps) : ∀ (n : Nat) (x p : Str), x ∈ ps → p ∈ ps → (anc x).length + (anc p).length = n → x = p ∨ x ∈ anc p ∨ p ∈ anc x ∨ ∃ x' ∈ ps, ∃ p' ∈ ps, Le anc x' x ∧ Le anc p' p ∧ anc x' = anc p' ∧ x' ≠ p' := by
  intro n
  induction n using Nat.strongRecOn with
  | _ n ih =>
  intro x p hx hp hn
  rcases F.shape x hx with ex | ⟨q, ex⟩
  · rcases F.shape p hp with ep | ⟨r, ep⟩
    · by_cases e : x = p
      · exact .inl e
      · exact .inr (.inr (.inr ⟨x, hx, p, hp, .inl rfl, .inl rfl, ex.trans ep.symm, e⟩))
    · have hr : r ∈ ps := F.mem p hp r (by rw [ep]; exact .head _)
      rcases ih ((anc x).length + (anc r).length) (by rw [← hn, ep, List.length_cons]; omega) x r hx hr rfl with h | h | h | ⟨x', hx', p', hp', h1, h2, h3⟩
      · exact .inr (.inl (by rw [ep, h]; exact .head _))
      · exact .inr (.inl (by rw [ep]; exact .tail _ h))
      · rw [ex] at h; exact absurd h List.not_mem_nil
      · refine .inr (.inr (.inr ⟨x', hx', p', hp', h1, .inr ?_, h3⟩))
        rw [ep]
        rcases h2 with rfl | h2
        · exact .head _
        · exact .tail _ h2
  · have hq : q ∈ ps := F.mem x hx q (by rw [ex]; exact .head _)
    have qx : q ∈ anc x := by rw [ex]; exact .head _
    rcases ih ((anc q).length + (anc p).length) (by rw [← hn, ex, List.length_cons]; omega) q p hq hp rfl with h | h | h | ⟨x', hx', p', hp', h1, h2, h3⟩
    · exact .inr (.inr (.inl (h ▸ qx)))
    · obtain ⟨c, hc, h1, h2⟩ := F.below _ p q hp rfl h
      by_cases e : x = c
      · rcases h1 with h1 | h1
        · exact .inl (e.trans h1)
        · exact .inr (.inl (e ▸ h1))
      · exact .inr (.inr (.inr ⟨x, hx, c, hc, .inl rfl, h1, ex.trans h2.symm, e⟩))
    · exact .inr (.inr (.inl (F.tr hx qx h)))
    · refine .inr (.inr (.inr ⟨x', hx', p', hp', .inr ?_, h2, h3⟩))
      rcases h1 with rfl | h1
      · exact qx
      · exact F.tr hx qx h1
/-- a ahead of b in a list -/
noncomputable def Bef (ps : List Str) (a b : Str) : Prop := ∃ l₁ l₂ l₃, ps = l₁ ++ a :: (l₂ ++ b :: l₃)
theorem bef_rev {a b : Str} (h : Bef ps a b) : Bef ps.reverse b a := by
  obtain ⟨l₁, l₂, l₃, rfl⟩ := h
  exact ⟨l₃.reverse, l₂.reverse, l₁.reverse, by simp⟩
theorem bef_or {a b : Str} (ha : a ∈ ps) (hb : b ∈ ps) (n : a ≠ b) : Bef ps a b ∨ Bef ps b a := by
  obtain ⟨l, r, rfl⟩ := List.append_of_mem ha
  rcases List.mem_append.mp hb with h | h
  · obtain ⟨l', r', rfl⟩ := List.append_of_mem h
    exact .inr ⟨l', r', r, by simp⟩
  · rcases List.mem_cons.mp h with h | h
    · exact absurd h.symm n
    · obtain ⟨l', r', rfl⟩ := List.append_of_mem h
      exact .inl ⟨l, l', r', rfl⟩
/-- a walk that is whole downwards, and takes the siblings' trees from the last to the first -/
structure Good (anc : Str → List Str) (ps out : List Str) : Prop where
  nd : out.Nodup
  mem : ∀ x, x ∈ out ↔ x ∈ ps
  cl : ∀ w, w <+: out → ∀ x ∈ w, ∀ a ∈ anc x, a ∈ w
  sib : ∀ w, w <+: out → ∀ v' ∈ ps, ∀ u' ∈ ps, anc v' = anc u' → Bef ps v' u' → ∀ u ∈ ps, Le anc u' u → v' ∈ w → u ∈ w
theorem pre_or {l a b : List Str} (h : a <+: l) (k : b <+: l) : a <+: b ∨ b <+: a := List.prefix_or_prefix_of_prefix h k
theorem eq_of_rel {R : Str → Str → Prop} (as : ∀ a b, R a b → R b a → False) : ∀ {l₁ l₂ : List Str}, l₁.Pairwise R → l₂.Pairwise R → (∀ x, x ∈ l₁ ↔ x ∈ l₂) → l₁ = l₂
  | [], [], _, _, _ => rfl
  | [], b :: l₂, _, _, h => absurd ((h b).mpr (.head _)) List.not_mem_nil
  | a :: l₁, [], _, _, h => absurd ((h a).mp (.head _)) List.not_mem_nil
  | a :: l₁, b :: l₂, p, q, h => by
    obtain ⟨p1, p2⟩ := List.pairwise_cons.mp p
    obtain ⟨q1, q2⟩ := List.pairwise_cons.mp q
    have e : a = b := by
      rcases List.mem_cons.mp ((h a).mp (.head _)) with e | ha
      · exact e
      · rcases List.mem_cons.mp ((h b).mpr (.head _)) with e | hb
        · exact e.symm
        · exact (as _ _ (p1 _ hb) (q1 _ ha)).elim
    subst e
    have : ∀ x, x ∈ l₁ ↔ x ∈ l₂ := fun x => by
      constructor
      · intro hx
        rcases List.mem_cons.mp ((h x).mp (.tail _ hx)) with e | hx'
        · exact (as _ _ (e ▸ p1 _ hx) (e ▸ p1 _ hx)).elim
        · exact hx'
      · intro hx
        rcases List.mem_cons.mp ((h x).mpr (.tail _ hx)) with e | hx'
        · exact (as _ _ (e ▸ q1 _ hx) (e ▸ q1 _ hx)).elim
        · exact hx'
    rw [eq_of_rel as p2 q2 this]
/-- what stands ahead of p -/
noncomputable def ahead (out : List Str) (p : Str) : List Str := out.takeWhile (fun x => decide (x ≠ p))
theorem ahead_split {out : List Str} {p : Str} (h : p ∈ out) : ∃ r, out = ahead out p ++ p :: r ∧ p ∉ ahead out p := by
  unfold ahead
  induction out with
  | nil => exact absurd h List.not_mem_nil
  | cons a l ih =>
    by_cases e : a = p
    · subst e; exact ⟨l, by simp, by simp⟩
    · have hl : p ∈ l := (List.mem_cons.mp h).resolve_left fun z => e z.symm
      obtain ⟨r, h1, h2⟩ := ih hl
      refine ⟨r, ?_, ?_⟩
      · rw [List.takeWhile_cons_of_pos (by simpa using e), List.cons_append, ← h1]
      · rw [List.takeWhile_cons_of_pos (by simpa using e)]
        intro hm
        rcases List.mem_cons.mp hm with z | z
        · exact e z.symm
        · exact h2 z
theorem tells {o₁ o₂ : List Str} (F : Forest anc ps) (G₁ : Good anc ps o₁) (G₂ : Good anc ps.reverse o₂) {p : Str} (hp : p ∈ ps) : (ahead o₁ p).reverse.filter (fun x => decide (x ∈ ahead o₂ p)) = anc p := by
  obtain ⟨r₁, e₁, n₁⟩ := ahead_split ((G₁.mem p).mpr hp)
  obtain ⟨r₂, e₂, n₂⟩ := ahead_split ((G₂.mem p).mpr (List.mem_reverse.mpr hp))
  have w₁ : ahead o₁ p <+: o₁ := ⟨_, e₁.symm⟩
  have w₂ : ahead o₂ p <+: o₂ := ⟨_, e₂.symm⟩
  have v₁ : ahead o₁ p ++ [p] <+: o₁ := ⟨r₁, by rw [List.append_assoc]; exact e₁.symm⟩
  have v₂ : ahead o₂ p ++ [p] <+: o₂ := ⟨r₂, by rw [List.append_assoc]; exact e₂.symm⟩
  have lastp : ∀ l : List Str, p ∈ l ++ [p] := fun l => List.mem_append_right _ (.head _)
  have inn : ∀ a ∈ anc p, a ∈ ahead o₁ p ∧ a ∈ ahead o₂ p := fun a ha => by
    have ne : a ≠ p := fun z => F.irr hp (z ▸ ha)
    have h1 := G₁.cl _ v₁ p (lastp _) a ha
    have h2 := G₂.cl _ v₂ p (lastp _) a ha
    exact ⟨(List.mem_append.mp h1).resolve_right fun z => ne (List.mem_singleton.mp z), (List.mem_append.mp h2).resolve_right fun z => ne (List.mem_singleton.mp z)⟩
  have out : ∀ a, a ∈ ahead o₁ p → a ∈ ahead o₂ p → a ∈ anc p := fun a h1 h2 => by
    have ha : a ∈ ps := (G₁.mem a).mp (w₁.subset h1)
    rcases F.part _ a p ha hp rfl with h | h | h | ⟨x', hx', p', hp', k1, k2, k3, k4⟩
    · exact absurd (h ▸ h1) n₁
    · exact h
    · exact absurd (G₁.cl _ w₁ a h1 p h) n₁
    · rcases bef_or hx' hp' k4 with b | b
      · refine absurd (G₁.sib _ w₁ x' hx' p' hp' k3 b p hp k2 ?_) n₁
        rcases k1 with rfl | k1
        · exact h1
        · exact G₁.cl _ w₁ a h1 _ k1
      · refine absurd (G₂.sib _ w₂ x' (List.mem_reverse.mpr hx') p' (List.mem_reverse.mpr hp') k3 (bef_rev b) p (List.mem_reverse.mpr hp) k2 ?_) n₂
        rcases k1 with rfl | k1
        · exact h2
        · exact G₂.cl _ w₂ a h2 _ k1
  refine eq_of_rel (R := fun a b => ∃ w, w <+: o₁ ∧ b ∈ w ∧ a ∉ w) ?_ ?_ ?_ fun x => ?_
  · rintro a b ⟨w, hw, h1, h2⟩ ⟨v, hv, h3, h4⟩
    rcases pre_or hw hv with h | h
    · exact h4 (h.subset h1)
    · exact h2 (h.subset h3)
  · refine List.Pairwise.filter _ (List.pairwise_reverse.mpr ?_)
    refine List.pairwise_iff_getElem.mpr fun i j hi hj hij => ⟨(ahead o₁ p).take (i + 1), (List.take_prefix ..).trans w₁, ?_, fun hm => ?_⟩
    · exact List.mem_take_iff_getElem.mpr ⟨i, by omega, rfl⟩
    · obtain ⟨k, hk, e⟩ := List.mem_take_iff_getElem.mp hm
      have nd : (ahead o₁ p).Nodup := G₁.nd.sublist w₁.sublist
      have := (List.pairwise_iff_getElem.mp nd) k j (by omega) hj (by omega)
      exact this e
  · have : ∀ (n : Nat) (q : Str), q ∈ ps → (anc q).length = n → (anc q).Pairwise (fun a b => ∃ w, w <+: o₁ ∧ b ∈ w ∧ a ∉ w) := by
      intro n
      induction n with
      | zero => intro q hq h; rw [List.length_eq_zero_iff.mp h]; exact .nil
      | succ n ih =>
        intro q hq h
        rcases F.shape q hq with e | ⟨r, e⟩
        · rw [e]; exact .nil
        · have hr : r ∈ ps := F.mem q hq r (by rw [e]; exact .head _)
          rw [e]
          refine List.pairwise_cons.mpr ⟨fun b hb => ?_, ih r hr (by rw [e, List.length_cons] at h; omega)⟩
          obtain ⟨r', e', n'⟩ := ahead_split ((G₁.mem r).mpr hr)
          refine ⟨ahead o₁ r, ⟨_, e'.symm⟩, ?_, n'⟩
          have h1 := G₁.cl _ (⟨r', by rw [List.append_assoc]; exact e'.symm⟩ : ahead o₁ r ++ [r] <+: o₁) r (List.mem_append_right _ (.head _)) b hb
          exact (List.mem_append.mp h1).resolve_right fun z => F.irr hr (List.mem_singleton.mp z ▸ hb)
    exact this _ p hp rfl
  · rw [List.mem_filter, List.mem_reverse, decide_eq_true_iff]
    exact ⟨fun h => out x h.1 h.2, fun h => inn x h⟩
end
end Mine
end

section
open PySem PySem.W PyProof.Rows PySem.Calls 
namespace Mine
noncomputable abbrev nmk (f : Str → Int) (g : Str → List Str) (p : Str) : Nd := ⟨p, f p, g p⟩
theorem setN_np {ps : List Str} {k : Str} {f : Str → Int} {g : Str → List Str} (F : Int → Int) : setN k (fun n => { n with np := F n.np }) (ps.map (nmk f g)) = ps.map (nmk (fun p => if p = k then F (f p) else f p) g) := by
  unfold setN
  rw [List.map_map]
  refine List.map_congr_left fun p _ => ?_
  show (if p = k then ({ nmk f g p with np := F (f p) } : Nd) else nmk f g p) = _
  by_cases e : p = k
  · rw [if_pos e]; simp [nmk, e]
  · rw [if_neg e]; simp [nmk, e]
theorem passN_f {ps : List Str} {g : Str → List Str} : ∀ (l : List Str) (f : Str → Int), passN l (ps.map (nmk f g)) = ps.map (nmk (fun p => if p ∈ l then -1 else f p) g)
  | [], f => by unfold passN; simp
  | k :: l, f => by
    have := passN_f (ps := ps) (g := g) l (fun p => if p = k then -1 else f p)
    unfold passN at this ⊢
    rw [List.foldl_cons, setN_np (fun _ => -1), this]
    refine List.map_congr_left fun p _ => ?_
    by_cases h : p ∈ l
    · simp [nmk, h]
    · by_cases e : p = k <;> simp [nmk, h, e]
theorem any_nmk {ps : List Str} {f : Str → Int} {g : Str → List Str} {q : Str} (hq : q ∈ ps) : (ps.map (nmk f g)).any (fun n => decide (n.key = q ∧ n.np = 1)) = decide (f q = 1) := by
  cases h : decide (f q = 1) with
  | true => exact List.any_eq_true.mpr ⟨nmk f g q, List.mem_map_of_mem hq, decide_eq_true ⟨rfl, of_decide_eq_true h⟩⟩
  | false =>
    refine Bool.eq_false_iff.mpr fun z => ?_
    obtain ⟨n, hn, e⟩ := List.any_eq_true.mp z
    obtain ⟨p, hp, rfl⟩ := List.mem_map.mp hn
    obtain ⟨e1, e2⟩ := of_decide_eq_true e
    have e1 : p = q := e1
    have e2 : f p = 1 := e2
    rw [e1] at e2
    exact absurd e2 (of_decide_eq_false h)
theorem dec_f {ps : List Str} {g : Str → List Str} : ∀ (l : List Str) (f : Str → Int) (rd : List Str), l.Nodup → (∀ q ∈ l, q ∈ ps) →
    l.foldl (fun a q => decN q a) (ps.map (nmk f g), rd) = (ps.map (nmk (fun p => if p ∈ l then f p - 1 else f p) g), rd ++ l.filter (fun q => decide (f q = 1)))
  | [], f, rd, _, _ => by simp
  | k :: l, f, rd, hn, hs => by
    obtain ⟨h1, h2⟩ := List.nodup_cons.mp hn
    rw [List.foldl_cons]
    have e : decN k (ps.map (nmk f g), rd) = (ps.map (nmk (fun p => if p = k then f p - 1 else f p) g), if f k = 1 then rd ++ [k] else rd) := by
      unfold decN
      dsimp only
      rw [setN_np (fun x => x - 1), any_nmk (hs k (.head _))]
      simp
    rw [e, dec_f l _ _ h2 fun q hq => hs q (.tail _ hq)]
    refine Prod.ext ?_ ?_
    · refine List.map_congr_left fun p _ => ?_
      by_cases h : p = k
      · subst h; simp [nmk, h1]
      · simp [nmk, h]
    · have e2 : l.filter (fun q => decide ((if q = k then f q - 1 else f q) = 1)) = l.filter (fun q => decide (f q = 1)) := by
        refine List.filter_congr fun q hq => ?_
        rw [if_neg (fun (z : q = k) => h1 (z ▸ hq))]
      dsimp only
      rw [e2]
      by_cases h : f k = 1
      · rw [if_pos h, List.filter_cons_of_pos (by simpa using h)]; simp
      · rw [if_neg h, List.filter_cons_of_neg (by simpa using h)]
section
variable {anc : Str → List Str} {ps : List Str}
/-- those that lie in a place -/
noncomputable def desc (anc : Str → List Str) (ps : List Str) (k : Str) : List Str := ps.filter fun c => decide (k ∈ anc c)
theorem mem_desc {k c : Str} : c ∈ desc anc ps k ↔ c ∈ ps ∧ k ∈ anc c := by unfold desc; rw [List.mem_filter, decide_eq_true_iff]
noncomputable def rest (anc : Str → List Str) (walk : List Str) (k : Str) : List Str := (anc k).filter fun a => decide (a ∉ walk)
theorem mem_rest {walk : List Str} {k a : Str} : a ∈ rest anc walk k ↔ a ∈ anc k ∧ a ∉ walk := by unfold rest; rw [List.mem_filter, decide_eq_true_iff]
structure DInv (anc : Str → List Str) (ps wait ready walk : List Str) (f : Str → Int) : Prop where
  f1 : ∀ x ∈ ps, f x = if x ∈ walk then (-2 : Int) else if x ∈ wait then (-1 : Int) else ((rest anc walk x).length : Int)
  s1 : ∀ x ∈ wait ++ ready, x ∈ ps ∧ x ∉ walk ∧ ∀ a ∈ anc x, a ∈ walk
  s2 : (wait ++ ready).Nodup
  w1 : ∀ x ∈ walk, x ∈ ps
  w2 : walk.Nodup
  c1 : ∀ x ∈ ps, x ∈ walk ∨ ∃ a ∈ wait ++ ready, Le anc a x
  cl : ∀ w, w <+: walk → ∀ x ∈ w, ∀ a ∈ anc x, a ∈ w
  o1 : ∀ v' ∈ ps, ∀ u' ∈ ps, anc v' = anc u' → Bef ps v' u' → ∀ u ∈ ps, Le anc u' u → ∀ A T, wait ++ ready = A ++ v' :: T → u ∈ walk ∨ ∃ a ∈ T, Le anc a u
  sib : ∀ w, w <+: walk → ∀ v' ∈ ps, ∀ u' ∈ ps, anc v' = anc u' → Bef ps v' u' → ∀ u ∈ ps, Le anc u' u → v' ∈ w → u ∈ w
theorem DInv.good {walk : List Str} {f : Str → Int} (I : DInv anc ps [] [] walk f) : Good anc ps walk :=
  ⟨I.w2, fun x => ⟨I.w1 x, fun h => (I.c1 x h).resolve_right fun ⟨_, h, _⟩ => absurd h List.not_mem_nil⟩, I.cl, I.sib⟩
theorem pre_snoc {w l : List Str} {p : Str} (h : w <+: l ++ [p]) : w <+: l ∨ w = l ++ [p] := by
  obtain ⟨r, e⟩ := h
  rcases List.eq_nil_or_concat r with rfl | ⟨r', b, rfl⟩
  · exact .inr (by rw [← e, List.append_nil])
  · rw [List.concat_eq_append, ← List.append_assoc] at e
    exact .inl ⟨r', (List.append_inj' e rfl).1⟩
noncomputable def ch (anc : Str → List Str) (ps : List Str) (p : Str) : List Str := ps.filter fun c => decide (anc c = p :: anc p)
theorem mem_ch {p c : Str} : c ∈ ch anc ps p ↔ c ∈ ps ∧ anc c = p :: anc p := by unfold ch; rw [List.mem_filter, decide_eq_true_iff]
theorem find_nmk {f : Str → Int} {g : Str → List Str} {p : Str} (hp : p ∈ ps) : (ps.map (nmk f g)).find? (fun n => decide (n.key = p)) = some (nmk f g p) := by
  cases h : (ps.map (nmk f g)).find? (fun n => decide (n.key = p)) with
  | none => exact absurd (decide_eq_true (rfl : (nmk f g p).key = p)) (List.find?_eq_none.mp h _ (List.mem_map_of_mem hp))
  | some n =>
    obtain ⟨q, hq, e⟩ := List.mem_map.mp (List.mem_of_find?_eq_some h)
    have := List.find?_some h
    have := of_decide_eq_true this
    subst e
    have : q = p := this
    rw [this]
theorem bef_filter {P : Str → Bool} {a b : Str} (h : Bef ps a b) (ha : P a = true) (hb : P b = true) : ∃ l₁ l₂ l₃, ps.filter P = l₁ ++ a :: (l₂ ++ b :: l₃) := by
  obtain ⟨l₁, l₂, l₃, rfl⟩ := h
  exact ⟨l₁.filter P, l₂.filter P, l₃.filter P, by simp [List.filter_append, ha, hb]⟩
theorem split_uniq {A A' T T' : List Str} {v : Str} (h : A ++ v :: T = A' ++ v :: T') (n : v ∉ A) (n' : v ∉ A') : A = A' ∧ T = T' := by
  induction A generalizing A' with
  | nil =>
    cases A' with
    | nil => exact ⟨rfl, (List.cons.inj h).2⟩
    | cons a l => exact absurd ((List.cons.inj h).1 ▸ .head _) n'
  | cons a l ih =>
    cases A' with
    | nil => exact absurd ((List.cons.inj h).1 ▸ .head _) n
    | cons a' l' =>
      obtain ⟨e1, e2⟩ := List.cons.inj h
      obtain ⟨i1, i2⟩ := ih e2 (fun z => n (.tail _ z)) (fun z => n' (.tail _ z))
      exact ⟨by rw [e1, i1], i2⟩
theorem app_snoc_cases {W A T : List Str} {p v : Str} (h : W ++ [p] = A ++ v :: T) : (T = [] ∧ v = p ∧ A = W) ∨ ∃ T', T = T' ++ [p] ∧ W = A ++ v :: T' := by
  rcases List.eq_nil_or_concat T with rfl | ⟨T', b, rfl⟩
  · obtain ⟨e1, e2⟩ := List.append_inj' h rfl
    exact .inl ⟨rfl, (List.cons.inj e2).1.symm, e1.symm⟩
  · rw [List.concat_eq_append, ← List.cons_append, ← List.append_assoc] at h
    obtain ⟨e1, e2⟩ := List.append_inj' h rfl
    exact .inr ⟨T', by rw [List.concat_eq_append, (List.cons.inj e2).1], e1⟩
/-- one turn of the walk -/
theorem DInv.next (F : Forest anc ps) {wait ready walk W : List Str} {p : Str} {f f' : Str → Int} (I : DInv anc ps wait ready walk f) (e : wait ++ ready = W ++ [p])
    (hf : ∀ x ∈ ps, f' x = if x = p then (-2 : Int) else if x ∈ desc anc ps p then (if x ∈ ready then -1 else f x) - 1 else (if x ∈ ready then -1 else f x)) : DInv anc ps W (ch anc ps p) (walk ++ [p]) f' := by
  obtain ⟨hp, pw, pa⟩ := I.s1 p (by rw [e]; exact List.mem_append_right _ (.head _))
  have nd := I.s2
  rw [e] at nd
  have s1 := I.s1
  rw [e] at s1
  have c1 := I.c1
  rw [e] at c1
  have pW : p ∉ W := fun h => (List.nodup_append.mp nd).2.2 p h p (.head _) rfl
  have clw := I.cl walk List.prefix_rfl
  have chd : ∀ c ∈ ch anc ps p, c ∈ ps ∧ c ≠ p ∧ p ∈ anc c ∧ c ∉ walk ∧ c ∉ W ++ [p] := fun c hc => by
    obtain ⟨h1, h2⟩ := mem_ch.mp hc
    have h3 : p ∈ anc c := by rw [h2]; exact .head _
    exact ⟨h1, fun z => F.irr hp (z ▸ h3), h3, fun z => pw (clw c z p h3), fun z => pw ((s1 c z).2.2 p h3)⟩
  have nd' : (W ++ ch anc ps p).Nodup := by
    rw [List.nodup_append]
    refine ⟨(List.nodup_append.mp nd).1, F.nd.filter _, fun a ha b hb z => ?_⟩
    exact (chd b hb).2.2.2.2 (z ▸ List.mem_append_left _ ha)
  have s1' : ∀ x ∈ W ++ ch anc ps p, x ∈ ps ∧ x ∉ walk ++ [p] ∧ ∀ a ∈ anc x, a ∈ walk ++ [p] := fun x hx => by
    rcases List.mem_append.mp hx with hx | hx
    · obtain ⟨h1, h2, h3⟩ := s1 x (List.mem_append_left _ hx)
      exact ⟨h1, fun z => (List.mem_append.mp z).elim h2 fun z => pW (List.mem_singleton.mp z ▸ hx), fun a ha => List.mem_append_left _ (h3 a ha)⟩
    · obtain ⟨h1, h2, h3, h4, h5⟩ := chd x hx
      refine ⟨h1, fun z => (List.mem_append.mp z).elim h4 fun z => h2 (List.mem_singleton.mp z), fun a ha => ?_⟩
      rw [(mem_ch.mp hx).2] at ha
      rcases List.mem_cons.mp ha with z | ha
      · exact List.mem_append_right _ (z ▸ .head _)
      · exact List.mem_append_left _ (pa a ha)
  have cl' : ∀ w, w <+: walk ++ [p] → ∀ x ∈ w, ∀ a ∈ anc x, a ∈ w := fun w hw x hx a ha => by
    rcases pre_snoc hw with h | rfl
    · exact I.cl w h x hx a ha
    · rcases List.mem_append.mp hx with hx | hx
      · exact List.mem_append_left _ (clw x hx a ha)
      · rw [List.mem_singleton.mp hx] at ha; exact List.mem_append_left _ (pa a ha)
  have sp : ∀ x ∈ ps, x ∈ walk ++ [p] → x ∉ W ++ ch anc ps p := fun x _ hx hm => (s1' x hm).2.1 hx
  -- what an element of the list at p's place covers
  have cov : ∀ u ∈ ps, Le anc p u → u = p ∨ ∃ a ∈ ch anc ps p, Le anc a u := fun u hu h => by
    rcases h with h | h
    · exact .inl h.symm
    · obtain ⟨c, hc, h1, h2⟩ := F.below _ u p hu rfl h
      exact .inr ⟨c, mem_ch.mpr ⟨hc, h2⟩, h1⟩
  refine ⟨fun x hx => ?_, s1', nd', ?_, ?_, ?_, cl', ?_, ?_⟩
  · rw [hf x hx]
    by_cases xp : x = p
    · rw [if_pos xp, if_pos (List.mem_append_right _ (xp ▸ .head _))]
    · rw [if_neg xp]
      have xw : x ∈ walk ++ [p] ↔ x ∈ walk := ⟨fun h => (List.mem_append.mp h).resolve_right fun z => xp (List.mem_singleton.mp z), fun h => List.mem_append_left _ h⟩
      have stW : x ∈ wait ++ ready ↔ x ∈ W := by
        rw [e]; exact ⟨fun h => (List.mem_append.mp h).resolve_right fun z => xp (List.mem_singleton.mp z), fun h => List.mem_append_left _ h⟩
      by_cases h1 : x ∈ walk
      · have nd2 : x ∉ desc anc ps p := fun z => pw (clw x h1 p (mem_desc.mp z).2)
        have nr : x ∉ ready := fun z => (I.s1 x (List.mem_append_right _ z)).2.1 h1
        rw [if_neg nd2, if_neg nr, if_pos (xw.mpr h1), I.f1 x hx, if_pos h1]
      · rw [if_neg (fun z => h1 (xw.mp z))]
        by_cases h2 : x ∈ W
        · have nd2 : x ∉ desc anc ps p := fun z => pw ((s1 x (List.mem_append_left _ h2)).2.2 p (mem_desc.mp z).2)
          rw [if_neg nd2, if_pos h2]
          by_cases h3 : x ∈ ready
          · rw [if_pos h3]
          · rw [if_neg h3, I.f1 x hx, if_neg h1, if_pos ((List.mem_append.mp (stW.mpr h2)).resolve_right h3)]
        · have nr : x ∉ ready := fun z => h2 (stW.mp (List.mem_append_right _ z))
          have nw : x ∉ wait := fun z => h2 (stW.mp (List.mem_append_left _ z))
          rw [if_neg nr, if_neg h2, I.f1 x hx, if_neg h1, if_neg nw]
          have nda := F.anodup _ x hx rfl
          by_cases h4 : p ∈ anc x
          · rw [if_pos (mem_desc.mpr ⟨hx, h4⟩)]
            have : (rest anc walk x).length = (rest anc (walk ++ [p]) x).length + 1 := by
              obtain ⟨l, r, el⟩ := List.append_of_mem h4
              rw [el] at nda
              obtain ⟨n1, n2, n3⟩ := List.nodup_append.mp nda
              obtain ⟨n4, n5⟩ := List.nodup_cons.mp n2
              have pl : p ∉ l := fun z => n3 p z p (.head _) rfl
              unfold rest
              rw [el, List.filter_append, List.filter_append, List.filter_cons_of_pos (by simpa using pw), List.filter_cons_of_neg (by simp)]
              rw [List.filter_congr (l := l) (q := fun a => decide (a ∉ walk ++ [p])) fun a ha => ?_, List.filter_congr (l := r) (q := fun a => decide (a ∉ walk ++ [p])) fun a ha => ?_]
              · simp only [List.length_append, List.length_cons]; omega
              · have : a ≠ p := fun z => n4 (z ▸ ha)
                simp [this]
              · have : a ≠ p := fun z => pl (z ▸ ha)
                simp [this]
            rw [this]; omega
          · rw [if_neg (fun z => h4 (mem_desc.mp z).2)]
            congr 2
            unfold rest
            refine List.filter_congr fun a ha => ?_
            have : a ≠ p := fun z => h4 (z ▸ ha)
            simp [this]
  · intro x hx
    rcases List.mem_append.mp hx with hx | hx
    · exact I.w1 x hx
    · rw [List.mem_singleton.mp hx]; exact hp
  · rw [List.nodup_append]
    exact ⟨I.w2, List.nodup_cons.mpr ⟨List.not_mem_nil, List.nodup_nil⟩, fun a ha b hb z => pw (List.mem_singleton.mp hb ▸ z ▸ ha)⟩
  · intro x hx
    rcases c1 x hx with h | ⟨a, ha, h⟩
    · exact .inl (List.mem_append_left _ h)
    · rcases List.mem_append.mp ha with ha | ha
      · exact .inr ⟨a, List.mem_append_left _ ha, h⟩
      · rcases cov x hx (List.mem_singleton.mp ha ▸ h) with h | ⟨b, hb, h⟩
        · exact .inl (List.mem_append_right _ (h ▸ .head _))
        · exact .inr ⟨b, List.mem_append_right _ hb, h⟩
  · intro v' hv u' hu' hs hb u hu hl A T eA
    have vst : v' ∈ W ++ ch anc ps p := by rw [eA]; exact List.mem_append_right _ (.head _)
    have vA : v' ∉ A := fun z => by
      rw [eA] at nd'
      exact (List.nodup_append.mp nd').2.2 v' z v' (.head _) rfl
    rcases List.mem_append.mp vst with hW | hC
    · obtain ⟨A', T', eW⟩ := List.append_of_mem hW
      have vA' : v' ∉ A' := fun z => by
        have := (List.nodup_append.mp nd).1
        rw [eW] at this
        exact (List.nodup_append.mp this).2.2 v' z v' (.head _) rfl
      have eT : T = T' ++ ch anc ps p := by
        have : A ++ v' :: T = A' ++ v' :: (T' ++ ch anc ps p) := by rw [← eA, eW]; simp
        exact (split_uniq this vA vA').2
      rcases I.o1 v' hv u' hu' hs hb u hu hl A' (T' ++ [p]) (by rw [e, eW]; simp) with h | ⟨a, ha, h⟩
      · exact .inl (List.mem_append_left _ h)
      · rcases List.mem_append.mp ha with ha | ha
        · exact .inr ⟨a, eT ▸ List.mem_append_left _ ha, h⟩
        · rcases cov u hu (List.mem_singleton.mp ha ▸ h) with h | ⟨b, hb, h⟩
          · exact .inl (List.mem_append_right _ (h ▸ .head _))
          · exact .inr ⟨b, eT ▸ List.mem_append_right _ hb, h⟩
    · have ev := (mem_ch.mp hC).2
      obtain ⟨l₁, l₂, l₃, el⟩ := bef_filter (P := fun c => decide (anc c = p :: anc p)) hb (decide_eq_true ev) (decide_eq_true (hs ▸ ev))
      have el : ch anc ps p = l₁ ++ v' :: (l₂ ++ u' :: l₃) := el
      have vl : v' ∉ W ++ l₁ := fun z => by
        rw [el, ← List.append_assoc] at nd'
        exact (List.nodup_append.mp nd').2.2 v' z v' (.head _) rfl
      have eT : T = l₂ ++ u' :: l₃ := by
        have : A ++ v' :: T = (W ++ l₁) ++ v' :: (l₂ ++ u' :: l₃) := by rw [← eA, el]; simp
        exact (split_uniq this vA vl).2
      exact .inr ⟨u', eT ▸ List.mem_append_right _ (.head _), hl⟩
  · intro w hw v' hv u' hu' hs hb u hu hl hvw
    rcases pre_snoc hw with h | rfl
    · exact I.sib w h v' hv u' hu' hs hb u hu hl hvw
    · rcases List.mem_append.mp hvw with h | h
      · exact List.mem_append_left _ (I.sib walk List.prefix_rfl v' hv u' hu' hs hb u hu hl h)
      · have z := List.mem_singleton.mp h
        rcases I.o1 v' hv u' hu' hs hb u hu hl W [] (by rw [e, z]) with h | ⟨_, h, _⟩
        · exact List.mem_append_left _ h
        · exact absurd h List.not_mem_nil
theorem nodup_le {l m : List Str} (h : l.Nodup) (s : ∀ x ∈ l, x ∈ m) : l.length ≤ m.length := by
  induction l generalizing m with
  | nil => exact Nat.zero_le _
  | cons a l ih =>
    obtain ⟨h1, h2⟩ := List.nodup_cons.mp h
    obtain ⟨r, t, rfl⟩ := List.append_of_mem (s a (.head _))
    have := ih (m := r ++ t) h2 fun x hx => by
      rcases List.mem_append.mp (s x (.tail _ hx)) with z | z
      · exact List.mem_append_left _ z
      · rcases List.mem_cons.mp z with z | z
        · exact absurd (z ▸ hx) h1
        · exact List.mem_append_right _ z
    rw [List.length_append] at this
    rw [List.length_cons, List.length_append, List.length_cons]; omega
theorem run_good (F : Forest anc ps) : ∀ (n : Nat) (wait ready walk : List Str) (f : Str → Int), DInv anc ps wait ready walk f → ps.length < n + walk.length → ∃ out, runW n ⟨ps.map (nmk f (desc anc ps)), ready, wait, walk⟩ = some out ∧ Good anc ps out := by
  intro n
  induction n with
  | zero =>
    intro wait ready walk f I h
    have := nodup_le I.w2 I.w1
    omega
  | succ n ih =>
    intro wait ready walk f I h
    unfold runW
    by_cases he : wait = [] ∧ ready = []
    · rw [if_pos he]
      obtain ⟨rfl, rfl⟩ := he
      exact ⟨walk, rfl, I.good⟩
    · rw [if_neg he]
      obtain ⟨W, p, e⟩ : ∃ W p, wait ++ ready = W ++ [p] := by
        have : wait ++ ready ≠ [] := fun q => he (List.append_eq_nil_iff.mp q)
        exact ⟨_, _, (List.dropLast_concat_getLast this).symm⟩
      have hst := I.s1 p (by rw [e]; exact List.mem_append_right _ (.head _))
      obtain ⟨hp, pw, pa⟩ := hst
      have dnd : (desc anc ps p).Nodup := F.nd.filter _
      have l1 : (desc anc ps p).length ≤ 900 := Nat.le_trans (List.length_filter_le ..) (Nat.le_trans F.len (by omega))
      have l2 : (wait ++ ready).length ≤ 900 := Nat.le_trans (nodup_le I.s2 fun x hx => (I.s1 x hx).1) (Nat.le_trans F.len (by omega))
      have l3 : walk.length ≤ 900 := Nat.le_trans (nodup_le I.w2 I.w1) (Nat.le_trans F.len (by omega))
      have clw := I.cl walk List.prefix_rfl
      have hnp : (if p ∈ ready then (-1 : Int) else f p) = -1 := by
        by_cases h : p ∈ ready
        · rw [if_pos h]
        · have : p ∈ wait := (List.mem_append.mp (by rw [e]; exact List.mem_append_right _ (.head _) : p ∈ wait ++ ready)).resolve_right h
          rw [if_neg h, I.f1 p hp, if_neg pw, if_pos this]
      have hsd : ∀ q ∈ desc anc ps p, q ∈ ps ∧ q ≠ p ∧ q ∉ walk ∧ q ∉ wait ++ ready := fun q hq => by
        obtain ⟨h1, h2⟩ := mem_desc.mp hq
        exact ⟨h1, fun z => F.irr hp (z ▸ h2), fun z => pw (clw q z p h2), fun z => pw ((I.s1 q z).2.2 p h2)⟩
      have hstep : stepW ⟨ps.map (nmk f (desc anc ps)), ready, wait, walk⟩ = some ⟨ps.map (nmk (fun x => if x ∈ desc anc ps p then (if x = p then (-2 : Int) else (if x ∈ ready then -1 else f x)) - 1 else (if x = p then (-2 : Int) else (if x ∈ ready then -1 else f x))) (desc anc ps)), ch anc ps p, W, walk ++ [p]⟩ := by
        unfold stepW
        dsimp only
        rw [e, List.getLast?_concat, List.dropLast_concat, passN_f]
        dsimp only
        rw [find_nmk hp]
        dsimp only
        rw [if_pos ⟨hnp, fun q hq => ⟨(hsd q hq).2.1, _, List.mem_map_of_mem (hsd q hq).1, rfl⟩, l1, by rw [← e]; exact l2, l3⟩]
        unfold doneN
        rw [setN_np (fun _ => -2), dec_f _ _ _ dnd fun q hq => (hsd q hq).1]
        dsimp only
        congr 2
        rw [List.nil_append]
        unfold ch desc
        rw [List.filter_filter]
        refine List.filter_congr fun c hc => ?_
        have key : p ∈ anc c → ((if c = p then (-2 : Int) else if c ∈ ready then -1 else f c) = 1 ↔ anc c = p :: anc p) := fun h2 => by
          obtain ⟨_, k1, k2, k3⟩ := hsd c (mem_desc.mpr ⟨hc, h2⟩)
          have k4 : c ∉ ready := fun z => k3 (List.mem_append_right _ z)
          have k5 : c ∉ wait := fun z => k3 (List.mem_append_left _ z)
          rw [if_neg k1, if_neg k4, I.f1 c hc, if_neg k2, if_neg k5]
          constructor
          · intro h3
            have h3 : (rest anc walk c).length = 1 := by omega
            obtain ⟨x, hx⟩ := List.length_eq_one_iff.mp h3
            have px : p ∈ rest anc walk c := mem_rest.mpr ⟨h2, pw⟩
            rcases F.shape c hc with ec | ⟨r, ec⟩
            · rw [ec] at h2; exact absurd h2 List.not_mem_nil
            · have hr : r ∈ anc c := by rw [ec]; exact .head _
              have rw_ : r ∉ walk := fun z => by
                rw [ec] at h2
                rcases List.mem_cons.mp h2 with q | q
                · exact pw (q ▸ z)
                · exact pw (clw r z p q)
              have rx : r ∈ rest anc walk c := mem_rest.mpr ⟨hr, rw_⟩
              rw [hx] at px rx
              rw [List.mem_singleton.mp px, ← List.mem_singleton.mp rx]; exact ec
          · intro h3
            have : rest anc walk c = [p] := by
              unfold rest
              rw [h3, List.filter_cons_of_pos (by simpa using pw), List.filter_eq_nil_iff.mpr fun a ha => by simpa using pa a ha]
            rw [this]; rfl
        by_cases h2 : p ∈ anc c
        · rw [Bool.eq_iff_iff, Bool.and_eq_true, decide_eq_true_iff, decide_eq_true_iff, decide_eq_true_iff]
          exact ⟨fun h => (key h2).mp h.1, fun h => ⟨(key h2).mpr h, h2⟩⟩
        · rw [Bool.eq_iff_iff, Bool.and_eq_true, decide_eq_true_iff, decide_eq_true_iff, decide_eq_true_iff]
          exact ⟨fun h => absurd h.2 h2, fun h => absurd (by rw [h]; exact .head _) h2⟩
      rw [hstep, Option.bind_some]
      refine ih W (ch anc ps p) (walk ++ [p]) _ (I.next F e fun x hx => ?_) (by rw [List.length_append]; simp only [List.length_singleton]; omega)
      by_cases h1 : x = p
      · have : x ∉ desc anc ps p := fun z => (hsd x z).2.1 h1
        rw [if_neg this, if_pos h1, if_pos h1]
      · rw [if_neg h1, if_neg h1]
theorem start_inv (F : Forest anc ps) : DInv anc ps [] (ps.filter fun p => decide ((anc p).length = 0)) [] (fun p => ((anc p).length : Int)) := by
  refine ⟨fun x hx => ?_, fun x hx => ?_, F.nd.filter _, fun x hx => absurd hx List.not_mem_nil, List.nodup_nil, fun x hx => .inr ?_, fun w hw x hx => ?_, ?_, ?_⟩
  · have : rest anc [] x = anc x := by unfold rest; simp
    simp [this]
  · obtain ⟨h1, h2⟩ := List.mem_filter.mp hx
    have h2 := List.length_eq_zero_iff.mp (of_decide_eq_true h2)
    exact ⟨h1, List.not_mem_nil, fun a ha => by rw [h2] at ha; exact absurd ha List.not_mem_nil⟩
  · have : ∀ (n : Nat) (x : Str), x ∈ ps → (anc x).length = n → ∃ a ∈ ps, (anc a).length = 0 ∧ Le anc a x := by
      intro n
      induction n with
      | zero => exact fun x hx h => ⟨x, hx, h, .inl rfl⟩
      | succ n ih =>
        intro x hx h
        rcases F.shape x hx with e | ⟨q, e⟩
        · rw [e] at h; cases h
        · have qx : q ∈ anc x := by rw [e]; exact .head _
          obtain ⟨a, h1, h2, h3⟩ := ih q (F.mem x hx q qx) (by rw [e, List.length_cons] at h; omega)
          refine ⟨a, h1, h2, .inr ?_⟩
          rcases h3 with rfl | h3
          · exact qx
          · exact F.tr hx qx h3
    obtain ⟨a, h1, h2, h3⟩ := this _ x hx rfl
    exact ⟨a, List.mem_filter.mpr ⟨h1, decide_eq_true h2⟩, h3⟩
  · rw [List.prefix_nil.mp hw] at hx; exact absurd hx List.not_mem_nil
  · intro v' hv u' hu' hs hb u hu hl A T e
    have hv0 : v' ∈ ps.filter fun p => decide ((anc p).length = 0) := by
      have : v' ∈ [] ++ ps.filter fun p => decide ((anc p).length = 0) := by rw [e]; exact List.mem_append_right _ (.head _)
      exact this
    have ev := of_decide_eq_true (List.mem_filter.mp hv0).2
    obtain ⟨l₁, l₂, l₃, el⟩ := bef_filter (P := fun p => decide ((anc p).length = 0)) hb (decide_eq_true ev) (decide_eq_true (hs ▸ ev))
    have nd := F.nd.filter fun p => decide ((anc p).length = 0)
    have e : ps.filter (fun p => decide ((anc p).length = 0)) = A ++ v' :: T := e
    have h1 : v' ∉ A := fun z => by rw [e] at nd; exact (List.nodup_append.mp nd).2.2 v' z v' (.head _) rfl
    have h2 : v' ∉ l₁ := fun z => by rw [el] at nd; exact (List.nodup_append.mp nd).2.2 v' z v' (.head _) rfl
    have := (split_uniq (e.symm.trans el) h1 h2).2
    exact .inr ⟨u', this ▸ List.mem_append_right _ (.head _), hl⟩
  · intro w hw v' _ _ _ _ _ _ _ _ hx
    rw [List.prefix_nil.mp hw] at hx; exact absurd hx List.not_mem_nil
theorem runs (F : Forest anc ps) : ∃ out, runW (ps.length + 1) ⟨ps.map fun p => ⟨p, ((anc p).length : Int), desc anc ps p⟩, ps.filter (fun p => decide ((anc p).length = 0)), [], []⟩ = some out ∧ Good anc ps out :=
  run_good F _ [] _ [] _ (start_inv F) (by simp)
end
end Mine
end

section
open PySem PySem.W PyProof.Rows PySem.Calls 
namespace Mine
theorem setN_succ {ps : List Str} {k : Str} {f : Str → Int} {g : Str → List Str} (G : List Str → List Str) : setN k (fun n => { n with succ := G n.succ }) (ps.map (nmk f g)) = ps.map (nmk f (fun p => if p = k then G (g p) else g p)) := by
  unfold setN
  rw [List.map_map]
  refine List.map_congr_left fun p _ => ?_
  show (if p = k then ({ nmk f g p with succ := G (g p) } : Nd) else nmk f g p) = _
  by_cases e : p = k
  · rw [if_pos e]; simp [nmk, e]
  · rw [if_neg e]; simp [nmk, e]
theorem succs_f {ps : List Str} {k : Str} {f : Str → Int} : ∀ (l : List Str) (g : Str → List Str), l.Nodup → l.foldl (fun ns p => setN p (fun n => { n with succ := n.succ ++ [k] }) ns) (ps.map (nmk f g)) = ps.map (nmk f (fun p => if p ∈ l then g p ++ [k] else g p))
  | [], g, _ => by simp
  | a :: l, g, hn => by
    obtain ⟨h1, h2⟩ := List.nodup_cons.mp hn
    rw [List.foldl_cons, setN_succ (fun x => x ++ [k]), succs_f l _ h2]
    refine List.map_congr_left fun p _ => ?_
    by_cases h : p = a
    · subst h; simp [nmk, h1]
    · simp [nmk, h]
theorem addAll_f {anc : Str → List Str} {ps : List Str} : ∀ (l : List Str) (f : Str → Int) (g : Str → List Str), l.Nodup → (∀ p ∈ l, (anc p).Nodup) → addAll anc l (ps.map (nmk f g)) = ps.map (nmk (fun p => if p ∈ l then f p + (anc p).length else f p) (fun p => g p ++ l.filter fun c => decide (p ∈ anc c)))
  | [], f, g, _, _ => by unfold addAll; simp
  | a :: l, f, g, hn, ha => by
    obtain ⟨h1, h2⟩ := List.nodup_cons.mp hn
    have e : addP a (anc a) (ps.map (nmk f g)) = ps.map (nmk (fun p => if p = a then f p + (anc a).length else f p) (fun p => if p ∈ anc a then g p ++ [a] else g p)) := by
      unfold addP
      rw [setN_np (fun x => x + (anc a).length), succs_f _ _ (ha a (.head _))]
    have := addAll_f (ps := ps) l (fun p => if p = a then f p + (anc a).length else f p) (fun p => if p ∈ anc a then g p ++ [a] else g p) h2 fun p hp => ha p (.tail _ hp)
    unfold addAll at this ⊢
    rw [List.foldl_cons, e, this]
    refine List.map_congr_left fun p _ => ?_
    have ef : (if p ∈ l then (if p = a then f p + ((anc a).length : Int) else f p) + ((anc p).length : Int) else if p = a then f p + ((anc a).length : Int) else f p) = if p ∈ a :: l then f p + ((anc p).length : Int) else f p := by
      by_cases h : p = a
      · subst h; simp [h1]
      · simp [h]
    have eg : (if p ∈ anc a then g p ++ [a] else g p) ++ l.filter (fun c => decide (p ∈ anc c)) = g p ++ (a :: l).filter (fun c => decide (p ∈ anc c)) := by
      by_cases h : p ∈ anc a
      · rw [if_pos h, List.filter_cons_of_pos (by simpa using h)]; simp
      · rw [if_neg h, List.filter_cons_of_neg (by simpa using h)]
    dsimp only [nmk]
    rw [ef, eg]
theorem addAll_start {anc : Str → List Str} {ps : List Str} (F : Forest anc ps) : addAll anc ps (ps.map fun p => ⟨p, 0, []⟩) = ps.map fun p => ⟨p, ((anc p).length : Int), desc anc ps p⟩ := by
  have := addAll_f (anc := anc) (ps := ps) ps (fun _ => 0) (fun _ => []) F.nd fun p hp => F.anodup _ p hp rfl
  refine Eq.trans this (List.map_congr_left fun p hp => ?_)
  dsimp only [nmk]
  rw [if_pos hp, List.nil_append, Int.zero_add]; rfl
/-- what the sorter holds behind both loops, told of the infos -/
theorem acyc_of {anc : Str → List Str} {ps : List Str} {is : List Info} (F : Forest anc ps) (h : absI is = ps.map fun p => ⟨p, ((anc p).length : Int), desc anc ps p⟩) : Acyc is fun p => (anc p).length := by
  intro i hi q hq
  have h1 : i.abs ∈ absI is := List.mem_map_of_mem hi
  rw [h] at h1
  obtain ⟨p, hp, e⟩ := List.mem_map.mp h1
  have e1 : p = i.key := congrArg Nd.key e
  have e3 : desc anc ps p = i.succ.map (·.1) := congrArg Nd.succ e
  have hq' : q.1 ∈ desc anc ps p := e3 ▸ List.mem_map_of_mem hq
  obtain ⟨h2, h3⟩ := mem_desc.mp hq'
  have h4 : (⟨q.1, ((anc q.1).length : Int), desc anc ps q.1⟩ : Nd) ∈ absI is := by rw [h]; exact List.mem_map_of_mem (f := fun p => (⟨p, ((anc p).length : Int), desc anc ps p⟩ : Nd)) h2
  obtain ⟨j, hj, ej⟩ := List.mem_map.mp h4
  exact ⟨j, hj, congrArg Nd.key ej, e1 ▸ F.lt h2 h3⟩
theorem ready_of {anc : Str → List Str} {ps : List Str} {is : List Info} (h : absI is = ps.map fun p => ⟨p, ((anc p).length : Int), desc anc ps p⟩) : ((is.filter fun j => decide (j.np = 0)).map fun j => (j.key, j.kt)).map (·.1) = ps.filter fun p => decide ((anc p).length = 0) := by
  have h1 : ((is.filter fun j => decide (j.np = 0)).map fun j => (j.key, j.kt)).map (·.1) = ((absI is).filter fun n => decide (n.np = 0)).map (·.key) := by
    unfold absI
    rw [List.map_map, List.filter_map, List.map_map]
    rfl
  rw [h1, h, List.filter_map, List.map_map]
  have : (ps.filter ((fun n : Nd => decide (n.np = 0)) ∘ fun p => ⟨p, ((anc p).length : Int), desc anc ps p⟩)) = ps.filter fun p => decide ((anc p).length = 0) := by
    refine List.filter_congr fun p _ => ?_
    show decide (((anc p).length : Int) = 0) = _
    rw [Bool.eq_iff_iff, decide_eq_true_iff, decide_eq_true_iff]; omega
  rw [this]
  refine (List.map_congr_left fun p _ => ?_).trans (List.map_id _)
  rfl
end Mine
end

section
open PySem PySem.W PyProof.Rows PySem.Calls 
local macro_rules | `(tactic| ktr_unf) => `(tactic| repeat' ((fail_if_success (with_reducible show wpAny _ _ (exec (Stmt.For _ _ _ _ _) _) _ _ _)); (fail_if_success (with_reducible show wpAny _ _ (exec (Stmt.While _ _ _ _) _) _ _ _)); (fail_if_success (with_reducible show wpAny _ _ (exec (Stmt.Try _ _ _ _ _) _) _ _ _)); first | (k_unfold; (try dsimp only)) | (k_end; wrow_close) | walk1 | (dsimp only; walk1) | (leave1; (try dsimp only)) | fail "no step"))
namespace Mine
section
variable {prog : Program} {w : World} {p₀ : Program} {loose : List Str} {mean : ExcName → Option Value} {mg mb : Str → Option Value} {h₀ : Heap} {s : Shared}
  {dp un : Nat} {gd : Option (List Code)} {fr : List Env} {R : Result → Shared → Prop}
theorem law_walk {pl : Addr} {ps : List (Str × Nat)} {c : Nat} {anc : Str → List Str}
    (X : (hz.heap_251 w.params).In h₀) (T : Top p₀ loose mean mg mb h₀) (K : h₀.StaysIn s.heap) (hpl : s.heap.get? pl = some (W.listOf (ps.map sv).toArray c)) (hd : dp + 100 < 900) (hun : un + 200 < 8000)
    (hff : s.heap.FunFrames h₀ fr) (hplf : pl ∉ frs fr) (hgs : AllBare s.gens) (hps : ps.length ≤ 50) (Fo : Forest anc (ps.map (·.1))) (hpo : ∀ q ∈ ps, PlaceOk anc q.1)
    (hret : ∀ h' tk' gens' wk (os : List (Str × Nat)) c', (∀ b o, s.heap.get? b = some o → b ∉ frs fr → h'.get? b = some o) → UpF fr s.heap h' → h'.FunFrames h₀ fr → AllBare gens' → s.heap.get? wk = none → h'.get? wk = some (W.listOf (os.map sv).toArray c') → Good anc (ps.map (·.1)) (os.map (·.1)) →
      R (.ok (.ret (.ref wk))) { s with heap := h', toks := tk', gens := gens' }) :
    codeAny (model prog w) (Ar dp un gd fr) (.call (.ref 244) ⟨[.ref pl], []⟩) R s := by
  have hrl : recursionLimit = 1000 := rfl
  refine enterR X T K (E := []) (fun _ h => absurd h List.not_mem_nil) (by omega) (ko244 _) (by k_is) (binds := [("places", .ref pl)]) (BindsTo.of_eq rfl) (locs rfl) ?_ (by decide) rfl rfl rfl
  intro g L' h₁ tk hL F N X1 T1 hlt hg
  refine wpAny_mono (E := fun _ _ => False) ?_ (fun _ _ q => q) fun _ _ f => f.elim
  have up0 : ∀ b o, s.heap.get? b = some o → g.get? b = some o := fun b o e => hg b o e List.not_mem_nil
  have gpl := up0 _ _ hpl
  conv in execs _ _ => arg 1; whnf
  ktr_unf
  refine wpAny_call (PySem.W.make_K F N (X1.keeps F.keep) (by k_is) (by k_is) (by k_is) ?_)
  intro x dx h2 F2 N2 l1 l2
  refine weakC (dp := dp + 10) (un := un + 50) (srtinit X1 T1 F2.keep (newsLed N2 fun q hq => hq) (by omega) l2 ?_) rfl (by show dp + 1 + 1 ≤ dp + 10; omega) (by first | (show un + 3 + 1 ≤ un + 50; omega) | (show un + 3 + 1 + 1 ≤ un + 50; omega) | (show un + 3 ≤ un + 50; omega))
  intro h3 tk3 nd od k1 k2 k3 k4 t1 t2 kp fnd n1 n2 lo hod hx hdx hnd
  refine ⟨rfl, ?_⟩
  have F3 := frKept' F2 kp (by intro b hb; rcases List.mem_cons.mp hb with z | z; exact z ▸ (N2 _ (.head _)).2; exact (List.mem_singleton.mp z) ▸ (N2 _ (.tail _ (.head _))).2)
  have fN := fresh_none (env := lwEnv L') (s := { s with heap := h2, toks := tk }) F2 fnd
  have N3 : News g L' h3 [(x, instObj 226 dx), (dx, sDict w k1 k2 k3 k4 nd .none 0 0 t1 t2 4), (nd, od)] := nCons ⟨hx, (N2 _ (.head _)).2⟩ (nCons ⟨hdx, (N2 _ (.tail _ (.head _))).2⟩ (nCons ⟨hnd, fN⟩ nNil))
  clear F N F2 N2 kp
  dsimp only
  ktr_unf
  rename Fr g L' _ _ => F4
  rename News g L' _ _ => N4
  obtain ⟨S, hSx, hpo0, hnf0, hS, Ph0⟩ : ∃ S : Srt, S.x = x ∧ S.po = 0 ∧ S.nf = 0 ∧ Sd S ∧ Ph1 prog w S (fun a => g.get? a = none ∧ a ≠ L') _ od [] :=
    ⟨{ x := x, dx := dx, nd := nd, rd := 0, k1, k2, k3, k4, po := 0, nf := 0, t1, t2, c := 0, rs := [], od, is := [] }, rfl, rfl, rfl, ⟨lo, Nat.ne_of_gt l2, n1.symm, n2.symm⟩,
      ⟨(N4 _ (.head _)).1, (N4 (dx, sDict w k1 k2 k3 k4 nd .none 0 0 t1 t2 4) (.tail _ (.head _))).1, (N4 (nd, od) (.tail _ (.tail _ (.head _)))).1, fun q hq => absurd hq List.not_mem_nil, hod, ⟨List.nodup_nil, fun i hi => absurd hi List.not_mem_nil, fun i hi => absurd hi List.not_mem_nil⟩, fun a ha => absurd ha List.not_mem_nil,
        fun a ha => (forall_cons (P := fun a => g.get? a = none ∧ a ≠ L') (N4 _ (.head _)).2.symm (forall_cons (N4 (dx, sDict w k1 k2 k3 k4 nd .none 0 0 t1 t2 4) (.tail _ (.head _))).2.symm (forall_cons (N4 (nd, od) (.tail _ (.tail _ (.head _)))).2.symm (fun _ h => absurd h List.not_mem_nil)))) a ha⟩⟩
  have hnd' : (ps.map (·.1)).Nodup := Fo.nd
  refine lw_one (od := od) (pl := pl) X1 T1 (by omega) (by omega) F4 rfl (by rw [hSx]; rfl) gpl (by omega) hnd' hS Ph0 ?_
  intro h4 tk4 m4 od4 is4 m4p m4s F5 P5 hab5
  clear F4 N4 Ph0
  dsimp only
  ktr_unf
  have lenE : is4.length = ps.length := by
    have := congrArg List.length hab5
    unfold absI at this
    rwa [List.length_map, List.length_map] at this
  have ffm : ∀ b ∈ frs fr, ∃ o, s.heap.get? b = some o := fun b hb => let ⟨_, o, ho, _⟩ := hff.mem hb; ⟨o, ho⟩
  have hLf : L' ∉ frs fr := fun hb => by
    obtain ⟨o, ho⟩ := ffm _ hb
    rw [hL] at ho; cases ho
  have st5 : h₀.StaysIn (hideAll g (frs fr)) := fun b o q => hideAll_get _ (up0 b o (K b o q)) fun hm => by rw [(hff.mem hm).1] at q; cases q
  have X5 := X.keeps st5
  have T5 := T.keeps st5
  have F6 : Fr (hideAll g (frs fr)) L' h4 m4 := ⟨F5.ns, fun b o q => F5.keep b o (of_hideAll _ q), by rw [hideAll_size]; exact F5.above⟩
  have gn : ∀ b, g.get? b = none → (hideAll g (frs fr)).get? b = none := fun b hb => by
    cases q : (hideAll g (frs fr)).get? b with
    | none => rfl
    | some o => rw [of_hideAll _ q] at hb; cases hb
  have gf : ∀ b ∈ frs fr, (hideAll g (frs fr)).get? b = none := fun b hb => hideAll_none _ hb
  have up5 : ∀ b o, s.heap.get? b = some o → b ∉ frs fr → (hideAll g (frs fr)).get? b = some o := fun b o e n => hideAll_get _ (up0 b o e) n
  have gpl5 := up5 _ _ hpl hplf
  have ffk : ∀ b ∈ frs fr, ∀ o, s.heap.get? b = some o → h4.get? b = some o := fun b _ o e => F5.keep b o (up0 b o e)
  have gLn : (hideAll g (frs fr)).get? L' = none := by
    cases q : (hideAll g (frs fr)).get? L' with
    | none => rfl
    | some o => exact absurd (Nat.lt_of_lt_of_le (Heap.lt_size q) F6.above) (Nat.lt_irrefl _)
  have P6 : Ph1 prog w S (fun a => ((hideAll g (frs fr)).get? a = none ∧ a ≠ L') ∧ a ∉ frs fr) h4 od4 is4 := ⟨P5.hx, P5.hdx, P5.hnd, P5.infos, P5.od, P5.wf, P5.off, fun a ha => ⟨⟨gn a (P5.own a ha).1, (P5.own a ha).2⟩, fun hm => by
    obtain ⟨o, ho⟩ := ffm a hm
    have := (P5.own a ha).1
    rw [up0 _ _ ho] at this; cases this⟩⟩
  have ff4 : h4.FunFrames (hideAll g (frs fr)) fr := ff_base (ff_keep hff ffk) gf
  have inK : ∀ a ∈ ps.map (·.1), ∃ j ∈ is4, j.key = a := fun a ha => by
    obtain ⟨q, hq, rfl⟩ := List.mem_map.mp ha
    have : (⟨q.1, 0, []⟩ : Nd) ∈ absI is4 := by rw [hab5]; exact List.mem_map_of_mem (f := fun q : Str × Nat => (⟨q.1, 0, []⟩ : Nd)) hq
    obtain ⟨j, hj, e⟩ := List.mem_map.mp this
    exact ⟨j, hj, congrArg Nd.key e⟩
  generalize hG : hideAll g (frs fr) = g5 at *
  clear F5 P5
  refine lw_two (od := od4) (is := is4) (anc := anc) (pl := pl) X5 T5 (by omega) (by omega) F6 m4p m4s gpl5 hps hS P6 ff4 hLf hgs gf hpo (fun q hq a ha => inK a (Fo.mem q.1 (List.mem_map_of_mem hq) a ha)) (fun q hq => inK q.1 (List.mem_map_of_mem hq)) (fun n hn => by
    rw [hab5] at hn
    obtain ⟨q, _, rfl⟩ := List.mem_map.mp hn
    exact Nat.le_refl _) (by omega) ?_
  intro h5 tk5 gens5 m5 is5 m5p m5s F7 P7 hab6 hpl6 hgs6 U6 ff6
  clear F6 P6
  have hab7 : absI is5 = (ps.map (·.1)).map fun p => ⟨p, ((anc p).length : Int), desc anc (ps.map (·.1)) p⟩ := by
    rw [hab6, hab5, ← addAll_start Fo, List.map_map]; rfl
  have lenE5 : is5.length = ps.length := by
    have := congrArg List.length hab7
    unfold absI at this
    rwa [List.length_map, List.length_map, List.length_map] at this
  dsimp only
  have F8 := Fr.pin F7 (y₀ := "sorter") m5s
  have N8 : News g5 L' h5 [(S.x, instObj 226 S.dx), (S.dx, S.sd w .none)] := nCons ⟨P7.hx, (P7.own _ (.head _)).1.2, (P7.own _ (.head _)).1.1⟩ (nCons ⟨P7.hdx, (P7.own _ (.tail _ (.head _))).1.2, (P7.own _ (.tail _ (.head _))).1.1⟩ nNil)
  clear F7
  ktr_unf
  have ffE : h5.FunFrames g5 (lwEnv L' :: fr) := .cons (show ScopeKind.function ≠ ScopeKind.module by decide) rfl F8.ns gLn ff6
  have nfE : ∀ b ∈ frs (lwEnv L' :: fr), b ∉ [S.x, S.dx, S.nd] ++ adI is5 := fun b hb hm => by
    rcases List.mem_cons.mp hb with z | hb
    · exact (P7.own b hm).1.2 z
    · exact (P7.own b hm).2 hb
  have LP : Led g5 h5 ([(S.x, instObj 226 S.dx), (S.dx, sDict w S.k1 S.k2 S.k3 S.k4 S.nd .none S.po S.nf S.t1 S.t2 4), (S.nd, od4)] ++ ledI is5) := fun q hq => by
    rcases List.mem_append.mp hq with hq | hq
    · exact forall_cons (P := fun q : Addr × Obj => h5.get? q.1 = some q.2 ∧ g5.get? q.1 = none) ⟨P7.hx, (P7.own _ (.head _)).1.1⟩ (forall_cons ⟨P7.hdx, (P7.own _ (.tail _ (.head _))).1.1⟩ (forall_cons ⟨P7.hnd, (P7.own _ (.tail _ (.tail _ (.head _)))).1.1⟩ (fun _ h => absurd h List.not_mem_nil))) q hq
    · exact ⟨P7.infos q hq, (P7.own _ (List.mem_append_right _ (keys_ledI.mp (List.mem_map_of_mem hq)))).1.1⟩
  refine wpAny_call (prepare (h₀ := g5) X5 T5 F8.keep LP (by omega) P7.wf P7.off hS.d1 hS.d2 hS.d3 P7.od hS.lo (by omega) (acyc_of Fo hab7) ffE nfE ?_)
  intro h6 tk6 rd c6 hrd kp6 U7 ff7 hdx6 hrd6
  dsimp only
  have g5f : ∀ b o, g5.get? b = some o → b ≠ L' ∧ b ∉ frs fr ∧ b ≠ S.dx := fun b o e => ⟨fun z => (by rw [z, gLn] at e; cases e), fun hm => (by rw [gf b hm] at e; cases e), fun z => (by rw [z, (P7.own _ (.tail _ (.head _))).1.1] at e; cases e)⟩
  have nE : ∀ b, b ≠ L' → b ∉ frs fr → b ∉ frs (lwEnv L' :: fr) := fun b n1 n2 hm => (List.mem_cons.mp hm).elim n1 n2
  have F9 := fr_up F8 (fun o e n => U7 L' (.head _) o e n) (fun b o e => kp6 b o (F8.keep b o e) (g5f b o e).2.2 (nE b (g5f b o e).1 (g5f b o e).2.1))
  have frd := fresh_none (env := lwEnv L') (s := { s with heap := h5, toks := tk5 }) F8 hrd
  have rdE : ∀ b ∈ [S.x, S.dx, S.nd] ++ adI is5, @Ne Nat b rd := fun b hb z => by
    have : ∃ o, h5.get? b = some o := by
      rcases List.mem_append.mp hb with hb | hb
      · exact forall_cons (P := fun b => ∃ o, h5.get? b = some o) ⟨_, P7.hx⟩ (forall_cons ⟨_, P7.hdx⟩ (forall_cons ⟨_, P7.hnd⟩ (fun _ h => absurd h List.not_mem_nil))) b hb
      · obtain ⟨q, hq, rfl⟩ := List.mem_map.mp (keys_ledI.mpr hb)
        exact ⟨_, P7.infos q hq⟩
    obtain ⟨o, ho⟩ := this
    rw [z, hrd] at ho; cases ho
  have rdf : rd ∉ frs fr := fun hm => by
    obtain ⟨_, o, ho, _⟩ := ff6.mem hm
    rw [hrd] at ho; cases ho
  have at6 : ∀ b o, b ∈ [S.x, S.nd] ++ adI is5 → h5.get? b = some o → h6.get? b = some o := fun b o hb e => by
    have hm : b ∈ [S.x, S.dx, S.nd] ++ adI is5 := by
      rcases List.mem_append.mp hb with hb | hb
      · rcases List.mem_cons.mp hb with z | hb
        · exact z ▸ .head _
        · rw [List.mem_singleton.mp hb]; exact .tail _ (.tail _ (.head _))
      · exact List.mem_append_right _ hb
    refine kp6 b o e ?_ (nE b (P7.own b hm).1.2 (P7.own b hm).2)
    rcases List.mem_append.mp hb with hb | hb
    · rcases List.mem_cons.mp hb with z | hb
      · rw [z]; exact hS.d1
      · rw [List.mem_singleton.mp hb]; exact hS.d3.symm
    · exact (P7.off b hb).2.1
  obtain ⟨S', hx', ho', hn', hr', hS'⟩ : ∃ S' : Srt, S'.x = S.x ∧ S'.po = 0 ∧ S'.nf = 0 ∧ absI S'.is = absI is5 ∧ S'.rs.map (·.1) = (ps.map (·.1)).filter (fun p => decide ((anc p).length = 0)) ∧ S'.Ok prog w ∧ At h6 (S'.led w) ∧ ∀ a ∈ S'.ads, (g5.get? a = none ∧ a ≠ L') ∧ a ∉ frs fr := by
    have rsm : ∀ q ∈ (is5.filter fun j => decide (j.np = 0)).map fun j => (j.key, j.kt), ∃ j ∈ is5, j.key = q.1 := fun q hq => by
      obtain ⟨j, hj, rfl⟩ := List.mem_map.mp hq
      exact ⟨j, (List.mem_filter.mp hj).1, rfl⟩
    refine ⟨{ S with rd := rd, c := c6, rs := (is5.filter fun j => decide (j.np = 0)).map fun j => (j.key, j.kt), od := od4, is := is5 }, rfl, hpo0, hnf0, rfl, ready_of hab7, ⟨P7.wf, fun a ha => ⟨(P7.off a ha).1, (P7.off a ha).2.1, (P7.off a ha).2.2, rdE a (List.mem_append_right _ ha)⟩, P7.od, hS.lo, ?_, rsm, hS.d1, hS.d2, rdE _ (.head _), hS.d3, rdE _ (.tail _ (.head _)), rdE _ (.tail _ (.tail _ (.head _)))⟩, ?_, fun a ha => ?_⟩
    · dsimp only
      rw [List.length_map]
      exact Nat.le_trans (List.length_filter_le ..) (by omega)
    · intro q hq
      rcases List.mem_append.mp hq with hq | hq
      · exact forall_cons (P := fun q : Addr × Obj => h6.get? q.1 = some q.2) (at6 _ _ (.head _) P7.hx) (forall_cons hdx6 (forall_cons (at6 _ _ (.tail _ (.head _)) P7.hnd) (forall_cons hrd6 (fun _ h => absurd h List.not_mem_nil)))) q hq
      · exact at6 _ _ (List.mem_append_right _ (keys_ledI.mp (List.mem_map_of_mem hq))) (P7.infos q hq)
    · rcases List.mem_append.mp ha with ha | ha
      · exact forall_cons (P := fun a => (g5.get? a = none ∧ a ≠ L') ∧ a ∉ frs fr) (P7.own _ (.head _)) (forall_cons (P7.own _ (.tail _ (.head _))) (forall_cons (P7.own _ (.tail _ (.tail _ (.head _)))) (forall_cons ⟨⟨frd.2, frd.1⟩, rdf⟩ (fun _ h => absurd h List.not_mem_nil)))) a ha
      · exact P7.own a (List.mem_append_right _ ha)
  obtain ⟨hr2', ok', at', own'⟩ := hS'
  have U8 : UpF fr s.heap h6 := UpF.trans (UpF.refl.keep ffk) (UpF.trans U6 fun b hb o e n => U7 b (.tail _ hb) o e n)
  have ff8 : ∀ b ∈ frs fr, ∃ o, h6.get? b = some o := fun b hb => by
    obtain ⟨_, o, ho, hv⟩ := ff6.mem hb
    obtain ⟨sl, e⟩ := U7 b (.tail _ hb) o ho (by first | exact hv | (intro vs q; rw [q] at hv; cases hv) | (intro vs q; simp_all))
    exact ⟨_, e⟩
  obtain ⟨rest, hr1, hr2⟩ := restX g5 h6 [L']
  have N9 : News g5 L' h6 rest := fun q hq => ⟨(hr1 q hq).1, fun z => (hr1 q hq).2.1 (z ▸ .head _), (hr1 q hq).2.2⟩
  clear F8 N8 P7 LP
  ktr_unf
  rename_i wt _ l1a _ _ wk _ l1b h7 F10 N10
  have rlt1 : ∀ q ∈ rest, q.1 < wt := l1a
  have rlt2 : ∀ q ∈ rest, q.1 < wk := allLt_to l1b.2
  have newA : ∀ a, (∀ q ∈ rest, q.1 < a) → g5.get? a = none → a ≠ L' → a ∉ S'.ads ∧ a ∉ frs fr := fun a hlt ga aL => by
    refine ⟨fun hm => ?_, fun hm => ?_⟩
    · obtain ⟨q, hq, e⟩ := S'.ads_led (w := w) hm
      have := hlt q (hr2 q.1 q.2 (at' q hq) (nm1 (e ▸ aL)) (e ▸ ga))
      rw [e] at this
      exact absurd this (Nat.lt_irrefl _)
    · obtain ⟨o, ho⟩ := ff8 a hm
      exact absurd (hlt (a, o) (hr2 a o ho (nm1 aL) ga)) (Nat.lt_irrefl _)
  have wk1 := N10 (wk, W.listOf #[] 0) (.head _)
  have wt1 := N10 (wt, W.listOf #[] 0) (.tail _ (.head _))
  obtain ⟨a1, a2⟩ := newA wk rlt2 wk1.2.2 wk1.2.1
  obtain ⟨a3, a4⟩ := newA wt rlt1 wt1.2.2 wt1.2.1
  have P10 : Ph2 prog w S' (fun a => g5.get? a = none ∧ a ≠ L') h7 := ⟨fun q hq => (N10 q (.tail _ (.tail _ (hr2 q.1 q.2 (at' q hq) (nm1 (own' _ (S'.led_ads hq)).1.2) (own' _ (S'.led_ads hq)).1.1)))).1, ok', fun a ha => (own' a ha).1⟩
  obtain ⟨out, hout, hgood⟩ := runs Fo
  rw [← hr2', ← hab7, ← hr'] at hout
  refine lw_while (S := S') (ws := []) (kk := []) X5 T5 (by omega) (by omega) F10 (by rw [hx']; rfl) rfl rfl P10 wt1.1 wk1.1 wt1.2.2 wk1.2.2 wt1.2.1 wk1.2.1 a3 a1 (Nat.ne_of_lt l1b.1) (by rw [ho', hn']; rfl) hout ?_
  intro h8 tk8 m8 os c8 m8w F11 hwk8 hos kp8
  dsimp only
  have F12 := Fr.pin F11 (y₀ := "walk") m8w
  have at7 : ∀ b o, h6.get? b = some o → b ≠ L' → g5.get? b = none → h7.get? b = some o := fun b o e n k => (N10 (b, o) (.tail _ (.tail _ (hr2 b o e (nm1 n) k)))).1
  clear F10 N10 F11
  have N12 := nNil (h₀ := g5) (L := L') (h := h8)
  ktr_unf
  show RetTo R (.ret (.ref wk)) _
  have ffk8 : ∀ b ∈ frs fr, ∀ o, h6.get? b = some o → h8.get? b = some o := fun b hb o e => by
    have bL : b ≠ L' := fun z => hLf (z ▸ hb)
    refine kp8 b o (fun hm => ?_) (at7 b o e bL (gf b hb))
    rcases List.mem_append.mp hm with hm | hm
    · rcases List.mem_cons.mp hm with z | hm
      · exact bL z
      · exact a2 (List.mem_singleton.mp hm ▸ hb)
    · exact (own' b hm).2 hb
  have U9 : UpF fr s.heap h8 := U8.keep ffk8
  refine hret h8 _ gens5 wk os c8 (fun b o e n => F12.keep b o (up5 b o e n)) U9 (ff_up hff U9) hgs6 ?_ hwk8 (hos ▸ hgood)
  cases q : s.heap.get? wk with
  | none => rfl
  | some o => have := up5 _ _ q a2; rw [wk1.2.2] at this; cases this
end
end Mine
end

section
open PySem PySem.W PyProof.Rows PySem.Calls 
namespace Mine
section
variable {prog : Program} {w : World} {A : Around} {E : Value → Shared → Prop} {s : Shared} {env : Env} {g : Heap} {x : Str} {body : List Stmt} {Q : Flow → Shared → Prop} {m : Str → Option Value}
theorem loop_range {r : Addr} {n : Nat} {t u v : Tok} (hr : IsRange s.heap r 0 n 1 t u v) (hsm : Builtin.Range.small 0 n 1 = true) (hsz : Builtin.Range.rangeSize 0 n 1 = n) (hh : A.handled = none)
    (F : Fr g env.locals s.heap m) (Inv : Addr → Nat → Heap → (Str → Option Value) → Prop) (h0 : ∀ I, s.heap.get? I = none → Inv I 0 s.heap m)
    (stab : ∀ I i h h' m, s.heap.get? I = none → Inv I i h m → Keep [env.locals, I] h h' → Inv I i h' m)
    (turn : ∀ I (i : Nat) t h tk m oI, s.heap.get? I = none → i < n → Inv I i h m → Fr g env.locals h (fun y => if y = x then some (.int i t) else m y) → h.get? I = some oI → I ≠ env.locals ∧ g.get? I = none →
      wpAny (model prog w) A (execs body env) (TurnH g env.locals [I] h (Inv I (i + 1)) s Q) E { s with heap := h, toks := tk })
    (done : ∀ I h tk m, s.heap.get? I = none → Inv I n h m → Fr g env.locals h m → Q .next { s with heap := h, toks := tk }) :
    wpAny (model prog w) A (pyIter (.ref r)) (fun it s₂ => LoopH prog w A g env x body Q E it s₂) E s := by
  refine wpAny_pyIter_range hr hsm ?_
  rw [hsz]
  have nI : s.heap.get? s.heap.objs.size = none := noneAt
  have fI := fresh_none F nI
  have up : ∀ b o, s.heap.get? b = some o → (s.heap.push { cls := .type "range_iterator", data := .fields #[rawInt 0, rawInt n, rawInt 1] }).get? b = some o := fun b o e => Heap.get?_push_of_some _ e
  have hI : (s.heap.push { cls := .type "range_iterator", data := .fields #[rawInt 0, rawInt n, rawInt 1] }).get? s.heap.objs.size = some { cls := .type "range_iterator", data := .fields #[rawInt 0, rawInt n, rawInt 1] } := Heap.get?_push_size _ rfl
  refine ⟨_, [s.heap.objs.size], [s.heap.objs.size], n, _, _, m, fun i h m => Inv s.heap.objs.size i h m, rfl, LCg.range_walks hh 0 n, ?_, ?_, ?_, F.push _, stab _ _ _ _ _ nI (h0 _ nI) fun b o _ e => up b o e, ?_, ?_, ?_⟩
  · intro hm; exact fI.1 (List.mem_singleton.mp hm).symm
  · intro b hb; rw [List.mem_singleton.mp hb]; exact fI.2
  · show _ = _
    rw [hI]; simp
  · intro i h h' m hJ k
    exact stab _ _ _ _ _ nI hJ k
  · intro i v h tk m' hi hv hst hJ F'
    obtain ⟨t, rfl⟩ := hv
    have hst' : h.get? s.heap.objs.size = some _ := hst
    rw [Int.zero_add] at F'
    refine wpAny_mono (turn _ i t h tk m' _ nI hi hJ F' hst' fI) (fun f s' hf => ?_) fun _ _ e => e
    have fin : (∃ h'' tk m', s' = { s with heap := h'', toks := tk } ∧ (∀ b ∈ [s.heap.objs.size], ∀ o, h.get? b = some o → h''.get? b = some o) ∧ Fr g env.locals h'' m' ∧ Inv s.heap.objs.size (i + 1) h'' m') →
        ∃ h'' tk m', s' = { s with heap := h'', toks := tk } ∧ (∀ b ∈ [s.heap.objs.size], ∀ o, h.get? b = some o → h''.get? b = some o) ∧ Fr g env.locals h'' m' ∧ Inv s.heap.objs.size (i + 1) h'' m' := id
    cases f with
    | ret v => exact hf
    | brk => exact hf
    | cont => exact fin hf
    | next => exact fin hf
  · intro h tk m' hJ F'
    exact done _ h tk m' nI hJ F'
end
end Mine
end

section
open PySem PySem.W PyProof.Rows PySem.Calls 
local macro_rules | `(tactic| walk_at "unused 0") => `(tactic| fail "unused")
local macro_rules | `(tactic| walk_at "unused 1") => `(tactic| fail "unused")
local macro_rules | `(tactic| walk_at "unused 2") => `(tactic| fail "unused")
namespace Mine
local macro_rules | `(tactic| k_ne) => `(tactic| (refine neN ?_; (try dsimp only); first | assumption | (refine Ne.symm ?_; assumption) | omega))
/-- the places that _law_tree makes, and what lies above each -/
inductive Tree : List Str → List (List Str) → Prop
  | nil : Tree [] []
  | top {ps : List Str} {ab : List (List Str)} {n : Int} : Tree ps ab → 0 ≤ n → n ≤ 2 → Tree (ps ++ [Txt.mul (Str.ofString "/") n ++ Txt.item (Str.ofString "abcdefg") (ps.length : Nat)]) (ab ++ [[]])
  | sub {ps : List Str} {ab : List (List Str)} {n : Int} {i : Nat} {p : Str} {a : List Str} : Tree ps ab → 0 ≤ n → n ≤ 2 → ps[i]? = some p → ab[i]? = some a →
      Tree (ps ++ [p ++ Str.ofString "/" ++ Txt.mul (Str.ofString "/") n ++ Txt.item (Str.ofString "abcdefg") (ps.length : Nat)]) (ab ++ [p :: a])
theorem mul_len {n : Int} (h2 : n ≤ 2) : (Txt.mul (Str.ofString "/") n).length ≤ 2 := len_mul_one (c := 47) rfl h2
theorem Tree.len {ps : List Str} {ab : List (List Str)} (h : Tree ps ab) : (∀ p ∈ ps, p.length ≤ 4 * ps.length) ∧ ab.length = ps.length := by
  induction h with
  | nil => exact ⟨fun p hp => absurd hp List.not_mem_nil, rfl⟩
  | top h h0 h2 ih =>
    refine ⟨fun p hp => ?_, by rw [List.length_append, List.length_append, ih.2]; rfl⟩
    rw [List.length_append, List.length_singleton]
    rcases List.mem_append.mp hp with hp | hp
    · have := ih.1 p hp; omega
    · rw [List.mem_singleton.mp hp]
      have := mul_len h2
      have e : ∀ a b : Str, (a ++ b).length = a.length + b.length := fun a b => Array.size_append
      rw [e]
      have : ∀ i : Int, (Txt.item (Str.ofString "abcdefg") i).length = 1 := fun _ => rfl
      rw [this]; omega
  | @sub ps ab n i p a h h0 h2 hp ha ih =>
    refine ⟨fun q hq => ?_, by rw [List.length_append, List.length_append, ih.2]; rfl⟩
    rw [List.length_append, List.length_singleton]
    rcases List.mem_append.mp hq with hq | hq
    · have := ih.1 q hq; omega
    · rw [List.mem_singleton.mp hq]
      have := mul_len h2
      have := ih.1 p (List.mem_of_getElem? hp)
      have e : ∀ a b : Str, (a ++ b).length = a.length + b.length := fun a b => Array.size_append
      rw [e, e, e]
      have : ∀ i : Int, (Txt.item (Str.ofString "abcdefg") i).length = 1 := fun _ => rfl
      rw [this]
      have : (Str.ofString "/").length = 1 := rfl
      rw [this]; omega
theorem Tree.alen {ps : List Str} {ab : List (List Str)} (h : Tree ps ab) : ∀ a ∈ ab, a.length ≤ ab.length := by
  induction h with
  | nil => exact fun p hp => absurd hp List.not_mem_nil
  | top h h0 h2 ih =>
    intro a ha
    rw [List.length_append, List.length_singleton]
    rcases List.mem_append.mp ha with ha | ha
    · have := ih a ha; omega
    · rw [List.mem_singleton.mp ha]; exact Nat.zero_le _
  | sub h h0 h2 hp ha' ih =>
    intro a ha
    rw [List.length_append, List.length_singleton]
    rcases List.mem_append.mp ha with ha | ha
    · have := ih a ha; omega
    · rw [List.mem_singleton.mp ha]
      have := ih _ (List.mem_of_getElem? ha')
      rw [List.length_cons]; omega
/-- a list of texts in the heap -/
structure Row where
  a : Addr
  l : List (Str × Nat)
  n : Nat
noncomputable abbrev Row.obj (r : Row) : Obj := W.listOf (r.l.map sv).toArray r.n
noncomputable def rowE (rs : List Row) : List (Addr × Obj) := rs.map fun r => (r.a, r.obj)
noncomputable def rowT (rs : List Row) : List (List Str) := rs.map fun r => r.l.map (·.1)
noncomputable abbrev rowV (rs : List Row) : List Value := rs.map fun r => Value.ref r.a
theorem rowE_app {rs : List Row} {r : Row} : rowE (rs ++ [r]) = rowE rs ++ [(r.a, r.obj)] := by unfold rowE; rw [List.map_append]; rfl
theorem rowT_app {rs : List Row} {r : Row} : rowT (rs ++ [r]) = rowT rs ++ [r.l.map (·.1)] := by unfold rowT; rw [List.map_append]; rfl
theorem ints_sub {vs : List Value} {ns : List Int} (hi : IntsAre vs ns) : ∀ l : List Value, (∀ v ∈ l, v ∈ vs) → ∃ ms, IntsAre l ms
  | [], _ => ⟨[], .nil⟩
  | v :: l, h => by
    obtain ⟨ms, hm⟩ := ints_sub hi l fun x hx => h x (.tail _ hx)
    have hv := h v (.head _)
    have : ∃ n t, v = .int n t := by
      clear h hm
      induction hi with
      | nil => exact absurd hv List.not_mem_nil
      | cons n t _ ih =>
        rcases List.mem_cons.mp hv with e | hv
        · exact ⟨n, t, e⟩
        · exact ih hv
    obtain ⟨n, t, rfl⟩ := this
    exact ⟨n :: ms, .cons n t hm⟩
theorem pick_sub {a : Array Value} {lo hi st : Option Int} : ∀ v ∈ (slicePick a lo hi st).toList, v ∈ a.toList := fun v hv => by
  unfold slicePick at hv
  obtain ⟨i, _, e⟩ := List.mem_filterMap.mp hv
  exact Array.mem_toList_iff.mpr (Array.mem_of_getElem? e)
section
variable {prog : Program} {w : World} {p₀ : Program} {loose : List Str} {mean : ExcName → Option Value} {mg mb : Str → Option Value} {h₀ : Heap} {s : Shared}
  {dp un : Nat} {R : Result → Shared → Prop}
theorem item_at {A : Around} {E : Value → Shared → Prop} {L l : Addr} {news : List (Addr × Obj)} {vs : List Value} {c o : Nat} {u : Tok} {v : Value} {value slice : Expr} {Q : Value → Shared → Prop} (N : News h₀ L s.heap news) (hm : (l, W.listOf vs.toArray c) ∈ news) (hv : vs[o]? = some v) (ho : o < 1000) (h : Q v s)
    (hs : subscripted slice false (.ref l) (.int o u) = operate [.ref l, .int o u] (getItem (.ref l) (.int o u)) := by with_unfolding_all rfl) : wpAny (model prog w) A (subscriptTail value slice (.ref l) (.int o u)) Q E s :=
  item_litK (News.isList N hm) (by omega) (by omega) (by rw [Int.toNat_natCast]; exact hv) h hs
local macro_rules | `(tactic| walk_at "subscriptTail") => `(tactic| (k_here; (with_unfolding_all refine' item_at ?k1 ?k2 ?k3 ?k4 ?_ ?k5; (case k1 => k_asm); (case k2 => k_mem); (case k3 => first | with_reducible assumption | with_reducible (apply_assumption)); (case k4 => omega); (case k5 => with_unfolding_all rfl))))
noncomputable abbrev ltEnv (L' : Addr) : Env := envOf "_law_tree" (fnS st237) L' 237 (.ref 236)
noncomputable def ltF : Stmt := stN (fnB st237) 3
noncomputable def ltB : List Stmt := match ltF with | .For _ _ b _ _ => b | _ => []
/-- the heap between the turns of _law_tree -/
structure LtI (g : Heap) (L' I fx pl ab : Addr) (fv : List Value) (h : Heap) (ps : List (Str × Nat)) (rs : List Row) (c1 c2 c3 : Nat) : Prop where
  hfx : h.get? fx = some (W.listOf fv.toArray c1)
  hpl : h.get? pl = some (W.listOf (ps.map sv).toArray c2)
  hab : h.get? ab = some (W.listOf (rowV rs).toArray c3)
  rows : At h (rowE rs)
  own : ∀ r ∈ rs, g.get? r.a = none ∧ r.a ≠ L' ∧ r.a ≠ I ∧ r.a ≠ fx ∧ r.a ≠ pl ∧ r.a ≠ ab
  tree : Tree (ps.map (·.1)) (rowT rs)
noncomputable def ltI : Stmt := stN ltB 3
theorem lt_if {pl ab fx L' I : Addr} {g : Heap} {k : Nat} {t t1 t2 : Nat} {n ov : Int} {ps : List (Str × Nat)} {rs : List Row} {c1 c2 c3 : Nat} {fv : List Value} {m : Str → Option Value} {oI : Obj} {Q : Flow → Shared → Prop}
    (X : (hz.heap_251 w.params).In g) (T : Top p₀ loose mean mg mb g) (hd : dp + 20 < 900) (hk : k < 7) (hn0 : 0 ≤ n) (hn2 : n ≤ 2) (hov : ov < k)
    (F : Fr g L' s.heap m) (m3 : m "places" = some (.ref pl)) (m4 : m "above" = some (.ref ab)) (m5 : m "k" = some (.int k t)) (m6 : m "slashes" = some (.str (Txt.mul (Str.ofString "/") n) t1)) (m7 : m "over" = some (.int ov t2))
    (J : LtI g L' I fx pl ab fv s.heap ps rs c1 c2 c3) (hps : ps.length = k) (hrs : rs.length = k)
    (o1 : g.get? fx = none ∧ fx ≠ L' ∧ fx ≠ I) (o2 : g.get? pl = none ∧ pl ≠ L' ∧ pl ≠ I) (o3 : g.get? ab = none ∧ ab ≠ L' ∧ ab ≠ I) (d1 : @Ne Nat fx pl) (d2 : @Ne Nat fx ab) (d3 : @Ne Nat pl ab) (hI : s.heap.get? I = some oI) (gI : g.get? I = none) (IL : I ≠ L')
    (hQ : ∀ h' tk' ps' rs' c2' c3', Fr g L' h' m → LtI g L' I fx pl ab fv h' ps' rs' c1 c2' c3' → ps'.length = k + 1 → rs'.length = k + 1 → h'.get? I = some oI → Q .next { s with heap := h', toks := tk' }) :
    wpAny (model prog w) (Aw dp un) (exec ltI (ltEnv L')) Q (fun _ _ => False) s := by
  have F1 := Fr.pin (Fr.pin (Fr.pin (Fr.pin (Fr.pin F (y₀ := "places") m3) (y₀ := "above") m4) (y₀ := "k") m5) (y₀ := "slashes") m6) (y₀ := "over") m7
  have em : (fun y => if y = Str.ofString "over" then some (Value.int ov t2) else if y = Str.ofString "slashes" then some (.str (Txt.mul (Str.ofString "/") n) t1) else if y = Str.ofString "k" then some (Value.int k t) else if y = Str.ofString "above" then some (.ref ab) else if y = Str.ofString "places" then some (.ref pl) else m y) = m := by
    funext y
    by_cases q1 : y = Str.ofString "over"
    · rw [if_pos q1, q1, m7]
    · rw [if_neg q1]
      by_cases q2 : y = Str.ofString "slashes"
      · rw [if_pos q2, q2, m6]
      · rw [if_neg q2]
        by_cases q3 : y = Str.ofString "k"
        · rw [if_pos q3, q3, m5]
        · rw [if_neg q3]
          by_cases q4 : y = Str.ofString "above"
          · rw [if_pos q4, q4, m4]
          · rw [if_neg q4]
            by_cases q5 : y = Str.ofString "places"
            · rw [if_pos q5, q5, m3]
            · rw [if_neg q5]
  rw [← em] at hQ
  clear F em
  have rN : ∀ {h : Heap}, At h (rowE rs) → News g L' h (rowE rs) := fun {h} a q hq => ⟨a q hq, by
    obtain ⟨r, hr, rfl⟩ := List.mem_map.mp hq
    exact ⟨(J.own r hr).2.1, (J.own r hr).1⟩⟩
  have N : News g L' s.heap ((fx, W.listOf fv.toArray c1) :: (pl, W.listOf (ps.map sv).toArray c2) :: (ab, W.listOf (rowV rs).toArray c3) :: (I, oI) :: rowE rs) := nCons ⟨J.hfx, o1.2.1, o1.1⟩ (nCons ⟨J.hpl, o2.2.1, o2.1⟩ (nCons ⟨J.hab, o3.2.1, o3.1⟩ (nCons ⟨hI, IL, gI⟩ (rN J.rows))))
  have rne : ∀ q ∈ rowE rs, @Ne Nat q.1 fx ∧ @Ne Nat q.1 pl ∧ @Ne Nat q.1 ab := fun q hq => by
    obtain ⟨r, hr, rfl⟩ := List.mem_map.mp hq
    exact (J.own r hr).2.2.2
  conv in exec _ _ => arg 1; whnf
  have hml := mul_len hn2
  have hil : (Txt.item (Str.ofString "abcdefg") (k : Int)).length = 1 := rfl
  by_cases hneg : ov < 0
  · k_steps
    rename Fr g L' _ _ => F3
    rename News g L' _ _ => N3
    refine append_M (vs := ps.map sv) (n := c2) F3 N3 (.tail (by exact d1) (.head (forall_cons d3.symm (forall_cons (fun z => o2.2.2 z.symm) fun q hq => (rne q hq).2.1)))) (by rw [List.length_map]; omega) ?_
    intro h4 F4 N4
    clear F3 N3
    k_steps
    rename Fr g L' _ _ => F5
    rename News g L' _ _ => N5
    rename_i nl _ l1
    obtain ⟨q1, q2, q3, q4, q5⟩ := l1
    refine append_M (vs := rowV rs) (n := c3) F5 N5 (.tail (Nat.ne_of_gt q3) (.tail d2 (.tail d3 (.head (forall_cons (fun z => o3.2.2 z.symm) fun q hq => (rne q hq).2.2))))) (by rw [List.length_map]; omega) ?_
    intro h6 F6 N6
    clear F5 N5
    k_steps
    have hnl := N6 (nl, W.listOf #[] 0) (.head _)
    obtain ⟨T, N6⟩ : ∃ T, News g L' h6 ((nl, W.listOf #[] 0) :: (fx, W.listOf fv.toArray c1) :: (pl, W.listOf (ps.map sv ++ [Value.str (Txt.mul (Str.ofString "/") n ++ Txt.item (Str.ofString "abcdefg") ↑k) T]).toArray (c2 + 1)) :: (ab, W.listOf (rowV rs ++ [Value.ref nl]).toArray (c3 + 1)) :: (I, oI) :: rowE rs) := ⟨_, N6⟩
    refine hQ h6 _ (ps ++ [(Txt.mul (Str.ofString "/") n ++ Txt.item (Str.ofString "abcdefg") ↑k, T)]) (rs ++ [⟨nl, [], 0⟩]) (c2 + 1) (c3 + 1) F6 ⟨(N6 (fx, _) (by k_mem)).1, ?_, ?_, ?_, ?_, ?_⟩ (by rw [List.length_append, hps]; rfl) (by rw [List.length_append, hrs]; rfl) (N6 (I, oI) (by k_mem)).1
    · rw [List.map_append]
      exact (N6 (pl, _) (.tail _ (.tail _ (.head _)))).1
    · have := (N6 (ab, _) (.tail _ (.tail _ (.tail _ (.head _))))).1
      unfold rowV at this ⊢
      rw [List.map_append]; exact this
    · rw [rowE_app]
      refine At.append (fun q hq => (N6 q (.tail _ (.tail _ (.tail _ (.tail _ (.tail _ hq)))))).1) (At.cons hnl.1 At.nil)
    · intro r hr
      rcases List.mem_append.mp hr with hr | hr
      · exact J.own r hr
      · rw [List.mem_singleton.mp hr]
        exact ⟨hnl.2.2, hnl.2.1, Nat.ne_of_gt q4, Nat.ne_of_gt q1, Nat.ne_of_gt q2, Nat.ne_of_gt q3⟩
    · have := Tree.top J.tree hn0 hn2
      rw [List.length_map, hps] at this
      rw [List.map_append, rowT_app]
      exact this
  · obtain ⟨o, rfl⟩ : ∃ o : Nat, ov = (o : Int) := ⟨ov.toNat, by omega⟩
    have hok : o < k := by omega
    obtain ⟨p, hp⟩ : ∃ p, ps[o]? = some p := ⟨_, List.getElem?_eq_getElem (by omega)⟩
    obtain ⟨r, hr⟩ : ∃ r, rs[o]? = some r := ⟨_, List.getElem?_eq_getElem (by omega)⟩
    have hplen : p.1.length ≤ 100 := by
      have := J.tree.len.1 p.1 (List.mem_map_of_mem (List.mem_of_getElem? hp))
      rw [List.length_map] at this; omega
    have hv1 : (ps.map sv)[o]? = some (Value.str p.1 p.2) := by rw [List.getElem?_map, hp]; rfl
    have hv2 : ∀ x, (ps.map sv ++ [x])[o]? = some (Value.str p.1 p.2) := fun x => by rw [List.getElem?_append_left (by rw [List.length_map]; omega)]; exact hv1
    have hv3 : (rowV rs)[o]? = some (Value.ref r.a) := by unfold rowV; rw [List.getElem?_map, hr]; rfl
    k_steps
    rename Fr g L' _ _ => F3
    rename News g L' _ _ => N3
    refine append_M (vs := ps.map sv) (n := c2) F3 N3 (.tail (by exact d1) (.head (forall_cons d3.symm (forall_cons (fun z => o2.2.2 z.symm) fun q hq => (rne q hq).2.1)))) (by rw [List.length_map]; omega) ?_
    intro h4 F4 N4
    clear F3 N3
    k_steps
    rename Fr g L' _ _ => F5
    rename News g L' _ _ => N5
    rename_i D1 h5 l1
    obtain ⟨q1, q2, q3, q4, q5⟩ := l1
    have hrm := List.mem_of_getElem? hr
    have hrl : r.l.length ≤ 7 := by
      have := J.tree.alen _ (show r.l.map (·.1) ∈ rowT rs from List.mem_map_of_mem (f := fun r : Row => r.l.map (·.1)) hrm)
      unfold rowT at this
      rw [List.length_map, List.length_map] at this; omega
    have hrE : (r.a, r.obj) ∈ rowE rs := List.mem_map_of_mem (f := fun r : Row => (r.a, r.obj)) hrm
    have hD1 := N5 (D1, W.listOf #[Value.str p.1 p.2] 0) (.head _)
    have hra := N5 (r.a, r.obj) (.tail _ (.tail _ (.tail _ (.tail _ (.tail _ hrE)))))
    refine add_listsX (vs := [Value.str p.1 p.2]) hD1.1 hra.1 (by rw [List.length_map, sizeLine_eq]; simp only [List.length_singleton]; omega) ?_
    obtain ⟨T, N6⟩ : ∃ T, News g L' h5 ((D1, W.listOf #[Value.str p.1 p.2] 0) :: (fx, W.listOf fv.toArray c1) :: (pl, W.listOf (ps.map sv ++ [Value.str (p.1 ++ Str.ofString "/" ++ Txt.mul (Str.ofString "/") n ++ Txt.item (Str.ofString "abcdefg") ↑k) T]).toArray (c2 + 1)) :: (ab, W.listOf (rowV rs).toArray c3) :: (I, oI) :: rowE rs) := ⟨_, N5⟩
    have hsz : ∀ q ∈ ((D1, W.listOf #[Value.str p.1 p.2] 0) :: (fx, W.listOf fv.toArray c1) :: (pl, W.listOf (ps.map sv ++ [Value.str (p.1 ++ Str.ofString "/" ++ Txt.mul (Str.ofString "/") n ++ Txt.item (Str.ofString "abcdefg") ↑k) T]).toArray (c2 + 1)) :: (ab, W.listOf (rowV rs).toArray c3) :: (I, oI) :: rowE rs), q.1 < h5.objs.size := fun q hq => Heap.lt_size (N6 q hq).1
    have F7 := F5.push (W.listOf ([Value.str p.1 p.2] ++ r.l.map sv).toArray 0)
    have gD : g.get? h5.objs.size = none := none_at_size (s := { s with heap := h5 }) F5
    have DL : @Ne Nat h5.objs.size L' := Nat.ne_of_gt F5.ns.lt
    have N7 : News g L' (h5.push (W.listOf ([Value.str p.1 p.2] ++ r.l.map sv).toArray 0)) ((h5.objs.size, W.listOf ([Value.str p.1 p.2] ++ r.l.map sv).toArray 0) :: (fx, W.listOf fv.toArray c1) :: (pl, W.listOf (ps.map sv ++ [Value.str (p.1 ++ Str.ofString "/" ++ Txt.mul (Str.ofString "/") n ++ Txt.item (Str.ofString "abcdefg") ↑k) T]).toArray (c2 + 1)) :: (ab, W.listOf (rowV rs).toArray c3) :: (I, oI) :: rowE rs) :=
      nCons ⟨Heap.get?_push_size _ rfl, DL, gD⟩ fun q hq => ⟨Heap.get?_push_of_some _ (N6 q (.tail _ hq)).1, (N6 q (.tail _ hq)).2⟩
    generalize h5.push (W.listOf ([Value.str p.1 p.2] ++ r.l.map sv).toArray 0) = h6 at *
    generalize h5.objs.size = nl at *
    clear F5 N5 N6
    dsimp only
    k_steps
    rename Fr g L' _ _ => F8
    rename News g L' _ _ => N8
    refine append_M (vs := rowV rs) (n := c3) F8 N8 (.tail (Nat.ne_of_gt (hsz (ab, _) (.tail _ (.tail _ (.tail _ (.head _)))))) (.tail d2 (.tail d3 (.head (forall_cons (fun z => o3.2.2 z.symm) fun q hq => (rne q hq).2.2))))) (by rw [List.length_map]; omega) ?_
    intro h9 F9 N9
    clear F8 N8
    k_steps
    have hnl := N9 (nl, W.listOf ([Value.str p.1 p.2] ++ r.l.map sv).toArray 0) (.head _)
    refine hQ h9 _ (ps ++ [(p.1 ++ Str.ofString "/" ++ Txt.mul (Str.ofString "/") n ++ Txt.item (Str.ofString "abcdefg") ↑k, T)]) (rs ++ [⟨nl, p :: r.l, 0⟩]) (c2 + 1) (c3 + 1) F9 ⟨(N9 (fx, _) (by k_mem)).1, ?_, ?_, ?_, ?_, ?_⟩ (by rw [List.length_append, hps]; rfl) (by rw [List.length_append, hrs]; rfl) (N9 (I, oI) (by k_mem)).1
    · rw [List.map_append]
      exact (N9 (pl, _) (.tail _ (.tail _ (.head _)))).1
    · have := (N9 (ab, _) (.tail _ (.tail _ (.tail _ (.head _))))).1
      unfold rowV at this ⊢
      rw [List.map_append]; exact this
    · rw [rowE_app]
      refine At.append (fun q hq => (N9 q (.tail _ (.tail _ (.tail _ (.tail _ (.tail _ hq)))))).1) (At.cons hnl.1 At.nil)
    · intro r hr
      rcases List.mem_append.mp hr with hr | hr
      · exact J.own r hr
      · rw [List.mem_singleton.mp hr]
        exact ⟨hnl.2.2, hnl.2.1, Nat.ne_of_gt (hsz (I, oI) (.tail _ (.tail _ (.tail _ (.tail _ (.head _)))))), Nat.ne_of_gt (hsz (fx, _) (.tail _ (.head _))), Nat.ne_of_gt (hsz (pl, _) (.tail _ (.tail _ (.head _)))), Nat.ne_of_gt (hsz (ab, _) (.tail _ (.tail _ (.tail _ (.head _)))))⟩
    · have := Tree.sub J.tree hn0 hn2 (i := o) (p := p.1) (a := r.l.map (·.1)) (by rw [List.getElem?_map, hp]; rfl) (by unfold rowT; rw [List.getElem?_map, hr]; rfl)
      rw [List.length_map, hps] at this
      rw [List.map_append, rowT_app]
      exact this
end
end Mine
end

section
open PySem PySem.W PyProof.Rows PySem.Calls 
local macro_rules | `(tactic| ktr_unf) => `(tactic| repeat' ((fail_if_success (with_reducible show wpAny _ _ (exec (Stmt.For _ _ _ _ _) _) _ _ _)); (fail_if_success (with_reducible show wpAny _ _ (exec (Stmt.While _ _ _ _) _) _ _ _)); (fail_if_success (with_reducible show wpAny _ _ (exec (Stmt.Try _ _ _ _ _) _) _ _ _)); first | (k_unfold; (try dsimp only)) | (k_end; wrow_close) | walk1 | (dsimp only; walk1) | (leave1; (try dsimp only)) | fail "no step"))
namespace Mine
local macro_rules | `(tactic| k_ne) => `(tactic| (refine neN ?_; (try dsimp only); first | assumption | (refine Ne.symm ?_; assumption) | omega))
section
variable {prog : Program} {w : World} {p₀ : Program} {loose : List Str} {mean : ExcName → Option Value} {mg mb : Str → Option Value} {h₀ : Heap} {s : Shared}
  {dp un : Nat} {R : Result → Shared → Prop}
theorem lt_turn {sc pl ab fx L' I : Addr} {vs : List Value} {ns : List Int} {g : Heap} {k : Nat} {t : Nat} {ps : List (Str × Nat)} {rs : List Row} {c1 c2 c3 : Nat} {fv : List Value} {m : Str → Option Value} {oI : Obj} {Q : Flow → Shared → Prop}
    (X : (hz.heap_251 w.params).In g) (T : Top p₀ loose mean mg mb g) (hsc : g.IsList sc vs.toArray) (hi : IntsAre vs ns) (hn : ns.length ≤ 63) (hd : dp + 20 < 900) (hk : k < 7)
    (F : Fr g L' s.heap m) (m1 : m "script" = some (.ref sc)) (m2 : m "fixed" = some (.ref fx)) (m3 : m "places" = some (.ref pl)) (m4 : m "above" = some (.ref ab)) (m5 : m "k" = some (.int k t))
    (J : LtI g L' I fx pl ab fv s.heap ps rs c1 c2 c3) (hfv : ∃ x t, fv[k]? = some (.int x t)) (hps : ps.length = k) (hrs : rs.length = k)
    (o1 : g.get? fx = none ∧ fx ≠ L' ∧ fx ≠ I) (o2 : g.get? pl = none ∧ pl ≠ L' ∧ pl ≠ I) (o3 : g.get? ab = none ∧ ab ≠ L' ∧ ab ≠ I) (d1 : @Ne Nat fx pl) (d2 : @Ne Nat fx ab) (d3 : @Ne Nat pl ab) (hI : s.heap.get? I = some oI) (gI : g.get? I = none) (IL : I ≠ L')
    (hQ : ∀ h' tk' m' ps' rs' c2' c3', m' "script" = some (.ref sc) → m' "fixed" = some (.ref fx) → m' "places" = some (.ref pl) → m' "above" = some (.ref ab) → Fr g L' h' m' → LtI g L' I fx pl ab fv h' ps' rs' c1 c2' c3' → ps'.length = k + 1 → rs'.length = k + 1 → h'.get? I = some oI → Q .next { s with heap := h', toks := tk' }) :
    wpAny (model prog w) (Aw dp un) (execs ltB (ltEnv L')) Q (fun _ _ => False) s := by
  have F1 := Fr.pin (Fr.pin (Fr.pin (Fr.pin (Fr.pin F (y₀ := "script") m1) (y₀ := "fixed") m2) (y₀ := "places") m3) (y₀ := "above") m4) (y₀ := "k") m5
  clear F
  have rN : ∀ {h : Heap}, At h (rowE rs) → News g L' h (rowE rs) := fun {h} a q hq => ⟨a q hq, by
    obtain ⟨r, hr, rfl⟩ := List.mem_map.mp hq
    exact ⟨(J.own r hr).2.1, (J.own r hr).1⟩⟩
  have N : News g L' s.heap ((fx, W.listOf fv.toArray c1) :: (pl, W.listOf (ps.map sv).toArray c2) :: (ab, W.listOf (rowV rs).toArray c3) :: (I, oI) :: rowE rs) := nCons ⟨J.hfx, o1.2.1, o1.1⟩ (nCons ⟨J.hpl, o2.2.1, o2.1⟩ (nCons ⟨J.hab, o3.2.1, o3.1⟩ (nCons ⟨hI, IL, gI⟩ (rN J.rows))))
  conv in execs _ _ => arg 1; whnf
  obtain ⟨fxv, fxt, hfx⟩ := hfv
  k_steps
  refine item_litK (News.isList (by assumption) (by k_mem)) (by omega) (by omega) (by rw [Int.toNat_natCast]; exact hfx) ?_
  k_steps
  obtain ⟨ms, hms⟩ := ints_sub hi (slicePick vs.toArray (some ↑k) (some 63) (some 7)).toList fun v hv => pick_sub v hv
  refine sumK rfl (by assumption) (by assumption) (News.isList (by assumption) (.head _)) hms ?_
  intro h2 tk2 t2 F2 N2
  replace N2 := nsub N2 (E' := (fx, W.listOf fv.toArray c1) :: (pl, W.listOf (ps.map sv).toArray c2) :: (ab, W.listOf (rowV rs).toArray c3) :: (I, oI) :: rowE rs) fun p hp => .tail _ hp
  clear F1 N
  repeat' ((fail_if_success (with_reducible show wpAny _ _ (exec (Stmt.If _ _ _ _) _) _ _ _)); first | (k_unfold; (try dsimp only)) | (k_end; wrow_close) | walk1 | (dsimp only; walk1) | (leave1; (try dsimp only)) | fail "no step")
  rename Fr g L' _ _ => F3
  rename News g L' _ _ => N3
  have e1 : (fxv + ms.sum).fmod 1260 = (fxv + ms.sum) % 1260 := Int.fmod_eq_emod_of_nonneg _ (by omega)
  have e2 : ((fxv + ms.sum).fmod 1260).fdiv 420 = (fxv + ms.sum) % 1260 / 420 := by rw [e1]; exact Int.fdiv_eq_ediv_of_nonneg _ (by omega)
  have e3 : ((fxv + ms.sum).fmod 1260).fmod (↑k + 1) = ((fxv + ms.sum) % 1260) % (↑k + 1) := by rw [e1]; exact Int.fmod_eq_emod_of_nonneg _ (by omega)
  have e5 := Int.emod_lt_of_pos ((fxv + ms.sum) % 1260) (show (0 : Int) < (k : Int) + 1 by omega)
  refine lt_if (n := ((fxv + ms.sum).fmod 1260).fdiv 420) (ov := ((fxv + ms.sum).fmod 1260).fmod (↑k + 1) - 1) X T hd hk (by rw [e2]; omega) (by rw [e2]; omega) (by rw [e3]; omega) F3 rfl rfl rfl rfl rfl
    ⟨(N3 (fx, _) (.head _)).1, (N3 (pl, _) (.tail _ (.head _))).1, (N3 (ab, _) (.tail _ (.tail _ (.head _)))).1, fun q hq => (N3 q (.tail _ (.tail _ (.tail _ (.tail _ hq))))).1, J.own, J.tree⟩ hps hrs o1 o2 o3 d1 d2 d3 (N3 (I, oI) (.tail _ (.tail _ (.tail _ (.head _))))).1 gI IL ?_
  intro h5 tk5 ps' rs' c2' c3' F5 J5 hp5 hr5 hI5
  exact wpAny_execs_nil (hQ h5 tk5 _ ps' rs' c2' c3' rfl rfl rfl rfl F5 J5 hp5 hr5 hI5)
theorem law_tree {sc : Addr} {vs : List Value} {ns : List Int}
    (X : (hz.heap_251 w.params).In h₀) (T : Top p₀ loose mean mg mb h₀) (K : h₀.StaysIn s.heap) (hsc : h₀.IsList sc vs.toArray) (hi : IntsAre vs ns) (hn : ns.length ≤ 63) (hd : dp + 30 < 900)
    (hret : ∀ h' tk' tp pl ab (ps : List (Str × Nat)) (rs : List Row) c2 c3, Keep [] s.heap h' → Tree (ps.map (·.1)) (rowT rs) → ps.length = 7 → rs.length = 7 → h'.get? tp = some (tupOf [.ref pl, .ref ab]) → h'.get? pl = some (W.listOf (ps.map sv).toArray c2) → h'.get? ab = some (W.listOf (rowV rs).toArray c3) → At h' (rowE rs) →
      (∀ b ∈ [tp, pl, ab] ++ rs.map (·.a), s.heap.get? b = none) → R (.ok (.ret (.ref tp))) { s with heap := h', toks := tk' }) :
    codeAny (model prog w) (Aw dp un) (.call (.ref 237) ⟨[.ref sc], []⟩) R s := by
  have hrl : recursionLimit = 1000 := rfl
  refine enterQ X T K (E := []) (fun _ h => absurd h List.not_mem_nil) (by omega) (ko237 _) (by k_is) (binds := [("script", .ref sc)]) (BindsTo.of_eq rfl) (locs rfl) ?_ (by decide) rfl rfl rfl
  intro g L' h₁ tk hL F N X1 T1 hlt hg
  have up0 : ∀ b o, s.heap.get? b = some o → g.get? b = some o := fun b o e => hg b o e List.not_mem_nil
  have hscg : g.IsList sc vs.toArray := by
    obtain ⟨o, e, r⟩ := hsc
    exact ⟨o, up0 _ _ (K _ _ e), r⟩
  conv in execs _ _ => arg 1; whnf
  ktr_unf
  refine For_h g rfl rfl ?_
  k_steps
  rename_i t0 fx _ _ _ _ pl _ q1 _ _ ab _ q2 h5 F0 N0 h6 tk6 ta tb tc hr F1 N1 kr
  obtain ⟨fv, hfx1, hfv⟩ : ∃ fv : List Value, (h6.get? fx = some (W.listOf fv.toArray 0) ∧ fx ≠ L' ∧ g.get? fx = none) ∧ ∀ k, k < 7 → ∃ x t, fv[k]? = some (.int x t) := ⟨[Value.int 0 t0, Value.int 421 (t0 + 1), Value.int 1 (t0 + 1 + 1), Value.int 842 (t0 + 1 + 1 + 1), Value.int 420 (t0 + 1 + 1 + 1 + 1), Value.int 5 (t0 + 1 + 1 + 1 + 1 + 1), Value.int 3 (t0 + 1 + 1 + 1 + 1 + 1 + 1)], N1 _ (.tail _ (.tail _ (.head _))), by
    intro k hk
    have : k = 0 ∨ k = 1 ∨ k = 2 ∨ k = 3 ∨ k = 4 ∨ k = 5 ∨ k = 6 := by omega
    rcases this with rfl | rfl | rfl | rfl | rfl | rfl | rfl <;> exact ⟨_, _, rfl⟩⟩
  have hpl1 := N1 (pl, W.listOf #[] 0) (.tail _ (.head _))
  have hab1 := N1 (ab, W.listOf #[] 0) (.head _)
  have d1 : @Ne Nat fx pl := Nat.ne_of_lt q1
  have d2 : @Ne Nat fx ab := Nat.ne_of_lt q2.2
  have d3 : @Ne Nat pl ab := Nat.ne_of_lt q2.1
  clear F0 N0 N1 kr
  refine loop_range (n := 7) hr (by decide) (by decide) rfl F1 (fun I k h m => m "script" = some (.ref sc) ∧ m "fixed" = some (.ref fx) ∧ m "places" = some (.ref pl) ∧ m "above" = some (.ref ab) ∧ ∃ ps rs c2 c3, LtI g L' I fx pl ab fv h ps rs 0 c2 c3 ∧ ps.length = k ∧ rs.length = k) ?_ ?_ ?_ ?_
  · intro I hI
    exact ⟨rfl, rfl, rfl, rfl, [], [], 0, 0, ⟨hfx1.1, hpl1.1, hab1.1, fun q hq => absurd hq List.not_mem_nil, fun r hr => absurd hr List.not_mem_nil, .nil⟩, rfl, rfl⟩
  · rintro I i h h' m hI ⟨m1, m2, m3, m4, ps, rs, c2, c3, J, e1, e2⟩ kp
    refine ⟨m1, m2, m3, m4, ps, rs, c2, c3, ⟨kp _ _ (nm2 hfx1.2.1 (neNone hI hfx1.1).symm) J.hfx, kp _ _ (nm2 hpl1.2.1 (neNone hI hpl1.1).symm) J.hpl, kp _ _ (nm2 hab1.2.1 (neNone hI hab1.1).symm) J.hab, fun q hq => ?_, J.own, J.tree⟩, e1, e2⟩
    obtain ⟨r, hr, z⟩ := List.mem_map.mp hq
    exact kp _ _ (z ▸ nm2 (J.own r hr).2.1 (J.own r hr).2.2.1) (J.rows q hq)
  · rintro I i t h tk m oI hI hi7 ⟨m1, m2, m3, m4, ps, rs, c2, c3, J, e1, e2⟩ F₂ hoI ⟨IL, gI⟩
    refine lt_turn (I := I) (k := i) (t := t) X1 T1 hscg hi hn (by omega) hi7 F₂ m1 m2 m3 m4 rfl J (hfv i hi7) e1 e2 ⟨hfx1.2.2, hfx1.2.1, (neNone hI hfx1.1).symm⟩ ⟨hpl1.2.2, hpl1.2.1, (neNone hI hpl1.1).symm⟩ ⟨hab1.2.2, hab1.2.1, (neNone hI hab1.1).symm⟩ d1 d2 d3 hoI gI IL ?_
    intro h' tk' m' ps' rs' c2' c3' m1' m2' m3' m4' F' J' e1' e2' hI'
    exact ⟨h', tk', m', rfl, forall_cons (fun o e => by rw [hoI] at e; cases e; exact hI') (fun _ h => absurd h List.not_mem_nil), F', m1', m2', m3', m4', ps', rs', c2', c3', J', e1', e2'⟩
  · rintro I h tk m hI ⟨m1, m2, m3, m4, ps, rs, c2, c3, J, e1, e2⟩ F₂
    have F3 := Fr.pin (Fr.pin F₂ (y₀ := "places") m3) (y₀ := "above") m4
    have N3 : News g L' h ((pl, W.listOf (ps.map sv).toArray c2) :: (ab, W.listOf (rowV rs).toArray c3) :: rowE rs) := nCons ⟨J.hpl, hpl1.2⟩ (nCons ⟨J.hab, hab1.2⟩ fun q hq => ⟨J.rows q hq, by
      obtain ⟨r, hr, rfl⟩ := List.mem_map.mp hq
      exact ⟨(J.own r hr).2.1, (J.own r hr).1⟩⟩)
    clear F₂ F1
    dsimp only
    ktr_unf
    rename Fr g _ _ _ => F4
    rename News g _ _ _ => N4
    rename_i tp _ _
    have fr0 : ∀ b, g.get? b = none → s.heap.get? b = none := fun b hb => by
      cases q : s.heap.get? b with
      | none => rfl
      | some o => rw [up0 _ _ q] at hb; cases hb
    refine hret _ _ tp pl ab ps rs c2 c3 (fun b o _ e => F4.keep b o (up0 b o e)) J.tree e1 e2 (N4 (tp, _) (.head _)).1 (N4 (pl, _) (.tail _ (.head _))).1 (N4 (ab, _) (.tail _ (.tail _ (.head _)))).1 (fun q hq => (N4 q (.tail _ (.tail _ (.tail _ hq)))).1) fun b hb => ?_
    rcases List.mem_append.mp hb with hb | hb
    · exact forall_cons (P := fun b => s.heap.get? b = none) (fr0 _ (N4 (tp, _) (.head _)).2.2) (forall_cons (fr0 _ hpl1.2.2) (forall_cons (fr0 _ hab1.2.2) (fun _ h => absurd h List.not_mem_nil))) b hb
    · obtain ⟨r, hr, rfl⟩ := List.mem_map.mp hb
      exact fr0 _ (J.own r hr).1
end
end Mine
end

section
open PySem PySem.W PyProof.Rows PySem.Calls PySem.Builtin.Str
namespace Mine
noncomputable abbrev mkS (l : List Nat) : Str := ⟨l.toArray⟩
noncomputable abbrev sl : Str := Str.ofString "/"
theorem sl_eq : sl = mkS [47] := rfl
theorem mkS_app (a b : List Nat) : mkS a ++ mkS b = mkS (a ++ b) := by
  show Str.mk (a.toArray ++ b.toArray) = Str.mk (a ++ b).toArray
  congr 1; simp
theorem mkS_mul (n : Int) : Txt.mul sl n = mkS (List.replicate n.toNat 47) := by
  have := mul_one_list 47 n
  show Txt.mul (mkS [47]) n = _
  cases h : Txt.mul (mkS [47]) n with
  | mk a =>
    rw [h] at this
    show Str.mk a = Str.mk _
    rw [← this]
theorem mkS_item {k : Nat} (h : k < 7) : Txt.item (Str.ofString "abcdefg") (k : Int) = mkS [97 + k] := by
  have : k = 0 ∨ k = 1 ∨ k = 2 ∨ k = 3 ∨ k = 4 ∨ k = 5 ∨ k = 6 := by omega
  rcases this with rfl | rfl | rfl | rfl | rfl | rfl | rfl <;> rfl
theorem mkS_len (l : List Nat) : (mkS l).length = l.length := List.size_toArray
theorem mkS_inj {a b : List Nat} (h : mkS a = mkS b) : a = b := by
  have := congrArg (fun x : Str => x.cps.toList) h
  exact this
theorem mkS_of (x : Str) : x = mkS x.cps.toList := by cases x; simp
/-- the last sign is no slash -/
noncomputable def NoEnd (l : List Nat) : Prop := ∀ x ∈ l.getLast?, x ≠ 47
theorem slc (a : Nat) : sl.cps.contains a = decide (a = 47) := by
  show (#[47] : Array Nat).contains a = _
  simp
theorem stripBy_sub (g : Nat → Bool) (x : Str) : Txt.stripBy g false true x = strSub x 0 (x.length - (x.cps.toList.reverse.takeWhile g).length) := by
  unfold Txt.stripBy
  split
  · rename_i h
    unfold stripSame stripLo stripHi at h
    simp at h
    rw [h, strSub_whole]
  · rfl
theorem strip_mk {b : List Nat} (n : Nat) (h : NoEnd b) : Txt.rstripChars (mkS (b ++ List.replicate n 47)) sl = mkS b := by
  unfold Txt.rstripChars
  rw [stripBy_sub]
  have : ((b ++ List.replicate n 47).reverse.takeWhile sl.cps.contains) = List.replicate n 47 := by
    rw [List.reverse_append, List.reverse_replicate]
    rw [List.takeWhile_append_of_pos (by intro a ha; rw [(List.mem_replicate.mp ha).2, slc]; rfl)]
    have : b.reverse.takeWhile sl.cps.contains = [] := by
      cases q : b.reverse with
      | nil => rfl
      | cons a r =>
        have hl : b.getLast? = some a := by rw [List.getLast?_eq_head?_reverse, q]; rfl
        rw [List.takeWhile_cons_of_neg]
        rw [slc]; simpa using h a hl
    rw [this, List.append_nil]
  show strSub (mkS (b ++ List.replicate n 47)) 0 ((mkS (b ++ List.replicate n 47)).length - ((b ++ List.replicate n 47).reverse.takeWhile sl.cps.contains).length) = _
  rw [this, mkS_len, List.length_append, List.length_replicate, Nat.add_sub_cancel]
  unfold strSub
  show Str.mk ((b ++ List.replicate n 47).toArray.extract 0 b.length) = Str.mk b.toArray
  congr 1
  apply Array.toList_inj.mp
  simp
theorem slice_mk {l : List Nat} {j : Nat} (h : j ≤ l.length) : Txt.slice (mkS l) none (some (j : Int)) = mkS (l.take j) := by
  have e0 : strSliceIndices none (some (j : Int)) 1 (mkS l).length = strSliceIndices (some ((0 : Nat) : Int)) (some (j : Int)) 1 (mkS l).length := by
    unfold strSliceIndices
    have : max (0 : Int) (min 0 ((mkS l).length : Int)) = 0 := by omega
    simp [this]
  have hl := mkS_len l
  have e1 := StrLaws.sliced_plain (mkS l) (Nat.zero_le j) (by rw [hl]; exact h)
  have e2 : (strSliceIndices none (some (j : Int)) 1 (mkS l).length).length = j := by
    rw [e0, StrLaws.strSliceIndices_plain (Nat.zero_le j) (by rw [hl]; exact h)]; simp
  unfold Txt.slice
  rw [e2, e0, e1, hl]
  by_cases hj : j = l.length
  · subst hj
    rw [if_pos (by simp), List.take_length]
  · rw [if_neg (by simpa using hj)]
    show Str.mk (((l.drop 0).take (j - 0)).toArray) = _
    rw [List.drop_zero, Nat.sub_zero]
theorem at_mk {l : List Nat} {i : Nat} : StrLaws.At (mkS l) sl (mkS l).length i ↔ l[i]? = some 47 := by
  unfold StrLaws.At subAt
  rw [mkS_len]
  show (i + 1 ≤ l.length ∧ (l.toArray.extract i (i + 1) == #[47]) = true) ↔ _
  have : i < l.length → l.toArray.extract i (i + 1) = #[l[i]!] := fun h => by
    apply Array.toList_inj.mp
    rw [Array.toList_extract, List.extract_eq_take_drop, Nat.add_sub_cancel_left, List.drop_eq_getElem_cons h, getElem!_pos l i h]
    rfl
  constructor
  · rintro ⟨h1, h2⟩
    have h3 : i < l.length := h1
    rw [this h3] at h2
    have h4 := eq_of_beq h2
    have : l[i]! = 47 := by simpa using congrArg (fun a : Array Nat => a[0]!) h4
    rw [List.getElem?_eq_getElem h3]
    rw [getElem!_pos l i h3] at this
    rw [this]
  · intro h
    obtain ⟨h3, h4⟩ := List.getElem?_eq_some_iff.mp h
    refine ⟨h3, ?_⟩
    rw [this h3, getElem!_pos l i h3, h4]; rfl
theorem hd1_mk {b : List Nat} {c : Nat} (hc : c ≠ 47) (hb : b = [] ∨ b.getLast? = some 47) : hd1 (mkS (b ++ [c])) = mkS b := by
  unfold hd1
  rcases rfind_whole (mkS (b ++ [c])) sl with ⟨h0, hn⟩ | ⟨i, h0, hi, hn⟩
  · have : b = [] := by
      rcases hb with h | h
      · exact h
      · have : b ≠ [] := fun z => by rw [z] at h; cases h
        obtain ⟨d, e, rfl⟩ : ∃ d e, b = d ++ [e] := ⟨_, _, (List.dropLast_concat_getLast this).symm⟩
        rw [List.getLast?_concat] at h
        refine absurd (at_mk.mpr ?_) (hn d.length)
        rw [List.append_assoc, List.getElem?_append_right (Nat.le_refl _), Nat.sub_self, Option.some.inj h]; rfl
    subst this
    rw [h0]
    have := slice_mk (l := [] ++ [c]) (j := 0) (Nat.zero_le _)
    exact this
  · have hi := at_mk.mp hi
    obtain ⟨h1, h2⟩ := List.getElem?_eq_some_iff.mp hi
    have hlt : i < b.length := by
      rw [List.length_append, List.length_singleton] at h1
      refine Nat.lt_of_le_of_ne (by omega) fun z => hc ?_
      rw [z, List.getElem?_append_right (Nat.le_refl _), Nat.sub_self] at hi
      exact Option.some.inj hi
    have hbl : b.getLast? = some 47 := by
      rcases hb with h | h
      · rw [h] at hlt; cases hlt
      · exact h
    have : b ≠ [] := fun z => by rw [z] at hlt; cases hlt
    obtain ⟨d, e, rfl⟩ : ∃ d e, b = d ++ [e] := ⟨_, _, (List.dropLast_concat_getLast this).symm⟩
    rw [List.getLast?_concat] at hbl
    have hid : i = d.length := by
      rw [List.length_append, List.length_singleton] at hlt
      by_cases z : i < d.length
      · refine absurd (at_mk.mpr ?_) (hn d.length z)
        rw [List.append_assoc, List.getElem?_append_right (Nat.le_refl _), Nat.sub_self, Option.some.inj hbl]; rfl
      · omega
    rw [h0]
    have := slice_mk (l := (d ++ [e]) ++ [c]) (j := i + 1) (by simp; omega)
    have e2 : ((i : Int) + 1) = ((i + 1 : Nat) : Int) := by omega
    rw [e2, this, hid]
    congr 2
    rw [List.take_append_of_le_length (by simp)]
    have : d.length + 1 = (d ++ [e]).length := by simp
    rw [this, List.take_length]
/-- a place at the top -/
theorem split_top {n : Nat} {c : Nat} (hc : c ≠ 47) : split1 (mkS (List.replicate n 47 ++ [c])) = mkS (List.replicate n 47) := by
  have hh := hd1_mk (b := List.replicate n 47) hc (by
    cases n with
    | zero => exact .inl rfl
    | succ n => exact .inr (by rw [List.replicate_succ', List.getLast?_concat]))
  unfold split1
  rw [hh]
  split
  · rfl
  · have : Txt.mul (Str.ofString "/") ((mkS (List.replicate n 47)).length : Int) = mkS (List.replicate n 47) := by
      rw [mkS_len, List.length_replicate, mkS_mul]; rfl
    rw [this]
    simp
theorem noEnd_ne {q : List Nat} (h : NoEnd q) (h0 : q ≠ []) : ∃ x ∈ q, x ≠ 47 := ⟨q.getLast h0, List.getLast_mem h0, h _ (List.getLast?_eq_some_getLast h0)⟩
/-- a place in another -/
theorem split_sub {q : List Nat} {n c : Nat} (hc : c ≠ 47) (h0 : q ≠ []) (hq : NoEnd q) : split1 (mkS (q ++ List.replicate (n + 1) 47 ++ [c])) = mkS q := by
  have hh := hd1_mk (b := q ++ List.replicate (n + 1) 47) hc (.inr (by rw [List.replicate_succ', ← List.append_assoc, List.getLast?_concat]))
  unfold split1
  rw [hh]
  have hl : (mkS (q ++ List.replicate (n + 1) 47)).length ≠ 0 := by
    rw [mkS_len, List.length_append]
    have := List.length_pos_iff.mpr h0
    omega
  rw [if_neg (by omega)]
  have hne : (mkS (q ++ List.replicate (n + 1) 47) != Txt.mul (Str.ofString "/") ((mkS (q ++ List.replicate (n + 1) 47)).length : Int)) = true := by
    rw [bne_iff_ne]
    intro z
    rw [mkS_mul] at z
    have := mkS_inj z
    obtain ⟨x, hx, h47⟩ := noEnd_ne hq h0
    have hx' : x ∈ List.replicate ((mkS (q ++ List.replicate (n + 1) 47)).length : Int).toNat 47 := this ▸ List.mem_append_left _ hx
    exact h47 (List.mem_replicate.mp hx').2
  rw [if_pos hne]
  exact strip_mk (n + 1) hq
end Mine
end

section
open PySem PySem.W PyProof.Rows PySem.Calls PySem.Builtin.Str
namespace Mine
structure TF (ps : List Str) (ab : List (List Str)) (anc : Str → List Str) : Prop where
  nd : ps.Nodup
  mem : ∀ p ∈ ps, ∀ a ∈ anc p, a ∈ ps
  shape : ∀ p ∈ ps, anc p = [] ∨ ∃ q, anc p = q :: anc q
  at_ : ∀ (k : Nat) p a, ps[k]? = some p → ab[k]? = some a → anc p = a
  last : ∀ (k : Nat) p, ps[k]? = some p → ∃ l, p = mkS (l ++ [97 + k]) ∧ ∀ x ∈ l, x < 200
  chain : ∀ p ∈ ps, Chain p (p :: anc p)
theorem noEnd_last {l : List Nat} {k : Nat} : NoEnd (l ++ [97 + k]) := fun x hx => by
  rw [List.getLast?_concat] at hx
  have := Option.some.inj hx
  omega
theorem rstrip_last {l : List Nat} {k : Nat} : Txt.rstripChars (mkS (l ++ [97 + k])) (Str.ofString "/") = mkS (l ++ [97 + k]) := by
  have := strip_mk (b := l ++ [97 + k]) 0 noEnd_last
  rwa [List.replicate_zero, List.append_nil] at this
theorem TF.add {ps : List Str} {ab : List (List Str)} {anc : Str → List Str} {q : Str} {na : List Str} {l : List Nat} (T : TF ps ab anc) (hab : ab.length = ps.length) (hk : ps.length < 7) (hq : q = mkS (l ++ [97 + ps.length])) (hl : ∀ x ∈ l, x < 200)
    (hna : na = [] ∨ ∃ r ∈ ps, na = r :: anc r) (hc : Chain q (q :: na)) : ∃ anc', TF (ps ++ [q]) (ab ++ [na]) anc' := by
  have nq : q ∉ ps := fun h => by
    obtain ⟨k, hk', e⟩ := List.getElem_of_mem h
    obtain ⟨l', e', _⟩ := T.last k q (by rw [List.getElem?_eq_getElem hk', e])
    have := mkS_inj (hq.symm.trans e')
    have := congrArg List.getLast? this
    rw [List.getLast?_concat, List.getLast?_concat] at this
    have := Option.some.inj this
    omega
  have old : ∀ p ∈ ps, (if p = q then na else anc p) = anc p := fun p hp => if_neg fun (z : p = q) => nq (z ▸ hp)
  have ins : ∀ a ∈ na, a ∈ ps := fun a ha => by
    rcases hna with z | ⟨r, hr, z⟩
    · rw [z] at ha; exact absurd ha List.not_mem_nil
    · rw [z] at ha
      rcases List.mem_cons.mp ha with z | ha
      · exact z ▸ hr
      · exact T.mem r hr a ha
  refine ⟨fun p => if p = q then na else anc p, ?_, ?_, ?_, ?_, ?_, ?_⟩
  · rw [List.nodup_append]
    exact ⟨T.nd, List.nodup_cons.mpr ⟨List.not_mem_nil, List.nodup_nil⟩, fun a ha b hb z => nq (List.mem_singleton.mp hb ▸ z ▸ ha)⟩
  · intro p hp a ha
    rcases List.mem_append.mp hp with hp | hp
    · have ha : a ∈ (if p = q then na else anc p) := ha
      rw [old p hp] at ha
      exact List.mem_append_left _ (T.mem p hp a ha)
    · have z := List.mem_singleton.mp hp
      have ha : a ∈ (if p = q then na else anc p) := ha
      rw [if_pos z] at ha
      exact List.mem_append_left _ (ins a ha)
  · intro p hp
    show (if p = q then na else anc p) = [] ∨ ∃ r, (if p = q then na else anc p) = r :: (if r = q then na else anc r)
    rcases List.mem_append.mp hp with hp | hp
    · rw [old p hp]
      rcases T.shape p hp with h | ⟨r, h⟩
      · exact .inl h
      · exact .inr ⟨r, by rw [old r (T.mem p hp r (by rw [h]; exact .head _))]; exact h⟩
    · rw [if_pos (List.mem_singleton.mp hp)]
      rcases hna with z | ⟨r, hr, z⟩
      · exact .inl z
      · exact .inr ⟨r, by rw [old r hr]; exact z⟩
  · intro k p a hp ha
    show (if p = q then na else anc p) = a
    by_cases h : k < ps.length
    · rw [List.getElem?_append_left h] at hp
      rw [List.getElem?_append_left (by omega)] at ha
      rw [old p (List.mem_of_getElem? hp)]
      exact T.at_ k p a hp ha
    · rw [List.getElem?_append_right (by omega)] at hp
      rw [List.getElem?_append_right (by omega)] at ha
      have e : k = ps.length := by
        by_cases z : k - ps.length = 0
        · omega
        · rw [List.getElem?_eq_none (by simp; omega)] at hp; cases hp
      subst e
      rw [Nat.sub_self] at hp
      rw [hab, Nat.sub_self] at ha
      have e1 : q = p := Option.some.inj hp
      have e2 : na = a := Option.some.inj ha
      rw [if_pos e1.symm]; exact e2
  · intro k p hp
    by_cases h : k < ps.length
    · rw [List.getElem?_append_left h] at hp
      exact T.last k p hp
    · rw [List.getElem?_append_right (by omega)] at hp
      have e : k = ps.length := by
        by_cases z : k - ps.length = 0
        · omega
        · rw [List.getElem?_eq_none (by simp; omega)] at hp; cases hp
      subst e
      rw [Nat.sub_self] at hp
      have e1 : q = p := Option.some.inj hp
      exact ⟨l, e1 ▸ hq, hl⟩
  · intro p hp
    show Chain p (p :: (if p = q then na else anc p))
    rcases List.mem_append.mp hp with hp | hp
    · rw [old p hp]; exact T.chain p hp
    · have z := List.mem_singleton.mp hp
      rw [if_pos z, z]; exact hc
theorem tree_tf {ps : List Str} {ab : List (List Str)} (h : Tree ps ab) : ps.length ≤ 7 → ∃ anc, TF ps ab anc := by
  induction h with
  | nil => exact fun _ => ⟨fun _ => [], List.nodup_nil, fun _ h => absurd h List.not_mem_nil, fun _ h => absurd h List.not_mem_nil, fun k p a h => by simp at h, fun k p h => by simp at h, fun _ h => absurd h List.not_mem_nil⟩
  | @top ps ab n h h0 h2 ih =>
    intro hl
    rw [List.length_append, List.length_singleton] at hl
    obtain ⟨anc, T⟩ := ih (by omega)
    have lenq := (Tree.top h h0 h2).len.1 _ (List.mem_append_right _ (.head _))
    rw [List.length_append, List.length_singleton] at lenq
    have eq : Txt.mul (Str.ofString "/") n ++ Txt.item (Str.ofString "abcdefg") (ps.length : Nat) = mkS (List.replicate n.toNat 47 ++ [97 + ps.length]) := by
      rw [mkS_mul, mkS_item (by omega), mkS_app]
    rw [eq] at lenq ⊢
    refine T.add h.len.2 (by omega) rfl (fun x hx => by rw [(List.mem_replicate.mp hx).2]; omega) (.inl rfl) ?_
    refine .step (by omega) (by rw [rstrip_last, mkS_len]; simp) ?_
    rw [split_top (by omega)]
    refine .stop (by rw [mkS_len, List.length_replicate]; omega) ?_
    have := strip_mk (b := []) n.toNat (fun x hx => by cases hx)
    rw [List.nil_append] at this
    rw [this]; rfl
  | @sub ps ab n i p a h h0 h2 hp ha ih =>
    intro hl
    rw [List.length_append, List.length_singleton] at hl
    obtain ⟨anc, T⟩ := ih (by omega)
    have lenq := (Tree.sub h h0 h2 hp ha).len.1 _ (List.mem_append_right _ (.head _))
    rw [List.length_append, List.length_singleton] at lenq
    obtain ⟨l, el, hl200⟩ := T.last i p hp
    have hpm := List.mem_of_getElem? hp
    have eq : p ++ Str.ofString "/" ++ Txt.mul (Str.ofString "/") n ++ Txt.item (Str.ofString "abcdefg") (ps.length : Nat) = mkS ((l ++ [97 + i]) ++ List.replicate (n.toNat + 1) 47 ++ [97 + ps.length]) := by
      rw [mkS_mul, mkS_item (by omega), el, show Str.ofString "/" = mkS [47] from rfl, mkS_app, mkS_app, mkS_app]
      congr 1
      rw [List.replicate_succ]; simp
    rw [eq] at lenq ⊢
    have eanc : anc p = a := T.at_ i p a hp ha
    have hi7 : i < ps.length := by
      by_cases z : i < ps.length
      · exact z
      · rw [List.getElem?_eq_none (by omega)] at hp; cases hp
    refine T.add h.len.2 (by omega) rfl (fun x hx => ?_) (.inr ⟨p, hpm, by rw [eanc]⟩) ?_
    · rcases List.mem_append.mp hx with hx | hx
      · rcases List.mem_append.mp hx with hx | hx
        · exact hl200 x hx
        · rw [List.mem_singleton.mp hx]; omega
      · rw [(List.mem_replicate.mp hx).2]; omega
    refine .step (by omega) (by rw [rstrip_last, mkS_len]; simp) ?_
    rw [split_sub (by omega) (by simp) noEnd_last, ← el, ← eanc]
    exact T.chain p hpm
theorem tree_forest {ps : List Str} {ab : List (List Str)} (h : Tree ps ab) (hl : ps.length ≤ 7) : ∃ anc : Str → List Str, Forest anc ps ∧ (∀ p ∈ ps, PlaceOk anc p) ∧ (∀ (k : Nat) p a, ps[k]? = some p → ab[k]? = some a → anc p = a) ∧ ∀ p ∈ ps, PyData.strOk p = true := by
  obtain ⟨anc, T⟩ := tree_tf h hl
  have hidx : ∀ p ∈ ps, ∃ k : Nat, ps[k]? = some p ∧ k < ps.length := fun p hp => by
    obtain ⟨k, hk, e⟩ := List.getElem_of_mem hp
    exact ⟨k, by rw [List.getElem?_eq_getElem hk, e], hk⟩
  refine ⟨anc, ⟨T.nd, by omega, T.mem, T.shape⟩, fun p hp => ?_, T.at_, fun p hp => ?_⟩
  · obtain ⟨k, hk, hlt⟩ := hidx p hp
    obtain ⟨l, e, _⟩ := T.last k p hk
    have hkb : k < ab.length := by rw [h.len.2]; exact hlt
    have hab : ab[k]? = some ab[k] := List.getElem?_eq_getElem hkb
    have h1 := h.len.1 p hp
    have h2 := h.alen _ (List.mem_of_getElem? hab)
    have h3 := T.at_ k p _ hk hab
    have h4 := h.len.2
    refine ⟨by omega, p :: anc p, ?_, rfl, ?_, ?_⟩
    · have : Txt.rstripChars p (Str.ofString "/") = p := by rw [e]; exact rstrip_last
      rw [this]; exact T.chain p hp
    · simp
    · rw [List.length_cons, h3]; omega
  · obtain ⟨k, hk, hlt⟩ := hidx p hp
    obtain ⟨l, e, hl⟩ := T.last k p hk
    rw [e]
    unfold PyData.strOk
    rw [← Array.all_toList]
    refine List.all_eq_true.mpr fun x hx => ?_
    rcases List.mem_append.mp (show x ∈ l ++ [97 + k] from hx) with hx | hx
    · have := hl x hx
      exact decide_eq_true (by omega)
    · rw [List.mem_singleton.mp hx]
      exact decide_eq_true (by omega)
end Mine
end

section
open PySem PySem.W PyProof.Rows PySem.Calls 
namespace Mine
noncomputable abbrev laEnv (L' : Addr) : Env := envOfC "law" (fnS st249) L' 249 (.ref 248)
noncomputable abbrev nms (ps : List (Str × Nat)) : List Str := ps.map (·.1)
theorem strs_sv : ∀ (ps : List (Str × Nat)), StrsAre (ps.map sv) (nms ps)
  | [] => .nil
  | p :: ps => .cons p.1 p.2 (strs_sv ps)
theorem of_strs : ∀ {vs : List Value} {ss : List Str}, StrsAre vs ss → ∃ qs, vs = qs.map sv ∧ ss = nms qs
  | _, _, .nil => ⟨[], rfl, rfl⟩
  | _, _, .cons y t h => let ⟨qs, e1, e2⟩ := of_strs h; ⟨(y, t) :: qs, by rw [e1]; rfl, by rw [e2]; rfl⟩
theorem ls_canLayAll0 : ∀ ns : List Str, (∀ x ∈ ns, PyData.strOk x = true) → PyData.canLayAll0 (ns.map PyData.str) = true
  | [], _ => rfl
  | a :: r, h => by simp [PyData.canLayAll0, PyData.canLay0, h a (.head _), ls_canLayAll0 r fun x hx => h x (.tail _ hx)]
theorem ls_depthAll : ∀ ns : List Str, PyData.depthAll (ns.map PyData.str) = 0
  | [] => rfl
  | _ :: r => by simp [PyData.depthAll, PyData.depth, ls_depthAll r]
theorem ls_shaped (ns : List Str) (h : ∀ x ∈ ns, PyData.strOk x = true) : SeqAt.shaped (.list (ns.map PyData.str)) = true := by
  simp [SeqAt.shaped, PyData.canLay0, PyData.depth, ls_canLayAll0 ns h, ls_depthAll]
theorem ls_sameAll : ∀ ns ms : List Str, PySem.Spec.sameAll (ns.map PyData.str) (ms.map PyData.str) = decide (ns = ms)
  | [], [] => by simp [PySem.Spec.sameAll]
  | [], _ :: _ => by simp [PySem.Spec.sameAll]
  | _ :: _, [] => by simp [PySem.Spec.sameAll]
  | a :: r, b :: t => by
    simp only [List.map_cons, PySem.Spec.sameAll, PySem.Spec.same, ls_sameAll r t]
    by_cases h : a = b <;> by_cases h' : r = t <;> simp [h, h']
theorem ls_same (ns ms : List Str) : PySem.Spec.same (.list (ns.map PyData.str)) (.list (ms.map PyData.str)) = decide (ns = ms) := by
  simp only [PySem.Spec.same]; exact ls_sameAll ns ms
theorem ls_carried : ∀ {vs : List Value} {ns : List Str}, StrsAre vs ns → CarriedAll vs (ns.map PyData.str)
  | _, _, .nil => .nil
  | _, _, .cons _ t r => .cons (.str _ t) (ls_carried r)
section
variable {prog : Program} {w : World} {A : Around} {E : Value → Shared → Prop} {s : Shared} {h₀ : Heap} {L : Addr} {m : Str → Option Value} {news : List (Addr × Obj)} {ps qs : List (Str × Nat)} {c c' : Nat} {l b : Addr} {Q : Value → Shared → Prop}
theorem ne_svs (N : News h₀ L s.heap news) (h1 : (l, W.listOf (ps.map sv).toArray c) ∈ news) (h2 : (b, W.listOf (qs.map sv).toArray c') ∈ news) (hu : A.units + 64 < cLine) (hok : ∀ x ∈ nms ps, PyData.strOk x = true) (e : nms ps = nms qs) (h : Q (.bool false) s) :
    wpAny (model prog w) A (compareOp .NotEq (.ref l) (.ref b)) Q E s :=
  ne_dataH_same (reads_newData (News.isList N h1) (ls_carried (strs_sv ps))) (reads_newData (News.isList N h2) (ls_carried (strs_sv qs))) (ls_shaped _ hok) (ls_shaped _ (e ▸ hok)) hu (SeqAt.noMix_of_shape (.list .str) rfl _ _ (list_map_has fun _ => rfl) (list_map_has fun _ => rfl)) (by rw [ls_same, decide_eq_true e]; exact h)
theorem sorted_sv (F : Fr h₀ L s.heap m) (N : News h₀ L s.heap news) (hm : (l, W.listOf (ps.map sv).toArray c) ∈ news) (hl : ps.length < 64)
    (h : ∀ h' D (qs : List (Str × Nat)) e, Fr h₀ L h' m → News h₀ L h' ((D, W.listOf (qs.map sv).toArray e) :: news) → (nms qs).Perm (nms ps) → sortedS (nms qs) = true → Q (.ref D) { s with heap := h' }) :
    wpAny (model prog w) A (call (.builtin "sorted") [.ref l]) Q E s := by
  refine sorted_N_str F N (News.isList N hm) (strs_sv ps) (by rw [List.length_map]; exact hl) ?_
  intro h' vs' ss' e F' N' hs hp hso
  obtain ⟨qs, rfl, rfl⟩ := of_strs hs
  exact h h' _ qs e F' N' hp hso
theorem eqg (x y : Str) (t u : Tok) : MeetsSeq.EqGives (.str x t) (.str y u) (x == y) := fun _ _ _ _ _ _ h => eqBool_str h
noncomputable def isS (x : Str) : Value → Bool | .str y _ => y == x | _ => false
theorem isS_eq {x : Str} {t : Tok} : ∀ v ∈ (ps.map sv).toArray, MeetsSeq.EqGives v (.str x t) (isS x v) := fun v hv => by
  obtain ⟨p, _, rfl⟩ := List.mem_map.mp (List.mem_toArray.mp hv)
  exact eqg _ _ _ _
theorem in_sv {x : Str} {t : Tok} (hl : s.heap.IsList l (ps.map sv).toArray) (h : Q (.bool (decide (x ∈ nms ps))) s) : wpAny (model prog w) A (compareOp .In (.str x t) (.ref l)) Q E s := by
  refine SeqAt.in_listAt (isS x) hl (fun v hv => (isS_eq v hv).at _ _) ?_
  have : (ps.map sv).toArray.any (isS x) = decide (x ∈ nms ps) := by
    rw [← Array.any_toList]
    show (ps.map sv).any (isS x) = _
    rw [List.any_map, Bool.eq_iff_iff, List.any_eq_true, decide_eq_true_iff]
    constructor
    · rintro ⟨p, hp, e⟩
      have : p.1 = x := eq_of_beq e
      exact this ▸ List.mem_map_of_mem hp
    · intro h
      obtain ⟨p, hp, e⟩ := List.mem_map.mp h
      exact ⟨p, hp, beq_iff_eq.mpr e⟩
  rw [this]; exact h
theorem ahead_idx {x : Str} (hx : x ∈ nms ps) : ∃ j, (ahead (nms ps) x).length = j ∧ j < ps.length ∧ (∀ h : j < (ps.map sv).toArray.size, isS x (ps.map sv).toArray[j] = true) ∧ (∀ i (h : i < (ps.map sv).toArray.size), i < j → isS x (ps.map sv).toArray[i] = false) ∧ nms (ps.take j) = ahead (nms ps) x := by
  obtain ⟨r, e, n⟩ := ahead_split hx
  generalize ahead (nms ps) x = a at e n ⊢
  have hl : (nms ps).length = ps.length := List.length_map _
  have hl2 := congrArg List.length e
  rw [List.length_append, List.length_cons] at hl2
  refine ⟨_, rfl, by omega, fun h => ?_, fun i h hi => ?_, ?_⟩
  · have e1 : (nms ps)[a.length]? = some x := by rw [e, List.getElem?_append_right (Nat.le_refl _), Nat.sub_self]; rfl
    rw [List.getElem?_map] at e1
    obtain ⟨p, hp, e2⟩ := Option.map_eq_some_iff.mp e1
    have : (ps.map sv).toArray[a.length] = sv p := by
      rw [List.getElem_toArray, List.getElem_map]
      exact congrArg sv (Option.some.inj ((List.getElem?_eq_getElem _).symm.trans hp))
    rw [this]; exact beq_iff_eq.mpr e2
  · have hi2 : i < ps.length := by simpa using h
    have : (ps.map sv).toArray[i] = sv ps[i] := by rw [List.getElem_toArray, List.getElem_map]
    rw [this]
    refine beq_eq_false_iff_ne.mpr fun z => n ?_
    have e1 : (nms ps)[i]? = some x := by rw [List.getElem?_map, List.getElem?_eq_getElem hi2]; exact congrArg some z
    rw [e, List.getElem?_append_left hi] at e1
    exact List.mem_of_getElem? e1
  · have : nms (ps.take a.length) = (nms ps).take a.length := List.map_take ..
    rw [this, e, List.take_append_of_le_length (Nat.le_refl _), List.take_length]
theorem index_sv {x : Str} {t : Tok} (N : News h₀ L s.heap news) (hm : (l, W.listOf (ps.map sv).toArray c) ∈ news) (hx : x ∈ nms ps) (hl : ps.length ≤ 1000)
    (h : ∀ j : Nat, j ≤ ps.length → nms (ps.take j) = ahead (nms ps) x → Q (.int j s.toks) { s with toks := s.toks + 1 }) : wpAny (model prog w) A (call (.builtin "list.index") [.ref l, .str x t]) Q E s := by
  obtain ⟨j, _, hj, a, b, e⟩ := ahead_idx hx
  have hs : (ps.map sv).toArray.size = ps.length := by simp
  exact call_meets PySem.F.slot_list_index ⟨_, (N _ hm).1, rfl⟩ PySem.F.entry_list_index (PySem.F.args_list_index_2 _ _)
    (MeetsSeq.list_index l (ps.map sv).toArray c (.str x t) (isS x) isS_eq j (by omega) (by omega) (a (by omega)) b) ⟨(N _ hm).1, h j (Nat.le_of_lt hj) e⟩
theorem upto_sv {j : Nat} {t : Tok} {value slice : Expr} (F : Fr h₀ L s.heap m) (N : News h₀ L s.heap news) (hm : (l, W.listOf (ps.map sv).toArray c) ∈ news) (hl : ps.length ≤ 1000) (hj : j ≤ ps.length)
    (h : ∀ D h', Fr h₀ L h' m → News h₀ L h' ((D, W.listOf ((ps.take j).map sv).toArray 0) :: news) → (∀ p ∈ news, p.1 < D) → Q (.ref D) { s with heap := h' })
    (hs : subscripted slice false (.ref l) (.ref s.heap.objs.size) = operate [.ref s.heap.objs.size, .ref l] (getItem (.ref l) (.ref s.heap.objs.size))) (ht : ∀ r, letTemporaryGo value (.ref l) r = pure ()) :
    wpAny (model prog w) A (subscriptTail value slice (.ref l) (.ref s.heap.objs.size)) Q E { s with heap := s.heap.push { cls := .type "slice", data := .fields #[.none, .int j t, .none] } } := by
  have hsz : (ps.map sv).toArray.size = ps.length := by simp
  refine kmk_slice F N (News.isList N hm) .none (.int _ _) (fun D h' F' N' l1 => h D h' F' ?_ l1) hs ht (by rw [hsz, sizeLine_eq]; omega)
  have e : sliceBounds none (some (j : Int)) none (ps.map sv).toArray.size = (((0 : Nat) : Int), ((j : Nat) : Int), 1) := by
    simp only [sliceBounds, Option.getD_none, show (1 : Int) > 0 by decide, if_true, if_neg (show ¬ ((j : Int) < 0) by omega)]
    congr 1
    congr 1
    omega
  rw [kmk_pick_nat _ e] at N'
  have e2 : (((ps.map sv).toArray.toList.drop 0).take (j - 0)) = (ps.take j).map sv := by
    rw [List.drop_zero, Nat.sub_zero, List.map_take]
  rw [e2] at N'
  exact N'
theorem rev_strs {vk : Value} {ops : List Value} {value slice : Expr} (F : Fr h₀ L s.heap m) (N : News h₀ L s.heap news) (hm : (l, W.listOf (ps.map sv).toArray c) ∈ news) (hl : ps.length ≤ 1000) (pk : IsPart vk (some (-1)))
    (h : ∀ D h', Fr h₀ L h' m → News h₀ L h' ((D, W.listOf (ps.reverse.map sv).toArray 0) :: news) → (∀ p ∈ news, p.1 < D) → Q (.ref D) { s with heap := h' })
    (hs : subscripted slice false (.ref l) (.ref s.heap.objs.size) = operate ops (getItem (.ref l) (.ref s.heap.objs.size))) (ht : ∀ r, letTemporaryGo value (.ref l) r = pure ()) :
    wpAny (model prog w) A (subscriptTail value slice (.ref l) (.ref s.heap.objs.size)) Q E { s with heap := s.heap.push { cls := .type "slice", data := .fields #[.none, .none, vk] } } :=
  krv_lit F N (News.isList N hm) pk rfl (fun D h' F' N' l1 => h D h' F' (by rw [List.map_reverse]; exact N') l1) hs ht (by rw [List.size_toArray, List.length_map, sizeLine_eq]; omega)
noncomputable def cS : Scope := { kind := .function, names := [(Str.ofString ".0", .local), (Str.ofString "place", .local), (Str.ofString "other", .free)], isGenerator := false, isCoroutine := false }
noncomputable def isIn (os : List Str) : Value → Bool | .str y _ => decide (y ∈ os) | _ => false
theorem comp_sv {L' ot : Addr} {os : List (Str × Nat)} {c' : Nat} {iter : Expr} {p1 p2 p3 p4 p5 p6 : Pos} (hh : A.handled = none)
    (h : wpAny (model prog w) A (eval iter (laEnv L')) (fun xv s₁ => ∃ (l : Addr) (ps : List (Str × Nat)) (c : Nat), xv = .ref l ∧ s₁.heap.get? l = some (W.listOf (ps.map sv).toArray c) ∧ ps.length ≤ 1000 ∧ s₁.heap.IsCell (L' + 1) (some (.ref ot)) ∧ s₁.heap.get? ot = some (W.listOf (os.map sv).toArray c') ∧
      ∀ D h' tk c2, s₁.heap.get? D = none → h'.get? D = some (W.listOf ((ps.filter fun p => decide (p.1 ∈ nms os)).map sv).toArray c2) → Keep [] s₁.heap h' → Q (.ref D) { s₁ with heap := h', toks := tk }) E s) 
    (hs : ∀ x, foldedSetIterable iter (laEnv L') x = pure x := by intro _; rfl) :
    wpAny (model prog w) A (eval (.ListComp (.Name "place" p1) [⟨.Name "place" p2, iter, [.Compare (.Name "place" p3) [.In] [.Name "other" p4] p5], 0⟩] cS p6) (laEnv L')) Q E s := by
  have hclos : closureFor cS (laEnv L') = pure [((Str.ofString "other" : Str), L' + 1)] := by rfl
  refine wpAny_ListComp_free (isIn (nms os)) (fun v y => y = v) hclos (by decide) rfl (by decide) rfl (wpAny_mono h (fun xv s₁ h₁ => ?_) fun _ _ e => e) hs
  obtain ⟨l, ps, c, rfl, hl, hlen, hcell, hot, hQ⟩ := h₁
  have hsz : (ps.map sv).toArray.size = ps.length := by simp
  have hlt := Heap.lt_size hl
  have up : ∀ b o, s₁.heap.get? b = some o → (s₁.heap.push { cls := .type "list_iterator", data := .fields #[.ref l, .int 0 0] }).get? b = some o := fun b o e => Heap.get?_push_of_some _ e
  have nI : ∀ b o, s₁.heap.get? b = some o → b ∉ [s₁.heap.objs.size] := fun b o e => nm1 (Nat.ne_of_lt (Heap.lt_size e))
  have hll : s₁.heap.IsList l (ps.map sv).toArray := ⟨_, hl, rfl, _, rfl⟩
  have name : ∀ {C : Addr} {v : Value} {s₃ : Shared} {m₃ : Str → Option Value} {px : Pos} {Q : Value → Shared → Prop} {E : Value → Shared → Prop}, s₃.heap.Ns C m₃ → m₃ "place" = some v → Q v s₃ → wpAny (model prog w) A (eval (.Name "place" px) (compEnvC cS [((Str.ofString "other" : Str), L' + 1)] C (laEnv L'))) Q E s₃ := fun hns hm hq => ldVarK hns hm hq
  refine wpAny_pyIter_list hll ⟨s₁.heap.objs.size, [s₁.heap.objs.size, l], [s₁.heap.objs.size], (ps.map sv).toArray.size, _, _, rfl, Walks.list hh _ _ (Nat.ne_of_lt hlt) (ps.map sv).toArray, by rw [hsz, sizeLine_eq]; omega, ⟨⟨_, Heap.get?_push_size _ rfl, rfl, rfl⟩, hll.push _⟩, ?_, ⟨?_, ?_⟩, ?_⟩
  · have z : (s₁.heap.push { cls := .type "list_iterator", data := .fields #[.ref l, .int 0 0] }).objs.size = s₁.heap.objs.size + 1 := Heap.size_push ..
    exact forall_cons (by rw [z]; exact Nat.lt_succ_self _) (forall_cons (by rw [z]; exact Nat.lt_succ_of_lt hlt) (fun _ h => absurd h List.not_mem_nil))
  · intro C i v s₃ m₃ E' _ hP hns hm3 keep _
    obtain ⟨p, hp, rfl⟩ := List.mem_map.mp (List.mem_of_getElem? (show (ps.map sv)[i]? = some v by simpa using hP))
    have ho3 := keep _ _ (nI _ _ hot) (up _ _ hot)
    have hc3 : s₃.heap.IsCell (L' + 1) (some (.ref ot)) := by
      obtain ⟨o, e, r⟩ := hcell
      exact ⟨o, keep _ _ (nI _ _ e) (up _ _ e), r⟩
    refine wpAny_tests_one (wpAny_isTrue_Compare1 (name hns hm3 ?_))
    refine wpAny_Name (wpAny_loadName_cell (env := compEnvC cS [((Str.ofString "other" : Str), L' + 1)] C (laEnv L')) rfl (by rfl) (by rfl) hc3 ?_) (by decide)
    refine in_sv (ps := os) ⟨_, ho3, rfl, _, rfl⟩ ?_
    exact wpAny_truthy_bool ⟨rfl, _, _, rfl, fun _ _ e => e⟩
  · intro C i v s₃ m₃ E' _ hP hp hns hm3 keep _
    exact name hns hm3 ⟨rfl, _, _, rfl, fun _ _ e => e⟩
  · rintro D h' tk ys vs hD _ ⟨c2, hc⟩ hn hP hF keep
    have e1 : vs = ps.map sv := by
      refine List.ext_getElem? fun q => ?_
      by_cases hq : q < vs.length
      · have := hP q vs[q] (List.getElem?_eq_getElem hq)
        rw [List.getElem?_eq_getElem hq, ← this]; simp
      · rw [List.getElem?_eq_none (Nat.le_of_not_lt hq), List.getElem?_eq_none (by rw [List.length_map, ← hsz, ← hn]; exact Nat.le_of_not_lt hq)]
    have e2 : vs.filter (isIn (nms os)) = (ps.filter fun p => decide (p.1 ∈ nms os)).map sv := by
      rw [e1, List.filter_map]; rfl
    rw [e2] at hF
    have e3 : ys.toList = (ps.filter fun p => decide (p.1 ∈ nms os)).map sv := paired_map hF fun j _ y hy => hy
    refine hQ D h' tk c2 ?_ ?_ fun b o _ e => keep b o (nI b o e) (up _ _ e)
    · cases q : s₁.heap.get? D with
      | none => rfl
      | some o => rw [up _ _ q] at hD; cases hD
    · rw [hc]
      show some (W.listOf ys c2) = some (W.listOf ((ps.filter fun p => decide (p.1 ∈ nms os)).map sv).toArray c2)
      rw [← e3, Array.toArray_toList]
end
end Mine
end

section
open PySem PySem.W PyProof.Rows PySem.Calls 
namespace Mine
theorem rising_all : ∀ (l : List Str) (p : Str), risingS p l = true → (p :: l).Pairwise fun a b => ¬ b.cps.toList < a.cps.toList
  | [], p, _ => List.pairwise_singleton ..
  | x :: r, p, h => by
    have h' : (!PySem.Spec.ltCps x.cps.toList p.cps.toList && risingS x r) = true := h
    rw [Bool.and_eq_true] at h'
    have ih := rising_all r x h'.2
    have h1 : ¬ x.cps.toList < p.cps.toList := by
      have := h'.1
      rw [ltCps_eq] at this
      simpa using this
    refine List.pairwise_cons.mpr ⟨fun y hy => ?_, ih⟩
    rcases List.mem_cons.mp hy with rfl | hy
    · exact h1
    · have h2 := (List.pairwise_cons.mp ih).1 y hy
      exact List.not_lt.mpr (List.le_trans (List.not_lt.mp h1) (List.not_lt.mp h2))
theorem sorted_all {l : List Str} (h : sortedS l = true) : l.Pairwise fun a b => ¬ b.cps.toList < a.cps.toList := by
  cases l with
  | nil => exact .nil
  | cons x r => exact rising_all r x h
theorem sorted_one {a b : List Str} (ha : sortedS a = true) (hb : sortedS b = true) (hp : a.Perm b) : a = b := by
  refine List.Perm.eq_of_pairwise (le := fun a b : Str => ¬ b.cps.toList < a.cps.toList) (fun x y _ _ h1 h2 => ?_) (sorted_all ha) (sorted_all hb) hp
  have := List.le_antisymm (List.not_lt.mp h1) (List.not_lt.mp h2)
  cases x; cases y
  exact congrArg Str.mk (Array.toList_inj.mp this)
theorem good_perm {anc : Str → List Str} {ps out : List Str} (nd : ps.Nodup) (G : Good anc ps out) : out.Perm ps := (List.perm_ext_iff_of_nodup G.nd nd).mpr G.mem
end Mine
end

section
open PySem PySem.W PyProof.Rows PySem.Calls 
namespace Mine
section
variable {prog : Program} {w : World} {A : Around} {E : Value → Shared → Prop} {s : Shared} {env : Env} {g : Heap} {x : Str} {body : List Stmt} {Q : Flow → Shared → Prop} {m : Str → Option Value}
theorem loopG_range {r : Addr} {n : Nat} {t u v : Tok} (hr : IsRange s.heap r 0 n 1 t u v) (hsm : Builtin.Range.small 0 n 1 = true) (hsz : Builtin.Range.rangeSize 0 n 1 = n) (hh : A.handled = none)
    (F : Fr g env.locals s.heap m) (Inv : Addr → Nat → Heap → (Str → Option Value) → Array GenState → Prop) (h0 : ∀ I, s.heap.get? I = none → Inv I 0 s.heap m s.gens)
    (stab : ∀ I i h h' m gens, s.heap.get? I = none → Inv I i h m gens → Keep [env.locals, I] h h' → Inv I i h' m gens)
    (turn : ∀ I (i : Nat) t h tk m gens oI, s.heap.get? I = none → i < n → Inv I i h m gens → Fr g env.locals h (fun y => if y = x then some (.int i t) else m y) → h.get? I = some oI → I ≠ env.locals ∧ g.get? I = none →
      wpAny (model prog w) A (execs body env) (TurnG g env.locals [I] h (Inv I (i + 1)) s Q) E { s with heap := h, toks := tk, gens := gens })
    (done : ∀ I h tk m gens, s.heap.get? I = none → Inv I n h m gens → Fr g env.locals h m → Q .next { s with heap := h, toks := tk, gens := gens }) :
    wpAny (model prog w) A (pyIter (.ref r)) (fun it s₂ => LoopG prog w A g env x body Q E it s₂) E s := by
  refine wpAny_pyIter_range hr hsm ?_
  rw [hsz]
  have nI : s.heap.get? s.heap.objs.size = none := noneAt
  have fI := fresh_none F nI
  have up : ∀ b o, s.heap.get? b = some o → (s.heap.push { cls := .type "range_iterator", data := .fields #[rawInt 0, rawInt n, rawInt 1] }).get? b = some o := fun b o e => Heap.get?_push_of_some _ e
  have hI : (s.heap.push { cls := .type "range_iterator", data := .fields #[rawInt 0, rawInt n, rawInt 1] }).get? s.heap.objs.size = some { cls := .type "range_iterator", data := .fields #[rawInt 0, rawInt n, rawInt 1] } := Heap.get?_push_size _ rfl
  refine ⟨_, [s.heap.objs.size], [s.heap.objs.size], n, _, _, m, fun i h m gens => Inv s.heap.objs.size i h m gens, rfl, LCg.range_walks hh 0 n, ?_, ?_, ?_, F.push _, stab _ _ _ _ _ _ nI (h0 _ nI) fun b o _ e => up b o e, ?_, ?_, ?_⟩
  · intro hm; exact fI.1 (List.mem_singleton.mp hm).symm
  · intro b hb; rw [List.mem_singleton.mp hb]; exact fI.2
  · show _ = _
    rw [hI]; simp
  · intro i h h' m gens hJ k
    exact stab _ _ _ _ _ _ nI hJ k
  · intro i v h tk m' gens hi hv hst hJ F'
    obtain ⟨t, rfl⟩ := hv
    have hst' : h.get? s.heap.objs.size = some _ := hst
    rw [Int.zero_add] at F'
    refine wpAny_mono (turn _ i t h tk m' gens _ nI hi hJ F' hst' fI) (fun f s' hf => ?_) fun _ _ e => e
    have fin : (∃ h'' tk gens m', s' = { s with heap := h'', toks := tk, gens := gens } ∧ (∀ b ∈ [s.heap.objs.size], ∀ o, h.get? b = some o → h''.get? b = some o) ∧ Fr g env.locals h'' m' ∧ Inv s.heap.objs.size (i + 1) h'' m' gens) →
        ∃ h'' tk gens m', s' = { s with heap := h'', toks := tk, gens := gens } ∧ (∀ b ∈ [s.heap.objs.size], ∀ o, h.get? b = some o → h''.get? b = some o) ∧ Fr g env.locals h'' m' ∧ Inv s.heap.objs.size (i + 1) h'' m' gens := id
    cases f with
    | ret v => exact hf
    | brk => exact hf
    | cont => exact fin hf
    | next => exact fin hf
  · intro h tk m' gens hJ F'
    exact done _ h tk m' gens nI hJ F'
end
end Mine
end

section
open PySem PySem.W PyProof.Rows PySem.Calls 
local macro_rules | `(tactic| ktr_rel) => `(tactic| repeat' ((fail_if_success (with_reducible show Exists _)); (fail_if_success (with_reducible show wpAny _ _ (call (Value.type _) _) _ _ _)); (fail_if_success (with_reducible show wpAny _ _ (compareOp _ (Value.ref _) (Value.ref _)) _ _ _)); (fail_if_success (with_reducible show wpAny _ _ (eval (Expr.ListComp _ _ _ _) _) _ _ _)); first | (k_unfold; (try dsimp only)) | (k_end; wrow_close) | walk1 | (dsimp only; walk1) | (leave1; (try dsimp only)) | fail "no step"))
local macro_rules | `(tactic| walk_at "unused 0") => `(tactic| fail "unused")
local macro_rules | `(tactic| walk_at "unused 1") => `(tactic| fail "unused")
namespace Mine
local macro_rules | `(tactic| k_ne) => `(tactic| (refine neN ?_; (try dsimp only); first | assumption | (refine Ne.symm ?_; assumption) | omega))
local macro_rules | `(tactic| k_all) => `(tactic| assumption)
local macro_rules | `(tactic| walk_at "subscriptTail") => `(tactic| (k_here; (with_unfolding_all refine' item_at ?k1 ?k2 ?k3 ?k4 ?_ ?k5; (case k1 => k_asm); (case k2 => k_mem); (case k3 => with_reducible assumption); (case k4 => omega); (case k5 => with_unfolding_all rfl))))
local macro_rules | `(tactic| walk_at "call builtin:list.index") => `(tactic| (k_here; (with_reducible show wpAny _ _ (call (Value.builtin _) [Value.ref _, Value.str _ _]) _ _ _); k_dflt (refine' index_sv ?N ?m ?i ?z ?_; (case N => k_asm); (case m => k_mem); (case i => with_reducible assumption); (case z => omega)); intro j' hj' hje'))
local macro_rules | `(tactic| walk_at "subscriptTail Name Slice ref ref") => `(tactic| (k_here; (with_reducible show wpAny _ _ (subscriptTail _ (PySem.Expr.Slice none (some _) none _) (Value.ref _) (Value.ref _)) _ _ _); k_dflt (refine' upto_sv ?F ?N ?l ?q ?j ?_ ?s ?t; (case F => k_asm); (case N => k_asm); (case l => k_mem); (case q => omega); (case j => omega); (case s => with_unfolding_all rfl); (case t => kmk_pure)); intro D' h' F' N' l1; (try k_lt l1)))
local macro_rules | `(tactic| walk_at "subscriptTail Name Slice ref ref") => `(tactic| (k_here; (with_reducible show wpAny _ _ (subscriptTail _ (PySem.Expr.Slice none none (some _) _) (Value.ref _) (Value.ref _)) _ _ _); k_dflt (refine' rev_strs ?F ?N ?l ?q ?k ?_ ?s ?t; (case F => k_asm); (case N => k_asm); (case l => k_mem); (case q => ((try simp only [List.length_take]); omega)); (case k => exact IsPart.int _ _); (case s => with_unfolding_all rfl); (case t => kmk_pure)); intro D' h' F' N' l1))
section
variable {prog : Program} {w : World} {p₀ : Program} {loose : List Str} {mean : ExcName → Option Value} {mg mb : Str → Option Value} {g : Heap} {s : Shared}
  {dp un : Nat} {gd : Option (List Code)} {R : Result → Shared → Prop}
noncomputable def laF : Stmt := stN (fnB st249) 4
noncomputable def laB : List Stmt := match laF with | .For _ _ b _ _ => b | _ => []
theorem law_turn {L' I pl ab f1 f2 : Addr} {oc oI : Obj} {ps os1 os2 : List (Str × Nat)} {rs : List Row} {c2 c3 c4 c6 k t : Nat} {m : Str → Option Value} {anc : Str → List Str} {Q : Flow → Shared → Prop}
    (X : (hz.heap_251 w.params).In g) (T : Top p₀ loose mean mg mb g) (hd : dp + 150 < 900) (hun : un + 350 < 8000) (hk : k < 7)
    (F : Fr g L' s.heap m) (m1 : m "places" = some (.ref pl)) (m2 : m "above" = some (.ref ab)) (m3 : m "first" = some (.ref f1)) (m4 : m "second" = some (.ref f2)) (m5 : m "k" = some (.int k t))
    (N : News g L' s.heap ((f2, W.listOf (os2.map sv).toArray c6) :: (f1, W.listOf (os1.map sv).toArray c4) :: (L' + 1, oc) :: (pl, W.listOf (ps.map sv).toArray c2) :: (ab, W.listOf (rowV rs).toArray c3) :: (I, oI) :: rowE rs))
    (hoc : ∃ v, oc.data = .cell v) (hgs : AllBare s.gens) (e1 : ps.length = 7) (e2 : rs.length = 7) (l1 : os1.length = 7) (l2 : os2.length = 7) (Fo : Forest anc (nms ps)) (hpo : ∀ p ∈ nms ps, PlaceOk anc p) (hanc : ∀ (k : Nat) p a, (nms ps)[k]? = some p → (rowT rs)[k]? = some a → anc p = a) (hsok : ∀ p ∈ nms ps, PyData.strOk p = true)
    (G1 : Good anc (nms ps) (nms os1)) (G2 : Good anc (nms ps).reverse (nms os2))
    (n1 : @Ne Nat f2 (L' + 1)) (n2 : @Ne Nat f1 (L' + 1)) (n3 : @Ne Nat pl (L' + 1)) (n4 : @Ne Nat ab (L' + 1)) (n5 : @Ne Nat I (L' + 1)) (n6 : ∀ q ∈ rowE rs, @Ne Nat q.1 (L' + 1))
    (hQ : ∀ h' tk' gens' m' oc', Fr g L' h' m' → m' "places" = some (.ref pl) → m' "above" = some (.ref ab) → m' "first" = some (.ref f1) → m' "second" = some (.ref f2) → (∃ v, oc'.data = .cell v) → 
      News g L' h' ((f2, W.listOf (os2.map sv).toArray c6) :: (f1, W.listOf (os1.map sv).toArray c4) :: (L' + 1, oc') :: (pl, W.listOf (ps.map sv).toArray c2) :: (ab, W.listOf (rowV rs).toArray c3) :: (I, oI) :: rowE rs) → AllBare gens' → Q .next { s with heap := h', toks := tk', gens := gens' }) :
    wpAny (model prog w) (Ar dp un gd [laEnv L']) (execs laB (laEnv L')) Q (fun _ _ => False) s := by
  have hrl : recursionLimit = 1000 := rfl
  have F1 := Fr.pin (Fr.pin (Fr.pin (Fr.pin (Fr.pin F (y₀ := "places") m1) (y₀ := "above") m2) (y₀ := "first") m3) (y₀ := "second") m4) (y₀ := "k") m5
  clear F
  obtain ⟨p, hp⟩ : ∃ p, ps[k]? = some p := ⟨_, List.getElem?_eq_getElem (by omega)⟩
  obtain ⟨r, hr⟩ : ∃ r, rs[k]? = some r := ⟨_, List.getElem?_eq_getElem (by omega)⟩
  have hpm : p.1 ∈ nms ps := List.mem_map_of_mem (List.mem_of_getElem? hp)
  have hv1 : (ps.map sv)[k]? = some (Value.str p.1 p.2) := by rw [List.getElem?_map, hp]; rfl
  have hv3 : (rowV rs)[k]? = some (Value.ref r.a) := by unfold rowV; rw [List.getElem?_map, hr]; rfl
  have hx1 : p.1 ∈ nms os1 := (G1.mem _).mpr hpm
  have hx2 : p.1 ∈ nms os2 := (G2.mem _).mpr (List.mem_reverse.mpr hpm)
  obtain ⟨v₀, hoc⟩ := hoc
  conv in execs _ _ => arg 1; whnf
  k_steps
  rename_i j1 hj1 hje1 ah _ q1 _ _ j2 hj2 hje2 ot _ q2 h3 oc1 F2 N2 hoc1
  have gL : g.get? L' = none := by
    cases q : g.get? L' with
    | none => rfl
    | some o => exact absurd (Nat.lt_of_lt_of_le (Heap.lt_size q) F2.above) (Nat.lt_irrefl _)
  have nfr : ∀ {b : Addr}, b ≠ L' → b ∉ frs [laEnv L'] := fun n hm => n (List.mem_singleton.mp hm)
  obtain ⟨hlp, full, hch, hdrop, hf1, hf2⟩ := hpo p.1 hpm
  have hsz : g.objs.size ≤ h3.objs.size := Nat.le_trans F2.above (by obtain ⟨_, _, _, e, _⟩ := F2.ns; exact Nat.le_of_lt (Heap.lt_size e))
  refine wpAny_call (weakC (dp := dp + 10) (un := un + 50) (parents (h₀ := g) X T F2.keep hsz (by omega) hlp hch ?_) rfl (by show dp ≤ dp + 10; omega) (by show un ≤ un + 50; omega))
  intro h4 tk4 i di G Lg oL nm qn gs na nb nc nd kp4 hfr nGL z2 z3 z1 z5 hi hdi hG hLg hlz hbare ok
  dsimp only
  have F4 := frKept' F2 kp4 (fun _ h => absurd h List.not_mem_nil)
  have N4 := nKeep N2 kp4
  have gi0 : ∀ x ∈ [i, di, G, Lg], g.get? x = none ∧ x ≠ L' := fun x hx => by
    have fz := fresh_none (env := laEnv L') (s := { s with heap := h3 }) F2 (hfr x hx)
    exact ⟨fz.2, fz.1⟩
  have ffE : h4.FunFrames g [laEnv L'] := .cons (show ScopeKind.function ≠ ScopeKind.module by decide) rfl F4.ns gL trivial
  have O : IslOff g i di G Lg [laEnv L'] := by
    have far : ∀ b ∈ frs [laEnv L'], ∀ x ∈ [i, di, G, Lg], @Ne Nat b x := fun b hb x hx z => (gi0 x hx).2 (z ▸ (List.mem_singleton.mp hb))
    exact ⟨z1, z2, z3, nGL, z5, hlz, fun b hb => ⟨far b hb _ (.head _), far b hb _ (.tail _ (.head _)), far b hb _ (.tail _ (.tail _ (.head _))), far b hb _ (.tail _ (.tail _ (.tail _ (.head _))))⟩, fun x hx => (gi0 x hx).1⟩
  have oldN : ∀ q ∈ ((ot, W.listOf ((os2.take j2).map sv).toArray 0) :: (ah, W.listOf ((os1.take j1).map sv).toArray 0) :: (f2, W.listOf (os2.map sv).toArray c6) :: (f1, W.listOf (os1.map sv).toArray c4) :: (L' + 1, oc1) :: (pl, W.listOf (ps.map sv).toArray c2) :: (ab, W.listOf (rowV rs).toArray c3) :: (I, oI) :: rowE rs), q.1 ∉ [i, Lg] := fun q hq => nm2 (fun z => by have := hfr i (.head _); rw [← z, (N2 q hq).1] at this; cases this) (fun z => by have := hfr Lg (.tail _ (.tail _ (.tail _ (.head _)))); rw [← z, (N2 q hq).1] at this; cases this)
  ktr_rel
  refine isl_list (h₀ := g) (full := full) (l := full) (k := 1) (gi := s.gens.size) (nm := nm) (qn := qn) X T F4 O ⟨⟨1, na, nb, nc, nd, hi⟩, hdi, hG, ⟨gs, oL, hLg, by simp, ok⟩, hf1, ffE, F4.keep⟩ (by omega) (by omega) (by omega) ?_
  intro h5 tk5 gens5 S ts c5 hts hS tk_ hSo
  have gf : ∀ b o, g.get? b = some o → b ≠ L' := fun b o e z => by rw [z, gL] at e; cases e
  have F5 : Fr g L' h5 _ := fr_up F4 (fun o e n => tk_.up L' (.head _) o e n) fun b o e => tk_.keep b o (F4.keep b o e) (nm2 (fun z => by rw [z, (gi0 i (.head _)).1] at e; cases e) (fun z => by rw [z, (gi0 Lg (.tail _ (.tail _ (.tail _ (.head _))))).1] at e; cases e)) (nfr (gf b o e)) List.not_mem_nil
  have fS := fresh_none (env := laEnv L') (s := { s with heap := h4 }) F4 hS
  have N5 : News g L' h5 ((S, W.listOf (ts.map sv).toArray c5) :: (ot, W.listOf ((os2.take j2).map sv).toArray 0) :: (ah, W.listOf ((os1.take j1).map sv).toArray 0) :: (f2, W.listOf (os2.map sv).toArray c6) :: (f1, W.listOf (os1.map sv).toArray c4) :: (L' + 1, oc1) :: (pl, W.listOf (ps.map sv).toArray c2) :: (ab, W.listOf (rowV rs).toArray c3) :: (I, oI) :: rowE rs) :=
    nCons ⟨hSo, fS⟩ fun q hq => ⟨tk_.keep _ _ (N4 q hq).1 (oldN q hq) (nfr (N4 q hq).2.1) List.not_mem_nil, (N4 q hq).2⟩
  have gb5 : AllBare gens5 := bare_only (bare_push hgs hbare) tk_.gens
  clear F4 N4 kp4 tk_ O ffE ok
  dsimp only
  ktr_rel
  have hrm := List.mem_of_getElem? hr
  have hrE : (r.a, r.obj) ∈ rowE rs := List.mem_map_of_mem (f := fun r : Row => (r.a, r.obj)) hrm
  have hanc' : anc p.1 = nms r.l := hanc k p.1 (nms r.l) (by rw [List.getElem?_map, hp]; rfl) (by unfold rowT; rw [List.getElem?_map, hr]; rfl)
  have hok' : ∀ x ∈ anc p.1, PyData.strOk x = true := fun x hx => hsok x (Fo.mem p.1 hpm x hx)
  have ets : nms ts = anc p.1 := hts.trans hdrop
  refine ne_svs (ps := ts) (qs := r.l) N5 (.head _) (.tail _ (.tail _ (.tail _ (.tail _ (.tail _ (.tail _ (.tail _ (.tail _ (.tail _ hrE))))))))) (by show un + 64 < cLine; rw [show cLine = 9900 from rfl]; omega) (by rw [ets]; exact hok') (ets.trans hanc') ?_
  replace N5 := nsub N5 (E' := (ot, W.listOf ((os2.take j2).map sv).toArray 0) :: (ah, W.listOf ((os1.take j1).map sv).toArray 0) :: (f2, W.listOf (os2.map sv).toArray c6) :: (f1, W.listOf (os1.map sv).toArray c4) :: (L' + 1, oc1) :: (pl, W.listOf (ps.map sv).toArray c2) :: (ab, W.listOf (rowV rs).toArray c3) :: (I, oI) :: rowE rs) fun p hp => .tail _ hp
  ktr_rel
  refine comp_sv (ot := ot) (os := os2.take j2) (c' := 0) rfl ?_
  ktr_rel
  rename_i rv h6 F6 N6 _
  refine ⟨rv, (os1.take j1).reverse, 0, rfl, (N6 _ (.head _)).1, by rw [List.length_reverse, List.length_take]; omega, ⟨oc1, (N6 (L' + 1, oc1) (.tail _ (.tail _ (.tail _ (.tail _ (.tail _ (.head _))))))).1, hoc1⟩, (N6 (ot, W.listOf ((os2.take j2).map sv).toArray 0) (.tail _ (.head _))).1, ?_⟩
  intro D h7 tk7 c7 hD hDo kp7
  dsimp only
  have F7 := frKept' F6 kp7 (fun _ h => absurd h List.not_mem_nil)
  have N7 : News g L' h7 ((D, W.listOf (((os1.take j1).reverse.filter fun p => decide (p.1 ∈ nms (os2.take j2))).map sv).toArray c7) :: (f2, W.listOf (os2.map sv).toArray c6) :: (f1, W.listOf (os1.map sv).toArray c4) :: (L' + 1, oc1) :: (pl, W.listOf (ps.map sv).toArray c2) :: (ab, W.listOf (rowV rs).toArray c3) :: (I, oI) :: rowE rs) :=
    nCons (nNew F6 hD hDo) fun q hq => ⟨kp7 _ _ nm0 (N6 q (.tail _ (.tail _ (.tail _ hq)))).1, (N6 q (.tail _ (.tail _ (.tail _ hq)))).2⟩
  clear F6 N6 kp7 F5 N5
  have ecomp : nms ((os1.take j1).reverse.filter fun p => decide (p.1 ∈ nms (os2.take j2))) = nms r.l := by
    rw [← hanc', ← tells Fo G1 G2 hpm, ← hje1, ← hje2, ← List.map_reverse, List.filter_map]
    rfl
  ktr_rel
  refine ne_svs (ps := (os1.take j1).reverse.filter fun p => decide (p.1 ∈ nms (os2.take j2))) (qs := r.l) N7 (.head _) (.tail _ (.tail _ (.tail _ (.tail _ (.tail _ (.tail _ (.tail _ hrE))))))) (by show un + 64 < cLine; rw [show cLine = 9900 from rfl]; omega) (by rw [ecomp, ← hanc']; exact hok') ecomp ?_
  replace N7 := nsub N7 (E' := (f2, W.listOf (os2.map sv).toArray c6) :: (f1, W.listOf (os1.map sv).toArray c4) :: (L' + 1, oc1) :: (pl, W.listOf (ps.map sv).toArray c2) :: (ab, W.listOf (rowV rs).toArray c3) :: (I, oI) :: rowE rs) fun p hp => .tail _ hp
  ktr_rel
  exact hQ h7 _ gens5 _ oc1 F7 rfl rfl rfl rfl ⟨_, hoc1⟩ N7 gb5
end
end Mine
end

section
open PySem PySem.W PyProof.Rows PySem.Calls 
local macro_rules | `(tactic| ktr_unf) => `(tactic| repeat' ((fail_if_success (with_reducible show wpAny _ _ (exec (Stmt.For _ _ _ _ _) _) _ _ _)); (fail_if_success (with_reducible show wpAny _ _ (exec (Stmt.While _ _ _ _) _) _ _ _)); (fail_if_success (with_reducible show wpAny _ _ (exec (Stmt.Try _ _ _ _ _) _) _ _ _)); first | (k_unfold; (try dsimp only)) | (k_end; wrow_close) | walk1 | (dsimp only; walk1) | (leave1; (try dsimp only)) | fail "no step"))
local macro_rules | `(tactic| walk_at "unused 0") => `(tactic| fail "unused")
local macro_rules | `(tactic| walk_at "unused 1") => `(tactic| fail "unused")
local macro_rules | `(tactic| walk_at "unused 2") => `(tactic| fail "unused")
local macro_rules | `(tactic| walk_at "unused 3") => `(tactic| fail "unused")
namespace Mine
local macro_rules | `(tactic| k_ne) => `(tactic| (refine neN ?_; (try dsimp only); first | assumption | (refine Ne.symm ?_; assumption) | omega))
section
variable {prog : Program} {w : World} {p₀ : Program} {loose : List Str} {mean : ExcName → Option Value} {mg mb : Str → Option Value} {h₀ : Heap} {s : Shared}
  {dp un : Nat} {gd : Option (List Code)} {R : Result → Shared → Prop}
local macro_rules | `(tactic| walk_at "subscriptTail Name Slice ref ref") => `(tactic| (k_here; (with_reducible show wpAny _ _ (subscriptTail _ (PySem.Expr.Slice none none (some _) _) (Value.ref _) (Value.ref _)) _ _ _); k_dflt (refine' rev_strs ?F ?N ?l ?q ?k ?_ ?s ?t; (case F => k_asm); (case N => k_asm); (case l => k_mem); (case q => omega); (case k => exact IsPart.int _ _); (case s => with_unfolding_all rfl); (case t => kmk_pure)); intro D' h' F' N' l1))
theorem law_ok {sc : Addr} {vs : List Value} {ns : List Int}
    (X : (hz.heap_251 w.params).In s.heap) (T : Top p₀ loose mean mg mb s.heap) (hsc : s.heap.IsList sc vs.toArray) (hi : IntsAre vs ns) (hn : ns.length ≤ 63) (hd : dp + 200 < 900) (hun : un + 400 < 8000) (hgs : AllBare s.gens)
    (hret : ∀ h' tk' gens', (∀ b o, s.heap.get? b = some o → h'.get? b = some o) → AllBare gens' → R (.ok (.ret (.bool true))) { s with heap := h', toks := tk', gens := gens' }) :
    codeAny (model prog w) (Ar dp un gd []) (.call (.ref 249) ⟨[.ref sc], []⟩) R s := by
  have hrl : recursionLimit = 1000 := rfl
  refine call_cellsN (name := "law") (params := fnP st249) (body := fnB st249) (scope := fnS st249) (pm := .str "law_ij0125_01" 515) (cd := .ref 248) (doc := .none) (show dp < 1000 by omega) (X _ _ (ko249 _)) rfl T.nolimit (codeRec_of X (by k_is)) rfl (kinds_of (by kinds_ok)) (by decide) fun h₁ tk cells F N Y => ?_
  obtain ⟨oc, he, hoc⟩ := CellsAre.one Y
  subst he
  generalize hLL : s.heap.objs.size = L' at *
  refine wpAny_mono (E := fun _ _ => False) ?_ (fun _ _ q => q) fun _ _ f => f.elim
  conv in execs _ _ => arg 1; whnf
  obtain ⟨m0, hm0, F0⟩ : ∃ m0, m0 "script" = some (.ref sc) ∧ Fr s.heap L' h₁ m0 := ⟨_, rfl, F⟩
  have hoc : oc.data = .cell none := hoc
  have F1 := Fr.pin F0 hm0
  have N1 : News s.heap L' h₁ [(L' + 1, oc)] := N
  clear F F0 Y
  show wpAny _ (Ar (dp + 1) (un + 3) gd [laEnv L']) _ _ _ _
  ktr_unf
  refine wpAny_call (weakC (dp := dp + 10) (un := un + 50) (law_tree (h₀ := s.heap) X T F1.keep hsc hi hn (by omega) ?_) rfl (by show dp + 1 ≤ dp + 10; omega) (by show un + 3 ≤ un + 50; omega))
  intro h2 tk2 tp pl ab ps rs c2 c3 kp2 tree e1 e2 htp hpl hab hrows hnew
  dsimp only
  have F2 := frKept' F1 kp2 (fun _ h => absurd h List.not_mem_nil)
  have nw : ∀ b o, b ∈ [tp, pl, ab] ++ rs.map (·.a) → h2.get? b = some o → h2.get? b = some o ∧ b ≠ L' ∧ s.heap.get? b = none := fun b o hb e => nNew F1 (hnew b hb) e
  have N2 : News s.heap L' h2 ((tp, { cls := .type "tuple", data := .seq #[.ref pl, .ref ab] }) :: (L' + 1, oc) :: (pl, W.listOf (ps.map sv).toArray c2) :: (ab, W.listOf (rowV rs).toArray c3) :: rowE rs) :=
    nCons (nw _ _ (.head _) htp) (nCons (nOld N1 kp2 (.head _) nm0) (nCons (nw _ _ (.tail _ (.head _)) hpl) (nCons (nw _ _ (.tail _ (.tail _ (.head _))) hab) fun q hq => by
      obtain ⟨r, hr, z⟩ := List.mem_map.mp hq
      exact nw q.1 q.2 (List.mem_append_right _ (z ▸ List.mem_map_of_mem hr)) (hrows q hq))))
  have hc0 := (N1 (L' + 1, oc) (.head _)).1
  have neC : ∀ b ∈ [tp, pl, ab] ++ rs.map (·.a), @Ne Nat b (L' + 1) := fun b hb z => by
    have := hnew b hb
    rw [z, hc0] at this; cases this
  clear F1 N1 kp2 htp hpl hab hrows
  ktr_unf
  rename Fr s.heap L' _ _ => F3
  rename News s.heap L' _ _ => N3
  have hlen7 : (ps.map (·.1)).length = 7 := by rw [List.length_map]; exact e1
  obtain ⟨anc, Fo, hpo, hanc, hsok⟩ := tree_forest tree (by omega)
  have hpo' : ∀ q ∈ ps, PlaceOk anc q.1 := fun q hq => hpo q.1 (List.mem_map_of_mem hq)
  have sL : s.heap.get? L' = none := by
    cases q : s.heap.get? L' with
    | none => rfl
    | some o => exact absurd (Nat.lt_of_lt_of_le (Heap.lt_size q) F3.above) (Nat.lt_irrefl _)
  have mkff : ∀ {h : Heap} {m : Str → Option Value}, Fr s.heap L' h m → h.FunFrames s.heap [laEnv L'] := fun F => .cons (show ScopeKind.function ≠ ScopeKind.module by decide) rfl F.ns sL trivial
  have nfr : ∀ {b : Addr}, b ≠ L' → b ∉ frs [laEnv L'] := fun n hm => n (List.mem_singleton.mp hm)
  refine wpAny_call (law_walk (h₀ := s.heap) (anc := anc) X T F3.keep (N3 (pl, W.listOf (ps.map sv).toArray c2) (.tail _ (.tail _ (.head _)))).1 (by omega) (by omega) (mkff F3) (nfr (N3 (pl, _) (.tail _ (.tail _ (.head _)))).2.1) hgs (by omega) Fo hpo' ?_)
  intro h4 tk4 gens4 f1 os1 c4 kp4 U4 ff4 hgs4 hf1 hf1o G1
  dsimp only
  have sfr : ∀ b o, s.heap.get? b = some o → b ≠ L' := fun b o e z => by rw [z, sL] at e; cases e
  have F4 := fr_up F3 (fun o e n => U4 L' (.head _) o e n) fun b o e => kp4 b o (F3.keep b o e) (nfr (sfr b o e))
  have ff1 := fresh_none (env := laEnv L') (s := { s with heap := _ }) F3 hf1
  have N4 : News s.heap L' h4 ((f1, W.listOf (os1.map sv).toArray c4) :: (L' + 1, oc) :: (pl, W.listOf (ps.map sv).toArray c2) :: (ab, W.listOf (rowV rs).toArray c3) :: rowE rs) := nCons ⟨hf1o, ff1⟩ fun q hq => ⟨kp4 _ _ (N3 q (.tail _ hq)).1 (nfr (N3 q (.tail _ hq)).2.1), (N3 q (.tail _ hq)).2⟩
  have nf1 : ∀ q ∈ (L' + 1, oc) :: (pl, W.listOf (ps.map sv).toArray c2) :: (ab, W.listOf (rowV rs).toArray c3) :: rowE rs, @Ne Nat q.1 f1 := fun q hq => (neNone hf1 (N3 q (.tail _ hq)).1).symm
  clear F3 N3 kp4 U4
  ktr_unf
  rename Fr s.heap L' _ _ => F5
  rename News s.heap L' _ _ => N5
  rename_i rp _ l5
  have Fo2 : Forest anc (ps.reverse.map (·.1)) := by rw [List.map_reverse]; exact Fo.rev
  have hrp := N5 (rp, W.listOf (ps.reverse.map sv).toArray 0) (.head _)
  refine wpAny_call (law_walk (h₀ := s.heap) (anc := anc) X T F5.keep hrp.1 (by omega) (by omega) (mkff F5) (nfr hrp.2.1) hgs4 (by rw [List.length_reverse]; omega) Fo2 (fun q hq => hpo' q (List.mem_reverse.mp hq)) ?_)
  intro h6 tk6 gens6 f2 os2 c6 kp6 U6 ff6 hgs6 hf2 hf2o G2
  dsimp only
  have F6 := fr_up F5 (fun o e n => U6 L' (.head _) o e n) fun b o e => kp6 b o (F5.keep b o e) (nfr (sfr b o e))
  have ff2 := fresh_none (env := laEnv L') (s := { s with heap := _ }) F5 hf2
  have N6 : News s.heap L' h6 ((f2, W.listOf (os2.map sv).toArray c6) :: (f1, W.listOf (os1.map sv).toArray c4) :: (L' + 1, oc) :: (pl, W.listOf (ps.map sv).toArray c2) :: (ab, W.listOf (rowV rs).toArray c3) :: rowE rs) := nCons ⟨hf2o, ff2⟩ fun q hq => ⟨kp6 _ _ (N5 q (.tail _ hq)).1 (nfr (N5 q (.tail _ hq)).2.1), (N5 q (.tail _ hq)).2⟩
  have nf2 : @Ne Nat f2 (L' + 1) := neNone hf2 (N5 (L' + 1, oc) (.tail _ (.tail _ (.head _)))).1
  clear F5 N5 kp6 U6
  rw [List.map_reverse] at G2
  have len1 : os1.length = 7 := by
    have := (good_perm Fo.nd G1).length_eq
    rw [List.length_map, List.length_map] at this; omega
  have len2 : os2.length = 7 := by
    have := (good_perm Fo.rev.nd G2).length_eq
    rw [List.length_map, List.length_reverse, List.length_map] at this; omega
  have pm1 := good_perm Fo.nd G1
  have pm2 := (good_perm Fo.rev.nd G2).trans (List.reverse_perm _)
  ktr_unf
  have ok1 : ∀ qs : List (Str × Nat), (nms qs).Perm (nms ps) → ∀ x ∈ nms qs, PyData.strOk x = true := fun qs hp x hx => hsok x (hp.mem_iff.mp hx)
  have base : ∀ {h : Heap} {E E' : List (Addr × Obj)}, News s.heap L' h E → (∀ q ∈ E', q ∈ E) → News s.heap L' h E' := fun N k => nsub N k
  refine sorted_sv (ps := os1) (by assumption) (by assumption) (.tail _ (.head _)) (by omega) ?_
  intro h7 D1 q1 z1 F7 N7 p7 s7
  dsimp only
  ktr_unf
  refine sorted_sv (ps := ps) (by assumption) (by assumption) (.tail _ (.tail _ (.tail _ (.tail _ (.head _))))) (by omega) ?_
  intro h8 D2 q2 z2 F8 N8 p8 s8
  dsimp only
  refine ne_svs (ps := q1) (qs := q2) N8 (.tail _ (.head _)) (.head _) (by show un + 3 + 64 < cLine; rw [show cLine = 9900 from rfl]; omega) (ok1 q1 (p7.trans pm1)) (sorted_one s7 s8 ((p7.trans pm1).trans p8.symm)) ?_
  replace N8 := nsub N8 (E' := (f2, W.listOf (os2.map sv).toArray c6) :: (f1, W.listOf (os1.map sv).toArray c4) :: (L' + 1, oc) :: (pl, W.listOf (ps.map sv).toArray c2) :: (ab, W.listOf (rowV rs).toArray c3) :: rowE rs) fun p hp => .tail _ (.tail _ hp)
  clear F7 N7
  ktr_unf
  refine sorted_sv (ps := os2) (by assumption) (by assumption) (.head _) (by omega) ?_
  intro h9 D3 q3 z3 F9 N9 p9 s9
  dsimp only
  ktr_unf
  refine sorted_sv (ps := ps) (by assumption) (by assumption) (.tail _ (.tail _ (.tail _ (.tail _ (.head _))))) (by omega) ?_
  intro h10 D4 q4 z4 F10 N10 p10 s10
  dsimp only
  refine ne_svs (ps := q3) (qs := q4) N10 (.tail _ (.head _)) (.head _) (by show un + 3 + 64 < cLine; rw [show cLine = 9900 from rfl]; omega) (ok1 q3 (p9.trans pm2)) (sorted_one s9 s10 ((p9.trans pm2).trans p10.symm)) ?_
  replace N10 := nsub N10 (E' := (f2, W.listOf (os2.map sv).toArray c6) :: (f1, W.listOf (os1.map sv).toArray c4) :: (L' + 1, oc) :: (pl, W.listOf (ps.map sv).toArray c2) :: (ab, W.listOf (rowV rs).toArray c3) :: rowE rs) fun p hp => .tail _ (.tail _ hp)
  clear F9 N9 F8 N8
  ktr_unf
  refine For_g s.heap rfl rfl ?_
  k_steps
  rename_i F0 _ N0 h11 tk11 ta tb tc hr F11 N11 _
  clear F0 N0
  have nf1' : @Ne Nat f1 (L' + 1) := (nf1 (L' + 1, oc) (.head _)).symm
  have npl : @Ne Nat pl (L' + 1) := neC pl (.tail _ (.head _))
  have nab : @Ne Nat ab (L' + 1) := neC ab (.tail _ (.tail _ (.head _)))
  have nrow : ∀ q ∈ rowE rs, @Ne Nat q.1 (L' + 1) := fun q hq => by
    obtain ⟨r, hr, rfl⟩ := List.mem_map.mp hq
    exact neC r.a (List.mem_append_right _ (List.mem_map_of_mem hr))
  refine loopG_range (n := 7) hr (by decide) (by decide) rfl F11 (fun I k h m gens => m "places" = some (.ref pl) ∧ m "above" = some (.ref ab) ∧ m "first" = some (.ref f1) ∧ m "second" = some (.ref f2) ∧ AllBare gens ∧ ∃ oc', (∃ v, oc'.data = .cell v) ∧
    ∀ q ∈ (f2, W.listOf (os2.map sv).toArray c6) :: (f1, W.listOf (os1.map sv).toArray c4) :: (L' + 1, oc') :: (pl, W.listOf (ps.map sv).toArray c2) :: (ab, W.listOf (rowV rs).toArray c3) :: rowE rs, (h.get? q.1 = some q.2 ∧ q.1 ≠ L' ∧ s.heap.get? q.1 = none) ∧ q.1 ≠ I) ?_ ?_ ?_ ?_
  · intro I hI
    exact ⟨rfl, rfl, rfl, rfl, hgs6, oc, ⟨_, hoc⟩, fun q hq => ⟨N11 q hq, (neNone hI (N11 q hq).1).symm⟩⟩
  · rintro I i h h' m gens hI ⟨m1, m2, m3, m4, gb, oc', hoc', hN⟩ kp
    exact ⟨m1, m2, m3, m4, gb, oc', hoc', fun q hq => ⟨⟨kp _ _ (nm2 (hN q hq).1.2.1 (hN q hq).2) (hN q hq).1.1, (hN q hq).1.2⟩, (hN q hq).2⟩⟩
  · rintro I i t h tk m gens oI hI hi7 ⟨m1, m2, m3, m4, gb, oc', hoc', hN⟩ F₂ hoI ⟨IL, gI⟩
    refine law_turn (I := I) (oI := oI) (k := i) (t := t) (c2 := c2) (c3 := c3) (c4 := c4) (c6 := c6) X T (by omega) (by omega) hi7 F₂ m1 m2 m3 m4 rfl ?_ hoc' gb e1 e2 len1 len2 Fo hpo hanc hsok G1 G2 nf2 nf1' npl nab (hN (L' + 1, oc') (.tail _ (.tail _ (.head _)))).2.symm nrow ?_
    · exact nCons (hN _ (.head _)).1 (nCons (hN (f1, _) (.tail _ (.head _))).1 (nCons (hN (L' + 1, oc') (.tail _ (.tail _ (.head _)))).1 (nCons (hN (pl, _) (.tail _ (.tail _ (.tail _ (.head _))))).1 (nCons (hN (ab, _) (.tail _ (.tail _ (.tail _ (.tail _ (.head _)))))).1 (nCons ⟨hoI, IL, gI⟩ fun q hq => (hN q (.tail _ (.tail _ (.tail _ (.tail _ (.tail _ hq)))))).1)))))
    · intro h' tk' gens' m' oc2 F' m1' m2' m3' m4' hoc2 N' gb'
      have nI : ∀ q ∈ (f2, W.listOf (os2.map sv).toArray c6) :: (f1, W.listOf (os1.map sv).toArray c4) :: (L' + 1, oc2) :: (pl, W.listOf (ps.map sv).toArray c2) :: (ab, W.listOf (rowV rs).toArray c3) :: rowE rs, q.1 ≠ I := forall_cons (hN _ (.head _)).2 (forall_cons (hN (f1, _) (.tail _ (.head _))).2 (forall_cons (hN (L' + 1, oc') (.tail _ (.tail _ (.head _)))).2 (forall_cons (hN (pl, _) (.tail _ (.tail _ (.tail _ (.head _))))).2 (forall_cons (hN (ab, _) (.tail _ (.tail _ (.tail _ (.tail _ (.head _)))))).2 fun q hq => (hN q (.tail _ (.tail _ (.tail _ (.tail _ (.tail _ hq)))))).2))))
      refine ⟨h', tk', gens', m', rfl, forall_cons (fun o e => ?_) (fun _ h => absurd h List.not_mem_nil), F', m1', m2', m3', m4', gb', oc2, hoc2, fun q hq => ⟨?_, nI q hq⟩⟩
      · rw [hoI] at e; cases e
        exact (N' (I, oI) (.tail _ (.tail _ (.tail _ (.tail _ (.tail _ (.head _))))))).1
      · have N'' := nCons (N' _ (.head _)) (nCons (N' (f1, _) (.tail _ (.head _))) (nCons (N' (L' + 1, oc2) (.tail _ (.tail _ (.head _)))) (nCons (N' (pl, _) (.tail _ (.tail _ (.tail _ (.head _))))) (nCons (N' (ab, _) (.tail _ (.tail _ (.tail _ (.tail _ (.head _)))))) fun q hq => N' q (.tail _ (.tail _ (.tail _ (.tail _ (.tail _ (.tail _ hq))))))))))
        exact N'' q hq
  · rintro I h tk m gens hI ⟨m1, m2, m3, m4, gb, oc', hoc', hN⟩ F₂
    have N₂ := nNil (h₀ := s.heap) (L := L') (h := h)
    clear F11 N11
    dsimp only
    ktr_unf
    show R _ _
    exact hret h _ gens (fun b o e => F₂.keep b o e) gb
end
end Mine
end

open PySem PySem.W PyProof.Rows PySem.Calls PySem.W.X
theorem PySem.Challenge.cw_ij0125_01_holds : PySem.Challenge.rw_ij0125_01.Holds := by
  w_on; o_law
  refine holds_openX (q := Mine.hz.view_481) (loose := Mine.lo0) (Xt := Mine.Xt0) (XP := XL Mine.hz.view_481 []) (Yf := obsZ Mine.as0) (Ya := valZ Mine.hz.heap_251 250 548) (N := 3650) Mine.hl (fun s e => xl_of s (Bool.and_eq_true_iff.mp e).1) XL.keeps (by rfl) (by rfl) (by rfl) (fun s e => recFacts_of (Bool.and_eq_true_iff.mp e).2) (by rfl) (by first | assumption | decide +kernel) (by decide +kernel) ⟨rfl, rfl, rfl, rfl, rfl, by decide +kernel⟩ ?hw ?hc
  case hw => w_witness2
  case hc =>
    intro w s₀ s₁ mg mb G y fa o pm cd doc dV kV ho hd hcd hD hmg hg args vals as L hpre hlay hrd hwl hlo
    have ZF := z_facts (K := Mine.hz.heap_251) (fun _ => by kernel_rfl) y
    have KX : (Mine.hz.heap_251 w.params).In s₁.heap := InK.keeps w s₀.heap s₁.heap ZF.2.1 (Laid.keeps L)
    refine Ground.open G ?_
    intro T B D TE TW
    wrow_args hpre hlay hrd hwl hlo
    x_fa T KX hmg
    all_lens
    refine enter_call ?_
    have hg' : AllBare s₁.gens := AllBare.of_eq hg
    show codeAny (model PySem.Challenge.rw_ij0125_01.row.prog w) (Mine.Ar (1 + claimMargin) 4 (some []) []) _ _ _
    refine Mine.law_ok KX T (by assumption) (by assumption) (by omega) (by decide) (by decide) hg' ?_
    intro h' tk' gens' keep gb
    refine ⟨.inl ⟨_, .bool true, [], rfl, ?_, ?_, ?_, ?_⟩, OldK.of_keep keep, rfl, gb⟩
    · intro cls; rfl
    · exact ReadsW.bool _
    · exact postW_of (by wrow_shape) (by wtm_val) (by str_meet; first | done | w_fin)
    · intro h; exact ⟨List.nodup_nil, fun a ha => absurd ha List.not_mem_nil⟩

