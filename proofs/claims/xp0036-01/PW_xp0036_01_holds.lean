import PyProof.Rows.All
import OpenK.AllK
import Open.Head
import Wide.All
import Wide.FinOn
import KE.KRevSl
import KE.KBytesCut
import KE.BytesMake
import KE.KBytesWalk
import KE.KItem
import KE.KBoundM
import PyProof.AttrMissHeap
import KE.KCallOwn
import KE.KStar
import KE.KUnpack
import KE.KSuperObj
import KE.KPar
import PyProof.WalksPairs
import PyProof.SumAny
import PyProof.JoinWalk
import PyProof.GenCompT
import PyProof.StrLawsReplace
import OpenK.XOpen
import OpenK.ZHead
import Lean
import PySem.Challenge.RW_xp0036_01
set_option autoImplicit false
set_option Elab.async false
set_option maxRecDepth 100000
set_option genSizeOf false
set_option genInjectivity false
set_option bootstrap.genMatcherCode false
set_option linter.all false
set_option compiler.extract_closed false
open PySem PySem.W PyProof.Rows
open Sem (wp)
local macro_rules | `(tactic| lia)=>`(tactic| with_reducible first
 | assumption|decide|exact Nat.zero_le _|exact Nat.le_refl _|exact Nat.succ_pos _|exact Nat.le_add_right _ _|exact Nat.le_succ _|exact Int.natCast_nonneg _|exact Nat.lt_succ_self _
 | exact Nat.le_of_lt (by assumption)|exact Nat.succ_le_of_lt (by assumption)|exact Nat.lt_of_succ_le (by assumption)|exact Nat.succ_lt_succ (by assumption)|exact Nat.le_succ_of_le (by assumption)|exact Nat.lt_succ_of_le (by assumption)|exact Nat.lt_of_succ_lt (by assumption)|exact Int.ofNat_le.mpr (by assumption)|exact Int.ofNat_lt.mpr (by assumption)
 | exact Nat.le_trans (by assumption) (by decide)|exact Nat.lt_of_lt_of_le (by assumption) (by decide)|exact Nat.lt_of_le_of_lt (by assumption) (by decide)
 | exact Nat.lt_of_lt_of_le (by assumption) (by assumption)|exact Nat.lt_of_le_of_lt (by assumption) (by assumption)|exact Nat.le_trans (by assumption) (by assumption)|exact Nat.lt_trans (by assumption) (by assumption)|exact Nat.ne_of_lt (by assumption)|exact Nat.ne_of_gt (by assumption)
 | lia (splits:=9))
namespace Mine
theorem dq9{p:Prop}[Decidable p](h:p):decide p=true:=decide_eq_true h
theorem od9{p:Prop}[Decidable p](h:decide p=true):p:=of_decide_eq_true h
theorem ms9{α:Type _}{a:α}{l:List α}:a∈a::l:=List.mem_cons_self
theorem mm9{α:Type _}(y:α){a:α}{l:List α}(h:a∈l):a∈y::l:=List.mem_cons_of_mem y h
theorem tm{i u l j i' j' n:Nat}(h:u-1-i+(l-1-j)<n+1)(h0:i<u)(h1:j<l)(e:i'+j'=i+j+1)(h2:i'<u)(h3:j'<l):u-1-i'+(l-1-j')<n:=by omega
theorem qh{w:Int}(q : -1≤w∧w≤1):w.natAbs≤1:=by omega
theorem Aaj{p w:Int}{n:Nat}(h:p.natAbs≤n)(q : -1≤w∧w≤1):(p+w).natAbs≤n+1:=Nat.le_trans (Int.natAbs_add_le p w) (Nat.add_le_add h (qh q))
theorem j6{g:Int}{n:Nat}(h:(3*g).natAbs≤n-1)(hn:n≤100):g.natAbs<1000:=
 Nat.lt_of_le_of_lt (Nat.le_trans (Nat.le_mul_of_pos_left g.natAbs (Nat.succ_pos 2)) (Nat.le_trans (Nat.le_of_eq (Int.natAbs_mul 3 g).symm) (Nat.le_trans h (Nat.le_trans (Nat.sub_le n 1) hn)))) (by decide)
theorem Aak{w:Int}(q : -1≤w∧w≤1):(2000000*w).natAbs<1099511627776:=
 Nat.lt_of_le_of_lt (Nat.le_trans (Nat.le_of_eq (Int.natAbs_mul 2000000 w)) (Nat.mul_le_mul_left 2000000 (qh q))) (by decide)
theorem tn{j n:Nat}:(0+(n:Int)-1-(j:Int)).toNat=n-1-j:=by
 rw [Int.zero_add,Int.sub_sub,Nat.sub_sub]
 exact Int.toNat_sub n (1+j)
theorem Aal{x:Int}(h0:0≤x)(h1:x<3):(x-1).natAbs<1099511627776:=by omega
theorem Aex{a b:Nat}(ha:a≤25)(hb:b≤25):a-1-0+(b-1-0)<60:=
 Nat.lt_of_le_of_lt (Nat.add_le_add (Nat.le_trans (Nat.sub_le a 1) ha) (Nat.le_trans (Nat.sub_le b 1) hb)) (by decide)
theorem Aam{a n:Nat}(h:a≤n):(max (a:Int) (n:Int)).toNat=n:=by
 rw [Int.max_eq_right (Int.ofNat_le.mpr h)];rfl
theorem tu{a b p:Nat}(h1:a≤p)(h2:p≤a+b):a+(b-(a+b-p))=p:=by
 rw [←Nat.add_sub_assoc (Nat.sub_le_of_le_add (by rw [Nat.add_comm];exact Nat.add_le_add_left h1 b)),Nat.sub_sub_self h2]
theorem tz(n:Nat):n+n+n+n=4*n:=by omega
theorem Zz{i u:Nat}(h:i<u)(h2:¬i+1<u):i=u-1:=by
 rw [Nat.le_antisymm (Nat.le_of_not_lt h2) h];rfl
theorem t7{n k i:Nat}(h:n-i=k+1):n-(i+1)=k:=(Nat.sub_add_eq n i 1).trans (by rw [h];rfl)
theorem Aan{n:Nat}:(-1+(n:Int)).toNat=n-1:=by rw [Int.add_comm];exact Int.toNat_sub n 1
theorem x02{P0:Prop}{P1:Prop}(h:P0∧P1){C:Prop}(k:P0→P1→C):C:=by
 obtain ⟨h0,h1⟩:=h
 exact k h0 h1
theorem x03{P0:Prop}{P1:Prop}{P2:Prop}(h:P0∧P1∧P2){C:Prop}(k:P0→P1→P2→C):C:=by
 obtain ⟨h0,h1,h2⟩:=h
 exact k h0 h1 h2
theorem x04{P0:Prop}{P1:Prop}{P2:Prop}{P3:Prop}(h:P0∧P1∧P2∧P3){C:Prop}(k:P0→P1→P2→P3→C):C:=by
 obtain ⟨h0,h1,h2,h3⟩:=h
 exact k h0 h1 h2 h3
theorem x11{α:Sort _}{P0:α→Prop}(h:∃ x0,P0 x0){C:Prop}(k:∀ x0,P0 x0→C):C:=by
 obtain ⟨x0,h0⟩:=h
 exact k x0 h0
theorem x12{α:Sort _}{P0:α→Prop}{P1:α→Prop}(h:∃ x0,P0 x0∧P1 x0){C:Prop}(k:∀ x0,P0 x0→P1 x0→C):C:=by
 obtain ⟨x0,h0,h1⟩:=h
 exact k x0 h0 h1
theorem x13{α:Sort _}{P0:α→Prop}{P1:α→Prop}{P2:α→Prop}(h:∃ x0,P0 x0∧P1 x0∧P2 x0){C:Prop}(k:∀ x0,P0 x0→P1 x0→P2 x0→C):C:=by
 obtain ⟨x0,h0,h1,h2⟩:=h
 exact k x0 h0 h1 h2
theorem x21{α:Sort _}{β:Sort _}{P0:α→β→Prop}(h:∃ x0 x1,P0 x0 x1){C:Prop}(k:∀ x0 x1,P0 x0 x1→C):C:=by
 obtain ⟨x0,x1,h0⟩:=h
 exact k x0 x1 h0
theorem x22{α:Sort _}{β:Sort _}{P0:α→β→Prop}{P1:α→β→Prop}(h:∃ x0 x1,P0 x0 x1∧P1 x0 x1){C:Prop}(k:∀ x0 x1,P0 x0 x1→P1 x0 x1→C):C:=by
 obtain ⟨x0,x1,h0,h1⟩:=h
 exact k x0 x1 h0 h1
theorem x23{α:Sort _}{β:Sort _}{P0:α→β→Prop}{P1:α→β→Prop}{P2:α→β→Prop}(h:∃ x0 x1,P0 x0 x1∧P1 x0 x1∧P2 x0 x1){C:Prop}(k:∀ x0 x1,P0 x0 x1→P1 x0 x1→P2 x0 x1→C):C:=by
 obtain ⟨x0,x1,h0,h1,h2⟩:=h
 exact k x0 x1 h0 h1 h2
theorem x24{α:Sort _}{β:Sort _}{P0:α→β→Prop}{P1:α→β→Prop}{P2:α→β→Prop}{P3:α→β→Prop}(h:∃ x0 x1,P0 x0 x1∧P1 x0 x1∧P2 x0 x1∧P3 x0 x1){C:Prop}(k:∀ x0 x1,P0 x0 x1→P1 x0 x1→P2 x0 x1→P3 x0 x1→C):C:=by
 obtain ⟨x0,x1,h0,h1,h2,h3⟩:=h
 exact k x0 x1 h0 h1 h2 h3
theorem x31{α:Sort _}{β:Sort _}{γ:Sort _}{P0:α→β→γ→Prop}(h:∃ x0 x1 x2,P0 x0 x1 x2){C:Prop}(k:∀ x0 x1 x2,P0 x0 x1 x2→C):C:=by
 obtain ⟨x0,x1,x2,h0⟩:=h
 exact k x0 x1 x2 h0
theorem x32{α:Sort _}{β:Sort _}{γ:Sort _}{P0:α→β→γ→Prop}{P1:α→β→γ→Prop}(h:∃ x0 x1 x2,P0 x0 x1 x2∧P1 x0 x1 x2){C:Prop}(k:∀ x0 x1 x2,P0 x0 x1 x2→P1 x0 x1 x2→C):C:=by
 obtain ⟨x0,x1,x2,h0,h1⟩:=h
 exact k x0 x1 x2 h0 h1
theorem x33{α:Sort _}{β:Sort _}{γ:Sort _}{P0:α→β→γ→Prop}{P1:α→β→γ→Prop}{P2:α→β→γ→Prop}(h:∃ x0 x1 x2,P0 x0 x1 x2∧P1 x0 x1 x2∧P2 x0 x1 x2){C:Prop}(k:∀ x0 x1 x2,P0 x0 x1 x2→P1 x0 x1 x2→P2 x0 x1 x2→C):C:=by
 obtain ⟨x0,x1,x2,h0,h1,h2⟩:=h
 exact k x0 x1 x2 h0 h1 h2
theorem x34{α:Sort _}{β:Sort _}{γ:Sort _}{P0:α→β→γ→Prop}{P1:α→β→γ→Prop}{P2:α→β→γ→Prop}{P3:α→β→γ→Prop}(h:∃ x0 x1 x2,P0 x0 x1 x2∧P1 x0 x1 x2∧P2 x0 x1 x2∧P3 x0 x1 x2){C:Prop}(k:∀ x0 x1 x2,P0 x0 x1 x2→P1 x0 x1 x2→P2 x0 x1 x2→P3 x0 x1 x2→C):C:=by
 obtain ⟨x0,x1,x2,h0,h1,h2,h3⟩:=h
 exact k x0 x1 x2 h0 h1 h2 h3
theorem x36{α:Sort _}{β:Sort _}{γ:Sort _}{P0:α→β→γ→Prop}{P1:α→β→γ→Prop}{P2:α→β→γ→Prop}{P3:α→β→γ→Prop}{P4:α→β→γ→Prop}{P5:α→β→γ→Prop}(h:∃ x0 x1 x2,P0 x0 x1 x2∧P1 x0 x1 x2∧P2 x0 x1 x2∧P3 x0 x1 x2∧P4 x0 x1 x2∧P5 x0 x1 x2){C:Prop}(k:∀ x0 x1 x2,P0 x0 x1 x2→P1 x0 x1 x2→P2 x0 x1 x2→P3 x0 x1 x2→P4 x0 x1 x2→P5 x0 x1 x2→C):C:=by
 obtain ⟨x0,x1,x2,h0,h1,h2,h3,h4,h5⟩:=h
 exact k x0 x1 x2 h0 h1 h2 h3 h4 h5
theorem x41{α:Sort _}{β:Sort _}{γ:Sort _}{δ:Sort _}{P0:α→β→γ→δ→Prop}(h:∃ x0 x1 x2 x3,P0 x0 x1 x2 x3){C:Prop}(k:∀ x0 x1 x2 x3,P0 x0 x1 x2 x3→C):C:=by
 obtain ⟨x0,x1,x2,x3,h0⟩:=h
 exact k x0 x1 x2 x3 h0
theorem x43{α:Sort _}{β:Sort _}{γ:Sort _}{δ:Sort _}{P0:α→β→γ→δ→Prop}{P1:α→β→γ→δ→Prop}{P2:α→β→γ→δ→Prop}(h:∃ x0 x1 x2 x3,P0 x0 x1 x2 x3∧P1 x0 x1 x2 x3∧P2 x0 x1 x2 x3){C:Prop}(k:∀ x0 x1 x2 x3,P0 x0 x1 x2 x3→P1 x0 x1 x2 x3→P2 x0 x1 x2 x3→C):C:=by
 obtain ⟨x0,x1,x2,x3,h0,h1,h2⟩:=h
 exact k x0 x1 x2 x3 h0 h1 h2
theorem x44{α:Sort _}{β:Sort _}{γ:Sort _}{δ:Sort _}{P0:α→β→γ→δ→Prop}{P1:α→β→γ→δ→Prop}{P2:α→β→γ→δ→Prop}{P3:α→β→γ→δ→Prop}(h:∃ x0 x1 x2 x3,P0 x0 x1 x2 x3∧P1 x0 x1 x2 x3∧P2 x0 x1 x2 x3∧P3 x0 x1 x2 x3){C:Prop}(k:∀ x0 x1 x2 x3,P0 x0 x1 x2 x3→P1 x0 x1 x2 x3→P2 x0 x1 x2 x3→P3 x0 x1 x2 x3→C):C:=by
 obtain ⟨x0,x1,x2,x3,h0,h1,h2,h3⟩:=h
 exact k x0 x1 x2 x3 h0 h1 h2 h3
theorem x45{α:Sort _}{β:Sort _}{γ:Sort _}{δ:Sort _}{P0:α→β→γ→δ→Prop}{P1:α→β→γ→δ→Prop}{P2:α→β→γ→δ→Prop}{P3:α→β→γ→δ→Prop}{P4:α→β→γ→δ→Prop}(h:∃ x0 x1 x2 x3,P0 x0 x1 x2 x3∧P1 x0 x1 x2 x3∧P2 x0 x1 x2 x3∧P3 x0 x1 x2 x3∧P4 x0 x1 x2 x3){C:Prop}(k:∀ x0 x1 x2 x3,P0 x0 x1 x2 x3→P1 x0 x1 x2 x3→P2 x0 x1 x2 x3→P3 x0 x1 x2 x3→P4 x0 x1 x2 x3→C):C:=by
 obtain ⟨x0,x1,x2,x3,h0,h1,h2,h3,h4⟩:=h
 exact k x0 x1 x2 x3 h0 h1 h2 h3 h4
noncomputable abbrev Ai:Program:=PySem.Challenge.rw_xp0036_01.row.toRowW.1
noncomputable def de(P:Params)(x:Str)(t:Nat)(v:Value):DictEntry:={hash:=PyData.keyHash P x,key:=.str x t,val:=v}
noncomputable def cob(n q:Str)(t l c u:Nat)(fl fm:Int)(a b d e f g:Value):Obj:={cls:=.type "code",data:=.fields #[.str n t,.str q (t+1),.str "/claim/cut.py" (t+2),.int l 0,.int c 0,.int 0 0,.int 0 0,.int fl 0,a,.bool true,.int fm 0,b,d,e,f,g,.int u 0,.int l 0,.str "/claim/cut.py" (u+1)]}
noncomputable def fno(s:Option Stmt)(q:Str)(cl:List (Str×Addr))(dv m:Value)(cd:Addr)(ct:Value):Obj:=match s with
 | some (.FunctionDef n a b _ _ _ sc _ _ _)=>{cls:=.type "function",data:=.func {name:=n,qualname:=q,params:=a,body:=.stmts b,scope:=sc,globals:=3,closure:=cl,defaults:=dv,kwdefaults:=.none,pyModule:=m,code:=.ref cd,closureTuple:=ct}}
 | _=>{cls:=.none,data:=.plain}
noncomputable def Bn(n:Str):List Stmt→Option Stmt
 | []=>none
 | s::r=>match s with
  | .FunctionDef m ..=>if m==n then some s else Bn n r
  | _=>Bn n r
noncomputable def G0(n:Str):List Stmt→List Stmt
 | []=>[]
 | s::r=>match s with
  | .ClassDef m _ _ b ..=>if m==n then b else G0 n r
  | _=>G0 n r
noncomputable def K(P:Params):Frag:=[(2,{cls:=.none,data:=.dict #[]}),
 (3,{cls:=.type "dict",data:=.dict #[de P "__name__" 165 (.str "law_xp0036_01" 486),de P "__doc__" 166 .none,de P "__package__" 167 .none,de P "__loader__" 168 (.builtin "__main__.__loader__#opaque"),de P "__spec__" 169 .none,de P "__annotations__" 170 (.ref 6),de P "__builtins__" 171 (.ref 4),de P "__file__" 173 (.str "/claim/cut.py" 172),de P "__cached__" 174 .none,de P "_wall" 193 (.ref 21),de P "rgb_to_hls" 214 (.ref 28),de P "rgb_to_hsv" 232 (.ref 35),de P "NL" 236 (.str "\n" 235),de P "EMPTYSTRING" 238 (.str "" 237),de P "_ValueFormatter" 346 (.ref 108),de P "_Accumulator" 442 (.ref 192),de P "_byteswap" 455 (.ref 203),de P "_raise_serialization_error" 464 (.ref 210),de P "_escape_attrib" 471 (.ref 217),de P "_escape_attrib_html" 478 (.ref 224),de P "_escape_attrib_c14n" 485 (.ref 231),de P "_law_cells" 496 (.ref 238),de P "_law_sign" 504 (.ref 245),de P "_law_reference" 512 (.ref 252),de P "_law_write" 520 (.ref 259),de P "_law_folded" 531 (.ref 266),de P "_law_full_rows" 543 (.ref 273),de P "_law_parted" 554 (.ref 280),de P "_law_border" 560 (.ref 285),de P "_law_light" 567 (.ref 292),de P "_law_mix" 573 (.ref 297),de P "_law_way" 581 (.ref 304),de P "_law_step" 600 (.ref 311),de P "_law_told_share" 606 (.ref 316),de P "_law_greys" 622 (.ref 323),de P "_law_pile" 632 (.ref 330),de P "_law_around" 640 (.ref 337),de P "law" 646 (.ref 342)] 38}),
 (4,{cls:=.type "module",dict:=some 0,data:=.plain}),
 (27,cob "rgb_to_hls" "rgb_to_hls" 196 5 3 212 3 181 (.ref 22) (.ref 23) .none (.ref 24) (.ref 25) (.ref 26)),
 (28,fno (Bn "rgb_to_hls" Ai.main.body) "rgb_to_hls" [] .none (.str "cpy313.colorsys" 194) 27 .none),
 (34,cob "rgb_to_hsv" "rgb_to_hsv" 215 28 3 230 3 181 (.ref 29) (.ref 30) .none (.ref 31) (.ref 32) (.ref 33)),
 (35,fno (Bn "rgb_to_hsv" Ai.main.body) "rgb_to_hsv" [] .none (.str "cpy313.colorsys" 194) 34 .none),
 (48,cob "__init__" "_ValueFormatter.__init__" 251 52 5 259 3 181 (.ref 43) (.ref 44) .none (.ref 45) (.ref 46) (.ref 47)),
 (49,fno (Bn "__init__" (G0 "_ValueFormatter" Ai.main.body)) "_ValueFormatter.__init__" [] .none (.str "cpy313.email.header" 233) 48 .none),
 (55,cob "_str" "_ValueFormatter._str" 262 60 2 267 3 181 (.ref 50) (.ref 51) .none (.ref 52) (.ref 53) (.ref 54)),
 (56,fno (Bn "_str" (G0 "_ValueFormatter" Ai.main.body)) "_ValueFormatter._str" [] .none (.str "cpy313.email.header" 233) 55 .none),
 (69,cob "newline" "_ValueFormatter.newline" 277 67 1 282 3 181 (.ref 64) (.ref 65) .none (.ref 66) (.ref 67) (.ref 68)),
 (70,fno (Bn "newline" (G0 "_ValueFormatter" Ai.main.body)) "_ValueFormatter.newline" [] .none (.str "cpy313.email.header" 233) 69 .none),
 (104,cob "_append_chunk" "_ValueFormatter._append_chunk" 319 90 3 330 3 181 (.ref 99) (.ref 100) .none (.ref 101) (.ref 102) (.ref 103)),
 (105,fno (Bn "_append_chunk" (G0 "_ValueFormatter" Ai.main.body)) "_ValueFormatter._append_chunk" [] .none (.str "cpy313.email.header" 233) 104 .none),
 (107,{cls:=.type "dict",data:=.dict #[de P "__module__" 246 (.str "cpy313.email.header" 233),de P "__firstlineno__" 250 (.int 50 249),de P "__init__" 261 (.ref 49),de P "_str" 269 (.ref 56),de P "__str__" 276 (.ref 63),de P "newline" 284 (.ref 70),de P "add_transition" 291 (.ref 77),de P "feed" 301 (.ref 84),de P "_maxlengths" 308 (.ref 91),de P "_ascii_split" 318 (.ref 98),de P "_append_chunk" 332 (.ref 105),de P "__static_attributes__" 339 (.ref 106),de P "__dict__" 341 (.ref 109),de P "__weakref__" 343 (.ref 110),de P "__doc__" 344 .none] 4}),
 (108,{cls:=.type "type",data:=.cls {name:= "_ValueFormatter",bases:=[.type "object"],mro:=[.ref 108,.type "object"],ns:=107,qualname:= "_ValueFormatter"},slots:=#[none,none,some (.str "_ValueFormatter" 239),some (.str "_ValueFormatter" 247),some (.builtin "object.__new__"),some (.bool true)]}),
 (116,{cls:=.type "cell",data:=.cell (some (.ref 192))}),
 (121,{cls:=.type "tuple",data:=.seq #[.int 0 359]}),
 (128,cob "__init__" "_Accumulator.__init__" 360 118 2 366 3 181 (.ref 123) (.ref 124) .none (.ref 125) (.ref 126) (.ref 127)),
 (129,fno (Bn "__init__" (G0 "_Accumulator" Ai.main.body)) "_Accumulator.__init__" [("__class__",116)] (.ref 121) (.str "cpy313.email.header" 233) 128 (.ref 122)),
 (135,cob "push" "_Accumulator.push" 369 122 3 375 3 181 (.ref 130) (.ref 131) .none (.ref 132) (.ref 133) (.ref 134)),
 (136,fno (Bn "push" (G0 "_Accumulator" Ai.main.body)) "_Accumulator.push" [] .none (.str "cpy313.email.header" 233) 135 .none),
 (137,{cls:=.type "tuple",data:=.seq #[.int 0 378]}),
 (143,cob "pop_from" "_Accumulator.pop_from" 379 125 2 385 3 181 (.ref 138) (.ref 139) .none (.ref 140) (.ref 141) (.ref 142)),
 (144,fno (Bn "pop_from" (G0 "_Accumulator" Ai.main.body)) "_Accumulator.pop_from" [] (.ref 137) (.str "cpy313.email.header" 233) 143 .none),
 (151,cob "pop" "_Accumulator.pop" 388 130 1 393 3 181 (.ref 146) (.ref 147) .none (.ref 148) (.ref 149) (.ref 150)),
 (152,fno (Bn "pop" (G0 "_Accumulator" Ai.main.body)) "_Accumulator.pop" [("__class__",116)] .none (.str "cpy313.email.header" 233) 151 (.ref 145)),
 (158,cob "__len__" "_Accumulator.__len__" 396 135 1 400 3 181 (.ref 153) (.ref 154) .none (.ref 155) (.ref 156) (.ref 157)),
 (159,fno (Bn "__len__" (G0 "_Accumulator" Ai.main.body)) "_Accumulator.__len__" [] .none (.str "cpy313.email.header" 233) 158 .none),
 (165,cob "__str__" "_Accumulator.__str__" 403 138 1 407 3 181 (.ref 160) (.ref 161) .none (.ref 162) (.ref 163) (.ref 164)),
 (166,fno (Bn "__str__" (G0 "_Accumulator" Ai.main.body)) "_Accumulator.__str__" [] .none (.str "cpy313.email.header" 233) 165 .none),
 (167,{cls:=.type "tuple",data:=.seq #[.none]}),
 (173,cob "reset" "_Accumulator.reset" 410 141 2 415 3 181 (.ref 168) (.ref 169) .none (.ref 170) (.ref 171) (.ref 172)),
 (174,fno (Bn "reset" (G0 "_Accumulator" Ai.main.body)) "_Accumulator.reset" [] (.ref 167) (.str "cpy313.email.header" 233) 173 .none),
 (180,cob "is_onlyws" "_Accumulator.is_onlyws" 418 147 1 422 3 181 (.ref 175) (.ref 176) .none (.ref 177) (.ref 178) (.ref 179)),
 (181,fno (Bn "is_onlyws" (G0 "_Accumulator" Ai.main.body)) "_Accumulator.is_onlyws" [] .none (.str "cpy313.email.header" 233) 180 .none),
 (188,cob "part_count" "_Accumulator.part_count" 425 150 1 430 3 181 (.ref 183) (.ref 184) .none (.ref 185) (.ref 186) (.ref 187)),
 (189,fno (Bn "part_count" (G0 "_Accumulator" Ai.main.body)) "_Accumulator.part_count" [("__class__",116)] .none (.str "cpy313.email.header" 233) 188 (.ref 182)),
 (191,{cls:=.type "dict",data:=.dict #[de P "__module__" 354 (.str "cpy313.email.header" 233),de P "__firstlineno__" 358 (.int 116 357),de P "__init__" 368 (.ref 129),de P "push" 377 (.ref 136),de P "pop_from" 387 (.ref 144),de P "pop" 395 (.ref 152),de P "__len__" 402 (.ref 159),de P "__str__" 409 (.ref 166),de P "reset" 417 (.ref 174),de P "is_onlyws" 424 (.ref 181),de P "part_count" 432 (.ref 189),de P "__static_attributes__" 434 (.ref 190),de P "__dict__" 437 (.ref 193),de P "__weakref__" 439 (.ref 194),de P "__doc__" 440 .none] 5}),
 (192,{cls:=.type "type",data:=.cls {name:= "_Accumulator",bases:=[.type "list"],mro:=[.ref 192,.type "list",.type "object"],ns:=191,qualname:= "_Accumulator"},slots:=#[some (.ref 113),none,some (.str "_Accumulator" 347),some (.str "_Accumulator" 355),some (.builtin "list.__new__"),some (.bool true)]}),
 (202,cob "_byteswap" "_byteswap" 445 153 2 453 3 181 (.ref 197) (.ref 198) .none (.ref 199) (.ref 200) (.ref 201)),
 (203,fno (Bn "_byteswap" Ai.main.body) "_byteswap" [] .none (.str "cpy313.wave" 443) 202 .none),
 (216,cob "_escape_attrib" "_escape_attrib" 465 162 1 469 3 181 (.ref 211) (.ref 212) .none (.ref 213) (.ref 214) (.ref 215)),
 (217,fno (Bn "_escape_attrib" Ai.main.body) "_escape_attrib" [] .none (.str "cpy313.xml.etree.ElementTree" 456) 216 .none),
 (223,cob "_escape_attrib_html" "_escape_attrib_html" 472 181 1 476 3 181 (.ref 218) (.ref 219) .none (.ref 220) (.ref 221) (.ref 222)),
 (224,fno (Bn "_escape_attrib_html" Ai.main.body) "_escape_attrib_html" [] .none (.str "cpy313.xml.etree.ElementTree" 456) 223 .none),
 (230,cob "_escape_attrib_c14n" "_escape_attrib_c14n" 479 192 1 483 3 181 (.ref 225) (.ref 226) .none (.ref 227) (.ref 228) (.ref 229)),
 (231,fno (Bn "_escape_attrib_c14n" Ai.main.body) "_escape_attrib_c14n" [] .none (.str "cpy313.xml.etree.ElementTree" 456) 230 .none),
 (237,cob "_law_cells" "_law_cells" 488 210 1 494 3 181 (.ref 232) (.ref 233) .none (.ref 234) (.ref 235) (.ref 236)),
 (238,fno (Bn "_law_cells" Ai.main.body) "_law_cells" [] .none (.str "law_xp0036_01" 486) 237 .none),
 (244,cob "_law_sign" "_law_sign" 497 215 2 502 3 181 (.ref 239) (.ref 240) .none (.ref 241) (.ref 242) (.ref 243)),
 (245,fno (Bn "_law_sign" Ai.main.body) "_law_sign" [] .none (.str "law_xp0036_01" 486) 244 .none),
 (251,cob "_law_reference" "_law_reference" 505 221 2 510 3 181 (.ref 246) (.ref 247) .none (.ref 248) (.ref 249) (.ref 250)),
 (252,fno (Bn "_law_reference" Ai.main.body) "_law_reference" [] .none (.str "law_xp0036_01" 486) 251 .none),
 (258,cob "_law_write" "_law_write" 513 225 2 518 3 181 (.ref 253) (.ref 254) .none (.ref 255) (.ref 256) (.ref 257)),
 (259,fno (Bn "_law_write" Ai.main.body) "_law_write" [] .none (.str "law_xp0036_01" 486) 258 .none),
 (265,cob "_law_folded" "_law_folded" 521 231 3 529 3 181 (.ref 260) (.ref 261) .none (.ref 262) (.ref 263) (.ref 264)),
 (266,fno (Bn "_law_folded" Ai.main.body) "_law_folded" [] .none (.str "law_xp0036_01" 486) 265 .none),
 (272,cob "_law_full_rows" "_law_full_rows" 532 236 3 541 3 181 (.ref 267) (.ref 268) .none (.ref 269) (.ref 270) (.ref 271)),
 (273,fno (Bn "_law_full_rows" Ai.main.body) "_law_full_rows" [] .none (.str "law_xp0036_01" 486) 272 .none),
 (279,cob "_law_parted" "_law_parted" 544 246 2 552 3 181 (.ref 274) (.ref 275) .none (.ref 276) (.ref 277) (.ref 278)),
 (280,fno (Bn "_law_parted" Ai.main.body) "_law_parted" [] .none (.str "law_xp0036_01" 486) 279 .none),
 (284,cob "_law_border" "_law_border" 555 253 1 558 3 181 (.ref 281) (.ref 282) .none .none .none (.ref 283)),
 (285,fno (Bn "_law_border" Ai.main.body) "_law_border" [] .none (.str "law_xp0036_01" 486) 284 .none),
 (291,cob "_law_light" "_law_light" 561 257 1 565 3 181 (.ref 286) (.ref 287) .none (.ref 288) (.ref 289) (.ref 290)),
 (292,fno (Bn "_law_light" Ai.main.body) "_law_light" [] .none (.str "law_xp0036_01" 486) 291 .none),
 (296,cob "_law_mix" "_law_mix" 568 259 2 571 3 181 (.ref 293) (.ref 294) .none .none .none (.ref 295)),
 (297,fno (Bn "_law_mix" Ai.main.body) "_law_mix" [] .none (.str "law_xp0036_01" 486) 296 .none),
 (303,cob "_law_way" "_law_way" 574 262 2 579 3 181 (.ref 298) (.ref 299) .none (.ref 300) (.ref 301) (.ref 302)),
 (304,fno (Bn "_law_way" Ai.main.body) "_law_way" [] .none (.str "law_xp0036_01" 486) 303 .none),
 (310,cob "_law_step" "_law_step" 582 264 3 598 3 181 (.ref 305) (.ref 306) .none (.ref 307) (.ref 308) (.ref 309)),
 (311,fno (Bn "_law_step" Ai.main.body) "_law_step" [] .none (.str "law_xp0036_01" 486) 310 .none),
 (315,cob "_law_told_share" "_law_told_share" 601 275 2 604 3 181 (.ref 312) (.ref 313) .none .none .none (.ref 314)),
 (316,fno (Bn "_law_told_share" Ai.main.body) "_law_told_share" [] .none (.str "law_xp0036_01" 486) 315 .none),
 (322,cob "_law_greys" "_law_greys" 607 288 2 620 3 181 (.ref 317) (.ref 318) .none (.ref 319) (.ref 320) (.ref 321)),
 (323,fno (Bn "_law_greys" Ai.main.body) "_law_greys" [] .none (.str "law_xp0036_01" 486) 322 .none),
 (329,cob "_law_pile" "_law_pile" 623 309 1 630 3 181 (.ref 324) (.ref 325) .none (.ref 326) (.ref 327) (.ref 328)),
 (330,fno (Bn "_law_pile" Ai.main.body) "_law_pile" [] .none (.str "law_xp0036_01" 486) 329 .none),
 (336,cob "_law_around" "_law_around" 633 320 1 638 3 181 (.ref 331) (.ref 332) .none (.ref 333) (.ref 334) (.ref 335)),
 (337,fno (Bn "_law_around" Ai.main.body) "_law_around" [] .none (.str "law_xp0036_01" 486) 336 .none),
 (341,cob "law" "law" 641 325 1 644 3 181 (.ref 338) (.ref 339) .none .none .none (.ref 340)),
 (342,fno (Bn "law" Ai.main.body) "law" [] .none (.str "law_xp0036_01" 486) 341 .none)]
noncomputable def Ka:List Addr:=[2,3,4,27,28,34,35,48,49,55,56,69,70,104,105,107,108,116,121,128,129,135,136,137,143,144,151,152,158,159,165,166,167,173,174,180,181,188,189,191,192,202,203,216,217,223,224,230,231,237,238,244,245,251,252,258,259,265,266,272,273,279,280,284,285,291,292,296,297,303,304,310,311,315,316,322,323,329,330,336,337,341,342]
noncomputable def Fg:Program:=view Ai [33]
noncomputable abbrev tob:Obj:={cls:=.none,data:=.fields #[]}
noncomputable def K0(P:Params):Frag:=(154,tob)::(161,tob)::K P
noncomputable abbrev Aeo(s:Shared):List (Option Obj)×Bool:=((154::161::Ka).map s.heap.get?,Nat.ble 1 s.toks)
noncomputable abbrev Aep(w:World):List (Option Obj)×Bool:=((K0 w.params).map fun p=>some p.2,true)
theorem left:LeftO Ai Fg Ai.boundNames (fun zA=>true) Aeo Aep 3814:=fun w=>by kernel_rfl
theorem Aey(P:Params):154::161::Ka=(K0 P).map (·.1):=by kernel_rfl
theorem Kx{M:Model}{Γ:Ctx}{p:Pos}{t:Sem Fin}{fs:List Frame}{s:Shared}{e:End}{s':Shared}(h:Runs M Γ p t fs s e s'):s.toks≤s'.toks:=by
 induction h with
 | done|raise|yield=>exact Nat.le_refl _
 | again _ _ ih|rule _ ih | «at» _ ih|load _ _ ih|loadIfAlive _ ih|point _ ih|ask _ ih|handled _ ih|genState _ _ ih|stack _ ih|thread _ ih|callSusp _ ih
 | resumeJustStarted _ _ _ ih|resumeRunning _ _ ih|resumeFinished _ _ ih|segSuspOut _ _ ih=>exact ih
 | update _ _ ih|alloc _ ih|choose _ _ ih|os _ ih|newGen _ ih|resumeThrowFresh _ _ ih=>exact ih
 | fresh _ ih=>exact Nat.le_trans (Nat.le_succ _) ih
 | call _ _ ih1 ih2|segRet _ _ ih1 ih2=>exact Nat.le_trans ih1 ih2
 | segGen _ _ ih1 ih2=>exact Nat.le_trans ih1 ih2
 | resumeFresh _ _ _ _ ih1 ih2|resumeSuspended _ _ _ _ ih1 ih2=>exact Nat.le_trans ih1 ih2
 | segSuspGen _ _ _ _ ih1 ih2=>exact Nat.le_trans ih1 ih2
theorem T5{M:Model}{Γ:Ctx}{R:Result→Shared→Prop}{p:Pos}{s:Shared}(h:wpCode M Γ R p s):wpCode M Γ (fun r s'=>s.toks≤s'.toks∧R r s') p s:=by
 refine x22 h fun r s' hr q=>?_
 exact ⟨r,s',hr,Kx hr,q⟩
theorem Xu{M:Model}{Γ:Ctx}{p:Pos}{g:Nat}{r:Resume}{s:Shared}{res:GenResult}{s':Shared}(h:Wakes M Γ p g r s res s'):s.toks≤s'.toks:=by
 unfold Wakes at h
 split at h
 ·exact h.elim
 ·split at h
  ·refine x24 h fun e₁ s₁ h₁ zA zB zz5=>?_;subst zz5
   have:=Kx h₁;exact this
  ·obtain ⟨_,rfl⟩:=h;exact Nat.le_refl _
  ·obtain ⟨_,rfl⟩:=h;exact Nat.le_refl _
 ·refine x24 h fun e₁ s₁ h₁ zA zB zz5=>?_;subst zz5
  have:=Kx h₁;exact this
 ·obtain ⟨_,rfl⟩:=h;exact Nat.le_refl _
 ·obtain ⟨_,rfl⟩:=h;exact Nat.le_refl _
open Sem in
theorem Z0{α:Type}{M:Model}{Γ:Ctx}{t:Sem α}:∀ {Q:α→Pos→Shared→Prop} {E:Value→Pos→Shared→Prop} {p:Pos} {s:Shared},wp M Γ t Q E p s→
  wp M Γ t (fun a p' s'=>s.toks≤s'.toks∧Q a p' s') (fun e p' s'=>s.toks≤s'.toks∧E e p' s') p s:=by
 induction t with
 | pure a=>intro Q E p s h;exact ⟨Nat.le_refl _,h⟩
 | raise e=>intro Q E p s h;exact ⟨Nat.le_refl _,h⟩
 | unsupported|finish|yield|fork|await|register=>intro Q E p s h;exact h.elim
 | rule _ k ih | «at» _ k ih|point _ k ih|ask k ih|handled _ k ih|stack k ih|thread k ih|loadIfAlive _ k ih=>intro Q E p s h;exact ih _ h
 | alloc _ k ih|newGen _ k ih|os _ _ k ih=>intro Q E p s h;exact ih _ h
 | fresh k ih=>
  intro Q E p s h
  exact wp_mono M Γ _ (fun zA zB s' q=>⟨Nat.le_trans (Nat.le_succ _) q.1,q.2⟩) (fun zA zB s' q=>⟨Nat.le_trans (Nat.le_succ _) q.1,q.2⟩) _ _ (ih _ h)
 | load a _ k ih|genState a k ih=>intro Q E p s h;obtain ⟨o,ho,h⟩:=h;exact ⟨o,ho,ih _ h⟩
 | update a _ f k ih|choose _ _ k ih=>intro Q E p s h;obtain ⟨ha,h⟩:=h;exact ⟨ha,ih _ h⟩
 | call c h g l k ih=>
  intro Q E p s h
  refine wpCode_mono (fun r s' q=>?_) (T5 h)
  exact wp_mono M Γ _ (fun zA zB s'' q'=>⟨Nat.le_trans q.1 q'.1,q'.2⟩) (fun zA zB s'' q'=>⟨Nat.le_trans q.1 q'.1,q'.2⟩) _ _ (ih _ q.2)
 | resume g r l k ih=>
  intro Q E p s h
  refine x22 h fun res s' hw h=>?_
  refine ⟨res,s',hw,?_⟩
  have hm:=Xu hw
  exact wp_mono M Γ _ (fun zA zB s'' q'=>⟨Nat.le_trans hm q'.1,q'.2⟩) (fun zA zB s'' q'=>⟨Nat.le_trans hm q'.1,q'.2⟩) _ _ (ih _ h)
theorem t8{α:Type}{M:Model}{A:Around}{t:Sem α}{Q:α→Shared→Prop}{E:Value→Shared→Prop}{s:Shared}(h:wpAny M A t Q E s) :
  wpAny M A t (fun a s'=>s.toks≤s'.toks∧Q a s') (fun e s'=>s.toks≤s'.toks∧E e s') s:=fun Γ p hΓ=>Z0 (h Γ p hΓ)
theorem Cg{α:Type}{M:Model}{A:Around}{t:Sem α}{Q:α→Shared→Prop}{E:Value→Shared→Prop}{s:Shared}{P:α→Shared→Prop}
  (h:wpAny M A t P (fun zA zB=>False) s) (hQ:∀ a s',P a s'→s.toks≤s'.toks→Q a s'):wpAny M A t Q E s:=
 wpAny_mono (t8 h) (fun a s' q=>hQ a s' q.2 q.1) fun zA zB q=>q.2.elim
inductive V where
 | none
 | bool (b:Bool)
 | int (i:Int)
 | flt (x:UInt64)
 | str (s:Str)
 | bytes (b:Array UInt8)
 | tup (l:List V)
 | lst (l:List V)
 | loc (n:Nat)
 | stat (v:Value)
 deriving Inhabited
inductive Ob where
 | dead
 | lst (l:List V)
 | barr (b:Array UInt8)
 | two
 | inst (C:Addr) (attrs:List (Nat×V)) (items:Option (List V))
 deriving Inhabited
noncomputable abbrev Rho:=List (Addr×Addr)
noncomputable def Mut(ρ:Rho)(H:List Ob)(b:Addr):Prop:=
 ∃ (n:Nat) (p:Addr×Addr) (o:Ob),ρ[n]?=some p∧H[n]?=some o∧o≠Ob.dead∧(b=p.1∨b=p.2)
noncomputable abbrev Z1(xs:Array Value):Obj:={cls:=.type "tuple",data:=.seq xs}
noncomputable abbrev Dy(xs:Array Value)(n:Nat):Obj:={cls:=.type "list",data:=.seq xs n}
noncomputable abbrev O1(b:Array UInt8):Obj:={cls:=.type "bytearray",data:=.bytearray b}
mutual
inductive Ao(X:Addr→Prop)(ρ:Rho)(T:Nat)(h:Heap):V→Value→Prop where
 | none:Ao X ρ T h .none .none
 | bool (b:Bool):Ao X ρ T h (.bool b) (.bool b)
 | int (i:Int) (t:Tok):Ao X ρ T h (.int i) (.int i t)
 | flt (x:UInt64) {t:Tok}:0<t→t<T→Ao X ρ T h (.flt x) (.float x t)
 | str (x:Str) (t:Tok):Ao X ρ T h (.str x) (.str x t)
 | bytes (x:Array UInt8) (t:Tok):Ao X ρ T h (.bytes x) (.bytes x t)
 | tup {l:List V} {a:Addr} {xs:List Value}:¬X a→h.get? a=some (Z1 xs.toArray)→Ae X ρ T h l xs→Ao X ρ T h (.tup l) (.ref a)
 | lst {l:List V} {a:Addr} {xs:List Value} {n:Nat}:¬X a→h.get? a=some (Dy xs.toArray n)→Ae X ρ T h l xs→Ao X ρ T h (.lst l) (.ref a)
 | loc {n:Nat} {a d:Addr}:ρ[n]?=some (a,d)→Ao X ρ T h (.loc n) (.ref a)
 | stat (v:Value):Ao X ρ T h (.stat v) v
inductive Ae(X:Addr→Prop)(ρ:Rho)(T:Nat)(h:Heap):List V→List Value→Prop where
 | nil:Ae X ρ T h [] []
 | cons {v:V} {x:Value} {vs:List V} {xs:List Value}:Ao X ρ T h v x→Ae X ρ T h vs xs→Ae X ρ T h (v::vs) (x::xs)
end
theorem Ae.ind{X ρ T h}{C:List V→List Value→Prop}(h0:C [] [])(h1:∀ {v x vs xs},Ao X ρ T h v x→Ae X ρ T h vs xs→C vs xs→C (v::vs) (x::xs)){vs:List V}{xs:List Value}(r:Ae X ρ T h vs xs):C vs xs:=
 Ae.rec (motive_1:=fun zA zB zC=>True) (motive_2:=fun vs xs zA=>C vs xs) trivial (fun zA=>trivial) (fun zA zB=>trivial) (fun zA zB zC zD=>trivial) (fun zA zB=>trivial) (fun zA zB=>trivial) (fun zA zB zC zD=>trivial) (fun zA zB zC zD=>trivial) (fun zA=>trivial) (fun zA=>trivial) h0 (fun a r zA ih=>h1 a r ih) r
theorem Ae.length{X ρ T h}{vs:List V}{xs:List Value}(r:Ae X ρ T h vs xs):vs.length=xs.length:=r.ind (C:=fun vs xs=>vs.length=xs.length) rfl fun zA zB ih=>congrArg Nat.succ ih
theorem Ae.append{X ρ T h}{vs:List V}{xs:List Value}{ws:List V}{ys:List Value}(r:Ae X ρ T h vs xs)(q:Ae X ρ T h ws ys):Ae X ρ T h (vs++ws) (xs++ys):=r.ind (C:=fun vs xs=>Ae X ρ T h (vs++ws) (xs++ys)) q fun a zA ih=>.cons a ih
theorem Ae.get{X ρ T h}{vs:List V}{xs:List Value}(r:Ae X ρ T h vs xs):∀ {i:Nat} {v:V},vs[i]?=some v→∃ x,xs[i]?=some x∧Ao X ρ T h v x:=
 r.ind (C:=fun vs xs=>∀ {i:Nat} {v:V},vs[i]?=some v→∃ x,xs[i]?=some x∧Ao X ρ T h v x) (fun e=>nomatch e) fun {v x vs xs} a _ ih {i w} e=>by
  cases i with
  | zero=>exact ⟨x,rfl,Option.some.inj e▸a⟩
  | succ i=>exact ih (i:=i) e
theorem Ae.get'{X ρ T h}{vs:List V}{xs:List Value}(r:Ae X ρ T h vs xs):∀ {i:Nat} {x:Value},xs[i]?=some x→∃ v,vs[i]?=some v∧Ao X ρ T h v x:=
 r.ind (C:=fun vs xs=>∀ {i:Nat} {x:Value},xs[i]?=some x→∃ v,vs[i]?=some v∧Ao X ρ T h v x) (fun e=>nomatch e) fun {v x vs xs} a _ ih {i w} e=>by
  cases i with
  | zero=>exact ⟨v,rfl,Option.some.inj e▸a⟩
  | succ i=>exact ih (i:=i) e
theorem Ae.take{X ρ T h}{vs:List V}{xs:List Value}(r:Ae X ρ T h vs xs):∀ (n:Nat),Ae X ρ T h (vs.take n) (xs.take n):=
 r.ind (C:=fun vs xs=>∀ (n:Nat),Ae X ρ T h (vs.take n) (xs.take n)) (fun n=>by rw [List.take_nil,List.take_nil];exact .nil) fun a zA ih n=>by
  cases n with
  | zero=>exact .nil
  | succ n=>exact .cons a (ih n)
theorem Ae.drop{X ρ T h}{vs:List V}{xs:List Value}(r:Ae X ρ T h vs xs):∀ (n:Nat),Ae X ρ T h (vs.drop n) (xs.drop n):=
 r.ind (C:=fun vs xs=>∀ (n:Nat),Ae X ρ T h (vs.drop n) (xs.drop n)) (fun n=>by rw [List.drop_nil,List.drop_nil];exact .nil) fun a r ih n=>by
  cases n with
  | zero=>exact .cons a r
  | succ n=>exact ih n
theorem Ae.reverse{X ρ T h}{vs:List V}{xs:List Value}(r:Ae X ρ T h vs xs):Ae X ρ T h vs.reverse xs.reverse:=
 r.ind (C:=fun vs xs=>Ae X ρ T h vs.reverse xs.reverse) .nil fun a zA ih=>by rw [List.reverse_cons,List.reverse_cons];exact ih.append (.cons a .nil)
theorem Ae.set{X ρ T h}{vs:List V}{xs:List Value}(r:Ae X ρ T h vs xs)(i:Nat){v:V}{x:Value}(q:Ao X ρ T h v x):Ae X ρ T h (vs.set i v) (xs.set i x):=
 r.ind (C:=fun vs xs=>∀ i:Nat,Ae X ρ T h (vs.set i v) (xs.set i x)) (fun zA=>.nil) (fun a r ih i=>by
  cases i with
  | zero=>exact .cons q r
  | succ i=>exact .cons a (ih i)) i
noncomputable def Cb(o:Obj):Bool:=match o.data with|.seq ..=>true|_=>false
theorem Ao.move{X X':Addr→Prop}{ρ ρ':Rho}{T T':Nat}{h h':Heap}(hT:T≤T')(hX:∀ b o,h.get? b=some o→X' b→X b)
  (hk:∀ b o,h.get? b=some o→¬X b→Cb o=true→h'.get? b=some o) (hρ:∀ (n:Nat) (p:Addr×Addr),ρ[n]?=some p→ρ'[n]?=some p) :
  ∀ {v:V} {x:Value},Ao X ρ T h v x→Ao X' ρ' T' h' v x:=by
 intro v x r
 refine Ao.rec (motive_1:=fun v x zA=>Ao X' ρ' T' h' v x) (motive_2:=fun v x zA=>Ae X' ρ' T' h' v x) .none .bool .int (fun x zA a b=>.flt x a (Nat.lt_of_lt_of_le b hT)) .str .bytes ?_ ?_ ?_ .stat .nil ?_ r
 ·intro l a xs h1 h2 _ ih
  exact .tup (fun q=>h1 (hX _ _ h2 q)) (hk _ _ h2 h1 rfl) ih
 ·intro l a xs n h1 h2 _ ih
  exact .lst (fun q=>h1 (hX _ _ h2 q)) (hk _ _ h2 h1 rfl) ih
 ·intro n a d e;exact .loc (hρ _ _ e)
 ·intro v x vs xs _ _ a b;exact .cons a b
theorem Ae.move{X X':Addr→Prop}{ρ ρ':Rho}{T T':Nat}{h h':Heap}(hT:T≤T')(hX:∀ b o,h.get? b=some o→X' b→X b)
  (hk:∀ b o,h.get? b=some o→¬X b→Cb o=true→h'.get? b=some o) (hρ:∀ (n:Nat) (p:Addr×Addr),ρ[n]?=some p→ρ'[n]?=some p) :
  ∀ {v:List V} {x:List Value},Ae X ρ T h v x→Ae X' ρ' T' h' v x
 | _,_,.nil=>.nil
 | _,_,.cons a r=>.cons (a.move hT hX hk hρ) (Ae.move hT hX hk hρ r)
noncomputable def OV(X:Addr→Prop)(ρ:Rho)(T:Nat)(h:Heap):Option V→Option Value→Prop
 | some v,some x=>Ao X ρ T h v x
 | some _,none=>False
 | none,_=>True
noncomputable def Ec:List Str:=["_maxlen","_continuation_ws","_continuation_ws_len","_splitchars","_lines","_current_line","_initial_size"]
inductive Av(X:Addr→Prop)(ρ:Rho)(T:Nat)(h:Heap):List (Nat×V)→List DictEntry→Prop where
 | nil:Av X ρ T h [] []
 | cons {k:Nat} {name:Str} {e:DictEntry} {v:V} {at_:List (Nat×V)} {es:List DictEntry} (t:Tok):Ec[k]?=some name→e.key=.str name t→handedIn e.val=true→Ao X ρ T h v e.val→Av X ρ T h at_ es→
   Av X ρ T h ((k,v)::at_) (e::es)
theorem Av.map{X X':Addr→Prop}{ρ ρ':Rho}{T T':Nat}{h h':Heap}(hv:∀ v x,Ao X ρ T h v x→Ao X' ρ' T' h' v x){at_:List (Nat×V)}{es:List DictEntry}(r:Av X ρ T h at_ es):Av X' ρ' T' h' at_ es:=by
 induction r with
 | nil=>exact .nil
 | cons t e1 e2 e3 e4 _ ih=>exact .cons t e1 e2 e3 (hv _ _ e4) ih
theorem Av.length{X:Addr→Prop}{ρ:Rho}{T:Nat}{h:Heap}{at_:List (Nat×V)}{es:List DictEntry}(r:Av X ρ T h at_ es):es.length=at_.length:=by
 induction r with
 | nil=>rfl
 | cons _ _ _ _ _ _ ih=>simp [ih]
noncomputable def He(X:Addr→Prop)(ρ:Rho)(T:Nat)(h:Heap)(p:Addr×Addr):Ob→Prop
 | .dead=>True
 | .lst l=>p.2=p.1∧∃ xs n,h.get? p.1=some (Dy xs.toArray n)∧Ae X ρ T h l xs
 | .barr b=>p.2=p.1∧h.get? p.1=some (O1 b)
 | .two=>p.2=p.1∧∃ a b,h.get? p.1=some (Z1 #[a,b])
 | .inst C at_ items=>p.2≠p.1∧(∃ es n,h.get? p.2=some (dictOf es n)∧Av X ρ T h at_ es)∧
   match items with
   | none=>h.get? p.1=some {cls:=.ref C,dict:=some p.2,data:=.plain}
   | some l=>∃ xs n,h.get? p.1=some {cls:=.ref C,dict:=some p.2,data:=.seq xs.toArray n}∧Ae X ρ T h l xs
structure t9(ρ:Rho)(H:List Ob)(T:Nat)(h:Heap):Prop where
 len:ρ.length=H.length
 obj:∀ (n:Nat) (p:Addr×Addr) (o:Ob),ρ[n]?=some p→H[n]?=some o→He (Mut ρ H) ρ T h p o
 apart:∀ (n m:Nat) (p q:Addr×Addr),ρ[n]?=some p→ρ[m]?=some q→n≠m→p.1≠q.1∧p.1≠q.2∧p.2≠q.1∧p.2≠q.2
 ex:∀ (n:Nat) (p:Addr×Addr),ρ[n]?=some p→(∃ o,h.get? p.1=some o)∧∃ o,h.get? p.2=some o
noncomputable abbrev T6:=List (Addr×Addr)
noncomputable def O2(q:Addr×Addr)(h:Heap):Prop:=∃ ps,h.TableAt q.1 q.2 ps∧TriplesOk ps.toList
structure Le(T:T6)(Y:Addr→Prop)(ρ:Rho)(H:List Ob)(s:Shared)(ρ':Rho)(H':List Ob)(s':Shared):Prop where
 pre:∀ (n:Nat) (p:Addr×Addr),ρ[n]?=some p→ρ'[n]?=some p
 mu:∀ b o,s.heap.get? b=some o→Mut ρ' H' b→Mut ρ H b
 ex:∀ b o,s.heap.get? b=some o→∃ o',s'.heap.get? b=some o'
 keep:∀ b o,s.heap.get? b=some o→¬Mut ρ H b→¬Y b→(∀ q∈T,b≠q.2)→s'.heap.get? b=some o
 tab:∀ q∈T,O2 q s.heap→O2 q s'.heap
 os:s'.os=s.os
 gens:AllBare s.gens→AllBare s'.gens
 tk:s.toks≤s'.toks
 fresh:∀ (n:Nat) (p:Addr×Addr),ρ'[n]?=some p→ρ[n]?=some p∨(s.heap.get? p.1=none∧s.heap.get? p.2=none)
theorem Le.refl{T:T6}{Y:Addr→Prop}{ρ:Rho}{H:List Ob}{s:Shared}:Le T Y ρ H s ρ H s:=
 ⟨fun zA zB e=>e,fun zA zB zC e=>e,fun zA o e=>⟨o,e⟩,fun zA zB e zC zD zE=>e,fun zA zB e=>e,rfl,id,Nat.le_refl _,fun zA zB e=>.inl e⟩
theorem Le.trans{T:T6}{Y:Addr→Prop}{ρ ρ' ρ'':Rho}{H H' H'':List Ob}{s s' s'':Shared}(a:Le T Y ρ H s ρ' H' s')(b:Le T Y ρ' H' s' ρ'' H'' s''):Le T Y ρ H s ρ'' H'' s'':=by
 refine ⟨fun n p e=>b.pre n p (a.pre n p e),fun x o ex e=>?_,fun x o e=>?_,fun x o e h1 h2 h3=>?_,fun q hq e=>b.tab q hq (a.tab q hq e),b.os.trans a.os,fun g=>b.gens (a.gens g),Nat.le_trans a.tk b.tk,fun n p e=>?_⟩
 ·refine x11 (a.ex x o ex) fun o' ex'=>?_
  exact a.mu x o ex (b.mu x o' ex' e)
 ·refine x11 (a.ex x o e) fun o' ex'=>?_
  exact b.ex x o' ex'
 ·exact b.keep x o (a.keep x o e h1 h2 h3) (fun q=>h1 (a.mu x o e q)) h2 h3
 ·have no:∀ y,s'.heap.get? y=none→s.heap.get? y=none:=fun y hy=>by
   cases hq:s.heap.get? y with
   | none=>rfl
   | some o=>
    refine x11 (a.ex y o hq) fun o' e'=>?_
    rw [hy] at e';cases e'
  rcases b.fresh n p e with q|q
  ·exact a.fresh n p q
  ·exact .inr ⟨no _ q.1,no _ q.2⟩
theorem Le.weaken{T:T6}{Y Y':Addr→Prop}{ρ ρ':Rho}{H H':List Ob}{s s':Shared}(a:Le T Y ρ H s ρ' H' s')(h:∀ b o,s.heap.get? b=some o→Y b→Y' b):Le T Y' ρ H s ρ' H' s':=
 ⟨a.pre,a.mu,a.ex,fun b o e h1 h2 h3=>a.keep b o e h1 (fun q=>h2 (h b o e q)) h3,a.tab,a.os,a.gens,a.tk,a.fresh⟩
noncomputable def O3(T:T6)(h:Heap):Prop:=∀ q∈T,O2 q h
theorem Le.tabOk{T:T6}{Y:Addr→Prop}{ρ ρ':Rho}{H H':List Ob}{s s':Shared}(a:Le T Y ρ H s ρ' H' s')(t:O3 T s.heap):O3 T s'.heap:=fun q hq=>a.tab q hq (t q hq)
noncomputable def A6(Y:Addr→Prop)(h:Heap):Prop:=∀ b o,Y b→h.get? b=some o→Cb o=false
theorem Le.stays{T:T6}{Y:Addr→Prop}{ρ ρ':Rho}{H H':List Ob}{s s':Shared}(a:Le T Y ρ H s ρ' H' s')(t:O3 T s.heap)(q:A6 Y s.heap) :
  ∀ b o,s.heap.get? b=some o→¬Mut ρ H b→Cb o=true→s'.heap.get? b=some o:=fun b o e h1 h2=>by
 refine a.keep b o e h1 (fun y=>?_) (fun p hp z=>?_)
 ·have:=q b o y e
  rw [h2] at this;cases this
 ·obtain ⟨ps,⟨_,et⟩,_⟩:=t p hp
  rw [←z,e] at et
  cases et
  cases h2
theorem Le.rel{T:T6}{Y:Addr→Prop}{ρ ρ':Rho}{H H':List Ob}{s s':Shared}(a:Le T Y ρ H s ρ' H' s')(t:O3 T s.heap)(q:A6 Y s.heap){v:V}{x:Value}(r:Ao (Mut ρ H) ρ s.toks s.heap v x) :
  Ao (Mut ρ' H') ρ' s'.toks s'.heap v x:=r.move a.tk a.mu (a.stays t q) a.pre
theorem Le.rels{T:T6}{Y:Addr→Prop}{ρ ρ':Rho}{H H':List Ob}{s s':Shared}(a:Le T Y ρ H s ρ' H' s')(t:O3 T s.heap)(q:A6 Y s.heap){v:List V}{x:List Value}(r:Ae (Mut ρ H) ρ s.toks s.heap v x) :
  Ae (Mut ρ' H') ρ' s'.toks s'.heap v x:=r.move a.tk a.mu (a.stays t q) a.pre
theorem A6.none{h:Heap}:A6 (fun zA=>False) h:=fun zA zB y=>y.elim
structure Au(s s':Shared):Prop where
 keep:∀ b o,s.heap.get? b=some o→s'.heap.get? b=some o
 os:s'.os=s.os
 gens:s'.gens=s.gens
 tk:s.toks≤s'.toks
theorem Au.refl(s:Shared):Au s s:=⟨fun zA zB e=>e,rfl,rfl,Nat.le_refl _⟩
theorem Au.trans{s s' s'':Shared}(a:Au s s')(b:Au s' s''):Au s s'':=⟨fun x o e=>b.keep x o (a.keep x o e),b.os.trans a.os,b.gens.trans a.gens,Nat.le_trans a.tk b.tk⟩
theorem Au.succ(s:Shared):Au s {s with toks:=s.toks+1}:=⟨fun zA zB e=>e,rfl,rfl,Nat.le_succ _⟩
theorem Au.push(s:Shared)(o:Obj):Au s {s with heap:=s.heap.push o}:=⟨fun zA zB e=>Heap.get?_push_of_some _ e,rfl,rfl,Nat.le_refl _⟩
structure Gro(s s':Shared):Prop where
 keep:∀ b o,s.heap.get? b=some o→s'.heap.get? b=some o
 os:s'.os=s.os
 gens:s'.gens=s.gens
theorem Gro.up{s s':Shared}(g:Gro s s')(h:s.toks≤s'.toks):Au s s':=⟨g.keep,g.os,g.gens,h⟩
theorem Gro.tok(s:Shared)(t:Nat):Gro s {s with toks:=t}:=⟨fun zA zB e=>e,rfl,rfl⟩
theorem Gro.of{s:Shared}{h':Heap}{t:Nat}(k:∀ b o,s.heap.get? b=some o→h'.get? b=some o):Gro s {s with heap:=h',toks:=t}:=⟨k,rfl,rfl⟩
theorem Gro.of'{s:Shared}{h':Heap}(k:∀ b o,s.heap.get? b=some o→h'.get? b=some o):Gro s {s with heap:=h'}:=⟨k,rfl,rfl⟩
theorem Gro.push(s:Shared)(o:Obj):Gro s {s with heap:=s.heap.push o}:=⟨fun zA zB e=>Heap.get?_push_of_some _ e,rfl,rfl⟩
theorem Gro.refl(s:Shared):Gro s s:=⟨fun zA zB e=>e,rfl,rfl⟩
theorem Au.le{T:T6}{Y:Addr→Prop}{ρ:Rho}{H:List Ob}{s s':Shared}(g:Au s s'):Le T Y ρ H s ρ H s':=
 ⟨fun zA zB e=>e,fun zA zB zC e=>e,fun b o e=>⟨o,g.keep b o e⟩,fun b o e zA zB zC=>g.keep b o e,fun q zA e=>let ⟨ps,t,r⟩:=e;⟨ps,t.keeps g.keep,r⟩,g.os,fun a=>g.gens▸a,g.tk,fun zA zB e=>.inl e⟩
theorem Au.rel{X:Addr→Prop}{ρ:Rho}{s s':Shared}(g:Au s s'){v:V}{x:Value}(r:Ao X ρ s.toks s.heap v x):Ao X ρ s'.toks s'.heap v x:=
 r.move g.tk (fun zA zB zC e=>e) (fun b o e zA zB=>g.keep b o e) fun zA zB e=>e
theorem Au.rels{X:Addr→Prop}{ρ:Rho}{s s':Shared}(g:Au s s'){v:List V}{x:List Value}(r:Ae X ρ s.toks s.heap v x):Ae X ρ s'.toks s'.heap v x:=
 r.move g.tk (fun zA zB zC e=>e) (fun b o e zA zB=>g.keep b o e) fun zA zB e=>e
theorem He.move{X X':Addr→Prop}{ρ ρ':Rho}{T T':Nat}{h h':Heap}{p:Addr×Addr}{o:Ob}(hv:∀ v x,Ao X ρ T h v x→Ao X' ρ' T' h' v x)(hvs:∀ v x,Ae X ρ T h v x→Ae X' ρ' T' h' v x)
  (h1:∀ o,h.get? p.1=some o→h'.get? p.1=some o) (h2:∀ o,h.get? p.2=some o→h'.get? p.2=some o) (r:He X ρ T h p o):He X' ρ' T' h' p o:=by
 cases o with
 | dead=>trivial
 | lst l=>obtain ⟨e,xs,n,a,b⟩:=r;exact ⟨e,xs,n,h1 _ a,hvs _ _ b⟩
 | barr b=>exact ⟨r.1,h1 _ r.2⟩
 | two=>obtain ⟨e,a,b,q⟩:=r;exact ⟨e,a,b,h1 _ q⟩
 | inst C at_ items=>
  obtain ⟨e,⟨es,n,a,b⟩,c⟩:=r
  refine ⟨e,⟨es,n,h2 _ a,b.map hv⟩,?_⟩
  ·cases items with
   | none=>exact h1 _ c
   | some l=>obtain ⟨xs,n,a,b⟩:=c;exact ⟨xs,n,h1 _ a,hvs _ _ b⟩
theorem Au.heap{ρ:Rho}{H:List Ob}{s s':Shared}(g:Au s s')(r:t9 ρ H s.toks s.heap):t9 ρ H s'.toks s'.heap:=
 ⟨r.len,fun n p o e1 e2=>(r.obj n p o e1 e2).move (fun zA zB q=>g.rel q) (fun zA zB q=>g.rels q) (fun zA q=>g.keep _ _ q) fun zA q=>g.keep _ _ q,r.apart,
   fun n p e=>⟨let ⟨o,q⟩:=(r.ex n p e).1;⟨o,g.keep _ _ q⟩,let ⟨o,q⟩:=(r.ex n p e).2;⟨o,g.keep _ _ q⟩⟩⟩
structure Cfg where
 prog:Program
 w:World
 K:Frag
 mb:Str→Option Value
 mg:Str→Option Value
 T:T6
 old:Addr→Prop
structure Bj(c:Cfg):Prop where
 low:∀ a o,c.K.lookup a=some o→c.old a
 offT:∀ q∈c.T,c.K.lookup q.2=none
 tabLow:∀ q∈c.T,c.old q.2∧q.2≠builtinsNs∧q.2≠cStatics
 tabLow1:∀ q∈c.T,c.old q.1
 two:c.old builtinsNs∧c.old cStatics
 boot:∀ x:Str,x≠ "__name__" →c.mb x=bootBuiltins x
 main:∀ h:Heap,c.K.In h→h.Ns mainGlobals c.mg
noncomputable abbrev Cfg.M(c:Cfg):Model:=model c.prog c.w
structure j7(c:Cfg)(h:Heap):Prop where
 K:c.K.In h
 b:h.Ns builtinsNs c.mb
 lim:h.NoLimit
 book:NoneBooked h
 tab:O3 c.T h
 ex:∀ b,c.old b→∃ o,h.get? b=some o
structure Cv(c:Cfg)(ρ:Rho)(H:List Ob)(s:Shared):Prop where
 stat:j7 c s.heap
 heap:t9 ρ H s.toks s.heap
 pos:0<s.toks
 high:∀ (n:Nat) (p:Addr×Addr),ρ[n]?=some p→¬c.old p.1∧¬c.old p.2
theorem Cv.mutHigh{c:Cfg}{ρ:Rho}{H:List Ob}{s:Shared}(S:Cv c ρ H s){b:Addr}(m:Mut ρ H b):¬c.old b:=by
 refine x34 m fun n p o e zA zB h=>?_
 have:=S.high n p e
 rcases h with rfl|rfl
 ·exact this.1
 ·exact this.2
theorem j7.le{c:Cfg}(ok:Bj c){Y:Addr→Prop}{ρ ρ':Rho}{H H':List Ob}{s s':Shared}(S:j7 c s.heap)(hm:∀ b,Mut ρ H b→¬c.old b)(hY:∀ b,Y b→¬c.old b)(a:Le c.T Y ρ H s ρ' H' s'):j7 c s'.heap:=by
 have low:∀ b o,c.old b→(∀ q∈c.T,b≠q.2)→s.heap.get? b=some o→s'.heap.get? b=some o:=fun b o hb hq e=>
  a.keep b o e (fun m=>hm b m hb) (fun y=>hY b y hb) hq
 refine ⟨fun b o e=>?_,?_,?_,?_,a.tabOk S.tab,fun b hb=>?_⟩
 ·exact low b o (ok.low b o e) (fun q hq z=>by rw [z,ok.offT q hq] at e;cases e) (S.K b o e)
 ·refine x32 S.b fun o es ep e r=>?_
  exact ⟨o,es,ep,low _ _ ok.two.1 (fun q hq z=>(ok.tabLow q hq).2.1 z.symm) e,r⟩
 ·obtain ⟨mc,⟨o,es,ep,e,r⟩,z⟩:=S.lim
  exact ⟨mc,⟨o,es,ep,low _ _ ok.two.2 (fun q hq z=>(ok.tabLow q hq).2.2 z.symm) e,r⟩,z⟩
 ·obtain ⟨mc,⟨o,es,ep,e,r⟩,z⟩:=S.book
  exact ⟨mc,⟨o,es,ep,low _ _ ok.two.2 (fun q hq z=>(ok.tabLow q hq).2.2 z.symm) e,r⟩,z⟩
 ·refine x11 (S.ex b hb) fun o e=>?_
  exact a.ex b o e
theorem j7.main{c:Cfg}(ok:Bj c){h:Heap}(S:j7 c h):h.Ns mainGlobals c.mg:=ok.main h S.K
structure Cx where
 names:List (Str×NameKind)
 slots:List (Str×Nat)
 size:Nat
structure Ky(c:Cfg)(cx:Cx)(env:Env)(ν:List (Option V))(X:Addr→Prop)(ρ:Rho)(T:Nat)(h:Heap):Prop where
 len:ν.length=cx.size
 kind:env.scope.kind=.function
 names:env.scope.names=cx.names
 globals:env.globals=mainGlobals
 builtins:env.builtins=builtinsNs
 ns:∃ m,h.Ns env.locals m∧∀ x i,cx.slots.lookup x=some i→cx.names.lookup x=some .local→∃ ov,ν[i]?=some ov∧OV X ρ T h ov (m x)
 cell:∀ x i,cx.slots.lookup x=some i→(cx.names.lookup x=some .cell∨cx.names.lookup x=some .free)→∃ a ov x',env.cells.lookup x=some a∧ν[i]?=some ov∧h.IsCell a x'∧OV X ρ T h ov x'
 cellEx:∀ x a,(x,a)∈env.cells→∃ x',h.IsCell a x'
 apart:env.cells.Pairwise fun x y=>x.2≠y.2
 inj:∀ x y i,cx.slots.lookup x=some i→cx.slots.lookup y=some i→x=y
 high:¬c.old env.locals∧∀ x a,(x,a)∈env.cells→x≠("__class__" : Str)→¬c.old a
 cls:∀ a,(("__class__" : Str),a)∈env.cells→c.old a∧∀ q∈c.T,a≠q.2
noncomputable def Fy(env:Env)(b:Addr):Prop:=b=env.locals∨∃ x,x≠("__class__" : Str)∧(x,b)∈env.cells
theorem Ky.off{c:Cfg}{cx:Cx}{env:Env}{ν:List (Option V)}{X:Addr→Prop}{ρ:Rho}{T:Nat}{h:Heap}(F:Ky c cx env ν X ρ T h){x:Str}{a:Addr}(e:(x,a)∈env.cells):a≠env.locals:=fun z=>by
 obtain ⟨m,⟨o,es,ep,ho,hd,_⟩,_⟩:=F.ns
 refine x22 (F.cellEx x a e) fun x' o' ho' hd'=>?_
 rw [z,ho] at ho'
 cases ho'
 rw [hd] at hd'
 cases hd'
theorem Fy.ex{c:Cfg}{cx:Cx}{env:Env}{ν:List (Option V)}{X:Addr→Prop}{ρ:Rho}{T:Nat}{h:Heap}(F:Ky c cx env ν X ρ T h){b:Addr}(y:Fy env b):∃ o,h.get? b=some o∧Cb o=false:=by
 rcases y with rfl|⟨x,_,e⟩
 ·obtain ⟨m,⟨o,es,ep,ho,hd,_⟩,_⟩:=F.ns
  exact ⟨o,ho,by unfold Cb;rw [hd]⟩
 ·refine x22 (F.cellEx x b e) fun x' o' ho' hd'=>?_
  exact ⟨o',ho',by unfold Cb;rw [hd']⟩
theorem Ky.quiet{c:Cfg}{cx:Cx}{env:Env}{ν:List (Option V)}{X:Addr→Prop}{ρ:Rho}{T:Nat}{h:Heap}(F:Ky c cx env ν X ρ T h):A6 (Fy env) h:=fun b o y e=>by
 refine x12 (Fy.ex F y) fun o' e' q=>?_
 rw [e] at e';cases e';exact q
theorem OV.move{T:T6}{Y:Addr→Prop}{ρ ρ':Rho}{H H':List Ob}{s s':Shared}(a:Le T Y ρ H s ρ' H' s')(t:O3 T s.heap)(q:A6 Y s.heap){v:Option V}{x:Option Value}(r:OV (Mut ρ H) ρ s.toks s.heap v x) :
  OV (Mut ρ' H') ρ' s'.toks s'.heap v x:=by
 cases v<;>cases x<;>first|trivial|exact r.elim|exact a.rel t q r
theorem Ky.le{c:Cfg}{cx:Cx}{env:Env}{ν:List (Option V)}{ρ ρ':Rho}{H H':List Ob}{s s':Shared}(F:Ky c cx env ν (Mut ρ H) ρ s.toks s.heap)(a:Le c.T (fun zA=>False) ρ H s ρ' H' s')(t:O3 c.T s.heap)
  (hm:∀ b,Fy env b→¬Mut ρ H b) (h0:∀ b,Mut ρ H b→¬c.old b) (hT:∀ q∈c.T,c.old q.2):Ky c cx env ν (Mut ρ' H') ρ' s'.toks s'.heap:=by
 refine x12 F.ns fun m hn hv=>?_
 have keepC:∀ x b,(x,b)∈env.cells→∀ o,s.heap.get? b=some o→s'.heap.get? b=some o:=fun x b hb o ho=>by
  by_cases hx:x=("__class__" : Str)
  ·subst hx
   have:=F.cls b hb
   exact a.keep _ _ ho (fun q=>h0 _ q this.1) id (fun q hq z=>this.2 q hq z)
  ·exact a.keep _ _ ho (hm _ (.inr ⟨x,hx,hb⟩)) id (fun q hq z=>F.high.2 x b hb hx (z▸hT q hq))
 refine ⟨F.len,F.kind,F.names,F.globals,F.builtins,⟨m,?_,fun x i e1 e2=>?_⟩,fun x i e1 e2=>?_,fun x b hb=>?_,F.apart,F.inj,F.high,F.cls⟩
 ·refine x32 hn fun o es ep e r=>?_
  exact ⟨o,es,ep,a.keep _ _ e (hm _ (.inl rfl)) id (fun q hq z=>F.high.1 (z▸hT q hq)),r⟩
 ·refine x12 (hv x i e1 e2) fun ov h1 h2=>?_
  exact ⟨ov,h1,h2.move a t A6.none⟩
 ·obtain ⟨b,ov,x',h1,h2,⟨o,ho,hd⟩,h4⟩:=F.cell x i e1 e2
  have hb:=mem_of_lookup h1
  exact ⟨b,ov,x',h1,h2,⟨o,keepC x b hb o ho,hd⟩,h4.move a t A6.none⟩
 ·refine x22 (F.cellEx x b hb) fun x' o ho hd=>?_
  exact ⟨x',o,keepC x b hb o ho,hd⟩
theorem Fy.high{c:Cfg}{cx:Cx}{env:Env}{ν:List (Option V)}{X:Addr→Prop}{ρ:Rho}{T:Nat}{h:Heap}(F:Ky c cx env ν X ρ T h){b:Addr}(y:Fy env b):¬c.old b:=by
 rcases y with rfl|⟨x,hx,e⟩
 ·exact F.high.1
 ·exact F.high.2 _ _ e hx
inductive Bi where
 | len|min|max|sum|abs|round|sorted|isinst|bytes|bytearray|list|str
inductive Sm where
 | join|split|isspace|count|append
set_option genCtorIdx false
mutual
inductive ME where
 | none|bool (b:Bool)|int (i:Int)|flt (x:UInt64)|str (s:Str)
 | var (i:Nat)
 | glob (k:Nat)
 | bin (op:Operator) (l r:ME)
 | neg (e:ME)|not (e:ME)
 | cmp (op:CmpOp) (l r:ME)
 | cmpD (l:ME) (tp:Bool) (es:MEs)
 | bop (op:BoolOp) (es:MEs)
 | ite (c a b:ME)
 | tup (es:MEs)|lst (es:MEs)|mlst (es:MEs)
 | dget (ks:List (Str×Str)) (e:ME)
 | sub (o i:ME)
 | slc (o lo hi:ME) (back:Bool)
 | attr (o:ME) (k:Nat)
 | bcall (b:Bi) (es:MEs)
 | scall (m:Sm) (o:ME) (es:MEs)
 | call (f:Addr) (es:MEs)
 | meth (m:Nat) (o:ME) (es:MEs)
 | methS (m:Nat) (o:ME) (e:ME)
 | new (C:Addr) (es:MEs)
 | comp (k:Nat) (elt:ME) (gs:MGs)
 | frz (e:ME)
 | bad
inductive MEs where
 | nil|cons (e:ME) (es:MEs)
inductive MGs where
 | nil|cons (i:Nat) (it:MI) (gs:MGs)
inductive MI where
 | val (e:ME)|rng (es:MEs)
end
mutual
inductive MS where
 | assign (i:Nat) (e:ME)
 | unpack (is:List Nat) (e:ME)
 | asub (o i e:ME)
 | aslc (o lo e:ME)
 | aattr (o:ME) (k:Nat) (e:ME)
 | augv (i:Nat) (op:Operator) (e:ME)
 | augsub (o i:ME) (op:Operator) (e:ME)
 | expr (e:ME)
 | cond (c:ME) (b o:MSs)
 | loop (c:ME) (b:MSs)
 | each (i:Nat) (it:MI) (b o:MSs)
 | zips (i j:Nat) (x y:ME) (b:MSs)
 | brk|cont
 | ret (e:ME)
 | try_ (b:MSs)
 | esc (i:Nat) (c r:Str)
 | bad
inductive MSs where
 | nil|cons (s:MS) (ss:MSs)
end
set_option genCtorIdx true
inductive Fl where
 | next|brk|cont|ret (v:V)
noncomputable abbrev Nu:=List (Option V)
noncomputable abbrev Hp:=List Ob
noncomputable abbrev KE:=V→Hp→Prop
noncomputable abbrev KL:=List V→Hp→Prop
noncomputable abbrev KS:=Fl→Nu→Hp→Prop
noncomputable abbrev Orc:=Addr→List V→Hp→KE→Prop
structure Tb where
 globs:List (Str×V)
 meths:Addr→Nat→Option Addr
 lenOf:Addr→Option Addr
 strOf:Addr→Option Addr
 initOf:Addr→Option Addr
 isList:Addr→Bool
 isCls:Addr→Bool
noncomputable def Ah:Nat:=1048576
noncomputable abbrev gd(p:Bool)(P:Prop):Prop:=p=true∧P
@[irreducible] noncomputable def Kz(a b:UInt64):UInt64:=Float64.add a b
@[irreducible] noncomputable def Cs(a b:UInt64):UInt64:=Float64.sub a b
@[irreducible] noncomputable def Ip(a b:UInt64):UInt64:=Float64.mul a b
@[irreducible] noncomputable def Bp(a b:UInt64):UInt64:=Float64.div a b
@[irreducible] noncomputable def Aao(a b:UInt64):UInt64:=(Float64.divmod a b).2
@[irreducible] noncomputable def B7(a:Int):UInt64:=Float64.ofInt a
@[irreducible] noncomputable def At(a b:UInt64):Option Ordering:=Float64.cmp a b
@[irreducible] noncomputable def Ed(a:UInt64):Bool:=Float64.isZero a
@[irreducible] noncomputable def Xv(a:UInt64):Bool:=Float64.isInf a
@[irreducible] noncomputable def Bt(a:UInt64):Option Int:=match Float64.decode a with|.fin sg m e=>some (Float64.nearestOf sg m e)|_=>none
@[irreducible] noncomputable def Ce(sep:Str)(l:List Str):Str:=Txt.join sep l
@[irreducible] noncomputable def Fa(x sep:Str):List Str:=Txt.split x sep
@[irreducible] noncomputable def Xw(x c r:Str):Str:=Txt.replace x c r
@[irreducible] noncomputable def Jq(x:Str):Bool:=Txt.isspace x
@[irreducible] noncomputable def tin(y x:Str):Bool:=!(Builtin.Str.occurrences y x 0 y.length 1).isEmpty
@[irreducible] noncomputable def Gn(l:List Int):List Int:=l.mergeSort (fun a b=>decide (a≤b))
noncomputable def Gw(v:V)(k:Int→Prop):Prop:=match v with|.int i=>k i|_=>False
noncomputable def Z2(v:V)(k:UInt64→Prop):Prop:=match v with|.flt x=>k x|_=>False
noncomputable def T3(v:V)(k:Str→Prop):Prop:=match v with|.str s=>k s|_=>False
noncomputable def Zv(v:V)(k:List V→Prop):Prop:=match v with|.lst l=>k l|_=>False
noncomputable def ua(v:V)(k:List V→Prop):Prop:=match v with|.tup l=>k l|_=>False
noncomputable def Aap(v:V)(k:Array UInt8→Prop):Prop:=match v with|.bytes b=>k b|_=>False
noncomputable def Ni(v:V)(k:Nat→Prop):Prop:=match v with|.loc n=>k n|_=>False
noncomputable def O4(v:V)(P:Prop):Prop:=match v with|.none=>P|_=>False
noncomputable def opt{α:Type}(o:Option α)(k:α→Prop):Prop:=match o with|some a=>k a|none=>False
noncomputable def Iq(ν:Nu)(i:Nat)(k:V→Prop):Prop:=match ν[i]? with|some (some v)=>k v|_=>False
noncomputable def Nj(H:Hp)(n:Nat)(k:List V→Prop):Prop:=match H[n]? with|some (.lst l)=>k l|_=>False
noncomputable def j8(H:Hp)(n:Nat)(k:Array UInt8→Prop):Prop:=match H[n]? with|some (.barr b)=>k b|_=>False
noncomputable def Nk(H:Hp)(n:Nat)(k:Addr→List (Nat×V)→Option (List V)→Prop):Prop:=match H[n]? with|some (.inst C a l)=>k C a l|_=>False
section
variable (tb:Tb) (Φ:Orc)
noncomputable def j9(op:Operator)(a b:V)(k:V→Prop):Prop:=match op with
 | .Add=>(match a with
  | .int i=>Gw b fun j=>k (.int (i+j))
  | .flt x=>Z2 b fun y=>k (.flt (Kz x y))
  | .str x=>T3 b fun y=>gd (decide (x.length+y.length≤Ah)) (k (.str (x++y)))
  | .lst x=>Zv b fun y=>gd (decide (x.length+y.length≤Ah)) (k (.lst (x++y)))
  | _=>False)
 | .Sub=>(match a with
  | .int i=>Gw b fun j=>k (.int (i-j))
  | .flt x=>Z2 b fun y=>k (.flt (Cs x y))
  | _=>False)
 | .Mult=>(match a with
  | .int i=>Gw b fun j=>gd (decide (i.natAbs<1152921504606846976)) (gd (decide (j.natAbs<1152921504606846976)) (k (.int (i*j))))
  | .flt x=>Gw b fun j=>gd (!Xv (B7 j)) (k (.flt (Ip x (B7 j))))
  | _=>False)
 | .FloorDiv=>Gw a fun i=>Gw b fun j=>gd (decide (0<j)) (gd (decide (j.natAbs<1152921504606846976)) (k (.int (i / j))))
 | .Mod=>(match a with
  | .int i=>Gw b fun j=>gd (decide (0<j)) (k (.int (i % j)))
  | .flt x=>Z2 b fun y=>gd (!Ed y) (k (.flt (Aao x y)))
  | _=>False)
 | .Div=>Z2 b fun y=>gd (!Ed y) (match a with
  | .flt x=>k (.flt (Bp x y))
  | .int i=>gd (!Xv (B7 i)) (k (.flt (Bp (B7 i) y)))
  | _=>False)
 | _=>False
noncomputable def V2(op:CmpOp)(a b:UInt64):Option Bool:=
 match op with
 | .Eq=>some (At a b==some Ordering.eq)
 | .NotEq=>some (At a b != some Ordering.eq)
 | .Lt=>some (At a b==some Ordering.lt)
 | .LtE=>some (At a b==some Ordering.lt||At a b==some Ordering.eq)
 | .Gt=>some (At a b==some Ordering.gt)
 | .GtE=>some (At a b==some Ordering.gt||At a b==some Ordering.eq)
 | _=>none
noncomputable def Z3(op:CmpOp)(a b:Int):Option Bool:=
 match op with
 | .Eq=>some (a==b)
 | .NotEq=>some (a != b)
 | .Lt=>some (decide (a<b))
 | .LtE=>some (decide (a≤b))
 | .Gt=>some (decide (a>b))
 | .GtE=>some (decide (a≥b))
 | _=>none
noncomputable def qi(f:V→V→Bool):List V→List V→Bool
 | [],[]=>true
 | a::as,b::bs=>f a b&&qi f as bs
 | _,_=>false
noncomputable def eqT:Nat→V→V→Bool
 | 0,_,_=>false
 | n+1,a,b=>match a,b with
  | .int a,.int b=>a==b
  | .str a,.str b=>a==b
  | .lst a,.lst b=>a.length==b.length&&qi (eqT n) a b
  | _,_=>false
noncomputable def eqF(a b:V):Bool:=match a with
 | .int i=>(match b with|.int j=>i==j|_=>false)
 | .flt x=>(match b with|.flt y=>At x y==some Ordering.eq|_=>false)
 | _=>false
noncomputable def eqD(tp:Bool)(v:V)(vs:List V)(k:Bool→Prop):Prop:=
 (if tp then ua v else Zv v) fun l=>gd (l.length==vs.length) (gd (decide (vs.length≤1000)) (gd (qi eqF l vs) (k true)))
noncomputable def Ct:List V→Option (List Int)
 | []=>some []
 | .int i::r=>(Ct r).map (i :: ·)
 | _=>none
noncomputable def Dz:List V→Option (List Str)
 | []=>some []
 | .str s::r=>(Dz r).map (s :: ·)
 | _=>none
noncomputable def ub(op:CmpOp)(a b:V)(k:Bool→Prop):Prop:=match op with
 | .Is=>O4 b (match a with
  | .none=>k true
  | .int _=>k false
  | .flt _=>k false
  | .lst _=>k false
  | _=>False)
 | .In=>(match b with
  | .str y=>T3 a fun x=>k (tin y x)
  | .lst l=>O4 a (opt (Ct l) fun zA=>k false)
  | _=>False)
 | op=>(match a with
  | .int x=>Gw b fun y=>opt (Z3 op x y) k
  | .flt x=>Z2 b fun y=>opt (V2 op x y) k
  | .str x=>T3 b fun y=>(match op with|.Eq=>k (x==y)|.NotEq=>k (x != y)|_=>False)
  | .bytes x=>Aap b fun y=>(match op with|.NotEq=>k (x != y)|_=>False)
  | .lst x=>Zv b fun y=>gd (eqT 5 (.lst x) (.lst y)) (match op with|.Eq=>k true|.NotEq=>k false|_=>False)
  | .tup x=>ua b fun y=>opt (Dz x) fun xs=>opt (Dz y) fun ys=>gd (xs.length==ys.length) (match op with|.Eq=>k (xs==ys)|.NotEq=>k (xs != ys)|_=>False)
  | _=>False)
noncomputable def Xx(n:Nat)(C:Addr)(H:Hp)(k:Int→Prop):Prop:=opt (tb.lenOf C) fun f=>Φ f [.loc n] H fun v H'=>H'=H∧Gw v fun i=>gd (decide (0≤i)) (gd (decide (i.natAbs<1152921504606846976)) (k i))
noncomputable def Bs(v:V)(H:Hp)(k:Bool→Prop):Prop:=
 match v with
 | .none=>k false
 | .bool b=>k b
 | .int i=>k (i != 0)
 | .str s=>gd (decide (s.length≤Ah)) (k (decide (s.length≠0)))
 | .lst l=>gd (decide (l.length≤Ah)) (k (!l.isEmpty))
 | .loc n=>(match H[n]? with
  | some (.lst l)=>gd (decide (l.length≤Ah)) (k (!l.isEmpty))
  | some (.inst C _ _)=>Xx tb Φ n C H fun i=>k (i != 0)
  | _=>False)
 | _=>False
noncomputable def Qj(v:V)(H:Hp)(k:Bool→Prop):Prop:=
 match v with
 | .none=>k false
 | .bool b=>k b
 | .int i=>k (i != 0)
 | .str s=>gd (decide (s.length≤Ah)) (k (decide (s.length≠0)))
 | .lst l=>gd (decide (l.length≤Ah)) (k (!l.isEmpty))
 | .loc n=>(match H[n]? with
  | some (.lst l)=>gd (decide (l.length≤Ah)) (k (!l.isEmpty))
  | _=>False)
 | _=>False
noncomputable def Ir(n:Nat)(i:Int):Option Nat:=
 if decide (0≤i) then (if decide (i<n) then some i.toNat else none) else if decide (0≤i+n) then some (i+n).toNat else none
noncomputable def O5(v:V)(H:Hp)(k:List V→Prop):Prop:=
 match v with
 | .lst l=>k l
 | .loc n=>(match H[n]? with
  | some (.lst l)=>k l
  | some (.inst C _ (some l))=>gd (tb.isList C) (k l)
  | _=>False)
 | _=>False
noncomputable def Agm(v:V)(H:Hp)(k:List V→Prop):Prop:=match v with
 | .tup l=>k l
 | v=>O5 tb v H k
noncomputable def qj(v:V)(H:Hp)(k:List V→Prop):Prop:=
 match v with
 | .lst l=>k l
 | .tup l=>k l
 | .loc n=>Nj H n k
 | _=>False
noncomputable def Aac(o i:V)(H:Hp)(k:V→Prop):Prop:=Gw i fun i=>match o with
 | .str s=>gd (decide (s.length≤Ah)) (opt (Ir s.length i) fun j=>opt (s.cps[j]?) fun c=>k (.str ⟨#[c]⟩))
 | .bytes b=>gd (decide (b.size≤Ah)) (gd (decide (0≤i)) (gd (decide (i<b.size)) (k (.int (b.toList.getD i.toNat 0).toNat))))
 | o=>Agm tb o H fun l=>gd (decide (l.length≤Ah)) (opt (Ir l.length i) fun j=>opt (l[j]?) k)
noncomputable def K1(n:Nat)(d:Nat)(i:V)(k:Nat→Prop):Prop:=match i with
 | .none=>k d
 | .int i=>k (clipAt n i)
 | _=>False
noncomputable def Do{α:Type}(lo hi:Nat)(l:List α):List α:=(l.drop lo).take (hi-lo)
noncomputable def K3(o lo hi:V)(back:Bool)(H:Hp)(k:V→Prop):Prop:=
 if back then O4 lo (O4 hi (match o with
  | .lst l=>gd (decide (l.length≤Ah)) (k (.lst l.reverse))
  | .bytes b=>gd (decide (b.size≤Ah)) (k (.bytes b.toList.reverse.toArray))
  | _=>False))
 else O5 tb o H fun l=>gd (decide (l.length≤Ah)) (K1 l.length 0 lo fun a=>K1 l.length l.length hi fun b=>k (.lst (Do a b l)))
noncomputable def ka(v:V)(k:List V→List Int→Prop):Prop:=Zv v fun l=>opt (Ct l) fun is=>k l is
noncomputable def Ke(a b c:UInt64):UInt64:=
 bif At c (bif At b a==some Ordering.gt then b else a)==some Ordering.gt then c else bif At b a==some Ordering.gt then b else a
noncomputable def Kf(a b c:UInt64):UInt64:=
 bif At c (bif At b a==some Ordering.lt then b else a)==some Ordering.lt then c else bif At b a==some Ordering.lt then b else a
noncomputable def V3(l:List Int):Option Int:=l[argBest (fun i j=>decide (l.getD i 0>l.getD j 0)) (l.length-1)]?
noncomputable def V4(l:List Int):Option Int:=l[argBest (fun i j=>decide (l.getD i 0<l.getD j 0)) (l.length-1)]?
noncomputable def Af6(v:V)(H:Hp)(k:Int→Prop):Prop:=match v with
 | .str s=>gd (decide (s.length≤Ah)) (k s.length)
 | .bytes s=>gd (decide (s.size≤Ah)) (k s.size)
 | .lst l=>gd (decide (l.length≤Ah)) (k l.length)
 | .tup l=>gd (decide (l.length≤Ah)) (k l.length)
 | .loc n=>(match H[n]? with
  | some (.lst l)=>gd (decide (l.length≤Ah)) (k l.length)
  | some (.inst C _ _)=>Xx tb Φ n C H k
  | _=>False)
 | _=>False
noncomputable def one(vs:List V)(k:V→Prop):Prop:=match vs with|[v]=>k v|_=>False
noncomputable def uc(gt:Bool)(vs:List V)(k:V→Prop):Prop:=match vs with
 | [v]=>ka v fun l is=>gd (decide (0<l.length)) (opt (if gt then V3 is else V4 is) fun i=>k (.int i))
 | [v,w]=>Gw v fun a=>Gw w fun b=>k (.int (if gt then (if b>a then b else a) else (if b<a then b else a)))
 | [v,w,u]=>Z2 v fun a=>Z2 w fun b=>Z2 u fun c=>k (.flt (if gt then Ke a b c else Kf a b c))
 | _=>False
noncomputable def V5(b:Bi)(vs:List V)(H:Hp)(K:KE):Prop:=
 match b with
 | .len=>one vs fun v=>Af6 tb Φ v H fun i=>K (.int i) H
 | .min=>uc false vs fun v=>K v H
 | .max=>uc true vs fun v=>K v H
 | .sum=>one vs fun v=>ka v fun l is=>gd (decide (l.length≤1000)) (gd (is.all fun i=>decide (i.natAbs<1099511627776)) (K (.int is.sum) H))
 | .abs=>one vs fun v=>Gw v fun a=>K (.int (if a<0 then -a else a)) H
 | .sorted=>one vs fun v=>ka v fun l is=>gd (decide (l.length<64)) (K (.lst ((Gn is).map .int)) H)
 | .isinst=>(match vs with
  | [v,w]=>Aap v fun zA=>(match w with|.stat x=>gd (x==.type "bytes") (K (.bool true) H)|_=>False)
  | _=>False)
 | .bytes=>one vs fun v=>(match v with
  | .lst l=>opt (Ct l) fun is=>gd (decide (l.length≤1000)) (gd (is.all fun i=>decide (0≤i)&&decide (i<256)) (K (.bytes (byteArr is)) H))
  | .loc n=>j8 H n fun b=>gd (decide (b.size≤1000)) (K (.bytes b) H)
  | _=>False)
 | .bytearray=>one vs fun v=>Gw v fun n=>gd (decide (0≤n)) (gd (decide (n≤1000)) (K (.loc H.length) (H++[.barr (Array.replicate n.toNat 0)])))
 | .list=>one vs fun v=>Aap v fun b=>gd (decide (b.size≤1000)) (K (.lst (b.toList.map fun x=>.int x.toNat)) H)
 | .str=>one vs fun v=>Ni v fun n=>Nk H n fun C zA zB=>opt (tb.strOf C) fun f=>Φ f [.loc n] H fun r H'=>H'=H∧T3 r fun s=>K (.str s) H
 | .round=>one vs fun v=>Z2 v fun x=>opt (Bt x) fun i=>K (.int i) H
noncomputable def It(s:Str):List V:=s.cps.toList.map fun c=>.str ⟨#[c]⟩
noncomputable def K4(m:Sm)(o:V)(vs:List V)(H:Hp)(K:KE):Prop:=
 match m with
 | .join=>T3 o fun sep=>one vs fun x=>qj x H fun l=>opt (Dz l) fun ss=>
   gd (decide ((ss.map (·.length)).sum+ss.length≤Ah)) (gd (decide (sep.length≤16)) (K (.str (Ce sep ss)) H))
 | .split=>T3 o fun s=>one vs fun x=>T3 x fun sep=>gd (decide (s.length≤100000)) (gd (decide (sep.length=1)) (K (.lst ((Fa s sep).map .str)) H))
 | .isspace=>T3 o fun s=>gd vs.isEmpty (K (.bool (Jq s)) H)
 | .count=>Zv o fun l=>one vs fun x=>Gw x fun i=>gd (decide (l.length≤1000)) (opt (Ct l) fun is=>K (.int (is.count i:Nat)) H)
 | .append=>Ni o fun n=>one vs fun x=>(match H[n]? with
  | some (.lst l)=>gd (decide (l.length≤1000)) (K .none (H.set n (.lst (l++[x]))))
  | some (.inst C at_ (some l))=>gd (decide (l.length≤1000)) (gd (tb.isList C) (K .none (H.set n (.inst C at_ (some (l++[x]))))))
  | _=>False)
noncomputable def ud(m:Sm)(o:V)(H:Hp):Bool:=
 match m with
 | .append=>(match o with
  | .loc n=>(match H[n]? with
   | some (.lst _)=>true
   | some (.inst C _ (some _))=>tb.isList C
   | _=>false)
  | _=>false)
 | .count=>(match o with|.lst _=>true|_=>false)
 | _=>(match o with|.str _=>true|_=>false)
noncomputable def Zw(a b st:Int):List Int:=(List.range (Builtin.Range.rangeSize a b st).toNat).map fun (i:Nat)=>a+(i:Int)*st
noncomputable def qk(i:Int):Bool:=decide (-1000000≤i)&&decide (i≤1000000)
noncomputable def Aad(a b st:Int)(k:List V→Prop):Prop:=gd (qk a) (gd (qk b) (gd (qk st) (gd (!(st==0)) (gd (Builtin.Range.small a b st) (k ((Zw a b st).map .int))))))
noncomputable def Af7(vs:List V)(k:List V→Prop):Prop:=match vs with
 | [n]=>Gw n fun n=>Aad 0 n 1 k
 | [a,b]=>Gw a fun a=>Gw b fun b=>Aad a b 1 k
 | [a,b,c]=>Gw a fun a=>Gw b fun b=>Gw c fun c=>Aad a b c k
 | _=>False
noncomputable def Z4(v:V)(k:List V→Prop):Prop:=
 match v with
 | .lst l=>gd (decide (l.length≤Ah)) (k l)
 | .str s=>k (It s)
 | _=>False
noncomputable def Aaq(v:V)(j:Nat)(H:Hp)(k:V→Prop):Prop:=Ni v fun n=>Nk H n fun C at_ zA=>gd (tb.isCls C) (opt (at_.lookup j) k)
noncomputable def Fh(at_:List (Nat×V))(k:Nat)(v:V):List (Nat×V):=
 match at_ with
 | []=>[(k,v)]
 | (j,x)::r=>if k==j then (j,v)::r else (j,x)::Fh r k v
noncomputable def kc(v:V)(m:Nat)(H:Hp)(k:Nat→Addr→Prop):Prop:=Ni v fun n=>Nk H n fun C zA zB=>opt (tb.meths C m) fun f=>k n f
noncomputable def Aez(m:Nat)(v:V)(H:Hp)(K:KE):Prop:=Ni v fun n=>match H[n]? with
 | some (.inst C at_ (some l))=>gd (tb.isList C) (gd (decide (l.length≤1000)) (match m with
  | 0=>gd l.isEmpty (K .none H)
  | 1=>opt l.getLast? fun x=>K x (H.set n (.inst C at_ (some l.dropLast)))
  | _=>K (.int l.length) H))
 | _=>False
noncomputable def Ae0(v:V)(H:Hp)(K:KE):Prop:=Ni v fun n=>Nj H n fun l=>K (.lst l) (H.set n .dead)
noncomputable def ue(n:Nat)(v:V)(H:Hp)(k:Hp→Prop):Prop:=Nj H n fun l=>gd (decide (l.length≤1000)) (k (H.set n (.lst (l++[v]))))
noncomputable def T7{α:Type}(f:α→Hp→(Hp→Prop)→Prop):List α→Hp→(Hp→Prop)→Prop
 | [],H,k=>k H
 | a::as,H,k=>f a H fun H'=>T7 f as H' k
mutual
noncomputable def ev:ME→Nu→Hp→KE→Prop
 | .none,_,H,K=>K .none H
 | .bool b,_,H,K=>K (.bool b) H
 | .int i,_,H,K=>K (.int i) H
 | .flt x,_,H,K=>K (.flt x) H
 | .str s,_,H,K=>K (.str s) H
 | .var i,ν,H,K=>Iq ν i fun v=>K v H
 | .glob k,_,H,K=>opt (tb.globs[k]?) fun p=>K p.2 H
 | .bin op l r,ν,H,K=>ev l ν H fun a H1=>ev r ν H1 fun b H2=>j9 op a b fun v=>K v H2
 | .neg e,ν,H,K=>ev e ν H fun v H1=>Gw v fun i=>K (.int (-i)) H1
 | .not e,ν,H,K=>ev e ν H fun v H1=>Bs tb Φ v H1 fun b=>K (.bool (!b)) H1
 | .cmp op l r,ν,H,K=>ev l ν H fun a H1=>ev r ν H1 fun b H2=>ub op a b fun t=>K (.bool t) H2
 | .cmpD l tp es,ν,H,K=>ev l ν H fun a H1=>evs es ν H1 fun vs H2=>eqD tp a vs fun t=>K (.bool t) H2
 | .bop op es,ν,H,K=>evB op es ν H K
 | .ite c a b,ν,H,K=>ev c ν H fun v H1=>Bs tb Φ v H1 fun t=>match t with
  | true=>ev a ν H1 K
  | false=>ev b ν H1 K
 | .tup es,ν,H,K=>evs es ν H fun vs H1=>gd (decide (vs.length≤1000)) (K (.tup vs) H1)
 | .lst es,ν,H,K=>evs es ν H fun vs H1=>gd (decide (vs.length≤1000)) (K (.lst vs) H1)
 | .mlst es,ν,H,K=>evs es ν H fun vs H1=>gd (decide (vs.length≤1000)) (K (.loc H1.length) (H1++[.lst vs]))
 | .dget ks e,ν,H,K=>ev e ν H fun v H1=>T3 v fun s=>opt (ks.lookup s) fun r=>K (.str r) H1
 | .sub o i,ν,H,K=>ev o ν H fun a H1=>ev i ν H1 fun b H2=>Aac tb a b H2 fun v=>K v H2
 | .slc o lo hi back,ν,H,K=>ev o ν H fun a H1=>ev lo ν H1 fun x H2=>ev hi ν H2 fun y H3=>K3 tb a x y back H3 fun v=>K v H3
 | .attr o j,ν,H,K=>ev o ν H fun a H1=>Aaq tb a j H1 fun v=>K v H1
 | .bcall b es,ν,H,K=>evs es ν H fun vs H1=>V5 tb Φ b vs H1 K
 | .scall m o es,ν,H,K=>ev o ν H fun a H1=>gd (ud tb m a H1) (evs es ν H1 fun vs H2=>K4 tb m a vs H2 K)
 | .call f es,ν,H,K=>evs es ν H fun vs H1=>Φ f vs H1 K
 | .meth m o es,ν,H,K=>ev o ν H fun a H1=>kc tb a m H1 fun n f=>evs es ν H1 fun vs H2=>Φ f (.loc n::vs) H2 K
 | .methS m o e,ν,H,K=>ev o ν H fun a H1=>kc tb a m H1 fun n f=>ev e ν H1 fun v H2=>ua v fun vs=>gd (decide (vs.length≤1000)) (Φ f (.loc n::vs) H2 K)
 | .new C es,ν,H,K=>evs es ν H fun vs H1=>opt (tb.initOf C) fun f=>Φ f (.loc H1.length::vs) (H1++[.inst C [] (if tb.isList C then some [] else none)]) fun r H2=>O4 r (K (.loc H1.length) H2)
 | .comp k elt gs,ν,H,K=>match gs with
  | .nil=>False
  | .cons i it gs'=>evI it ν H fun l H1=>T7 (fun v H' k'=>evG (fun ν H K=>ev elt ν H K) H1.length gs' ((ν++List.replicate k none).set i (some v)) H' k') l (H1++[.lst []])
    fun H2=>Nj H2 H1.length fun r=>K (.lst r) (H2.set H1.length .dead)
 | .frz e,ν,H,K=>ev e ν H fun v H1=>Ae0 v H1 K
 | .bad,_,_,_=>False
noncomputable def evs:MEs→Nu→Hp→KL→Prop
 | .nil,_,H,K=>K [] H
 | .cons e es,ν,H,K=>ev e ν H fun v H1=>evs es ν H1 fun vs H2=>K (v::vs) H2
noncomputable def evB(op:BoolOp):MEs→Nu→Hp→KE→Prop
 | .nil,_,_,_=>False
 | .cons e es,ν,H,K=>match es with
  | .nil=>ev e ν H K
  | .cons _ _=>ev e ν H fun v H1=>Qj v H1 fun t=>match op,t with
   | .And,false=>K v H1
   | .Or,true=>K v H1
   | _,_=>evB op es ν H1 K
noncomputable def evI:MI→Nu→Hp→KL→Prop
 | .val e,ν,H,K=>ev e ν H fun v H1=>Z4 v fun l=>K l H1
 | .rng es,ν,H,K=>evs es ν H fun vs H1=>Af7 vs fun l=>K l H1
noncomputable def evG:(Nu→Hp→KE→Prop)→Nat→MGs→Nu→Hp→(Hp→Prop)→Prop
 | f,n,.nil,ν,H,k=>f ν H fun v H1=>ue n v H1 k
 | f,n,.cons i it gs,ν,H,k=>evI it ν H fun l H1=>T7 (fun v H' k'=>evG f n gs (ν.set i (some v)) H' k') l H1 k
end
noncomputable def Am:Nu→List Nat→List V→Nu
 | ν,i::is,v::vs=>Am (ν.set i (some v)) is vs
 | ν,_,_=>ν
noncomputable def Cw(o i v:V)(H:Hp)(k:Hp→Prop):Prop:=Ni o fun n=>Gw i fun i=>match H[n]? with
 | some (.lst l)=>gd (decide (l.length≤1000)) (opt (Ir l.length i) fun j=>k (H.set n (.lst (l.set j v))))
 | some (.barr b)=>Gw v fun x=>gd (decide (b.size≤1000)) (gd (decide (0≤x)) (gd (decide (x<256)) (gd (decide (0≤i)) (gd (decide (i<b.size)) (k (H.set n (.barr (b.setIfInBounds i.toNat x.toNat.toUInt8))))))))
 | _=>False
noncomputable def K5(o lo v:V)(H:Hp)(k:Hp→Prop):Prop:=Ni o fun n=>Zv v fun r=>match H[n]? with
 | some (.inst C at_ (some l))=>gd (decide (l.length≤1000)) (gd (decide (r.length≤1000)) (gd (tb.isList C) (K1 l.length 0 lo fun a=>k (H.set n (.inst C at_ (some (l.take a++r)))))))
 | _=>False
noncomputable def V6(v:V):Bool:=match v with|.stat _=>true|_=>false
noncomputable def Kp(o:V)(j:Nat)(v:V)(H:Hp)(k:Hp→Prop):Prop:=Ni o fun n=>Nk H n fun C at_ items=>
 gd (decide (j<7)) (gd (decide (at_.length<10)) (gd (tb.isCls C) (gd (!V6 v) (k (H.set n (.inst C (Fh at_ j v) items))))))
noncomputable def ke(op:Operator)(a b:V)(k:V→Prop):Prop:=match op with
 | .Add=>(match a with
  | .int _=>j9 .Add a b k
  | .str _=>j9 .Add a b k
  | _=>False)
 | .FloorDiv=>j9 .FloorDiv a b k
 | _=>False
noncomputable def Aeq(o i:V)(H:Hp)(k:V→Prop):Prop:=Ni o fun n=>Nj H n fun zA=>Aac tb o i H k
noncomputable def Jr(c:Nu→Hp→(Bool→Hp→Prop)→Prop)(b:Nu→Hp→KS→Prop):Nat→Nu→Hp→KS→Prop
 | 0,_,_,_=>False
 | n+1,ν,H,K=>c ν H fun t H1=>match t with
  | false=>K .next ν H1
  | true=>b ν H1 fun fl ν' H'=>match fl with
   | .next=>Jr c b n ν' H' K
   | .cont=>Jr c b n ν' H' K
   | .brk=>K .next ν' H'
   | .ret x=>K (.ret x) ν' H'
noncomputable def Kg(b o:Nu→Hp→KS→Prop)(i:Nat):List V→Nu→Hp→KS→Prop
 | [],ν,H,K=>o ν H K
 | v::r,ν,H,K=>b (ν.set i (some v)) H fun fl ν' H'=>match fl with
  | .next=>Kg b o i r ν' H' K
  | .cont=>Kg b o i r ν' H' K
  | .brk=>K .next ν' H'
  | .ret x=>K (.ret x) ν' H'
noncomputable def Xy(n:Nat)(H:Hp):Bool:=match H[n]? with|some .two=>true|_=>false
noncomputable def Xz(b:Nu→Hp→KS→Prop)(n i j:Nat):List V→List V→Nu→Hp→KS→Prop
 | [],_,ν,H,K=>K .next ν H
 | _::_,[],ν,H,K=>K .next ν H
 | v::r,w::q,ν,H,K=>b ((ν.set i (some v)).set j (some w)) H fun fl ν' H'=>gd (Xy n H') (match fl with
  | .next=>Xz b n i j r q ν' H' K
  | .cont=>Xz b n i j r q ν' H' K
  | .brk=>K .next ν' H'
  | .ret x=>K (.ret x) ν' H')
mutual
noncomputable def ex:MS→Nu→Hp→KS→Prop
 | .assign i e,ν,H,K=>ev tb Φ e ν H fun v H1=>K .next (ν.set i (some v)) H1
 | .unpack is e,ν,H,K=>ev tb Φ e ν H fun v H1=>match v with
  | .tup l=>gd (l.length==is.length) (K .next (Am ν is l) H1)
  | .lst l=>gd (l.length==is.length) (K .next (Am ν is l) H1)
  | _=>False
 | .asub o i e,ν,H,K=>ev tb Φ e ν H fun v H1=>ev tb Φ o ν H1 fun a H2=>ev tb Φ i ν H2 fun b H3=>Cw a b v H3 fun H4=>K .next ν H4
 | .aslc o lo e,ν,H,K=>ev tb Φ e ν H fun v H1=>ev tb Φ o ν H1 fun a H2=>ev tb Φ lo ν H2 fun b H3=>K5 tb a b v H3 fun H4=>K .next ν H4
 | .aattr o j e,ν,H,K=>ev tb Φ e ν H fun v H1=>ev tb Φ o ν H1 fun a H2=>Kp tb a j v H2 fun H3=>K .next ν H3
 | .augv i op e,ν,H,K=>Iq ν i fun old=>ev tb Φ e ν H fun v H1=>ke op old v fun r=>K .next (ν.set i (some r)) H1
 | .augsub o i op e,ν,H,K=>ev tb Φ o ν H fun a H1=>ev tb Φ i ν H1 fun b H2=>Aeq tb a b H2 fun old=>ev tb Φ e ν H2 fun v H3=>ke op old v fun r=>Cw a b r H3 fun H4=>K .next ν H4
 | .expr e,ν,H,K=>ev tb Φ e ν H fun zA H1=>K .next ν H1
 | .cond c b o,ν,H,K=>ev tb Φ c ν H fun v H1=>Bs tb Φ v H1 fun t=>match t with
  | true=>exs b ν H1 K
  | false=>exs o ν H1 K
 | .loop c b,ν,H,K=>Jr (fun ν H k=>ev tb Φ c ν H fun v H1=>Bs tb Φ v H1 fun t=>k t H1) (fun ν H K=>exs b ν H K) 60 ν H K
 | .each i it b o,ν,H,K=>evI tb Φ it ν H fun l H1=>Kg (fun ν H K=>exs b ν H K) (fun ν H K=>exs o ν H K) i l ν H1 K
 | .zips i j x y b,ν,H,K=>ev tb Φ x ν H fun v H1=>ev tb Φ y ν H1 fun w H2=>Zv v fun l=>Zv w fun r=>gd (decide (l.length≤1000)) (gd (decide (r.length≤1000))
   (Xz (fun ν H K=>exs b ν H K) H2.length i j l r ν (H2++[.two]) fun fl ν' H'=>K fl ν' (H'.set H2.length .dead)))
 | .brk,ν,H,K=>K .brk ν H
 | .cont,ν,H,K=>K .cont ν H
 | .ret e,ν,H,K=>ev tb Φ e ν H fun v H1=>K (.ret v) ν H1
 | .try_ b,ν,H,K=>exs b ν H K
 | .esc i c r,ν,H,K=>Iq ν i fun v=>T3 v fun x=>gd (decide (x.length≤100000)) (gd (decide (r.length≤14)) (gd (!(c==r))
   (match tin x c with|true=>K .next (ν.set i (some (.str (Xw x c r)))) H|false=>K .next ν H)))
 | .bad,_,_,_=>False
noncomputable def exs:MSs→Nu→Hp→KS→Prop
 | .nil,ν,H,K=>K .next ν H
 | .cons s ss,ν,H,K=>ex s ν H fun fl ν' H'=>match fl with
  | .next=>exs ss ν' H' K
  | fl=>K fl ν' H'
end
mutual
noncomputable def noLoc(n:Nat):V→Bool
 | .loc k=>decide (k<n)
 | .tup l=>Ci n l
 | .lst l=>Ci n l
 | _=>true
noncomputable def Ci(n:Nat):List V→Bool
 | []=>true
 | v::vs=>noLoc n v&&Ci n vs
end
noncomputable def Iu(n:Nat):Ob→Bool
 | .lst l=>Ci n l
 | .inst _ at_ items=>at_.all (fun p=>noLoc n p.2)&&(match items with|some l=>Ci n l|none=>true)
 | _=>true
structure Fn where
 pars:Nat
 dflt:List V
 slots:Nat
 body:MSs
 tail:Option (Bool×Nat):=none
noncomputable def Aae(t:Option (Bool×Nat))(fl:Fl)(ν:Nu)(H:Hp)(K:KE):Prop:=
 match fl with
 | .ret v=>K v H
 | .next=>(match t with
  | some p=>Iq ν 0 fun v=>Aez tb p.2 v H fun x H'=>K (if p.1 then x else .none) H'
  | none=>K .none H)
 | _=>False
noncomputable def T8(H:Hp)(v:V)(H':Hp)(K:KE):Prop:=K v H'∨(noLoc H.length v=true∧(H'.take H.length=H∨(H'.take H.length).all (Iu H.length)=true)∧K v (H'.take H.length))
noncomputable def uf(f:Fn)(vs:List V)(H:Hp)(K:KE):Prop:=
 gd (decide (vs.length≤f.pars)) (gd (decide (f.pars≤vs.length+f.dflt.length))
  (exs tb Φ f.body ((vs++f.dflt.drop (vs.length+f.dflt.length-f.pars)).map some++List.replicate (f.slots-f.pars) none) H fun fl ν H1=>
   Aae tb f.tail fl ν H1 fun v H'=>T8 H v H' K))
end
structure Nm where
 globs:List Str
 fns:List (Str×Addr)
 clss:List (Str×Addr)
noncomputable def Iv:List Str:=["push","pop_from","pop","reset","is_onlyws","part_count","newline","_append_chunk","_str"]
noncomputable def Ae1:List Str:=["__init__","pop","__len__"]
noncomputable def biN:Bi→Str
 | .len=> "len" | .min=> "min" | .max=> "max" | .sum=> "sum" | .abs=> "abs" | .round=> "round" | .sorted=> "sorted"
 | .isinst=> "isinstance" | .bytes=> "bytes" | .bytearray=> "bytearray" | .list=> "list" | .str=> "str"
noncomputable def smN:Sm→Str
 | .join=> "join" | .split=> "split" | .isspace=> "isspace" | .count=> "count" | .append=> "append"
noncomputable def V7(k:Option NameKind):Bool:=k==some .local||(k==some .cell||k==some .free)
noncomputable def K6(cx:Cx)(x:Str)(i:Nat):Bool:=cx.slots.lookup x==some i&&(V7 (cx.names.lookup x)&&(!(x==("__debug__" : Str))&&!(x==("__classdict__" : Str))))
noncomputable def Ay(cx:Cx)(x:Str):Bool:=cx.names.lookup x==some .globalImplicit&&!(x==("__debug__" : Str))
noncomputable def Ap(cx:Cx)(x:Str)(i:Nat):Bool:=cx.slots.lookup x==some i&&((cx.names.lookup x==some .local||cx.names.lookup x==some .cell)&&(!(x==("__class__" : Str))&&!(x==("__classdict__" : Str))))
noncomputable def Ey(cx:Cx)(names:List (Str×NameKind)):List (Str×NameKind):=
 names.map fun p=>if p.2==.free&&cx.names.lookup p.1==some .cell then (p.1,.cell) else p
noncomputable def Bg(cx:Cx):List (Str×NameKind)→Nat→List (Str×Nat)
 | [],_=>[]
 | p::r,b=>bif p.2==.local&&!(p.1==(".0" : Str)) then (p.1,b)::Bg cx r (b+1) else
  bif p.2==.free then (Option.rec (Bg cx r b) (fun i=>(p.1,i)::Bg cx r b) (cx.slots.lookup p.1)) else Bg cx r b
noncomputable def Cc(names:List (Str×NameKind)):Nat:=(names.filter fun p=>p.2==.local&&!(p.1==(".0" : Str))).length
noncomputable def Bu(cx:Cx)(scope:Scope):Cx:=
 {names:=Ey cx scope.names,slots:=Bg cx scope.names cx.size,size:=cx.size+Cc scope.names}
noncomputable def Hf:List Nat→Bool
 | []=>true
 | x::r=>!r.contains x&&Hf r
noncomputable def K7:List Str→Bool
 | []=>true
 | x::r=>!r.contains x&&K7 r
noncomputable def Zx:MGs→List Nat
 | .nil=>[]
 | .cons i _ gs=>i::Zx gs
noncomputable def Z5(cx:Cx)(scope:Scope):Bool:=
 scope.names.all (fun p=>(p.2==.local)||((p.2==.free&&((cx.slots.lookup p.1).isSome&&(cx.names.lookup p.1==some .cell||cx.names.lookup p.1==some .free)))||(p.2==.globalImplicit))) &&
  (K7 (scope.names.map (·.1))&&(Hf ((Bu cx scope).slots.map (·.2))&&((Bu cx scope).slots.all (fun p=>decide (p.2<(Bu cx scope).size)) &&
  (Bu cx scope).slots.all (fun p=>!((Bu cx scope).names.lookup p.1==some .local)||decide (cx.size≤p.2)))))
noncomputable def Cj(o:Expr):Bool:=match o with
 | .Call _ [] _ _=>false
 | _=>true
noncomputable def O6(e:Expr):Bool:=match e with
 | .Starred ..=>false
 | _=>true
noncomputable def V8(e:Expr):Bool:=match e with
 | .Set ..=>false
 | _=>true
noncomputable def Dp(e:Expr):Bool:=match e with
 | .ListComp ..=>false
 | .SetComp ..=>false
 | .DictComp ..=>false
 | _=>true
noncomputable def O7(e:Expr):Bool:=match e with
 | .Tuple ..=>false
 | _=>true
noncomputable def Hg(e:Expr):Bool:=match e with
 | .Slice ..=>false
 | _=>true
set_option genCtorIdx false in
inductive May(P:Prop):Type where
 | yes (h:P)
 | no
namespace May
noncomputable def bind{P Q:Prop}(m:May P)(f:P→May Q):May Q:=May.rec (fun h=>f h) .no m
noncomputable def of(b:Bool):May (b=true):=Bool.rec .no (.yes rfl) b
noncomputable def isYes{P:Prop}(m:May P):Bool:=May.rec (fun zA=>true) false m
theorem get{P:Prop}:∀ {m:May P},m.isYes=true→P
 | .yes h,_=>h
 | .no,h=>Bool.noConfusion h
end May
noncomputable def Aer:List (Str×Str)→List (Option Expr)→List Expr→Prop
 | [],ks,vs=>∀ P:List (Option Expr)→List Expr→Prop,P [] []→P ks vs
 | p::r,ks,vs=>∀ P:List (Option Expr)→List Expr→Prop,(∀ k1 p1 k2 p2 ks' vs',Aer r ks' vs'→P (some (.Constant (.str p.1) k1 p1)::ks') (.Constant (.str p.2) k2 p2::vs'))→P ks vs
noncomputable def Aar(e:ME)(R:Expr→Prop)(l:Option Expr):Prop:=∀ P:Option Expr→Prop,(e=.none→P none)→(∀ x,R x→P (some x))→P l
section
variable (nm:Nm)
mutual
noncomputable def Az:ME→Cx→Expr→Prop
 | .none,_,e=>∀ P:Expr→Prop,(∀ k p,P (.Constant .none k p))→P e
 | .bool b,_,e=>∀ P:Expr→Prop,(∀ k p,P (.Constant (.bool b) k p))→P e
 | .int i,_,e=>∀ P:Expr→Prop,(∀ k p,P (.Constant (.int i) k p))→P e
 | .flt x,_,e=>∀ P:Expr→Prop,(∀ k p,P (.Constant (.float x) k p))→P e
 | .str s,_,e=>∀ P:Expr→Prop,(∀ k p,P (.Constant (.str s) k p))→P e
 | .var i,cx,e=>∀ P:Expr→Prop,(∀ x p,K6 cx x i=true→P (.Name x p))→P e
 | .glob k,cx,e=>∀ P:Expr→Prop,(∀ x p,(nm.globs[k]?==some x)=true→Ay cx x=true→P (.Name x p))→P e
 | .bin op l r,cx,e=>∀ P:Expr→Prop,(∀ a b p,Az l cx a→Az r cx b→P (.BinOp a op b p))→P e
 | .neg x,cx,e=>∀ P:Expr→Prop,(∀ a p,Az x cx a→P (.UnaryOp .USub a p))→P e
 | .not x,cx,e=>∀ P:Expr→Prop,(∀ a p,Az x cx a→P (.UnaryOp .Not a p))→P e
 | .cmp op l r,cx,e=>∀ P:Expr→Prop,(∀ a b p,Az l cx a→Az r cx b→behindInMarks op b=false→P (.Compare a [op] [b] p))→P e
 | .cmpD l tp es,cx,e=>∀ P:Expr→Prop,(∀ a xs k q p,Az l cx a→Dv es cx xs→P (.Compare a [.Eq] [bif tp then .Tuple xs k q else .List xs q] p))→P e
 | .bop op es,cx,e=>∀ P:Expr→Prop,(∀ xs p,Dv es cx xs→P (.BoolOp op xs p))→P e
 | .ite c a b,cx,e=>∀ P:Expr→Prop,(∀ t x y p,Az c cx t→Az a cx x→Az b cx y→P (.IfExp t x y p))→P e
 | .tup es,cx,e=>∀ P:Expr→Prop,(∀ xs k p,Dv es cx xs→P (.Tuple xs k p))→P e
 | .lst es,cx,e=>∀ P:Expr→Prop,(∀ xs p,Dv es cx xs→P (.List xs p))→P e
 | .mlst es,cx,e=>∀ P:Expr→Prop,(∀ xs p,Dv es cx xs→P (.List xs p))→P e
 | .dget ks x,cx,e=>∀ P:Expr→Prop,(∀ keys vals q i p,Aer ks keys vals→(!ks.isEmpty&&(decide (ks.length≤12)&&K7 (ks.map (·.1))))=true→Az x cx i→P (.Subscript (.Dict keys vals q) i p))→P e
 | .sub o i,cx,e=>∀ P:Expr→Prop,(∀ a b p,Az o cx a→Az i cx b→P (.Subscript a b p))→P e
 | .slc o lo hi back,cx,e=>∀ P:Expr→Prop,(∀ a l u s q p,Az o cx a→Aar lo (fun x=>Az lo cx x) l→Aar hi (fun x=>Az hi cx x) u→(∀ R:Option Expr→Prop,(back=false→R none)→(∀ k q1 q2,back=true→R (some (.UnaryOp .USub (.Constant (.int 1) k q1) q2)))→R s)→P (.Subscript a (.Slice l u s q) p))→P e
 | .attr o k,cx,e=>∀ P:Expr→Prop,(∀ a n p,(Ec[k]?==some n)=true→Cj a=true→Az o cx a→P (.Attribute a n p))→P e
 | .bcall b es,cx,e=>∀ P:Expr→Prop,(∀ q xs p,Ay cx (biN b)=true→Dv es cx xs→P (.Call (.Name (biN b) q) xs [] p))→P e
 | .scall m o es,cx,e=>∀ P:Expr→Prop,(∀ a q xs p,(decide (xs.length<20)&&q.endLine==p.line)=true→Cj a=true→Az o cx a→Dv es cx xs→P (.Call (.Attribute a (smN m) q) xs [] p))→P e
 | .call f es,cx,e=>∀ P:Expr→Prop,(∀ x q xs p,(nm.fns.lookup x==some f)=true→Ay cx x=true→Dv es cx xs→P (.Call (.Name x q) xs [] p))→P e
 | .meth m o es,cx,e=>∀ P:Expr→Prop,(∀ a n q xs p,(Iv[m]?==some n)=true→(decide (xs.length<20)&&q.endLine==p.line)=true→Cj a=true→Az o cx a→Dv es cx xs→P (.Call (.Attribute a n q) xs [] p))→P e
 | .methS m o x,cx,e=>∀ P:Expr→Prop,(∀ a n q s sp p,(Iv[m]?==some n)=true→Cj a=true→Az o cx a→Az x cx s→P (.Call (.Attribute a n q) [.Starred s sp] [] p))→P e
 | .new C es,cx,e=>∀ P:Expr→Prop,(∀ x q xs p,(nm.clss.lookup x==some C)=true→Ay cx x=true→Dv es cx xs→P (.Call (.Name x q) xs [] p))→P e
 | .comp k elt gs,cx,e=>match gs with
  | .nil=>False
  | .cons i it gs'=>∀ P:Expr→Prop,(∀ el y py iter rest scope p,(scope.kind==.function&&(k==Cc scope.names&&(Z5 cx scope&&(Hf (i::Zx gs')&&((i::Zx gs').all fun i=>decide (cx.size≤i))))))=true→
    ((Bu cx scope).slots.lookup y==some i&&(Bu cx scope).names.lookup y==some .local)=true→Z6 it cx iter→ql gs' (Bu cx scope) rest→Az elt (Bu cx scope) el→P (.ListComp el (⟨.Name y py,iter,[],0⟩::rest) scope p))→P e
 | .frz x,cx,e=>Az x cx e
 | .bad,_,_=>True
noncomputable def Dv:MEs→Cx→List Expr→Prop
 | .nil,_,es=>∀ P:List Expr→Prop,P []→P es
 | .cons x xs,cx,es=>∀ P:List Expr→Prop,(∀ e r,O6 e=true→Az x cx e→Dv xs cx r→P (e::r))→P es
noncomputable def ql:MGs→Cx→List Comprehension→Prop
 | .nil,_,gs=>∀ P:List Comprehension→Prop,P []→P gs
 | .cons i it gs',cx,gs=>∀ P:List Comprehension→Prop,(∀ x p iter rest,(cx.slots.lookup x==some i&&cx.names.lookup x==some .local)=true→Z6 it cx iter→ql gs' cx rest→P (⟨.Name x p,iter,[],0⟩::rest))→P gs
noncomputable def Z6:MI→Cx→Expr→Prop
 | .val x,cx,e=>V8 e=true∧Az x cx e
 | .rng xs,cx,e=>∀ P:Expr→Prop,(∀ q ys p,Ay cx "range" = true→Dv xs cx ys→P (.Call (.Name "range" q) ys [] p))→P e
end
noncomputable def ug:List Nat→Cx→List Expr→Prop
 | [],_,ts=>∀ P:List Expr→Prop,P []→P ts
 | i::is,cx,ts=>∀ P:List Expr→Prop,(∀ x p r,Ap cx x i=true→ug is cx r→P (.Name x p::r))→P ts
noncomputable def qm(e:ME):Bool:=match e with
 | .comp _ _ (.cons ..)=>true
 | _=>false
mutual
noncomputable def T9:MS→Cx→Stmt→Prop
 | .assign i e,cx,st=>∀ P:Stmt→Prop,(∀ x q v p,Ap cx x i=true→Az nm e cx v→(Dp v||qm e)=true→P (.Assign [.Name x q] v p))→P st
 | .unpack is e,cx,st=>∀ P:Stmt→Prop,(∀ ts k q v p,ug is cx ts→Az nm e cx v→Dp v=true→O7 v=true→P (.Assign [.Tuple ts k q] v p))→P st
 | .asub o i e,cx,st=>∀ P:Stmt→Prop,(∀ a b q v p,Az nm o cx a→Az nm i cx b→Az nm e cx v→Dp v=true→Hg b=true→P (.Assign [.Subscript a b q] v p))→P st
 | .aslc o lo e,cx,st=>∀ P:Stmt→Prop,(∀ a l q1 q v p,Az nm o cx a→Aar lo (fun x=>Az nm lo cx x) l→Az nm e cx v→Dp v=true→P (.Assign [.Subscript a (.Slice l none none q1) q] v p))→P st
 | .aattr o k e,cx,st=>∀ P:Stmt→Prop,(∀ a n q v p,(Ec[k]?==some n)=true→Az nm o cx a→Az nm e cx v→Dp v=true→P (.Assign [.Attribute a n q] v p))→P st
 | .augv i op e,cx,st=>∀ P:Stmt→Prop,(∀ x q v p,Ap cx x i=true→Az nm e cx v→P (.AugAssign (.Name x q) op v p))→P st
 | .augsub o i op e,cx,st=>∀ P:Stmt→Prop,(∀ a b q v p,Az nm o cx a→Az nm i cx b→Az nm e cx v→Hg b=true→P (.AugAssign (.Subscript a b q) op v p))→P st
 | .expr e,cx,st=>∀ P:Stmt→Prop,(∀ v p,Az nm e cx v→Dp v=true→P (.Expr v p))→P st
 | .cond c b o,cx,st=>∀ P:Stmt→Prop,(∀ t x y p,Az nm c cx t→Fi b cx x→Fi o cx y→P (.If t x y p))→P st
 | .loop c b,cx,st=>∀ P:Stmt→Prop,(∀ t x p,Az nm c cx t→Fi b cx x→P (.While t x [] p))→P st
 | .each i it b o,cx,st=>∀ P:Stmt→Prop,(∀ x q e y z p,Ap cx x i=true→Z6 nm it cx e→Fi b cx y→Fi o cx z→P (.For (.Name x q) e y z p))→P st
 | .zips i j x y b,cx,st=>∀ P:Stmt→Prop,(∀ n1 q1 n2 q2 k q3 q4 l r q5 body p,Ay cx "zip" = true→Ap cx n1 i=true→Ap cx n2 j=true→Dv nm (.cons x (.cons y .nil)) cx [l,r]→Fi b cx body→
   P (.For (.Tuple [.Name n1 q1,.Name n2 q2] k q3) (.Call (.Name "zip" q4) [l,r] [] q5) body [] p))→P st
 | .brk,_,st=>∀ P:Stmt→Prop,(∀ p,P (.Break p))→P st
 | .cont,_,st=>∀ P:Stmt→Prop,(∀ p,P (.Continue p))→P st
 | .ret e,cx,st=>∀ P:Stmt→Prop,(∀ p,e=.none→P (.Return none p))→(∀ v p,Az nm e cx v→P (.Return (some v) p))→P st
 | .try_ b,cx,st=>∀ P:Stmt→Prop,(∀ body hs p,Fi b cx body→P (.Try body hs [] [] p))→P st
 | .esc i c r,cx,st=>∀ P:Stmt→Prop,(∀ x k1 p1 p2 p3 p4 p5 q q' k2 p6 k3 p7 p8 p9,(q.endLine==q'.line)=true→Ap cx x i=true→K6 cx x i=true→
   P (.If (.Compare (.Constant (.str c) k1 p1) [.In] [.Name x p2] p3) [.Assign [.Name x p4] (.Call (.Attribute (.Name x p5) "replace" q) [.Constant (.str c) k2 p6,.Constant (.str r) k3 p7] [] q') p8] [] p9))→P st
 | .bad,_,_=>True
noncomputable def Fi:MSs→Cx→List Stmt→Prop
 | .nil,_,l=>∀ P:List Stmt→Prop,P []→P l
 | .cons s ss,cx,l=>∀ P:List Stmt→Prop,(∀ x r,T9 s cx x→Fi ss cx r→P (x::r))→P l
end
end
noncomputable def G1:List String:=["bytearray.__contains__","bytearray.__mod__","bytearray.__rmod__","_struct.pack_into.held","bytearray.find.held"]++Builtin.Bytes.decodersThatHold
noncomputable def Cu(c:Code):Bool:=match c with
 | .builtin id _=>!G1.contains id
 | _=>true
noncomputable def V9(l:List (Code×Pos)):Prop:=∀ q∈l,Cu q.1=true
noncomputable def kg(Γ:Ctx):Prop:=Cu Γ.code=true∧V9 Γ.below
noncomputable def wpN{α:Type}(M:Model)(A:Around)(t:Sem α)(Q:α→Shared→Prop)(E:Value→Shared→Prop)(s:Shared):Prop:=
 ∀ Γ p,Γ.In A→kg Γ→wp M Γ t (fun a zA s'=>Q a s') (fun e zA s'=>E e s') p s
noncomputable def Bc(M:Model)(A:Around)(c:Code)(R:Result→Shared→Prop)(s:Shared):Prop:=
 ∀ Γ p,Γ.code=c→Γ.Below A→V9 Γ.below→wpCode M Γ R p s
section
variable {α β:Type} {M:Model} {A:Around} {E:Value→Shared→Prop} {s:Shared}
theorem Af{t:Sem α}{Q:α→Shared→Prop}(h:wpAny M A t Q E s):wpN M A t Q E s:=fun Γ p hΓ zA=>h Γ p hΓ
theorem Wa{c:Code}{R:Result→Shared→Prop}(h:codeAny M A c R s):Bc M A c R s:=fun Γ p hc hΓ zA=>h Γ p hc hΓ
theorem Ac{a:α}{Q:α→Shared→Prop}(h:Q a s):wpN M A (pure a) Q E s:=fun zA zB zC zD=>h
theorem Ez{t:Sem α}{Q Q':α→Shared→Prop}{E':Value→Shared→Prop}(h:wpN M A t Q E s)(hQ:∀ a s,Q a s→Q' a s)(hE:∀ e s,E e s→E' e s):wpN M A t Q' E' s:=
 fun Γ p hΓ hc=>Sem.wp_mono M Γ t (fun a zA s=>hQ a s) (fun e zA s=>hE e s) p s (h Γ p hΓ hc)
theorem Bk{t:Sem α}{Q Q':α→Shared→Prop}(h:wpN M A t Q E s)(hQ:∀ a s,Q a s→Q' a s):wpN M A t Q' E s:=Ez h hQ fun zA zB e=>e
theorem Aa{m:Sem α}{f:α→Sem β}{Q:β→Shared→Prop}(h:wpN M A m (fun a s'=>wpN M A (f a) Q E s') E s):wpN M A (m>>=f) Q E s:=fun Γ p hΓ hc=>by
 rw [Sem.wp_bind']
 exact Sem.wp_mono M Γ m (fun a p' s' h'=>h' Γ p' hΓ hc) (fun zA zB zC h'=>h') p s (h Γ p hΓ hc)
theorem Ab{m:Sem α}{f:α→Sem β}{Q:β→Shared→Prop}(h:wpAny M A m (fun a s'=>wpN M A (f a) Q E s') E s):wpN M A (m>>=f) Q E s:=Aa (Af h)
theorem Ad{vs:List Value}{m:Sem α}{Q:α→Shared→Prop}(h:wpN M A m Q E s):wpN M A (holding vs m) Q E s:=
 fun Γ p hΓ hc=>by rw [Sem.wp_holding];exact h Γ p hΓ hc
theorem Bl{vs:List Value}{m:Sem Value}{Q:Value→Shared→Prop}(h:wpN M A m Q E s):wpN M A (operate vs m) Q E s:=
 fun Γ p hΓ hc=>by rw [Sem.wp_operate];exact h Γ p hΓ hc
theorem Bv{c:Prop}[Decidable c]{a b:Sem α}{Q:α→Shared→Prop}(h1:c→wpN M A a Q E s)(h2:¬c→wpN M A b Q E s):wpN M A (if c then a else b) Q E s:=by
 split
 ·exact h1 ‹_›
 ·exact h2 ‹_›
theorem G2{m:Sem α}{Q:Except Value α→Shared→Prop}(h:wpN M A m (fun a=>Q (.ok a)) (fun e=>Q (.error e)) s):wpN M A m.attempt Q E s:=
 fun Γ p hΓ hc=>by rw [Sem.wp_attempt];exact h Γ p hΓ hc
theorem Cy{m:Sem α}{k:Value→Sem Unit}{Q:α→Shared→Prop}(h:wpN M A m Q (fun e s'=>wpN M A (k e) (fun zA s''=>E e s'') E s') s):wpN M A (m.onRaise k) Q E s:=fun Γ p hΓ hc=>by
 rw [Sem.wp_onRaise]
 exact Sem.wp_mono M Γ m (fun zA zB zC h'=>h') (fun e p' s' h'=>h' Γ p' hΓ hc) p s (h Γ p hΓ hc)
theorem kh{t:Sem α}{Q:α→Shared→Prop}(h:wpN M A t Q E s):wpN M A t (fun a s'=>s.toks≤s'.toks∧Q a s') (fun e s'=>s.toks≤s'.toks∧E e s') s:=
 fun Γ p hΓ hc=>Z0 (h Γ p hΓ hc)
theorem Z7{Q:List (Code×Pos)→Shared→Prop}(h:∀ st:List (Code×Pos),V9 st→Q st s):wpN M A stack Q E s:=fun Γ p hΓ hc=>by
 show Q ((Γ.code,p)::Γ.below) s
 exact h _ fun q hq=>by
  rcases List.mem_cons.mp hq with rfl|hq
  ·exact hc.1
  ·exact hc.2 q hq
theorem kg.enter{Γ:Ctx}(h:kg Γ)(c:Code)(hd:Option Value)(p:Pos):V9 (Γ.enter c hd p).below:=fun q hq=>by
 rcases List.mem_cons.mp hq with rfl|hq
 ·exact h.1
 ·exact h.2 q hq
theorem Z8{c:Code}{h:Option Value}{Q:Flow→Shared→Prop}
  (hc:Bc M (A.mark h) c (fun r s'=>match r with|.ok f=>Q f s'|.error e=>E e s') s) (hnb:h≠some byPass:=by intro x;cases x):wpN M A (run c h) Q E s:=
 fun Γ p hΓ hcl=>by rw [Sem.wp_run];exact hc _ p rfl (hΓ.enter c h p hnb) (hcl.enter c h p)
theorem Js{c:Code}{Q:Value→Shared→Prop}
  (hc:Bc M A c (fun r s'=>match r with|.ok (.ret v)=>Q v s'|.ok _=>False|.error e=>E e s') s):wpN M A (runValue c) Q E s:=
 fun Γ p hΓ hcl=>by rw [Sem.wp_runValue];exact hc _ p rfl (hΓ.enter c none p (by intro x;cases x)) (hcl.enter c none p)
theorem Ck{f:Value}{pos:List Value}{kw:List (Str×Value)}{Q:Value→Shared→Prop}
  (hc:Bc M A (.call f ⟨pos,kw⟩) (fun r s'=>match r with|.ok (.ret v)=>Q v s'|.ok _=>False|.error e=>E e s') s):wpN M A (call f pos kw) Q E s:=Js hc
theorem codeN_of_tree{c:Code}{R:Result→Shared→Prop}(hcl:Cu c=true)
  (h:wpN M (A.under c) (M.den c) (fun fin s'=>match fin with|.done f=>R (.ok f) s'|.again c'=>c'.quiet=true∧Bc M A c' R s') (fun e s'=>R (.error e) s') s):Bc M A c R s:=fun Γ p hc hΓ hB=>by
 rw [wpCode_iff_wp,hc]
 refine Sem.wp_mono M Γ _ (fun fin p' s' h'=>?_) (fun zA zB zC h'=>h') p s (h Γ p (hc▸hΓ.in) ⟨by rw [hc];exact hcl,hB⟩)
 cases fin with
 | done f=>exact h'
 | again c'=>exact ⟨h'.1,h'.2 (Γ.goto c') p' rfl (hΓ.goto c') hB⟩
theorem Ee{c:Code}{R R':Result→Shared→Prop}(h:Bc M A c R s)(hR:∀ r s,R r s→R' r s):Bc M A c R' s:=
 fun Γ p hc hΓ hB=>wpCode_mono hR (h Γ p hc hΓ hB)
end
theorem Bw{id:String}(h:G1.contains id=false)(args:Args):Cu (.builtin id args)=true:=by
 show (!G1.contains id)=true
 rw [h];rfl
section
variable {prog:Program} {w:World} {A:Around} {E:Value→Shared→Prop} {s:Shared}
theorem Dj{id:String}{args:Args}{b:Builtin}{R:Result→Shared→Prop}(hb:entryFor table id=some b)(hcl:Cu (.builtin id args)=true)
  (h:wpN (model prog w) (A.under (.builtin id args)) (b args)
   (fun fin s'=>match fin with|.done f=>R (.ok f) s'|.again c'=>c'.quiet=true∧Bc (model prog w) A c' R s') (fun e s'=>R (.error e) s') s) :
  Bc (model prog w) A (.builtin id args) R s:=by
 refine codeN_of_tree hcl ?_
 show wpN _ _ (match entryFor table id with|some b=>b args|none=>unsupported ((withoutEnding? id "#data").getD id)) _ _ s
 rw [hb];exact h
theorem Cl{id:String}{args:Args}{b:Builtin}{R:Result→Shared→Prop}(hq:plainId id=true)(hb:entryFor table id=some b)(hcl:Cu (.builtin id args)=true)
  (h:wpN (model prog w) A.in1 (checkBuiltinCall id args) (fun zA s₁=>wpN (model prog w) A.in1 (b args)
   (fun fin s'=>match fin with|.done f=>R (.ok f) s'|.again c'=>c'.quiet=true∧Bc (model prog w) A c' R s') (fun e s'=>R (.error e) s') s₁)
   (fun e s'=>R (.error e) s') s):Bc (model prog w) A (.call (.builtin id) args) R s:=by
 refine codeN_of_tree rfl ?_
 show wpN _ A.in1 (do checkBuiltinCall id args;again (.builtin id args)) _ _ s
 refine Aa (Bk h fun zA s₁ h₁=>Ac (And.intro (plainId_quiet hq args) (codeN_of_tree hcl ?_)))
 rw [Around.under_plainId hq args]
 show wpN _ _ (match entryFor table id with|some b=>b args|none=>unsupported ((withoutEnding? id "#data").getD id)) _ _ s₁
 rw [hb];exact h₁
end
namespace BA
theorem mro:mroOf (.type "bytearray")=pure [.type "bytearray",.type "object"]:=by rw [mroOf_type];kernel_rfl
theorem X0:typeLookup (.type "bytearray") "__new__" = pure (some (.builtin "bytearray.__new__")):=by rw [typeLookup_type,builtinLookup_eq_fast];kernel_rfl
theorem slot_init:Slot "bytearray" "__init__" "bytearray.__init__" :=.of (owner:= "bytearray") (n:= "__init__") (by rw [typeLookup_type,builtinLookup_eq_fast];kernel_rfl) (by decide +kernel) (by decide +kernel) (by decide +kernel)
 (by first|exact .inl (by decide +kernel)|exact .inr (by decide +kernel)) (by rw [isSubtype_type];kernel_rfl)
theorem slot_setitem:Slot "bytearray" "__setitem__" "bytearray.__setitem__" :=.of (owner:= "bytearray") (n:= "__setitem__") (by rw [typeLookup_type,builtinLookup_eq_fast];kernel_rfl) (by decide +kernel) (by decide +kernel) (by decide +kernel)
 (by first|exact .inl (by decide +kernel)|exact .inr (by decide +kernel)) (by rw [isSubtype_type];kernel_rfl)
theorem called:TypeCalled "bytearray" "bytearray.__new__" "bytearray.__init__" :=
 ⟨by decide +kernel,by decide +kernel,⟨_,_,mro⟩,madeBy_type mro X0 (by decide +kernel),by decide +kernel,by rw [isSubtype_type];kernel_rfl,slot_init⟩
theorem typeCall(a:Value):checkTypeCall "bytearray" ⟨[a],[]⟩=pure ():=by kernel_rfl
theorem newCall(a:Value):checkBuiltinCall "bytearray.__new__" ⟨[.type "bytearray",a],[]⟩=pure ():=by kernel_rfl
theorem initArgs(a b:Value):argsOk "bytearray.__init__" ⟨[a,b],[]⟩:=by unfold argsOk;kernel_rfl
theorem setArgs(a b c:Value):argsOk "bytearray.__setitem__" ⟨[a,b,c],[]⟩:=by unfold argsOk;kernel_rfl
theorem entry_new:entryFor table "bytearray.__new__" = some Builtin.«list.__new__» :=entryFor_alias (id':= "list.__new__") (by kernel_rfl) rfl (by decide +kernel) (by kernel_rfl)
theorem entry_init:entryFor table "bytearray.__init__" = some Builtin.«bytearray.__init__» :=entryFor_of_tree (by kernel_rfl)
theorem entry_setitem:entryFor table "bytearray.__setitem__" = some Builtin.«bytearray.__setitem__» :=entryFor_of_tree (by kernel_rfl)
theorem plain_new:plainId "bytearray.__new__" = true:=by decide +kernel
theorem release:typeLookup (.type "bytearray") "__release_buffer__" = pure (some (.builtin "bytearray.__release_buffer__")):=by rw [typeLookup_type,builtinLookup_eq_fast];kernel_rfl
theorem sub_self:isSubtype (.type "bytearray") (.type "bytearray")=pure true:=by rw [isSubtype_type];kernel_rfl
end BA
set_option maxRecDepth 1000000 in
set_option maxHeartbeats 4000000 in
theorem BA.owner_new:("bytearray.__new__".splitOn ".__new__").headD "" = "bytearray" :=by simp +decide [String.splitOn,String.splitOnAux]
set_option maxRecDepth 1000000 in
set_option maxHeartbeats 4000000 in
theorem BA.ends:("bytearray.__release_buffer__".endsWith ("." ++ "__release_buffer__"))=true:=by decide +kernel
theorem BA.drops:("bytearray.__release_buffer__".dropRight ("__release_buffer__".length+1)) = "bytearray" :=by decide +kernel
section
variable {prog:Program} {w:World} {A:Around} {E:Value→Shared→Prop} {s:Shared}
theorem BA.code_new(a:Value){Q₁:Value→Shared→Prop}(h:Q₁ (.ref s.heap.objs.size) {s with heap:=s.heap.push (O1 #[])}) :
  codeAny (model prog w) A (.call (.builtin "bytearray.__new__") ⟨[.type "bytearray",a],[]⟩) (wants Q₁ E) s:=by
 refine codeAny_of_tree ?_
 show wpAny _ A.in1 (do checkBuiltinCall "bytearray.__new__" ⟨[.type "bytearray",a],[]⟩;again (.builtin "bytearray.__new__" ⟨[.type "bytearray",a],[]⟩)) _ _ s
 refine wpAny_bind (wpAny_of_eq (BA.newCall a) (wpAny_pure ⟨plainId_quiet BA.plain_new _,codeAny_builtin_stack BA.entry_new rfl fun p st=>?_⟩))
 rw [Around.under_plainId BA.plain_new _]
 have hsub:=BA.sub_self
 have hown:=BA.owner_new
 obtain ⟨hp,g,d,tk,os⟩:=s
 simp only [hown]
 wp_walk
 exact h
theorem BA.ownRelease{S:Addr}{o:Obj}{Q:Bool→Shared→Prop}(ho:s.heap.get? S=some o)(hc:o.cls=.type "bytearray")(h:Q false s):wpAny (model prog w) A (Builtin.Bytes.ownRelease (.ref S)) Q E s:=by
 have hT:s.TypeIs (.ref S) "bytearray" :=⟨o,ho,hc⟩
 unfold Builtin.Bytes.ownRelease Builtin.Bytes.slotIsOwn
 refine wpAny_bind (wpAny_bind (wpAny_specialOf hT BA.release ?_))
 dsimp only
 rw [if_neg (by rw [BA.ends];decide),BA.drops]
 exact wpAny_isInstance hT BA.sub_self (wpAny_pure h)
theorem BA.write{S:Addr}{b:Array UInt8}{f:Array UInt8→Array UInt8}{Q:Unit→Shared→Prop}(ho:s.heap.get? S=some (O1 b))(hz:(f b).size≤1000000)(h:Q () {s with heap:=s.heap.update S (Obj.mapBytearray f)}) :
  wpAny (model prog w) A (Builtin.Bytes.write (.ref S) f) Q E s:=by
 show wpAny _ _ (updateBytearray S f) _ _ _
 unfold updateBytearray
 refine wpAny_bind (wpAny_load ho ?_)
 refine wpAny_bind (wpAny_update ho ?_)
 refine wpAny_lookBehind (o:=O1 (f b)) (by rw [Heap.get?_update_self _ ho rfl];rfl) ?_ h
 show (if (f b).size>sizeLine then some "bytearray:memory" else none)=none
 rw [if_neg (by rw [sizeLine_eq];lia)]
theorem K8{c:Prop}[Decidable c]{a:c→Bool}{b:¬c→Bool}(hc:¬c)(h:b hc=false):dite c a b=false:=(dif_neg hc).trans h
theorem uh{id:String}(h:(!G1.contains id)=true){x:String}(hx:G1.contains x=true):¬id=x:=fun e=>by
 subst e;rw [hx] at h;cases h
theorem ki{id:String}(h:(!G1.contains id)=true):Builtin.Bytes.decodersThatHold.contains id=false:=by
 cases hd:Builtin.Bytes.decodersThatHold.contains id with
 | false=>rfl
 | true=>
  have h2:G1.contains id=true:=List.contains_iff_mem.mpr (List.mem_append_right _ (List.contains_iff_mem.mp hd))
  rw [h2] at h;cases h
theorem qo{α:Type}{f:α→Bool}:∀ {l:List α},(∀ q∈l,f q=false)→l.any f=false
 | [],_=>rfl
 | a::l,h=>by
  show (f a||l.any f)=false
  rw [h a ms9,qo fun q hq=>h q (mm9 _ hq)];rfl
theorem BA.exported{v:Value}{Q:Bool→Shared→Prop}(h:Q false s):wpN (model prog w) A (Builtin.Bytes.exported v) Q E s:=by
 delta Builtin.Bytes.exported
 refine Aa (Z7 fun st hst=>Ac ?_)
 rw [qo fun q hq=>?_]
 ·exact h
 ·have hc:=hst q hq
  revert hc
  generalize q=q
  obtain ⟨c,p⟩:=q
  intro hc
  cases c<;>try exact rfl
  rename_i id args
  obtain ⟨pos,kw⟩:=args
  have n:=fun {x:String}=>uh (id:=id) hc (x:=x)
  delta PySem.Builtin.Bytes.exported.match_1 PySem.Builtin.Bytes.exported._sparseCasesOn_1
  dsimp only
  refine K8 (n (x:= "bytearray.__contains__") (by decide +kernel)) ?_
  refine K8 (n (x:= "bytearray.__mod__") (by decide +kernel)) ?_
  refine K8 (n (x:= "bytearray.__rmod__") (by decide +kernel)) ?_
  refine K8 (n (x:= "_struct.pack_into.held") (by decide +kernel)) ?_
  refine K8 (n (x:= "bytearray.find.held") (by decide +kernel)) ?_
  cases pos with
  | nil=>rfl
  | cons u t=>exact Bool.and_eq_false_imp.mpr fun zA=>ki hc
theorem BA.exportsOf{S:Addr}{b:Array UInt8}{Q:Nat→Shared→Prop}(ho:s.heap.get? S=some (O1 b))(h:Q 0 s):wpAny (model prog w) A (Builtin.Bytes.exportsOf (.ref S)) Q E s:=by
 unfold Builtin.Bytes.exportsOf
 exact wpAny_bind (wpAny_load ho (wpAny_pure h))
theorem BA.init_ok{S:Addr}{n:Int}{t:Tok}{P:PySem.Fin→Shared→Prop}(hS:s.heap.get? S=some (O1 #[]))(h0:0≤n)(h1:n≤1000)
  (h:∀ h',h'.get? S=some (O1 (Array.replicate n.toNat 0))→Heap.SameBut S s.heap h'→P (.done (.ret .none)) {s with heap:=h'}) :
  wpN (model prog w) A (Builtin.«bytearray.__init__» ⟨[.ref S,.int n t],[]⟩) P E s:=by
 unfold Builtin.«bytearray.__init__»
 refine Ab (BA.ownRelease hS rfl ?_)
 refine Aa (Ac ?_)
 refine Ab (wpAny_of_eq (a:=()) rfl ?_)
 refine Ab (wpAny_of_eq (a:=()) rfl ?_)
 refine Aa ?_
 show wpN _ _ (Builtin.Bytes.exported (.ref S)>>=_) _ _ _
 refine Aa (BA.exported ?_)
 refine Ab (BA.exportsOf hS (Ac ?_))
 show wpN _ _ (Builtin.Bytes.write (.ref S) (fun zA=>#[])>>=_) _ _ _
 refine Ab (BA.write hS (by simp) ?_)
 have hS1:(s.heap.update S (Obj.mapBytearray fun zA=>#[])).get? S=some (O1 #[]):=by rw [Heap.get?_update_self _ hS rfl];rfl
 have hb1:Heap.SameBut S s.heap (s.heap.update S (Obj.mapBytearray fun zA=>#[])):=Heap.SameBut.update ..
 generalize (s.heap.update S (Obj.mapBytearray fun zA=>#[]))=h1' at hS1 hb1 ⊢
 show wpN _ _ (asStr? (.int n t)>>=_) _ _ _
 refine Ab (wpAny_of_eq (a:=none) rfl ?_)
 show wpN _ _ (pure ()>>=_) _ _ _
 refine Aa (Ac ?_)
 refine Ab (wpAny_specialOf (T:= "int") (typeIs_int _ n t) int_index ?_)
 show wpN _ _ ((asIndex (.int n t)).attempt>>=_) _ _ _
 refine Aa (G2 (Af (wpAny_of_eq (a:=n) rfl ?_)))
 dsimp only
 refine Bv (fun c=>absurd c ?_) fun zA=>Bv (fun c=>absurd c (by lia)) fun zA=>Bv (fun c=>absurd c ?_) fun zA=>Bv (fun c=>absurd c ?_) fun zA=>?_
 ·simp only [Builtin.Bytes.fitsIndex,Bool.not_eq_true',Bool.and_eq_false_iff,decide_eq_false_iff_not];lia
 ·simp only [beq_iff_eq];lia
 ·unfold Builtin.Bytes.tooLong;simp only [decide_eq_true_eq,sizeLine_eq];lia
 refine Ab (wpAny_rule ?_)
 refine Bv (fun c=>?_) fun c=>?_
 ·refine Ab (BA.write hS1 (by simp;lia) ?_)
  refine Ac ?_
  exact h _ (by rw [Heap.get?_update_self _ hS1 rfl];rfl) (hb1.trans (Heap.SameBut.update ..))
 ·have:n=0:=by lia
  subst this
  exact Ac (h _ hS1 hb1)
theorem BA.call_ok{n:Int}{t:Tok}{Q:Value→Shared→Prop}(h0:0≤n)(h1:n≤1000)
  (h:∀ h' tk,h'.get? s.heap.objs.size=some (O1 (Array.replicate n.toNat 0))→(∀ b o,s.heap.get? b=some o→h'.get? b=some o)→Q (.ref s.heap.objs.size) {s with heap:=h',toks:=tk}) :
  wpN (model prog w) A (call (.type "bytearray") [.int n t]) Q E s:=by
 have hmro:=BA.mro
 have hmade:=BA.called.made
 refine Ck (codeN_of_tree rfl ?_)
 show wpN _ _ (callAny (.type "bytearray") _) _ _ _
 refine Ac ⟨Code.quiet_builtin _ (by decide +kernel),Dj F.entry_type_call (Bw (by decide +kernel) _) ?_⟩
 rw [Around.under_plain (weight_type_call_type "bytearray" [.int n t] []) rfl]
 unfold Builtin.«type.__call__»
 dsimp only
 rw [if_neg (by decide),if_neg (by decide +kernel)]
 refine Ab (wpAny_of_eq (BA.typeCall _) ?_)
 refine Ab (wpAny_of_eq hmro ?_)
 refine Bv (fun c=>(Bool.false_ne_true c).elim) fun zA=>?_
 refine Ab (wpAny_of_eq hmade ?_)
 refine Aa (Ac ?_)
 refine Aa (Ad (Af (wpAny_call (codeAny_mono (BA.code_new (E:=fun zA zB=>False) (Q₁:=fun z s'=>z=.ref s.heap.objs.size∧s'={s with heap:=s.heap.push (O1 #[])}) _ ⟨rfl,rfl⟩) fun r s₁ hr=>?_))))
 cases r with
 | error e=>exact hr.elim
 | ok fl=>
  cases fl with
  | ret obj=>
   obtain ⟨rfl,rfl⟩:=hr
   have hS:(s.heap.push (O1 #[])).get? s.heap.objs.size=some (O1 #[]):=Heap.get?_push_size _ rfl
   refine Ab (wpAny_isInstance (T:= "bytearray") ⟨_,hS,rfl⟩ BA.sub_self ?_)
   refine Bv (fun c=>absurd c (by decide)) fun zA=>?_
   refine Aa (Ad ?_)
   simp only [callSpecial?]
   refine Ab (wpAny_specialOf (T:= "bytearray") ⟨_,hS,rfl⟩ BA.slot_init.lookup ?_)
   simp only [BA.slot_init.bind]
   refine Ad (Aa (Ac (Aa ?_)))
   show wpN _ _ (call (.builtin "bytearray.__init__") [.ref s.heap.objs.size,.int n t]) _ _ _
   refine Ck (Cl BA.slot_init.plain BA.entry_init (Bw (by decide +kernel) _) ?_)
   refine Af (BA.slot_init.check _ _ _ _ _ _ _ _ ⟨_,hS,rfl⟩ (BA.initArgs _ _) (BA.init_ok hS h0 h1 fun h' hh hb=>?_))
   refine Ac ?_
   refine Bv (fun c=>absurd c (by decide)) fun zA=>?_
   exact Ac (h _ _ hh fun b o e=>hb.extBut b o (Nat.ne_of_lt (Heap.lt_size e)) (Heap.get?_push_of_some _ e))
  | _=>exact hr.elim
end
section
variable {prog:Program} {w:World} {A:Around} {E:Value→Shared→Prop} {s:Shared}
theorem Z9{h:Heap}{a:Addr}{xs:List Value}{n:Nat}{f:Array Value→Array Value}{ys:List Value}(ho:h.get? a=some (Dy xs.toArray n))(e:f xs.toArray=ys.toArray) :
  ∃ n',(h.update a (Obj.mapSeq f)).get? a=some (Dy ys.toArray n'):=by
 refine x11 ((⟨_,get?_update_seq ho f⟩:∃ n',(h.update a (Obj.mapSeq f)).get? a=some (seqObj "list" (f xs.toArray) n'))) fun n' e'=>?_
 exact ⟨n',by rw [e',e]⟩
theorem Qk{a:Addr}{xs:List Value}{n:Nat}{v:Value}{Q:Value→Shared→Prop}(ho:s.heap.get? a=some (Dy xs.toArray n))(hz:xs.length≤1000)
  (h:∀ h' n',h'.get? a=some (Dy (xs++[v]).toArray n')→Heap.SameBut a s.heap h'→Q .none {s with heap:=h'}):wpAny (model prog w) A (call (.builtin "list.append") [.ref a,v]) Q E s:=
 append_at (hsz:=by rw [sizeLine_eq];simp;lia) ho fun h' hs ho'=>h h' _ (by simpa using ho') hs
theorem Ql{R:Result→Shared→Prop}(hh:A.handled=none)(b:Array UInt8)(t:Tok)(S:Addr)(res:Value)(c₀:Nat)(hS:s.heap.get? S=some (Dy #[] c₀))(hn:b.size≤1000)
  (hR:∀ h' tk acc' c',(∀ b o,b≠S→s.heap.get? b=some o→h'.get? b=some o)→h'.get? S=some (Dy acc' c')→ItemsOf (fun i v=>∃ c u,b[i]?=some c∧v=.int (c.toNat:Int) u) acc' b.size→R (.ok (.ret res)) {s with heap:=h',toks:=tk}) :
  wpAny (model prog w) A.in1 (Builtin.List.listExtendWith (.ref S) (.bytes b t) res)
   (fun fin s'=>match fin with|.done f=>R (.ok f) s'|.again c'=>c'.quiet=true∧codeAny (model prog w) A c' R s') (fun e s'=>R (.error e) s') s:=by
 have hSI:S≠s.heap.objs.size:=Nat.ne_of_lt (Heap.lt_size hS)
 have hSf:S∉[s.heap.objs.size]:=fun hm=>hSI (List.mem_singleton.mp hm)
 unfold Builtin.List.listExtendWith
 refine wpAny_bind (wpAny_typeOf (T:= "bytes") (v:=.bytes b t) rfl ?_)
 have h1:Builtin.List.listSameRef (.ref S) (.bytes b t)=false:=rfl
 have h2:(Value.type "bytes" == Value.type "list")=false:=by decide
 have h3:(Value.type "bytes" == Value.type "tuple")=false:=by decide
 simp only [h1,h2,h3,Bool.or_false,Bool.false_eq_true,if_false]
 refine wpAny_bind (KBw.pyIter_bytes ?_)
 refine wpAny_bind (wpAny_holding ?_)
 unfold Builtin.List.listLengthHint
 refine wpAny_bind (wpAny_specialOf (T:= "bytes") (v:=.bytes b t) rfl FB.slot_bytes_len.lookup ?_)
 wp_delta
 refine wpAny_bind (wpAny_isInstance (T:= "bytes") (v:=.bytes b t) (b:=true) rfl (by rw [isSubtype_type];kernel_rfl) ?_)
 show wpAny _ _ (typeOf (Value.bytes b t)>>=_) _ _ _
 refine wpAny_bind (wpAny_typeOf (T:= "bytes") (v:=.bytes b t) rfl ?_)
 refine wpAny_pure ?_
 rw [if_neg (by decide)]
 have hit:KBw.IsBytesIter (s.heap.push {cls:=.type "bytes_iterator",data:=.fields #[.bytes b t,.int 0 0]}) s.heap.objs.size b t 0:=⟨_,Heap.get?_push_size _ rfl,rfl,rfl⟩
 refine wpAny_pure ⟨plainId_quiet F.plain_extend_loop _,codeAny_extend_loopS (KBw.walks (A:=A.in1) hh _ b t).toS (by rw [sizeLine_eq];lia) _ hSf _ b.size 0 _ _ _ rfl (Nat.zero_le _) hit (Heap.get?_push_of_some _ hS) (ItemsOf.nil _) fun s' acc' c' hm hS' hacc=>?_⟩
 rw [Moved.eq_with hm]
 refine hR s'.heap s'.toks acc' c' (fun b ob hb e=>hm.heap b ob (fun hmem=>?_) (Heap.get?_push_of_some _ e)) hS' hacc
 rcases List.mem_cons.mp hmem with e'|hmem
 ·exact hb e'
 ·exact absurd (Heap.lt_size e) (by rw [List.mem_singleton.mp hmem];exact Nat.lt_irrefl _)
theorem K9{Q:Value→Shared→Prop}(hh:A.handled=none)(b:Array UInt8)(t:Tok)(hn:b.size≤1000)
  (hQ:∀ h' tk acc' c',(∀ b o,s.heap.get? b=some o→h'.get? b=some o)→h'.get? s.heap.objs.size=some (Dy acc' c')→ItemsOf (fun i v=>∃ c u,b[i]?=some c∧v=.int (c.toNat:Int) u) acc' b.size→Q (.ref s.heap.objs.size) {s with heap:=h',toks:=tk}) :
  wpAny (model prog w) A (call (.type "list") [.bytes b t]) Q E s:=by
 refine callType_codes (Q₁:=fun obj s₁=>obj=.ref s.heap.objs.size∧s₁={s with heap:=s.heap.push (Dy #[] 0)}) F.called_list (F.typeCall_list_1 _) F.entry_list_init (code_list_new _ ⟨rfl,rfl⟩) fun obj s₁ h₁=>?_
 obtain ⟨rfl,rfl⟩:=h₁
 have hS:(s.heap.push (Dy #[] 0)).get? s.heap.objs.size=some (Dy #[] 0):=Heap.get?_push_size _ rfl
 refine ⟨⟨_,hS,rfl⟩,F.args_list_init_2 _ _,?_⟩
 show wpAny _ _ (do let old ←Builtin.List.listItems (.ref s.heap.objs.size);Builtin.List.listUpdate (.ref s.heap.objs.size) (fun zA=>#[]);letGo old.toList.reverse;Builtin.List.listExtendWith (.ref s.heap.objs.size) (.bytes b t) .none) _ _ _
 refine wpAny_bind ?_
 unfold Builtin.List.listItems
 refine wpAny_bind (wpAny_seqItems hS rfl (wpAny_pure ?_))
 show wpAny _ _ (updateSeq s.heap.objs.size (fun zA=>#[])>>=fun zA=>letGo (#[]:Array Value).toList.reverse>>=fun zA=>Builtin.List.listExtendWith (.ref s.heap.objs.size) (.bytes b t) .none) _ _ _
 refine wpAny_bind (wpAny_updateSeq hS rfl ?_)
 refine x11 (Z9 (xs:=[]) (f:=fun zA=>(#[]:Array Value)) (ys:=[]) hS rfl) fun n₂ hS₂=>?_
 refine wpAny_bind (wpAny_letGo ?_)
 refine Ql (A:=A.in1) hh b t _ .none _ hS₂ hn fun h' tk acc' c' hk hS' hacc=>?_
 refine ⟨rfl,hQ h' tk acc' c' (fun x o e=>?_) hS' hacc⟩
 have hx:x≠s.heap.objs.size:=Nat.ne_of_lt (Heap.lt_size e)
 exact hk x o hx ((Heap.get?_update_other _ _ (Ne.symm hx)).trans (Heap.get?_push_of_some _ e))
end
namespace BA
theorem no_bytes:typeLookup (.type "bytearray") "__bytes__" = pure none:=by rw [typeLookup_type,builtinLookup_eq_fast];kernel_rfl
theorem noIdx:typeLookup (.type "bytearray") "__index__" = pure none:=by rw [typeLookup_type,builtinLookup_eq_fast];kernel_rfl
theorem buffer:typeLookup (.type "bytearray") "__buffer__" = pure (some (.builtin "bytearray.__buffer__")):=by rw [typeLookup_type,builtinLookup_eq_fast];kernel_rfl
theorem bends:("bytearray.__buffer__".endsWith ("." ++ "__buffer__"))=true:=by decide +kernel
theorem bdrops:("bytearray.__buffer__".dropRight ("__buffer__".length+1)) = "bytearray" :=by decide +kernel
end BA
section
variable {prog:Program} {w:World} {A:Around} {E:Value→Shared→Prop} {s:Shared}
theorem BA.payload{S:Addr}{b:Array UInt8}{Q:Array UInt8→Shared→Prop}(ho:s.heap.get? S=some (O1 b))(h:Q b s):wpAny (model prog w) A (Builtin.Bytes.payload (.ref S)) Q E s:=by
 unfold Builtin.Bytes.payload
 show wpAny _ _ ((load S>>=_)>>=_) _ _ _
 exact wpAny_bind (wpAny_bind (wpAny_load ho (wpAny_pure (wpAny_pure h))))
theorem BA.buf{S:Addr}{b:Array UInt8}{Q:Option (Array UInt8)→Shared→Prop}(ho:s.heap.get? S=some (O1 b))(h:Q (some b) s):wpAny (model prog w) A (Builtin.Bytes.buffer? "bytes.__new__" (.ref S) true) Q E s:=by
 have hT:s.TypeIs (.ref S) "bytearray" :=⟨_,ho,rfl⟩
 unfold Builtin.Bytes.buffer?
 refine wpAny_bind (wpAny_specialOf hT BA.buffer ?_)
 dsimp only
 refine wpAny_bind ?_
 unfold Builtin.Bytes.slotIsOwn
 refine wpAny_bind (wpAny_specialOf hT BA.buffer ?_)
 dsimp only
 rw [if_neg (by rw [BA.bends];decide),BA.bdrops]
 refine wpAny_isInstance hT BA.sub_self ?_
 refine bm_if_false rfl ?_
 refine wpAny_bind (wpAny_specialOf hT BA.buffer ?_)
 refine wpAny_bind (BA.ownRelease ho rfl ?_)
 refine bm_if_false rfl ?_
 exact wpAny_bind (BA.payload ho (wpAny_pure h))
theorem BA.bytes_new{S:Addr}{b:Array UInt8}{Q:Value→Shared→Prop}(ho:s.heap.get? S=some (O1 b))(hz:b.size≤1000)(hQ:∀ t k,Q (.bytes b t) {s with toks:=k}) :
  codeAny (model prog w) A (.call (.builtin "bytes.__new__") ⟨[.type "bytes",.ref S],[]⟩) (wants Q E) s:=by
 refine codeAny_of_tree ?_
 show wpAny _ A.in1 (do checkBuiltinCall "bytes.__new__" ⟨[.type "bytes",.ref S],[]⟩;again (.builtin "bytes.__new__" ⟨[.type "bytes",.ref S],[]⟩)) _ _ s
 refine wpAny_bind (wpAny_of_eq (F.bm_newCall _) (wpAny_pure ⟨plainId_quiet F.bm_plain _,codeAny_builtin F.bm_entry ?_⟩))
 rw [Around.under_plainId F.bm_plain _]
 have hT:s.TypeIs (.ref S) "bytearray" :=⟨_,ho,rfl⟩
 unfold Builtin.«bytes.__new__»
 refine wpAny_bind (wpAny_of_eq (a:=true) rfl ?_)
 refine bm_if_false rfl ?_
 refine wpAny_bind (wpAny_of_eq F.bm_sub ?_)
 refine bm_if_false rfl ?_
 refine wpAny_bind (wpAny_of_eq (F.bm_bind _) ?_)
 refine wpAny_bind (wpAny_of_eq (a:=()) rfl ?_)
 refine wpAny_bind (wpAny_of_eq (a:=()) rfl ?_)
 refine bm_if_false rfl ?_
 refine wpAny_bind (wpAny_specialOf hT BA.no_bytes ?_)
 refine wpAny_bind (wpAny_bind ?_)
 show wpAny _ _ (load S>>=_) _ _ _
 refine wpAny_bind (wpAny_load ho ?_)
 refine wpAny_pure (wpAny_pure ?_)
 refine bm_if_false rfl ?_
 refine wpAny_bind (wpAny_specialOf hT BA.noIdx ?_)
 refine bm_if_true rfl ?_
 first
  | show wpAny _ _ (Builtin.Bytes.buffer? "bytes.__new__" (.ref S) true>>=_) _ _ _
  | (refine wpAny_bind ?_;show wpAny _ _ (Builtin.Bytes.buffer? "bytes.__new__" (.ref S) true>>=_) _ _ _)
 refine wpAny_bind (BA.buf ho ?_)
 refine wpAny_bind (wpAny_rule ?_)
 refine wpAny_bind (wpAny_mkBytes ?_ (by rw [sizeLine_eq];lia))
 first
  | exact wpAny_pure (wpAny_pure (hQ _ _))
  | exact wpAny_pure (hQ _ _)
  | exact wpAny_bind (wpAny_pure (wpAny_pure (hQ _ _)))
  | exact wpAny_bind (wpAny_pure (hQ _ _))
theorem Nl{S:Addr}{b:Array UInt8}{Q:Value→Shared→Prop}(ho:s.heap.get? S=some (O1 b))(hz:b.size≤1000)(hQ:∀ t k,Q (.bytes b t) {s with toks:=k}):wpAny (model prog w) A (call (.type "bytes") [.ref S]) Q E s:=by
 refine callType_codes (Q₁:=fun obj s₁=>s₁.TypeIs obj "bytes" ∧Q obj s₁) F.bm_called (F.bm_typeCall _) F.entry_object_init
  (BA.bytes_new ho hz fun t k=>⟨PySem.W.typeIs_bytes _ _ _,hQ t k⟩) fun obj s₁ h₁=>?_
 exact ⟨h₁.1,F.args_object_init_2 obj _,object_init_meets F.bm_called.init.lookup F.bm_called.made (by decide) prog w A.in1 _ s₁ ⟨h₁.1,rfl,h₁.2⟩⟩
theorem uj{S:Addr}{b:Array UInt8}{i v:Int}{t u:Tok}{Q:Unit→Shared→Prop}(ho:s.heap.get? S=some (O1 b))(h0:0≤i)(h1:i<b.size)(hz:b.size≤1000)(hv0:0≤v)(hv1:v<256)
  (h:∀ h',h'.get? S=some (O1 (b.setIfInBounds i.toNat v.toNat.toUInt8))→Heap.SameBut S s.heap h'→Q () {s with heap:=h'}):wpAny (model prog w) A (setItem (.ref S) (.int i t) (.int v u)) Q E s:=by
 have hT:s.TypeIs (.ref S) "bytearray" :=⟨_,ho,rfl⟩
 unfold setItem
 try with_reducible refine wpAny_holding ?_
 refine wpAny_bind (wpAny_sequenceKey hT (by decide) ?_)
 refine wpAny_bind (wpAny_callSpecial?_slot (name:=Str.ofString "__setitem__") hT BA.slot_setitem (wpAny_call_entry BA.slot_setitem hT BA.entry_setitem ?_ (BA.setArgs _ _ _)))
 unfold Builtin.«bytearray.__setitem__»
 refine bm_if_false rfl ?_
 show wpAny _ _ (Builtin.Bytes.subscript? (.int i t)>>=fun r=>_) _ _ s
 refine wpAny_bind ?_
 unfold Builtin.Bytes.subscript?
 refine wpAny_bind (wpAny_specialOf (T:= "int") (typeIs_int s i t) int_index ?_)
 refine bm_if_false rfl ?_
 refine wpAny_bind (wpAny_of_eq (a:=i) rfl ?_)
 refine bm_if_false (by simp only [Builtin.Bytes.fitsIndex,Bool.not_eq_false',Bool.and_eq_true,decide_eq_true_eq];lia) ?_
 refine wpAny_pure ?_
 refine wpAny_bind ?_
 unfold Builtin.Bytes.byteValue
 refine wpAny_bind (wpAny_of_eq (a:=v) rfl ?_)
 refine bm_if_false (by simp only [Bool.or_eq_false_iff,decide_eq_false_iff_not];lia) ?_
 refine wpAny_pure ?_
 refine wpAny_bind (BA.payload ho ?_)
 have e:seqIndex? i b.size=some i.toNat:=by
  unfold seqIndex?
  have c:¬i<0:=by lia
  simp only [c,if_false]
  rw [if_pos (by simp;lia)]
 rw [e]
 refine wpAny_bind (BA.write ho (by simp;lia) ?_)
 refine wpAny_pure ⟨_,rfl,wpAny_pure (h _ ?_ (Heap.SameBut.update ..))⟩
 rw [Heap.get?_update_self _ ho rfl];rfl
end
structure Eb(A:Around)(d:Nat):Prop where
 handled:A.handled=none
 frames:∃ l,A.frames=some l
 depth:A.depth+d≤900
 units:A.units+64*d≤9000
theorem Eb.mono{A:Around}{d d':Nat}(r:Eb A d)(h:d'≤d):Eb A d':=⟨r.handled,r.frames,by have:=r.depth;lia,by have:=r.units;lia⟩
theorem Eb.in1{A:Around}{d:Nat}(r:Eb A (d+1)):Eb A.in1 d:=⟨r.handled,r.frames,by have:=r.depth;show A.depth+d≤900;lia,by have:=r.units;show A.units+1+64*d≤9000;lia⟩
theorem Eb.in2{A:Around}{d:Nat}(r:Eb A (d+1)):Eb A.in1.in1 d:=⟨r.handled,r.frames,by have:=r.depth;show A.depth+d≤900;lia,by have:=r.units;show A.units+1+1+64*d≤9000;lia⟩
theorem Eb.deeper{A:Around}{d:Nat}{env:Env}(r:Eb A (d+1)):Eb (A.deeper env) d:=by
 refine x11 r.frames fun l e=>?_
 exact ⟨r.handled,⟨env::l,by show A.frames.map (env :: ·)=_;rw [e];rfl⟩,by have:=r.depth;show A.depth+1+d≤900;lia,by have:=r.units;show A.units+3+64*d≤9000;lia⟩
theorem Eb.depth_lt{A:Around}{d:Nat}(r:Eb A d):A.depth<recursionLimit:=by have:=r.depth;unfold recursionLimit;lia
theorem Eb.units_lt{A:Around}{d:Nat}(r:Eb A d){n:Nat}(h:n≤800):A.units+n<cLine:=by have:=r.units;show A.units+n<9900;lia
structure Sit(c:Cfg)(cx:Cx)(A:Around)(d:Nat)(env:Env)(ν:List (Option V))(ρ:Rho)(H:List Ob)(s:Shared):Prop where
 room:Eb A d
 st:Cv c ρ H s
 fr:Ky c cx env ν (Mut ρ H) ρ s.toks s.heap
 ap:∀ b,Fy env b→¬Mut ρ H b
section
variable {c:Cfg} {cx:Cx} {A:Around} {d:Nat} {env:Env} {ν:List (Option V)} {ρ ρ':Rho} {H H':List Ob} {s s':Shared}
theorem Sit.le(ok:Bj c)(S:Sit c cx A d env ν ρ H s)(st:Cv c ρ' H' s')(a:Le c.T (fun zA=>False) ρ H s ρ' H' s'):Sit c cx A d env ν ρ' H' s':=
 ⟨S.room,st,S.fr.le a S.st.stat.tab S.ap (fun zA m=>S.st.mutHigh m) fun q hq=>(ok.tabLow q hq).1,fun b y m=>by
  refine x12 (Fy.ex S.fr y) fun o e zA=>?_
  exact S.ap b y (a.mu b o e m)⟩
theorem Cv.grow(ok:Bj c)(S:Cv c ρ H s)(g:Au s s'):Cv c ρ H s':=
 ⟨j7.le ok (Y:=fun zA=>False) (H:=H) (H':=H) (ρ:=ρ) (ρ':=ρ) S.stat (fun zA m=>S.mutHigh m) (fun zA y=>y.elim) g.le,g.heap S.heap,Nat.lt_of_lt_of_le S.pos g.tk,S.high⟩
theorem Sit.grow(ok:Bj c)(S:Sit c cx A d env ν ρ H s)(g:Au s s'):Sit c cx A d env ν ρ H s':=S.le ok (S.st.grow ok g) g.le
theorem Cv.touch(ok:Bj c)(S:Cv c ρ H s){b:Addr}{h':Heap}{tk:Nat}(hm:¬Mut ρ H b)(ho:¬c.old b)(hq:∀ o,s.heap.get? b=some o→Cb o=false)(hs:Heap.SameBut b s.heap h')(hx:∃ o,h'.get? b=some o)(ht:s.toks≤tk) :
  Cv c ρ H {s with heap:=h',toks:=tk}∧Le c.T (fun x=>x=b) ρ H s ρ H {s with heap:=h',toks:=tk}:=by
 have le:Le c.T (fun x=>x=b) ρ H s ρ H {s with heap:=h',toks:=tk}:=by
  refine ⟨fun zA zB e=>e,fun zA zB zC e=>e,fun x o e=>?_,fun x o e zA h2 zB=>(hs.2 x h2).trans e,fun q hq' ⟨ps,e,tr⟩=>⟨ps,?_,tr⟩,rfl,id,ht,fun zA zB e=>.inl e⟩
  ·by_cases hxb:x=b
   ·subst hxb;exact hx
   ·exact ⟨o,(hs.2 x hxb).trans e⟩
  ·have h1:q.1≠b:=fun z=>ho (z▸ok.tabLow1 q hq')
   have h2:q.2≠b:=fun z=>ho (z▸(ok.tabLow q hq').1)
   exact e.sameBut hs h1 h2
 have rel:∀ v x,Ao (Mut ρ H) ρ s.toks s.heap v x→Ao (Mut ρ H) ρ tk h' v x:=fun v x r=>le.rel S.stat.tab (fun x o y e=>by subst y;exact hq o e) r
 have rels:∀ v x,Ae (Mut ρ H) ρ s.toks s.heap v x→Ae (Mut ρ H) ρ tk h' v x:=fun v x r=>le.rels S.stat.tab (fun x o y e=>by subst y;exact hq o e) r
 refine ⟨⟨S.stat.le ok (fun zA m=>S.mutHigh m) (fun x y=>by subst y;exact ho) le,⟨S.heap.len,fun n p o e1 e2=>?_,S.heap.apart,fun n p e=>?_⟩,Nat.lt_of_lt_of_le S.pos ht,S.high⟩,le⟩
 ·by_cases hd:o=.dead
  ·subst hd;trivial
  ·have n1:p.1≠b:=fun z=>hm ⟨n,p,o,e1,e2,hd,.inl z.symm⟩
   have n2:p.2≠b:=fun z=>hm ⟨n,p,o,e1,e2,hd,.inr z.symm⟩
   exact (S.heap.obj n p o e1 e2).move rel rels (fun o e=>(hs.2 _ n1).trans e) fun o e=>(hs.2 _ n2).trans e
 ·obtain ⟨⟨o1,q1⟩,o2,q2⟩:=S.heap.ex n p e
  exact ⟨le.ex _ _ q1,le.ex _ _ q2⟩
theorem X3{a b:Bool}{P:Prop}(h:(a||b)=true)(h1:a=true→P)(h2:b=true→P):P:=(Bool.or_eq_true_iff.mp h).elim h1 h2
theorem Ak{a b:Bool}{P:Prop}(h:(a&&b)=true)(k:a=true→b=true→P):P:=k (Bool.and_eq_true_iff.mp h).1 (Bool.and_eq_true_iff.mp h).2
theorem Dw{a:Bool}(h:(!a)=true):a=false:=(Bool.not_eq_true' a).mp h
theorem Aas{k:Option NameKind}(h:V7 k=true){P:Prop}(h1:k=some .local→P)(h2:k=some .cell→P)(h3:k=some .free→P):P:=
 X3 h (fun h=>h1 (eq_of_beq h)) fun h=>X3 h (fun h=>h2 (eq_of_beq h)) fun h=>h3 (eq_of_beq h)
theorem La(S:Sit c cx A d env ν ρ H s){x:Str}{i:Nat}{v:V}(hs:cx.slots.lookup x=some i)(hk:V7 (cx.names.lookup x)=true)(hcd:(x==("__classdict__" : Str))=false)(hv:ν[i]?=some (some v)){M:Model}{E:Value→Shared→Prop}{Q:Value→Shared→Prop}
  (h:∀ z,Ao (Mut ρ H) ρ s.toks s.heap v z→Q z s):wpAny M A (loadName env x) Q E s:=by
 have F:=S.fr
 have hkind:env.kindOf x=cx.names.lookup x:=by show env.scope.names.lookup x=_;rw [F.names]
 refine Aas hk (fun e=>?_) (fun e=>?_) fun e=>?_
 ·refine x12 F.ns fun m hn hm=>?_
  refine x12 (hm x i hs e) fun ov h1 h2=>?_
  rw [hv] at h1;cases h1
  cases hx:m x with
  | none=>rw [hx] at h2;exact h2.elim
  | some z=>rw [hx] at h2;exact wpAny_loadName_local F.kind (hkind.trans e) hn hx (h z h2)
 ·refine x34 (F.cell x i hs (.inl e)) fun a ov x' h1 h2 h3 h4=>?_
  rw [hv] at h2;cases h2
  cases x' with
  | none=>exact h4.elim
  | some z=>exact wpAny_loadName_cell F.kind (hkind.trans e) h1 h3 (h z h4)
 ·refine x34 (F.cell x i hs (.inr e)) fun a ov x' h1 h2 h3 h4=>?_
  rw [hv] at h2;cases h2
  cases x' with
  | none=>exact h4.elim
  | some z=>exact wpAny_loadName_free F.kind (hkind.trans e) h1 h3 (h z h4) hcd
theorem Fj{α:Type}{l:List α}{i j:Nat}{x:α}(h:∃ y,l[i]?=some y):(l.set i x)[j]?=if j=i then some x else l[j]?:=by
 refine x11 h fun y h=>?_
 rw [List.getElem?_set]
 have:=(List.getElem?_eq_some_iff.mp h).1
 by_cases e:j=i
 ·subst e;simp [this]
 ·simp [e,Ne.symm e]
theorem Lb(ok:Bj c)(S:Sit c cx A d env ν ρ H s){x:Str}{i:Nat}{v:V}{z:Value}(hs:cx.slots.lookup x=some i)(e:cx.names.lookup x=some .local)
  (r:Ao (Mut ρ H) ρ s.toks s.heap v z) {M:Model} {E:Value→Shared→Prop} {Q:Unit→Shared→Prop}
  (h:∀ s',Sit c cx A d env (ν.set i (some v)) ρ H s'→Le c.T (fun b=>b=env.locals) ρ H s ρ H s'→Q () s'):wpAny M A (storeName env x z) Q E s:=by
 have F:=S.fr
 have hkind:env.kindOf x=cx.names.lookup x:=by show env.scope.names.lookup x=_;rw [F.names]
 have hp:(env.scope.kind==.class||(env.scope.kind==.module&&env.locals != env.globals))=false:=by rw [F.kind];rfl
 refine x12 F.ns fun m hn hm=>?_
 refine wpAny_storeName_local (hkind.trans e) hn (fun h' hn' hb=>?_) hp
 have hex:∃ o,h'.get? env.locals=some o:=let ⟨o,_,_,q,_⟩:=hn';⟨o,q⟩
 refine x02 (S.st.touch ok (tk:=s.toks+1) (S.ap _ (.inl rfl)) F.high.1 (fun o e=>F.quiet _ o (.inl rfl) e) hb hex (Nat.le_succ _)) fun st le=>?_
 have rel:∀ v x,Ao (Mut ρ H) ρ s.toks s.heap v x→Ao (Mut ρ H) ρ (s.toks+1) h' v x:=fun v x r=>le.rel S.st.stat.tab (fun x o y e=>by subst y;exact F.quiet _ o (.inl rfl) e) r
 have orel:∀ v x,OV (Mut ρ H) ρ s.toks s.heap v x→OV (Mut ρ H) ρ (s.toks+1) h' v x:=fun v x r=>by
  cases v<;>cases x<;>first|trivial|exact r.elim|exact rel _ _ r
 have hold:∃ y,ν[i]?=some y:=let ⟨ov,q,_⟩:=hm x i hs e;⟨ov,q⟩
 refine h _ ⟨S.room,st,⟨by rw [List.length_set];exact F.len,F.kind,F.names,F.globals,F.builtins,⟨_,hn',fun y j e1 e2=>?_⟩,fun y j e1 e2=>?_,fun y a hy=>?_,F.apart,F.inj,F.high,F.cls⟩,S.ap⟩ le
 ·by_cases hy:y=x
  ·subst hy
   rw [hs] at e1;cases e1
   refine ⟨some v,by rw [Fj hold,if_pos rfl],?_⟩
   rw [if_pos rfl]
   exact rel _ _ r
  ·refine x12 (hm y j e1 e2) fun ov q1 q2=>?_
   have hij:j≠i:=fun z=>hy (F.inj _ _ _ (z▸e1) hs)
   refine ⟨ov,by rw [Fj hold,if_neg hij];exact q1,?_⟩
   rw [if_neg hy]
   exact orel _ _ q2
 ·refine x34 (F.cell y j e1 e2) fun a ov x' q1 q2 q3 q4=>?_
  have hij:j≠i:=fun z=>by
   have:=F.inj _ _ _ (z▸e1) hs
   subst this
   rw [e] at e2
   rcases e2 with e2|e2<;>cases e2
  exact ⟨a,ov,x',q1,by rw [Fj hold,if_neg hij];exact q2,q3.sameBut hb (F.off (mem_of_lookup q1)),orel _ _ q4⟩
 ·refine x11 (F.cellEx y a hy) fun x' q=>?_
  exact ⟨x',q.sameBut hb (F.off hy)⟩
theorem Wb(ok:Bj c)(S:Sit c cx A d env ν ρ H s){x:Str}{i:Nat}{v:V}{z:Value}(hs:cx.slots.lookup x=some i)(hk:cx.names.lookup x=some .local∨cx.names.lookup x=some .cell)(hx:x≠("__class__" : Str))
  (r:Ao (Mut ρ H) ρ s.toks s.heap v z) {M:Model} {E:Value→Shared→Prop} {Q:Unit→Shared→Prop}
  (h:∀ s',Sit c cx A d env (ν.set i (some v)) ρ H s'→Le c.T (Fy env) ρ H s ρ H s'→Q () s'):wpAny M A (storeName env x z) Q E s:=by
 have F:=S.fr
 have hkind:env.kindOf x=cx.names.lookup x:=by show env.scope.names.lookup x=_;rw [F.names]
 rcases hk with e|e
 ·exact Lb ok S hs e r fun s' S' le=>h s' S' (le.weaken fun b o zA y=>.inl y)
 ·refine x34 (F.cell x i hs (.inl e)) fun a ov x' q1 q2 q3 q4=>?_
  have ha:=mem_of_lookup q1
  have hfy:Fy env a:=.inr ⟨x,hx,ha⟩
  refine wpAny_storeName_cell F.kind (hkind.trans e) q1 q3 fun h' hc' hb=>?_
  have hex:∃ o,h'.get? a=some o:=let ⟨o,q,_⟩:=hc';⟨o,q⟩
  refine x02 (S.st.touch ok (tk:=s.toks) (S.ap _ hfy) (F.high.2 x a ha hx) (fun o e=>F.quiet _ o hfy e) hb hex (Nat.le_refl _)) fun st le=>?_
  have rel:∀ v x,Ao (Mut ρ H) ρ s.toks s.heap v x→Ao (Mut ρ H) ρ s.toks h' v x:=fun v x r=>le.rel S.st.stat.tab (fun x o y e=>by subst y;exact F.quiet _ o hfy e) r
  have orel:∀ v x,OV (Mut ρ H) ρ s.toks s.heap v x→OV (Mut ρ H) ρ s.toks h' v x:=fun v x r=>by
   cases v<;>cases x<;>first|trivial|exact r.elim|exact rel _ _ r
  refine x12 F.ns fun m hn hm=>?_
  refine h _ ⟨S.room,st,⟨by rw [List.length_set];exact F.len,F.kind,F.names,F.globals,F.builtins,⟨m,hn.sameBut hb (Ne.symm (F.off ha)),fun y j e1 e2=>?_⟩,fun y j e1 e2=>?_,fun y b hy=>?_,F.apart,F.inj,F.high,F.cls⟩,S.ap⟩ (le.weaken fun b o zA y=>by subst y;exact hfy)
  ·refine x12 (hm y j e1 e2) fun ov' w1 w2=>?_
   have hij:j≠i:=fun z=>by
    have:=F.inj _ _ _ (z▸e1) hs
    subst this
    rw [e] at e2;cases e2
   exact ⟨ov',by rw [Fj ⟨_,q2⟩,if_neg hij];exact w1,orel _ _ w2⟩
  ·by_cases hy:y=x
   ·subst hy
    rw [hs] at e1;cases e1
    exact ⟨a,some v,some z,q1,by rw [Fj ⟨_,q2⟩,if_pos rfl],hc',rel _ _ r⟩
   ·refine x34 (F.cell y j e1 e2) fun b ov' x'' w1 w2 w3 w4=>?_
    have hij:j≠i:=fun z=>hy (F.inj _ _ _ (z▸e1) hs)
    have hab:b≠a:=fun z=>hy (name_of_addr F.apart (mem_of_lookup w1) (z▸ha))
    exact ⟨b,ov',x'',w1,by rw [Fj ⟨_,q2⟩,if_neg hij];exact w2,w3.sameBut hb hab,orel _ _ w4⟩
  ·by_cases hab:b=a
   ·subst hab;exact ⟨_,hc'⟩
   ·refine x11 (F.cellEx y b hy) fun x'' w=>?_
    exact ⟨x'',w.sameBut hb hab⟩
noncomputable def Off(ρ:Rho)(I:Addr):Prop:=∀ (n:Nat) (p:Addr×Addr),ρ[n]?=some p→p.1≠I∧p.2≠I
theorem Off.le{T:T6}{Y:Addr→Prop}{I:Addr}(h:Off ρ I)(a:Le T Y ρ H s ρ' H' s')(he:∃ o,s.heap.get? I=some o):Off ρ' I:=fun n p e=>by
 rcases a.fresh n p e with q|q
 ·exact h n p q
 ·refine x11 he fun o e=>?_
  exact ⟨fun z=>by (rw [z] at q;rw [q.1] at e;cases e),fun z=>by (rw [z] at q;rw [q.2] at e;cases e)⟩
theorem Cv.off(S:Cv c ρ H s){I:Addr}(h:s.heap.get? I=none):Off ρ I:=fun n p e=>by
 obtain ⟨⟨o1,w1⟩,o2,w2⟩:=S.heap.ex n p e
 exact ⟨fun z=>by (rw [z,h] at w1;cases w1),fun z=>by (rw [z,h] at w2;cases w2)⟩
theorem Cv.iter(ok:Bj c)(S:Cv c ρ H s){I:Addr}{h':Heap}{tk:Nat}(off:Off ρ I)(ho:¬c.old I)(hq:∀ o,s.heap.get? I=some o→Cb o=false)(hk:∀ b o,b≠I→s.heap.get? b=some o→h'.get? b=some o)(ht:s.toks≤tk) :
  Cv c ρ H {s with heap:=h',toks:=tk}:=by
 have rel:∀ v x,Ao (Mut ρ H) ρ s.toks s.heap v x→Ao (Mut ρ H) ρ tk h' v x:=fun v x r=>r.move ht (fun zA zB zC e=>e) (fun b o e zA hs=>hk b o (fun z=>by subst z;rw [hq o e] at hs;cases hs) e) fun zA zB e=>e
 have rels:∀ v x,Ae (Mut ρ H) ρ s.toks s.heap v x→Ae (Mut ρ H) ρ tk h' v x:=fun v x r=>r.move ht (fun zA zB zC e=>e) (fun b o e zA hs=>hk b o (fun z=>by subst z;rw [hq o e] at hs;cases hs) e) fun zA zB e=>e
 have low:∀ b o,c.old b→s.heap.get? b=some o→h'.get? b=some o:=fun b o hb e=>hk b o (fun z=>ho (z▸hb)) e
 refine ⟨⟨fun b o e=>low b o (ok.low b o e) (S.stat.K b o e),?_,?_,?_,fun q hq'=>?_,fun b hb=>?_⟩,⟨S.heap.len,fun n p o e1 e2=>?_,S.heap.apart,fun n p e=>?_⟩,Nat.lt_of_lt_of_le S.pos ht,S.high⟩
 ·refine x32 S.stat.b fun o es ep e r=>?_
  exact ⟨o,es,ep,low _ _ ok.two.1 e,r⟩
 ·obtain ⟨mc,⟨o,es,ep,e,r⟩,z⟩:=S.stat.lim
  exact ⟨mc,⟨o,es,ep,low _ _ ok.two.2 e,r⟩,z⟩
 ·obtain ⟨mc,⟨o,es,ep,e,r⟩,z⟩:=S.stat.book
  exact ⟨mc,⟨o,es,ep,low _ _ ok.two.2 e,r⟩,z⟩
 ·obtain ⟨ps,⟨⟨o,vs,e,r⟩,e2⟩,tr⟩:=S.stat.tab q hq'
  exact ⟨ps,⟨⟨o,vs,low _ _ (ok.tabLow1 q hq') e,r⟩,low _ _ (ok.tabLow q hq').1 e2⟩,tr⟩
 ·refine x11 (S.stat.ex b hb) fun o e=>?_
  exact ⟨o,low b o hb e⟩
 ·refine x02 (off n p e1) fun n1 n2=>?_
  exact (S.heap.obj n p o e1 e2).move rel rels (fun o e=>hk _ _ n1 e) fun o e=>hk _ _ n2 e
 ·refine x02 (off n p e) fun n1 n2=>?_
  obtain ⟨⟨o1,w1⟩,o2,w2⟩:=S.heap.ex n p e
  exact ⟨⟨o1,hk _ _ n1 w1⟩,o2,hk _ _ n2 w2⟩
theorem Le.iter(ok:Bj c){Y:Addr→Prop}{s₀:Shared}(S0:Cv c ρ H s₀)(a:Le c.T Y ρ H s₀ ρ' H' s){I:Addr}{h':Heap}{tk:Nat}(hI:s₀.heap.get? I=none)(hk:∀ b o,b≠I→s.heap.get? b=some o→h'.get? b=some o)(ht:s.toks≤tk) :
  Le c.T Y ρ H s₀ ρ' H' {s with heap:=h',toks:=tk}:=by
 have ne:∀ b o,s₀.heap.get? b=some o→b≠I:=fun b o e z=>by rw [z,hI] at e;cases e
 refine ⟨a.pre,a.mu,fun b o e=>?_,fun b o e h1 h2 h3=>hk _ _ (ne b o e) (a.keep b o e h1 h2 h3),fun q hq e=>?_,a.os,a.gens,Nat.le_trans a.tk ht,a.fresh⟩
 ·refine x11 (a.ex b o e) fun o' e'=>?_
  exact ⟨o',hk _ _ (ne b o e) e'⟩
 ·obtain ⟨ps,⟨⟨o,vs,e1,r⟩,e2⟩,tr⟩:=a.tab q hq e
  refine x11 (S0.stat.ex _ (ok.tabLow1 q hq)) fun o1 w1=>?_
  refine x11 (S0.stat.ex _ (ok.tabLow q hq).1) fun o2 w2=>?_
  exact ⟨ps,⟨⟨o,vs,hk _ _ (ne _ _ w1) e1,r⟩,hk _ _ (ne _ _ w2) e2⟩,tr⟩
theorem Ky.iter{X:Addr→Prop}(F:Ky c cx env ν (Mut ρ H) ρ s.toks s.heap){I:Addr}{h':Heap}{tk:Nat}(hI:env.locals≠I∧∀ x a,(x,a)∈env.cells→a≠I)(hq:∀ o,s.heap.get? I=some o→Cb o=false)(hk:∀ b o,b≠I→s.heap.get? b=some o→h'.get? b=some o)
  (ht:s.toks≤tk):Ky c cx env ν (Mut ρ H) ρ tk h':=by
 have rel:∀ v x,Ao (Mut ρ H) ρ s.toks s.heap v x→Ao (Mut ρ H) ρ tk h' v x:=fun v x r=>r.move ht (fun zA zB zC e=>e) (fun b o e zA hs=>hk b o (fun z=>by subst z;rw [hq o e] at hs;cases hs) e) fun zA zB e=>e
 have orel:∀ v x,OV (Mut ρ H) ρ s.toks s.heap v x→OV (Mut ρ H) ρ tk h' v x:=fun v x r=>by
  cases v<;>cases x<;>first|trivial|exact r.elim|exact rel _ _ r
 refine x12 F.ns fun m hn hv=>?_
 refine ⟨F.len,F.kind,F.names,F.globals,F.builtins,⟨m,?_,fun x i e1 e2=>?_⟩,fun x i e1 e2=>?_,fun x b hb=>?_,F.apart,F.inj,F.high,F.cls⟩
 ·refine x32 hn fun o es ep e r=>?_
  exact ⟨o,es,ep,hk _ _ hI.1 e,r⟩
 ·refine x12 (hv x i e1 e2) fun ov h1 h2=>?_
  exact ⟨ov,h1,orel _ _ h2⟩
 ·obtain ⟨b,ov,x',h1,h2,⟨o,ho,hd⟩,h4⟩:=F.cell x i e1 e2
  exact ⟨b,ov,x',h1,h2,⟨o,hk _ _ (hI.2 x b (mem_of_lookup h1)) ho,hd⟩,orel _ _ h4⟩
 ·refine x22 (F.cellEx x b hb) fun x' o ho hd=>?_
  exact ⟨x',o,hk _ _ (hI.2 x b hb) ho,hd⟩
theorem Ky.forget{X:Addr→Prop}{T:Nat}{h:Heap}{ν':List (Option V)}(F:Ky c cx env ν' X ρ T h)(hl:ν.length=ν'.length)(hν:∀ (i:Nat) (ov:Option V),ν[i]?=some ov→ov=none∨ν'[i]?=some ov):Ky c cx env ν X ρ T h:=by
 have key:∀ (i:Nat) (ov:Option V) (x:Option Value),ν'[i]?=some ov→OV X ρ T h ov x→∃ ov',ν[i]?=some ov'∧OV X ρ T h ov' x:=fun i ov x e r=>by
  have hi:i<ν.length:=by rw [hl];exact (List.getElem?_eq_some_iff.mp e).1
  refine ⟨ν[i],List.getElem?_eq_getElem hi,?_⟩
  rcases hν i _ (List.getElem?_eq_getElem hi) with q|q
  ·rw [q];cases x<;>trivial
  ·rw [e] at q;cases q;exact r
 refine x12 F.ns fun m hn hv=>?_
 refine ⟨hl.trans F.len,F.kind,F.names,F.globals,F.builtins,⟨m,hn,fun x i e1 e2=>?_⟩,fun x i e1 e2=>?_,F.cellEx,F.apart,F.inj,F.high,F.cls⟩
 ·refine x12 (hv x i e1 e2) fun ov h1 h2=>?_
  exact key i ov _ h1 h2
 ·refine x34 (F.cell x i e1 e2) fun b ov x' h1 h2 h3 h4=>?_
  refine x12 (key i ov _ h2 h4) fun ov' q1 q2=>?_
  exact ⟨b,ov',x',h1,q1,h3,q2⟩
end
section
variable {c:Cfg} {cx:Cx} {A:Around} {d:Nat} {env:Env} {ν:List (Option V)} {ρ ρ':Rho} {H H':List Ob} {s s':Shared}
theorem t9.at{T:Nat}{h:Heap}(r:t9 ρ H T h){n:Nat}{p:Addr×Addr}(e:ρ[n]?=some p):∃ o,H[n]?=some o:=by
 have:=(List.getElem?_eq_some_iff.mp e).1
 rw [r.len] at this
 exact ⟨_,List.getElem?_eq_getElem this⟩
theorem Ua{n:Nat}{o ob:Ob}(e:H[n]?=some o)(ho:o≠.dead){b:Addr}(m:Mut ρ (H.set n ob) b):Mut ρ H b:=by
 refine x34 m fun k p o' e1 e2 hd hb=>?_
 by_cases hk:k=n
 ·subst hk;exact ⟨k,p,o,e1,e,ho,hb⟩
 ·rw [List.getElem?_set_ne (Ne.symm hk)] at e2
  exact ⟨k,p,o',e1,e2,hd,hb⟩
theorem Cv.put(ok:Bj c)(S:Cv c ρ H s){n:Nat}{p:Addr×Addr}{o ob:Ob}(e:ρ[n]?=some p)(e':H[n]?=some o)(ho:o≠.dead){b:Addr}(hb:b=p.1∨b=p.2){h':Heap}{tk:Nat}
  (hs:Heap.SameBut b s.heap h') (hx:∃ o,h'.get? b=some o) (ht:s.toks≤tk)
  (hnew:Le c.T (fun zA=>False) ρ H s ρ (H.set n ob) {s with heap:=h',toks:=tk}→He (Mut ρ (H.set n ob)) ρ tk h' p ob) :
  Cv c ρ (H.set n ob) {s with heap:=h',toks:=tk}∧Le c.T (fun zA=>False) ρ H s ρ (H.set n ob) {s with heap:=h',toks:=tk}:=by
 have hmb:Mut ρ H b:=⟨n,p,o,e,e',ho,hb⟩
 have hbo:=S.mutHigh hmb
 have le:Le c.T (fun zA=>False) ρ H s ρ (H.set n ob) {s with heap:=h',toks:=tk}:=by
  refine ⟨fun zA zB e=>e,fun zA zB zC m=>Ua e' ho m,fun x o e=>?_,fun x o e h1 zA zB=>(hs.2 x fun z=>h1 (z▸hmb)).trans e,fun q hq' ⟨ps,e,tr⟩=>⟨ps,?_,tr⟩,rfl,id,ht,fun zA zB e=>.inl e⟩
  ·by_cases hxb:x=b
   ·subst hxb;exact hx
   ·exact ⟨o,(hs.2 x hxb).trans e⟩
  ·have h1:q.1≠b:=fun z=>hbo (z▸ok.tabLow1 q hq')
   have h2:q.2≠b:=fun z=>hbo (z▸(ok.tabLow q hq').1)
   exact e.sameBut hs h1 h2
 have rel:∀ v x,Ao (Mut ρ H) ρ s.toks s.heap v x→Ao (Mut ρ (H.set n ob)) ρ tk h' v x:=fun v x r=>le.rel S.stat.tab A6.none r
 have rels:∀ v x,Ae (Mut ρ H) ρ s.toks s.heap v x→Ae (Mut ρ (H.set n ob)) ρ tk h' v x:=fun v x r=>le.rels S.stat.tab A6.none r
 refine ⟨⟨S.stat.le ok (fun zA m=>S.mutHigh m) (fun zA y=>y.elim) le,⟨by rw [List.length_set];exact S.heap.len,fun k p' o' e1 e2=>?_,S.heap.apart,fun k p' e1=>?_⟩,Nat.lt_of_lt_of_le S.pos ht,S.high⟩,le⟩
 ·by_cases hk:k=n
  ·subst hk
   rw [e] at e1;cases e1
   rw [List.getElem?_set_self (List.getElem?_eq_some_iff.mp e').1] at e2
   cases e2
   exact hnew le
  ·rw [List.getElem?_set_ne (Ne.symm hk)] at e2
   have ap:=S.heap.apart k n p' p e1 e hk
   have n1:p'.1≠b:=by rcases hb with rfl|rfl;exact ap.1;exact ap.2.1
   have n2:p'.2≠b:=by rcases hb with rfl|rfl;exact ap.2.2.1;exact ap.2.2.2
   exact (S.heap.obj k p' o' e1 e2).move rel rels (fun o e=>(hs.2 _ n1).trans e) fun o e=>(hs.2 _ n2).trans e
 ·obtain ⟨⟨o1,q1⟩,o2,q2⟩:=S.heap.ex k p' e1
  exact ⟨le.ex _ _ q1,le.ex _ _ q2⟩
theorem Cv.drop(S:Cv c ρ H s){n:Nat}{o:Ob}(e':H[n]?=some o)(ho:o≠.dead):Cv c ρ (H.set n .dead) s∧Le c.T (fun zA=>False) ρ H s ρ (H.set n .dead) s:=by
 have le:Le c.T (fun zA=>False) ρ H s ρ (H.set n .dead) s:=
  ⟨fun zA zB e=>e,fun zA zB zC m=>Ua e' ho m,fun x o e=>⟨o,e⟩,fun x o e zA zB zC=>e,fun zA zB e=>e,rfl,id,Nat.le_refl _,fun zA zB e=>.inl e⟩
 refine ⟨⟨S.stat,⟨by rw [List.length_set];exact S.heap.len,fun k p' o' e1 e2=>?_,S.heap.apart,S.heap.ex⟩,S.pos,S.high⟩,le⟩
 by_cases hk:k=n
 ·subst hk
  rw [List.getElem?_set_self (List.getElem?_eq_some_iff.mp e').1] at e2
  cases e2
  trivial
 ·rw [List.getElem?_set_ne (Ne.symm hk)] at e2
  exact (S.heap.obj k p' o' e1 e2).move (fun v x r=>le.rel S.stat.tab A6.none r) (fun v x r=>le.rels S.stat.tab A6.none r) (fun o e=>e) fun o e=>e
theorem uk{p:Addr×Addr}{ob:Ob}(hl:ρ.length=H.length){b:Addr}(m:Mut (ρ++[p]) (H++[ob]) b):Mut ρ H b∨b=p.1∨b=p.2:=by
 refine x34 m fun k p' o' e1 e2 hd hb=>?_
 by_cases hk:k<ρ.length
 ·rw [List.getElem?_append_left hk] at e1
  rw [List.getElem?_append_left (by lia)] at e2
  exact .inl ⟨k,p',o',e1,e2,hd,hb⟩
 ·rw [List.getElem?_append_right (by lia)] at e1
  have:k-ρ.length=0:=by
   have:=(List.getElem?_eq_some_iff.mp e1).1
   simp at this;lia
  rw [this] at e1
  cases e1
  exact .inr hb
theorem Hh{α:Type}{l:List α}{p q:α}{k:Nat}(e:(l++[p])[k]?=some q):l[k]?=some q∨(k=l.length∧q=p):=by
 by_cases hk:k<l.length
 ·rw [List.getElem?_append_left hk] at e;exact .inl e
 ·have h1:=(List.getElem?_eq_some_iff.mp e).1
  rw [List.length_append] at h1
  have hz:k=l.length:=Nat.le_antisymm (Nat.le_of_lt_succ h1) (Nat.not_lt.mp hk)
  subst hz
  rw [List.getElem?_concat_length] at e
  exact .inr ⟨rfl,(Option.some.inj e).symm⟩
theorem Cv.new(ok:Bj c)(S:Cv c ρ H s){p:Addr×Addr}{ob:Ob}(g:Au s s')(h1:s.heap.get? p.1=none)(h2:s.heap.get? p.2=none)(hx1:∃ o,s'.heap.get? p.1=some o)(hx2:∃ o,s'.heap.get? p.2=some o)
  (hnew:Le c.T (fun zA=>False) ρ H s (ρ++[p]) (H++[ob]) s'→He (Mut (ρ++[p]) (H++[ob])) (ρ++[p]) s'.toks s'.heap p ob) :
  Cv c (ρ++[p]) (H++[ob]) s'∧Le c.T (fun zA=>False) ρ H s (ρ++[p]) (H++[ob]) s':=by
 have hl:=S.heap.len
 have hpre:∀ (n:Nat) (q:Addr×Addr),ρ[n]?=some q→(ρ++[p])[n]?=some q:=fun n q e=>by
  rw [List.getElem?_append_left (List.getElem?_eq_some_iff.mp e).1];exact e
 have le:Le c.T (fun zA=>False) ρ H s (ρ++[p]) (H++[ob]) s':=by
  refine ⟨hpre,fun b o e m=>?_,fun b o e=>⟨o,g.keep b o e⟩,fun b o e zA zB zC=>g.keep b o e,fun q zA e=>let ⟨ps,t,r⟩:=e;⟨ps,t.keeps g.keep,r⟩,g.os,fun a=>g.gens▸a,g.tk,fun n q e=>?_⟩
  ·rcases uk hl m with m|rfl|rfl
   ·exact m
   ·rw [h1] at e;cases e
   ·rw [h2] at e;cases e
  ·exact (Hh e).elim .inl fun q=>.inr (by rw [q.2];exact ⟨h1,h2⟩)
 have notold:∀ b,s.heap.get? b=none→¬c.old b:=fun b e o=>by
  refine x11 (S.stat.ex b o) fun ob q=>?_
  rw [e] at q;cases q
 refine ⟨⟨S.stat.le ok (fun zA m=>S.mutHigh m) (fun zA y=>y.elim) le,⟨by simp [hl],fun k p' o' e1 e2=>?_,fun k m p' q' e1 e2 hne=>?_,fun k p' e1=>?_⟩,Nat.lt_of_lt_of_le S.pos g.tk,fun k p' e1=>?_⟩,le⟩
 ·rcases Hh e1 with e1|⟨hk,rfl⟩
  ·rw [List.getElem?_append_left (hl▸(List.getElem?_eq_some_iff.mp e1).1)] at e2
   exact (S.heap.obj k p' o' e1 e2).move (fun v x r=>le.rel S.stat.tab A6.none r) (fun v x r=>le.rels S.stat.tab A6.none r) (fun o e=>g.keep _ _ e) fun o e=>g.keep _ _ e
  ·rw [hk,hl,List.getElem?_concat_length] at e2
   cases e2
   exact hnew le
 ·have key:∀ (k:Nat) (p':Addr×Addr),(ρ++[p])[k]?=some p'→ρ[k]?=some p'∨(k=ρ.length∧p'=p):=fun k p' e=>Hh e
  have ne:∀ (k:Nat) (q:Addr×Addr),ρ[k]?=some q→q.1≠p.1∧q.1≠p.2∧q.2≠p.1∧q.2≠p.2:=fun k q e=>by
   obtain ⟨⟨o1,w1⟩,o2,w2⟩:=S.heap.ex k q e
   exact ⟨fun z=>by (rw [z,h1] at w1;cases w1),fun z=>by (rw [z,h2] at w1;cases w1),fun z=>by (rw [z,h1] at w2;cases w2),fun z=>by (rw [z,h2] at w2;cases w2)⟩
  rcases key k p' e1 with w1|⟨w1,rfl⟩
  ·rcases key m q' e2 with w2|⟨w2,rfl⟩
   ·exact S.heap.apart k m p' q' w1 w2 hne
   ·exact ne k p' w1
  ·rcases key m q' e2 with w2|⟨w2,rfl⟩
   ·refine x04 (ne m q' w2) fun a1 a2 a3 a4=>?_
    exact ⟨a1.symm,a3.symm,a2.symm,a4.symm⟩
   ·exact absurd (w1.trans w2.symm) hne
 ·rcases Hh e1 with e1|⟨_,rfl⟩
  ·exact (S.heap.ex k p' e1).imp (fun w=>w.elim fun o w=>⟨o,g.keep _ _ w⟩) fun w=>w.elim fun o w=>⟨o,g.keep _ _ w⟩
  ·exact ⟨hx1,hx2⟩
 ·rcases Hh e1 with e1|⟨_,rfl⟩
  ·exact S.high k p' e1
  ·exact ⟨notold _ h1,notold _ h2⟩
end
section
variable (X:Addr→Prop) (ρ:Rho) (T:Nat) (h:Heap)
noncomputable def Af8:V→Value→Prop
 | .none,x=>∀ P:Value→Prop,P .none→P x
 | .bool b,x=>∀ P:Value→Prop,P (.bool b)→P x
 | .int i,x=>∀ P:Value→Prop,(∀ t,P (.int i t))→P x
 | .flt f,x=>∀ P:Value→Prop,(∀ t,0<t→t<T→P (.float f t))→P x
 | .str s,x=>∀ P:Value→Prop,(∀ t,P (.str s t))→P x
 | .bytes b,x=>∀ P:Value→Prop,(∀ t,P (.bytes b t))→P x
 | .tup l,x=>∀ P:Value→Prop,(∀ a xs,¬X a→h.get? a=some (Z1 xs.toArray)→Ae X ρ T h l xs→P (.ref a))→P x
 | .lst l,x=>∀ P:Value→Prop,(∀ a xs n,¬X a→h.get? a=some (Dy xs.toArray n)→Ae X ρ T h l xs→P (.ref a))→P x
 | .loc n,x=>∀ P:Value→Prop,(∀ a d,ρ[n]?=some (a,d)→P (.ref a))→P x
 | .stat v,x=>∀ P:Value→Prop,P v→P x
noncomputable def Aat:List V→List Value→Prop
 | [],xs=>∀ P:List Value→Prop,P []→P xs
 | v::vs,xs=>∀ P:List Value→Prop,(∀ y ys,Ao X ρ T h v y→Ae X ρ T h vs ys→P (y::ys))→P xs
end
theorem Ao.inv{X:Addr→Prop}{ρ:Rho}{T:Nat}{h:Heap}{v:V}{x:Value}(r:Ao X ρ T h v x):Af8 X ρ T h v x:=
 Ao.casesOn (motive_1:=fun v x zA=>Af8 X ρ T h v x) r (fun zA k=>k) (fun zA zB k=>k) (fun zA t zB k=>k t) (fun zA zB a b zC k=>k _ a b) (fun zA t zB k=>k t) (fun zA t zB k=>k t) (fun a b c zA k=>k _ _ a b c) (fun a b c zA k=>k _ _ _ a b c) (fun a zA k=>k _ _ a) (fun zA zB k=>k)
theorem Ae.inv{X:Addr→Prop}{ρ:Rho}{T:Nat}{h:Heap}{v:List V}{x:List Value}(r:Ae X ρ T h v x):Aat X ρ T h v x:=
 Ae.casesOn (motive_2:=fun v x zA=>Aat X ρ T h v x) r (fun zA k=>k) (fun a b zA k=>k _ _ a b)
section
variable {X:Addr→Prop} {ρ:Rho} {T:Nat} {h:Heap} {x:Value} {P:Value→Prop}
@[elab_as_elim] theorem Ao.none_E(r:Ao X ρ T h .none x)(f:P .none):P x:=r.inv P f
@[elab_as_elim] theorem Ao.bool_E{b:Bool}(r:Ao X ρ T h (.bool b) x)(f:P (.bool b)):P x:=r.inv P f
@[elab_as_elim] theorem Ao.int_E{i:Int}(r:Ao X ρ T h (.int i) x)(f:∀ t,P (.int i t)):P x:=r.inv P f
@[elab_as_elim] theorem Ao.flt_E{i:UInt64}(r:Ao X ρ T h (.flt i) x)(f:∀ t,0<t→t<T→P (.float i t)):P x:=r.inv P f
@[elab_as_elim] theorem Ao.str_E{i:Str}(r:Ao X ρ T h (.str i) x)(f:∀ t,P (.str i t)):P x:=r.inv P f
@[elab_as_elim] theorem Ao.bytes_E{i:Array UInt8}(r:Ao X ρ T h (.bytes i) x)(f:∀ t,P (.bytes i t)):P x:=r.inv P f
@[elab_as_elim] theorem Ao.tup_E{l:List V}(r:Ao X ρ T h (.tup l) x)(f:∀ a xs,¬X a→h.get? a=some (Z1 xs.toArray)→Ae X ρ T h l xs→P (.ref a)):P x:=r.inv P f
@[elab_as_elim] theorem Ao.lst_E{l:List V}(r:Ao X ρ T h (.lst l) x)(f:∀ a xs n,¬X a→h.get? a=some (Dy xs.toArray n)→Ae X ρ T h l xs→P (.ref a)):P x:=r.inv P f
@[elab_as_elim] theorem Ao.loc_E{n:Nat}(r:Ao X ρ T h (.loc n) x)(f:∀ a d,ρ[n]?=some (a,d)→P (.ref a)):P x:=r.inv P f
@[elab_as_elim] theorem Ao.stat_E{v:Value}(r:Ao X ρ T h (.stat v) x)(f:P v):P x:=r.inv P f
@[elab_as_elim] theorem Ae.nil_E{P:List Value→Prop}{x:List Value}(r:Ae X ρ T h [] x)(f:P []):P x:=r.inv P f
@[elab_as_elim] theorem Ae.cons_E{P:List Value→Prop}{x:List Value}{v:V}{vs:List V}(r:Ae X ρ T h (v::vs) x)(f:∀ y ys,Ao X ρ T h v y→Ae X ρ T h vs ys→P (y::ys)):P x:=r.inv P f
end
theorem ul(a b:UInt64):Kz a b=Float64.add a b:=by delta Kz;rfl
theorem um(a b:UInt64):Cs a b=Float64.sub a b:=by delta Cs;rfl
theorem un(a b:UInt64):Ip a b=Float64.mul a b:=by delta Ip;rfl
theorem aa(a b:UInt64):Bp a b=Float64.div a b:=by delta Bp;rfl
theorem uo(a b:UInt64):Aao a b=(Float64.divmod a b).2:=by delta Aao;rfl
theorem Ub(a:Int):B7 a=Float64.ofInt a:=by delta B7;rfl
theorem O8(a b:UInt64):At a b=Float64.cmp a b:=by delta At;rfl
theorem kj(a:UInt64):Ed a=Float64.isZero a:=by delta Ed;rfl
theorem uq(a:UInt64):Xv a=Float64.isInf a:=by delta Xv;rfl
@[elab_as_elim] theorem A7{v:V}{k:Int→Prop}{C:V→Prop}(h:Gw v k)(f:∀ i,k i→C (.int i)):C v:=by cases v<;>first|exact f _ h|exact h.elim
@[elab_as_elim] theorem Hi{v:V}{k:UInt64→Prop}{C:V→Prop}(h:Z2 v k)(f:∀ i,k i→C (.flt i)):C v:=by cases v<;>first|exact f _ h|exact h.elim
@[elab_as_elim] theorem Jt{v:V}{k:Str→Prop}{C:V→Prop}(h:T3 v k)(f:∀ i,k i→C (.str i)):C v:=by cases v<;>first|exact f _ h|exact h.elim
@[elab_as_elim] theorem Lc{v:V}{k:List V→Prop}{C:V→Prop}(h:Zv v k)(f:∀ i,k i→C (.lst i)):C v:=by cases v<;>first|exact f _ h|exact h.elim
@[elab_as_elim] theorem ac{v:V}{k:List V→Prop}{C:V→Prop}(h:ua v k)(f:∀ i,k i→C (.tup i)):C v:=by cases v<;>first|exact f _ h|exact h.elim
@[elab_as_elim] theorem ae{v:V}{k:Array UInt8→Prop}{C:V→Prop}(h:Aap v k)(f:∀ i,k i→C (.bytes i)):C v:=by cases v<;>first|exact f _ h|exact h.elim
@[elab_as_elim] theorem Fk{v:V}{k:Nat→Prop}{C:V→Prop}(h:Ni v k)(f:∀ i,k i→C (.loc i)):C v:=by cases v<;>first|exact f _ h|exact h.elim
@[elab_as_elim] theorem O9{v:V}{p:Prop}{C:V→Prop}(h:O4 v p)(f:p→C .none):C v:=by cases v<;>first|exact f h|exact h.elim
theorem B4{α:Type}{o:Option α}{k:α→Prop}(h:opt o k){P:Prop}(f:∀ a,o=some a→k a→P):P:=by
 cases o with
 | none=>exact h.elim
 | some a=>exact f a rfl h
section
variable {prog:Program} {w:World} {A:Around} {E:Value→Shared→Prop} {s:Shared} {Q:Value→Shared→Prop} {X:Addr→Prop} {ρ:Rho}
theorem af{i:Int}(h:i.natAbs<1152921504606846976):i.natAbs.log2<60:=by
 by_cases z:i.natAbs=0
 ·rw [z];decide
 ·exact (Nat.log2_lt z).mpr h
theorem ur{a b:Int}(h:a.natAbs<1152921504606846976)(h':b.natAbs<1152921504606846976):IntMulOk a b:=by
 unfold IntMulOk
 have q:Builtin.Int.intBits a≤64:=intBits_le_64 (by lia) (by lia)
 have:¬Builtin.Int.intBits a>shortFactorBits:=Nat.not_lt.mpr (Nat.le_trans q (by decide))
 rw [decide_eq_false this,Bool.false_and,Bool.false_and];exact Bool.false_ne_true
theorem Ld{a b:Int}(h:b.natAbs<1152921504606846976):Builtin.divisionGoesByPylong a b=false:=by
 unfold Builtin.divisionGoesByPylong
 refine Bool.and_eq_false_iff.mpr (.inl (decide_eq_false ?_))
 have:=af h
 dsimp only
 split
 ·decide
 ·lia
theorem Fo{h:Heap}(hX:∀ b,X b→∃ o,h.get? b=some o):¬X h.objs.size:=fun q=>(hX _ q).elim fun o e=>Nat.lt_irrefl _ (Heap.lt_size e)
noncomputable abbrev Aaf(X:Addr→Prop)(ρ:Rho)(s:Shared)(k:V→Prop)(Q:Value→Shared→Prop):Prop:=∀ v z s',k v→Au s s'→Ao X ρ s'.toks s'.heap v z→Q z s'
theorem N1{k:V→Prop}{r r':UInt64}(e:r'=r)(h0:0<s.toks)(hQ:Aaf X ρ s k Q)(hk:k (.flt r')):Q (.float r s.toks) {s with toks:=s.toks+1}:=hQ _ _ _ (e▸hk) (Au.succ _) (.flt _ h0 (Nat.lt_succ_self _))
theorem Lf{k:V→Prop}{r:Int}(hQ:Aaf X ρ s k Q)(hk:k (.int r)):Q (.int r s.toks) {s with toks:=s.toks+1}:=hQ _ _ _ hk (Au.succ _) (.int _ _)
theorem Lg{n:Nat}(h:decide (n≤Ah)=true):n≤sizeLine:=Nat.le_trans (od9 h) (by rw [sizeLine_eq];decide)
theorem Uc{a:UInt64}(h:(!Ed a)=true):¬Float64.isZero a=true:=by rw [←kj,Dw h];exact Bool.false_ne_true
theorem qp{a:Int}(h:(!Xv (B7 a))=true):¬Float64.isInf (Float64.ofInt a)=true:=by rw [←Ub,←uq,Dw h];exact Bool.false_ne_true
theorem ag{j:Int}(h:decide (0<j)=true):¬(j==0)=true:=fun e=>Int.ne_of_gt (od9 h) (eq_of_beq e)
theorem Aau{a b:V}{x y:Value}{k:V→Prop}(he:j9 .Add a b k)(ra:Ao X ρ s.toks s.heap a x)(rb:Ao X ρ s.toks s.heap b y)(hX:∀ b,X b→∃ o,s.heap.get? b=some o)(h0:0<s.toks)(hQ:Aaf X ρ s k Q):wpAny (model prog w) A (binaryOp .Add x y) Q E s:=by
 cases a<;>try exact he.elim
 case int i=>exact A7 (C:=fun b=>Ao X ρ s.toks s.heap b y→_) he (fun j hk rb=>ra.int_E fun t=>rb.int_E fun u=>AutoIntOps.add_0 (Lf hQ hk)) rb
 case flt i=>exact Hi (C:=fun b=>Ao X ρ s.toks s.heap b y→_) he (fun j hk rb=>ra.flt_E fun t zA zB=>rb.flt_E fun u zA zB=>AutoFloatOps.add_0 (N1 (ul _ _) h0 hQ hk)) rb
 case str i=>exact Jt (C:=fun b=>Ao X ρ s.toks s.heap b y→_) he (fun j hk rb=>ra.str_E fun t=>rb.str_E fun u=>
   Cg (P:=fun z s'=>Gro s s'∧∃ t,z=.str (i++j) t) (add_str (fun t tk=>⟨Gro.tok _ _,t,rfl⟩) (Lg hk.1)) fun z s' p htk=>p.2.elim fun t e=>e▸hQ _ _ _ hk.2 (p.1.up htk) (.str _ _)) rb
 case lst i=>exact Lc (C:=fun b=>Ao X ρ s.toks s.heap b y→_) he (fun j hk rb=>ra.lst_E fun a1 xs n1 zA h1 r1=>rb.lst_E fun a2 ys n2 zA h2 r2=>by
   refine P.add_list h1 h2 (hQ _ _ _ hk.2 (Au.push _ _) (.lst (xs:=xs++ys) (n:=0) (Fo hX) ?_ (((Au.push s _).rels r1).append ((Au.push s _).rels r2)))) ?_
   ·rw [←List.append_toArray];exact Heap.get?_push_size s.heap rfl
   ·rw [List.size_toArray,List.size_toArray,←r1.length,←r2.length];exact Lg hk.1) rb
theorem Aav{op:Operator}{a b:V}{x y:Value}{k:V→Prop}(he:j9 op a b k)(ra:Ao X ρ s.toks s.heap a x)(rb:Ao X ρ s.toks s.heap b y)(hX:∀ b,X b→∃ o,s.heap.get? b=some o)(h0:0<s.toks)(hQ:Aaf X ρ s k Q):wpAny (model prog w) A (binaryOp op x y) Q E s:=by
 cases op<;>try exact he.elim
 case Add=>exact Aau he ra rb hX h0 hQ
 case Sub=>
  cases a<;>try exact he.elim
  case int i=>exact A7 (C:=fun b=>Ao X ρ s.toks s.heap b y→_) he (fun j hk rb=>ra.int_E fun t=>rb.int_E fun u=>AutoIntOps.sub_0 (Lf hQ hk)) rb
  case flt i=>exact Hi (C:=fun b=>Ao X ρ s.toks s.heap b y→_) he (fun j hk rb=>ra.flt_E fun t zA zB=>rb.flt_E fun u zA zB=>AutoFloatOps.sub_0 (N1 (um _ _) h0 hQ hk)) rb
 case Mult=>
  cases a<;>try exact he.elim
  case int i=>exact A7 (C:=fun b=>Ao X ρ s.toks s.heap b y→_) he (fun j hk rb=>ra.int_E fun t=>rb.int_E fun u=>AutoIntOps.mul_0 (Lf hQ hk.2.2) (ur (od9 hk.1) (od9 hk.2.1))) rb
  case flt i=>exact A7 (C:=fun b=>Ao X ρ s.toks s.heap b y→_) he (fun j hk rb=>ra.flt_E fun t zA zB=>rb.int_E fun u=>AutoFloatOps.mul_fi_1 (qp hk.1) (N1 (by rw [un,Ub]) h0 hQ hk.2)) rb
 case Div=>exact Hi (C:=fun b=>Ao X ρ s.toks s.heap b y→_) he (fun j hk rb=>rb.flt_E fun u zA zB=>by
   have hk2:=hk.2
   cases a<;>try exact hk2.elim
   case flt i=>exact ra.flt_E fun t zA zB=>AutoFloatOps.truediv_1 (Uc hk.1) (N1 (aa _ _) h0 hQ hk2)
   case int i=>exact ra.int_E fun t=>AutoFloatOps.truediv_if_2 (qp hk2.1) (Uc hk.1) (N1 (by rw [aa,Ub]) h0 hQ hk2.2)) rb
 case Mod=>
  cases a<;>try exact he.elim
  case int i=>exact A7 (C:=fun b=>Ao X ρ s.toks s.heap b y→_) he (fun j hk rb=>ra.int_E fun t=>rb.int_E fun u=>AutoIntOps.mod_1 (ag hk.1) (by rw [Int.fmod_eq_emod_of_nonneg _ (Int.le_of_lt (od9 hk.1))];exact Lf hQ hk.2)) rb
  case flt i=>exact Hi (C:=fun b=>Ao X ρ s.toks s.heap b y→_) he (fun j hk rb=>ra.flt_E fun t zA zB=>rb.flt_E fun u zA zB=>AutoFloatOps.mod_1 (Uc hk.1) (N1 (uo _ _) h0 hQ hk.2)) rb
 case FloorDiv=>exact A7 (C:=fun a=>Ao X ρ s.toks s.heap a x→_) he (fun i hk ra=>A7 (C:=fun b=>Ao X ρ s.toks s.heap b y→_) hk (fun j hk rb=>ra.int_E fun t=>rb.int_E fun u=>
   AutoIntOps.floordiv_1 (ag hk.1) (by rw [Ld (od9 hk.2.1)];exact Bool.false_ne_true) (by rw [Int.fdiv_eq_ediv_of_nonneg _ (Int.le_of_lt (od9 hk.1))];exact Lf hQ hk.2.2)) rb) ra
end
section
variable {prog:Program} {w:World} {A:Around} {E:Value→Shared→Prop} {s:Shared} {Q:Value→Shared→Prop} {X:Addr→Prop} {ρ:Rho}
open PySem.SeqAt in
theorem Wc{f:V→V→Bool}{A:Around}{s:Shared}{X':Addr→Prop}{ρ':Rho}{T T':Nat}{h h':Heap}(hf:∀ v u x y,f v u=true→Ao X ρ T h v x→Ao X' ρ' T' h' u y→EqAt A s x y true) :
  ∀ (l m:List V) (xs ys:List Value),Ae X ρ T h l xs→Ae X' ρ' T' h' m ys→qi f l m=true→∀ j (h1:j<xs.length) (h2:j<ys.length),EqAt A s xs[j] ys[j] true
 | [],m,xs,ys,r,_,_=>Ae.nil_E r fun j h1=>absurd h1 (Nat.not_lt_zero _)
 | v::l,[],xs,ys,_,_,e=>Bool.noConfusion e
 | v::l,u::m,xs,ys,r,r',e=>Ae.cons_E r fun x xs p q=>Ae.cons_E r' fun y ys p' q' j h1 h2=>by
  cases j with
  | zero=>exact hf _ _ _ _ (Bool.and_eq_true_iff.mp e).1 p p'
  | succ j=>exact Wc hf l m _ _ q q' (Bool.and_eq_true_iff.mp e).2 j (Nat.lt_of_succ_lt_succ h1) (Nat.lt_of_succ_lt_succ h2)
theorem We(n:Nat):(List.range n).all (fun zA=>true)=true:=List.all_eq_true.mpr fun zA zB=>rfl
open PySem.SeqAt in
theorem Pa{a a':Addr}{l m:List V}{xs ys:List Value}{X':Addr→Prop}{ρ':Rho}{T T':Nat}{h h':Heap}{k k':Nat}{f:V→V→Bool}(p2:s.heap.get? a=some (Dy xs.toArray k))(q2:s.heap.get? a'=some (Dy ys.toArray k'))(p3:Ae X ρ T h l xs)(q3:Ae X' ρ' T' h' m ys)
  (hl:(l.length==m.length)=true) (hu:A.units<cLine) (e:qi f l m=true) (hf:∀ v u x y,f v u=true→Ao X ρ T h v x→Ao X' ρ' T' h' u y→EqAt A.in1 s x y true):RcAt A s (.ref a) (.ref a') true∧RcNeAt A s (.ref a) (.ref a') false:=by
 have hl:xs.toArray.size=ys.toArray.size:=p3.length.symm.trans ((eq_of_beq hl).trans q3.length)
 have h1:=RcAt.lists ⟨_,p2,rfl,_,rfl⟩ ⟨_,q2,rfl,_,rfl⟩ hl hu (e:=fun zA=>true) (Wc hf l m xs ys p3 q3 e)
 have h2:=RcNeAt.lists ⟨_,p2,rfl,_,rfl⟩ ⟨_,q2,rfl,_,rfl⟩ hl hu (e:=fun zA=>true) (Wc hf l m xs ys p3 q3 e)
 rw [We] at h1 h2
 exact ⟨h1,h2⟩
open PySem.SeqAt in
theorem qq:∀ (n:Nat) (A:Around) (s:Shared) (v u:V) (x y:Value),A.units+n<cLine→eqT n v u=true→Ao X ρ s.toks s.heap v x→Ao X ρ s.toks s.heap u y→EqAt A s x y true
 | 0,_,_,_,_,_,_,_,e,_,_=>Bool.noConfusion e
 | n+1,A,s,v,u,x,y,hu,e,r1,r2=>by
  cases v<;>try exact Bool.noConfusion e
  case int a=>
   cases u<;>try exact Bool.noConfusion e
   case int b=>exact r1.int_E fun t=>r2.int_E fun t'=>(show (a==b)=true from e)▸EqAt.int_int a t b t'
  case str a=>
   cases u<;>try exact Bool.noConfusion e
   case str b=>exact r1.str_E fun t=>r2.str_E fun t'=>(show (a==b)=true from e)▸EqAt.str_str a t b t'
  case lst l=>
   cases u<;>try exact Bool.noConfusion e
   case lst m=>
    exact r1.lst_E fun a xs k zA p2 p3=>r2.lst_E fun a' ys k' zA q2 q3=>by
     by_cases ha:a=a'
     ·subst ha;exact EqAt.same _
     ·exact EqAt.of_refs ha (Pa p2 q2 p3 q3 (Bool.and_eq_true_iff.mp e).1 (Nat.lt_of_le_of_lt (Nat.le_add_right _ _) hu) (Bool.and_eq_true_iff.mp e).2
       fun v u x y e r1 r2=>qq n A.in1 s v u x y (by show A.units+1+n<cLine;rw [Nat.add_assoc,Nat.add_comm 1];exact hu) e r1 r2).1
theorem ah{α:Type}{a:α}{P:Prop}(e:none=some a):P:=nomatch e
theorem Wf{v:V}{vs:List V}{ss:List Str}{P:V→List Str→Prop}(e:Dz (v::vs)=some ss)(f:∀ a js,Dz vs=some js→P (.str a) (a::js)):P v ss:=by
 cases v<;>try exact ah (α:=List Str) e
 case str a=>
  have e:(Dz vs).map (a :: ·)=some ss:=e
  cases q:Dz vs with
  | none=>rw [q] at e;cases e
  | some js=>rw [q] at e;cases e;exact f a js q
theorem Pb{v:V}{vs:List V}{ss:List Int}{P:V→List Int→Prop}(e:Ct (v::vs)=some ss)(f:∀ a js,Ct vs=some js→P (.int a) (a::js)):P v ss:=by
 cases v<;>try exact ah (α:=List Int) e
 case int a=>
  have e:(Ct vs).map (a :: ·)=some ss:=e
  cases q:Ct vs with
  | none=>rw [q] at e;cases e
  | some js=>rw [q] at e;cases e;exact f a js q
theorem Ae.strs{T:Nat}{h:Heap}:∀ {vs:List V} {xs:List Value} {ss:List Str},Ae X ρ T h vs xs→Dz vs=some ss→StrsAre xs ss
 | [],xs,ss,r,e=>Ae.nil_E r (Option.some.inj e▸.nil)
 | v::vs,xs,ss,r,e=>Wf (P:=fun v ss=>Ae X ρ T h (v::vs) xs→StrsAre xs ss) e (fun a js q r=>Ae.cons_E r fun y ys p r=>p.str_E fun t=>.cons _ _ (Ae.strs r q)) r
theorem N2:∀ {vs:List V} {ss:List Int},Ct vs=some ss→vs.length=ss.length
 | [],ss,e=>Option.some.inj e▸rfl
 | v::vs,ss,e=>Pb (P:=fun v ss=>(v::vs).length=ss.length) e fun a js q=>congrArg Nat.succ (N2 q)
theorem Iw:∀ {vs:List V} {ss:List Str},Dz vs=some ss→vs.length=ss.length
 | [],ss,e=>Option.some.inj e▸rfl
 | v::vs,ss,e=>Wf (P:=fun v ss=>(v::vs).length=ss.length) e fun a js q=>congrArg Nat.succ (Iw q)
open PySem.SeqAt in
theorem us{A:Around}{s:Shared}{xs ys:List Value}{as bs:List Str}(r:StrsAre xs as)(q:StrsAre ys bs)(e:(as.length==bs.length)=true) :
  ∃ g:Nat→Bool,(∀ j (h1:j<xs.length) (h2:j<ys.length),EqAt A s xs[j] ys[j] (g j))∧(List.range xs.length).all g=(as==bs):=by
 induction r generalizing ys bs with
 | nil=>
  cases q with
  | nil=>exact ⟨fun zA=>true,fun j h1=>absurd h1 (Nat.not_lt_zero _),rfl⟩
  | cons=>exact Bool.noConfusion e
 | cons a t r ih=>
  cases q with
  | nil=>exact Bool.noConfusion e
  | cons b u q=>
   refine x12 (ih q (beq_iff_eq.mpr (Nat.succ.inj (eq_of_beq e)))) fun g h1 h2=>?_
   refine ⟨fun j=>Nat.rec (a==b) (fun j zA=>g j) j,fun j k1 k2=>?_,?_⟩
   ·cases j with
    | zero=>exact EqAt.str_str _ _ _ _
    | succ j=>exact h1 j (Nat.lt_of_succ_lt_succ k1) (Nat.lt_of_succ_lt_succ k2)
   ·rw [List.length_cons,List.range_succ_eq_map,List.all_cons,List.all_map]
    exact congrArg ((a==b) && ·) h2
theorem Aaw(y x:Str):tin y x=!(Builtin.Str.occurrences y x 0 y.length 1).isEmpty:=by delta tin;rfl
theorem aj{op:CmpOp}{a b:Int}{t u:Tok}{k:Bool→Prop}(he:opt (Z3 op a b) k)(hQ:∀ v,k v→Q (.bool v) s):wpAny (model prog w) A (compareOp op (.int a t) (.int b u)) Q E s:=by
 cases op
 case Eq=>exact P.eq_int (hQ _ he)
 case NotEq=>exact P.ne_int (hQ _ he)
 case Lt=>exact P.lt_int (hQ _ he)
 case LtE=>exact P.le_int (hQ _ he)
 case Gt=>exact P.gt_int (hQ _ he)
 case GtE=>exact P.ge_int (hQ _ he)
 all_goals exact he.elim
theorem ak{op:CmpOp}{a b:UInt64}{t u:Tok}{k:Bool→Prop}(he:opt (V2 op a b) k)(hQ:∀ v,k v→Q (.bool v) s):wpAny (model prog w) A (compareOp op (.float a t) (.float b u)) Q E s:=by
 unfold V2 at he
 rw [O8] at he
 cases op
 case Eq=>exact AutoFloatOps.eq_0 (hQ _ he)
 case NotEq=>exact AutoFloatOps.ne_0 (hQ _ he)
 case Lt=>exact AutoFloatOps.lt_0 (hQ _ he)
 case LtE=>exact AutoFloatOps.le_0 (hQ _ he)
 case Gt=>exact AutoFloatOps.gt_0 (hQ _ he)
 case GtE=>exact AutoFloatOps.ge_0 (hQ _ he)
 all_goals exact he.elim
theorem km(x y:Array UInt8):(x.toList != y.toList)=(x != y):=by
 unfold bne;congr 1;rw [Bool.eq_iff_iff,beq_iff_eq,beq_iff_eq,Array.toList_inj]
theorem al{op:CmpOp}{P Q:Prop}{C:CmpOp→Prop}(h:match op with|.Eq=>P|.NotEq=>Q|_=>False)(h1:P→C .Eq)(h2:Q→C .NotEq):C op:=by
 cases op<;>first|exact h1 h|exact h2 h|exact h.elim
open PySem.SeqAt in
theorem ut{op:CmpOp}{a b:V}{k:Bool→Prop}{x y:Value}(hu:A.units+8<cLine)(he:(match a with
  | .int x=>Gw b fun y=>opt (Z3 op x y) k
  | .flt x=>Z2 b fun y=>opt (V2 op x y) k
  | .str x=>T3 b fun y=>(match op with|.Eq=>k (x==y)|.NotEq=>k (x != y)|_=>False)
  | .bytes x=>Aap b fun y=>(match op with|.NotEq=>k (x != y)|_=>False)
  | .lst x=>Zv b fun y=>gd (eqT 5 (.lst x) (.lst y)) (match op with|.Eq=>k true|.NotEq=>k false|_=>False)
  | .tup x=>ua b fun y=>opt (Dz x) fun xs=>opt (Dz y) fun ys=>gd (xs.length==ys.length) (match op with|.Eq=>k (xs==ys)|.NotEq=>k (xs != ys)|_=>False)
  | _=>False)) (ra:Ao X ρ s.toks s.heap a x) (rb:Ao X ρ s.toks s.heap b y) (hQ:∀ v,k v→Q (.bool v) s):wpAny (model prog w) A (compareOp op x y) Q E s:=by
 cases a<;>try exact he.elim
 case int i=>exact A7 (C:=fun b=>Ao X ρ s.toks s.heap b y→_) he (fun j hk rb=>ra.int_E fun t=>rb.int_E fun u=>aj hk hQ) rb
 case flt i=>exact Hi (C:=fun b=>Ao X ρ s.toks s.heap b y→_) he (fun j hk rb=>ra.flt_E fun t zA zB=>rb.flt_E fun u zA zB=>ak hk hQ) rb
 case str i=>exact Jt (C:=fun b=>Ao X ρ s.toks s.heap b y→_) he (fun j hk rb=>ra.str_E fun t=>rb.str_E fun u=>by
   exact al (C:=fun op=>wpAny (model prog w) A (compareOp op (.str i t) (.str j u)) Q E s) hk (fun hk=>eq_str (hQ _ hk)) fun hk=>ne_str (hQ _ hk)) rb
 case bytes i=>exact ae (C:=fun b=>Ao X ρ s.toks s.heap b y→_) he (fun j hk rb=>ra.bytes_E fun t=>rb.bytes_E fun u=>by
   cases op
   case NotEq=>refine ne_bytes ?_;rw [km];exact hQ _ hk
   all_goals exact hk.elim) rb
 case lst i=>exact Lc (C:=fun b=>Ao X ρ s.toks s.heap b y→_) he (fun j hk rb=>ra.lst_E fun a1 xs n1 zA h1 r1=>rb.lst_E fun a2 ys n2 zA h2 r2=>by
   have rc:=Pa (A:=A) h1 h2 r1 r2 (Bool.and_eq_true_iff.mp hk.1).1 (Nat.lt_of_le_of_lt (Nat.le_add_right _ _) hu) (Bool.and_eq_true_iff.mp hk.1).2 fun v u x y e r1 r2=>qq 4 A.in1 s v u x y (by show A.units+1+4<cLine;lia) e r1 r2
   exact al (C:=fun op=>wpAny (model prog w) A (compareOp op (.ref a1) (.ref a2)) Q E s) hk.2 (fun hk=>rc.1 prog w E Q (hQ _ hk)) fun hk=>rc.2 prog w E Q (hQ _ hk)) rb
 case tup i=>exact ac (C:=fun b=>Ao X ρ s.toks s.heap b y→_) he (fun j hk rb=>ra.tup_E fun a1 xs zA h1 r1=>rb.tup_E fun a2 ys zA h2 r2=>
   B4 hk fun as e1 hk=>B4 hk fun bs e2 hk=>by
   refine x12 (us (A:=A.in1) (s:=s) (r1.strs e1) (r2.strs e2) hk.1) fun g k1 k2=>?_
   have hl:xs.toArray.size=ys.toArray.size:=r1.length.symm.trans ((Iw e1).trans ((eq_of_beq hk.1).trans ((Iw e2).symm.trans r2.length)))
   have c1:=RcAt.tuples (A:=A) ⟨_,h1,rfl,_,rfl⟩ ⟨_,h2,rfl,_,rfl⟩ (Nat.lt_of_le_of_lt (Nat.le_add_right _ _) hu) (e:=g) k1
   have c2:=RcNeAt.tuples (A:=A) ⟨_,h1,rfl,_,rfl⟩ ⟨_,h2,rfl,_,rfl⟩ (Nat.lt_of_le_of_lt (Nat.le_add_right _ _) hu) (e:=g) k1
   rw [←hl,Nat.min_self,beq_self_eq_true,Bool.and_true] at c1 c2
   rw [show xs.toArray.size=xs.length from rfl,k2] at c1 c2
   exact al (C:=fun op=>wpAny (model prog w) A (compareOp op (.ref a1) (.ref a2)) Q E s) hk.2 (fun hk=>c1 prog w E Q (hQ _ hk)) fun hk=>c2 prog w E Q (hQ _ hk)) rb
open PySem.SeqAt in
theorem Aax{op:CmpOp}{a b:V}{k:Bool→Prop}{x y:Value}(hu:A.units+8<cLine)(he:ub op a b k)(ra:Ao X ρ s.toks s.heap a x)(rb:Ao X ρ s.toks s.heap b y)(hQ:∀ v,k v→Q (.bool v) s):wpAny (model prog w) A (compareOp op x y) Q E s:=by
 cases op
 case Is=>exact O9 (C:=fun b=>Ao X ρ s.toks s.heap b y→_) he (fun hk rb=>rb.none_E (by
   cases a<;>try exact hk.elim
   case none=>exact ra.none_E (is_none_none (hQ _ hk))
   case int=>exact ra.int_E fun t=>is_int_none (hQ _ hk)
   case flt=>exact ra.flt_E fun t zA zB=>is_float_none (hQ _ hk)
   case lst=>exact ra.lst_E fun a xs n zA zB zC=>is_ref_none (hQ _ hk))) rb
 case In=>
  cases b<;>try exact he.elim
  case str j=>exact Jt (C:=fun a=>Ao X ρ s.toks s.heap a x→_) he (fun i hk ra=>ra.str_E fun t=>rb.str_E fun u=>in_str (Aaw j i▸hQ _ hk)) ra
  case lst l=>exact O9 (C:=fun a=>Ao X ρ s.toks s.heap a x→_) he (fun hk ra=>ra.none_E (B4 hk fun is e hk=>rb.lst_E fun a xs n zA h1 r1=>by
    have key:∀ {l:List V} {xs:List Value} {is:List Int},Ct l=some is→Ae X ρ s.toks s.heap l xs→(∀ y∈xs,EqAt A.in1 s y .none ((fun zA=>false) y))∧xs.any (fun zA=>false)=false:=fun {l}=>by
     induction l with
     | nil=>intro xs is e r;exact Ae.nil_E r ⟨(fun zA h=>nomatch h),rfl⟩
     | cons v l ih=>intro xs is e r;exact Pb (P:=fun v zA=>Ae X ρ s.toks s.heap (v::l) xs→_) e (fun a js q r=>Ae.cons_E r fun y ys p r=>p.int_E fun t=>⟨fun z hz=>(List.mem_cons.mp hz).elim (fun e=>e▸EqAt.int_none _ _) fun hz=>(ih q r).1 z hz,(ih q r).2⟩) r
    refine x02 (key e r1) fun k1 k2=>?_
    exact SeqAt.in_listAt (fun zA=>false) ⟨_,h1,rfl,_,rfl⟩ (fun y hy=>k1 y (Array.mem_toList_iff.mpr hy)) (by rw [List.any_toArray,k2];exact hQ _ hk))) ra
  all_goals exact he.elim
 all_goals exact ut hu he ra rb hQ
end
structure Xc where
 c:Cfg
 nm:Nm
 tb:Tb
 Φ:Orc
 d:Nat
structure Fm where
 cx:Cx
 A:Around
 env:Env
structure Sg where
 ρ:Rho
 H:Hp
 s:Shared
noncomputable abbrev FF:Value→Shared→Prop:=fun zA zB=>False
noncomputable abbrev Sg.to(g:Sg)(s:Shared):Sg:=⟨g.ρ,g.H,s⟩
noncomputable abbrev VR(g:Sg)(v:V)(x:Value):Prop:=Ao (Mut g.ρ g.H) g.ρ g.s.toks g.s.heap v x
noncomputable abbrev VRs(g:Sg)(v:List V)(x:List Value):Prop:=Ae (Mut g.ρ g.H) g.ρ g.s.toks g.s.heap v x
noncomputable abbrev SO(c:Cfg)(g:Sg):Prop:=Cv c g.ρ g.H g.s
structure Go(c:Cfg)(g g':Sg):Prop where
 st:SO c g'
 le:Le c.T (fun zA=>False) g.ρ g.H g.s g'.ρ g'.H g'.s
noncomputable abbrev Si(X:Xc)(f:Fm)(ν:Nu)(g:Sg):Prop:=Sit X.c f.cx f.A (X.d+1) f.env ν g.ρ g.H g.s
noncomputable abbrev Wn(X:Xc)(A:Around){α:Type}(t:Sem α)(Q:α→Shared→Prop)(s:Shared):Prop:=wpN X.c.M A t Q FF s
noncomputable abbrev Hd(X:Xc)(g:Sg)(K:KE)(Q:Value→Shared→Prop):Prop:=∀ v z g',K v g'.H→Go X.c g g'→VR g' v z→Q z g'.s
section
variable {c:Cfg} {g g' g'':Sg}
theorem Go.refl(S:SO c g):Go c g g:=⟨S,Le.refl⟩
theorem Go.trans(a:Go c g g')(b:Go c g' g''):Go c g g'':=⟨b.st,a.le.trans b.le⟩
theorem Go.grow(ok:Bj c)(S:SO c g){s':Shared}(gr:Au g.s s'):Go c g (g.to s'):=⟨Cv.grow ok S gr,gr.le⟩
theorem Go.then(ok:Bj c)(a:Go c g g'){s':Shared}(gr:Au g'.s s'):Go c g (g'.to s'):=a.trans (.grow ok a.st gr)
theorem Go.rel(a:Go c g g')(S:SO c g){v:V}{x:Value}(r:VR g v x):VR g' v x:=a.le.rel S.stat.tab A6.none r
theorem Go.rels(a:Go c g g')(S:SO c g){v:List V}{x:List Value}(r:VRs g v x):VRs g' v x:=a.le.rels S.stat.tab A6.none r
theorem Go.sit{X:Xc}{f:Fm}{ν:Nu}(a:Go X.c g g')(ok:Bj X.c)(S:Si X f ν g):Si X f ν g':=S.le ok a.st a.le
theorem Cv.mutEx{ρ:Rho}{H:Hp}{s:Shared}(S:Cv c ρ H s){b:Addr}(m:Mut ρ H b):∃ o,s.heap.get? b=some o:=by
 refine x34 m fun n p o e zA zB hb=>?_
 rcases hb with rfl|rfl
 ·exact (S.heap.ex n p e).1
 ·exact (S.heap.ex n p e).2
end
noncomputable abbrev j4(Q:Value→Shared→Prop):Result→Shared→Prop:=fun r s'=>match r with|.ok (.ret v)=>Q v s'|.ok _=>False|.error e=>FF e s'
noncomputable def am(X:Xc):Prop:=∀ f vs g K,X.Φ f vs g.H K→∀ A xs,Eb A X.d→SO X.c g→VRs g vs xs→∀ Q,Hd X g K Q→Bc X.c.M A (.call (.ref f) ⟨xs,[]⟩) (j4 Q) g.s
noncomputable def Ix:List Value→Bool
 | [.type n]=>n == "object"
 | .ref _::r=>Ix r
 | .type n::r=>n == "list" && Ix r
 | _=>false
structure Ef(K:Frag)(C:Addr):Prop where
 list:mroIn K C (.type "list")=some true
 deque:mroIn K C (.type "collections.deque")=some false
 get:findIn K (.ref C) "__getitem__" = some (some (.builtin "list.__getitem__"))
 set:findIn K (.ref C) "__setitem__" = some (some (.builtin "list.__setitem__"))
 app:findIn K (.ref C) "append" = some (some (.builtin "list.append"))
noncomputable def Aay(K:Frag)(C:Addr):Prop:=findIn K (.ref C) "__getattribute__" = some (some (.builtin "object.__getattribute__"))∨(findIn K (.ref C) "__getattribute__" = some (some (.builtin "list.__getattribute__"))∧mroIn K C (.type "list")=some true)
theorem Hj:(Manifest.canonical "list.__getattribute__" != "object.__getattribute__")=false:=by decide +kernel
theorem Aay.canon{K:Frag}{C:Addr}(h:Aay K C):∃ i,findIn K (.ref C) "__getattribute__" = some (some (.builtin i))∧(Manifest.canonical i != "object.__getattribute__")=false:=h.elim (fun h=>⟨_,h,PySem.F.canon_object_ga⟩) fun h=>⟨_,h.1,Hj⟩
structure Fp(K:Frag)(tb:Tb)(C:Addr):Prop where
 ga:Aay K C
 gattr:findIn K (.ref C) "__getattr__" = some none
 sa:findIn K (.ref C) "__setattr__" = some (some (.builtin "object.__setattr__"))
 cd:(clsIn K C).any (fun cd=>cd.hasDict)=true
 mro:(clsIn K C).any (fun cd=>Ix cd.mro&&cd.hasDict)=true
 attr:∀ (k:Nat) (name:Str),Ec[k]?=some name→findIn K (.ref C) name=some none
 meth:∀ (m:Nat) (name:Str) (f:Addr),tb.meths C m=some f→Iv[m]?=some name→findIn K (.ref C) name=some (some (.ref f))∧typeIn K (.ref f)=some (.type "function")
 len:∀ f,tb.lenOf C=some f→findIn K (.ref C) "__bool__" = some none∧findIn K (.ref C) "__len__" = some (some (.ref f))∧typeIn K (.ref f)=some (.type "function")
 str:∀ f,tb.strOf C=some f→findIn K (.ref C) "__str__" = some (some (.ref f))∧typeIn K (.ref f)=some (.type "function")
noncomputable def Wg(K:Frag)(C:Addr)(nid:String):Bool:=match K.lookup C with
 | some ⟨_,_,.cls cd,sl⟩=>!cd.abstract&&(!cd.hasDel&&((sl.toList[4]?).join==some (.builtin nid)&&(!cd.mro.isEmpty&&(cd.mro.contains (.ref C)&&(cd.mro.contains (.type "object") &&
   (specialIn K (.ref C) "__call__" == some (some (.builtin "type.__call__"))&&instIn K (.ref C) (.type "type")==some true))))))
 | _=>false
noncomputable def uu(c:Cfg)(f:Addr):Prop:=∃ o fd,c.K.lookup f=some o∧o.data=.func fd
structure Fx(X:Xc):Prop where
 ok:Bj X.c
 globs:∀ (k:Nat) (x:Str),X.nm.globs[k]?=some x→∃ y,X.tb.globs[k]?=some (x,.stat y)∧X.c.mg x=none∧X.c.mb x=some y
 fns:∀ (x:Str) (f:Addr),X.nm.fns.lookup x=some f→X.c.mg x=some (.ref f)∧uu X.c f
 clss:∀ (x:Str) (C:Addr),X.nm.clss.lookup x=some C→X.c.mg x=some (.ref C)∧(X.tb.initOf C).isSome=true
 bis:∀ b,X.c.mg (biN b)=none
 rng:X.c.mg "range" = none∧X.c.mg "zip" = none∧X.c.mg "super" = none
 news:∀ C f,X.tb.initOf C=some f→Wg X.c.K C (if X.tb.isList C then "list.__new__" else "object.__new__")=true∧keepIn X.c.K (.ref C)=true∧findIn X.c.K (.ref C) "__init__" = some (some (.ref f))∧typeIn X.c.K (.ref f)=some (.type "function")
 lists:∀ C,X.tb.isList C=true→Ef X.c.K C∧Fp X.c.K X.tb C
 cls:∀ C,X.tb.isCls C=true→Fp X.c.K X.tb C
 lens:∀ C f,X.tb.lenOf C=some f→Fp X.c.K X.tb C
 texts:∀ C f,X.tb.strOf C=some f→Fp X.c.K X.tb C
 meths:∀ C m f,X.tb.meths C m=some f→Fp X.c.K X.tb C∧uu X.c f
 snd:am X
theorem am.call{X:Xc}(S:am X){f:Addr}{vs:List V}{g:Sg}{K:KE}(e:X.Φ f vs g.H K){A:Around}{xs:List Value}(r:Eb A X.d)(st:SO X.c g)(rs:VRs g vs xs){Q:Value→Shared→Prop}(hQ:Hd X g K Q):Wn X A (call (.ref f) xs) Q g.s:=
 Ck (S f vs g K e A xs r st rs Q hQ)
section
variable (X:Xc)
noncomputable def ES(e:ME):Prop:=∀ (f:Fm) (ν:Nu) (g:Sg) (x:Expr) (K:KE),Az X.nm e f.cx x→Si X f ν g→ev X.tb X.Φ e ν g.H K→∀ Q,Hd X g K Q→Wn X f.A (eval x f.env) Q g.s
noncomputable abbrev an(X:Xc)(g:Sg)(K:Bool→Hp→Prop)(Q:Bool→Shared→Prop):Prop:=∀ t g',K t g'.H→Go X.c g g'→Q t g'.s
noncomputable def TS(e:ME):Prop:=∀ (f:Fm) (ν:Nu) (g:Sg) (x:Expr) (K:KE) (L:Bool→Hp→Prop),(∀ v H,K v H→Bs X.tb X.Φ v H fun t=>L t H)→Az X.nm e f.cx x→Si X f ν g→ev X.tb X.Φ e ν g.H K→∀ Q,an X g L Q→Wn X f.A (isTrue x f.env (eval x f.env)) Q g.s
noncomputable abbrev kn(X:Xc)(g:Sg)(K:KL)(Q:List Value→Shared→Prop):Prop:=∀ vs zs g',K vs g'.H→Go X.c g g'→VRs g' vs zs→Q zs g'.s
noncomputable def LS(es:MEs):Prop:=∀ (f:Fm) (ν:Nu) (g:Sg) (xs:List Expr) (K:KL),Dv X.nm es f.cx xs→Si X f ν g→evs X.tb X.Φ es ν g.H K→∀ pos Q,kn X g K Q→Wn X f.A (spliced (backTo pos (starEach xs f.env))) Q g.s
noncomputable def BS(es:MEs):Prop:=∀ (op:BoolOp) (f:Fm) (ν:Nu) (g:Sg) (xs:List Expr) (K:KE),Dv X.nm es f.cx xs→Si X f ν g→evB X.tb X.Φ op es ν g.H K→∀ pos Q,Hd X g K Q→Wn X f.A (boolOp pos op (evalEach xs f.env)) Q g.s
noncomputable def AS(es:MEs):Prop:=∀ (op:BoolOp) (f:Fm) (ν:Nu) (g:Sg) (xs:List Expr) (K:KE) (L:Bool→Hp→Prop),(∀ v H,K v H→Bs X.tb X.Φ v H fun t=>L t H)→Dv X.nm es f.cx xs→Si X f ν g→evB X.tb X.Φ op es ν g.H K→∀ Q,an X g L Q→Wn X f.A (allTrue op xs f.env) Q g.s
end
theorem Qm:∀ (k j:Nat) (x:Str),Ec[k]?=some x→Ec[j]?=some x→k=j:=by
 intro k j x hk hj
 have hk':=(List.getElem?_eq_some_iff.mp hk).1
 have hj':=(List.getElem?_eq_some_iff.mp hj).1
 have key:∀ k:Fin 7,∀ j:Fin 7,Ec[k.val]?=Ec[j.val]?→k=j:=by decide +kernel
 have:=key ⟨k,hk'⟩ ⟨j,hj'⟩ (hk.trans hj.symm)
 exact congrArg Fin.val this
theorem N3(x:Str)(t:Tok):(Value.str x t).isStr x=true:=by simp [Value.isStr]
theorem Av.noRef{X:Addr→Prop}{ρ:Rho}{T:Nat}{h:Heap}{at_:List (Nat×V)}{es:List DictEntry}(r:Av X ρ T h at_ es):es.any (·.refKey)=false:=by
 induction r with
 | nil=>rfl
 | cons t e1 e2 e3 e4 _ ih=>
  rw [List.any_cons,ih,Bool.or_false]
  unfold DictEntry.refKey
  rw [e2]
theorem Av.get{X:Addr→Prop}{ρ:Rho}{T:Nat}{h:Heap}{at_:List (Nat×V)}{es:List DictEntry}(r:Av X ρ T h at_ es){k:Nat}{name:Str}(hk:Ec[k]?=some name){v:V}(hv:at_.lookup k=some v) :
  ∃ z,getL name es=some (some z)∧handedIn z=true∧Ao X ρ T h v z:=by
 have key:∃ e,es.find? (·.key.isStr name)=some e∧handedIn e.val=true∧Ao X ρ T h v e.val:=by
  induction r with
  | nil=>cases hv
  | @cons j nm e w at_ es t e1 e2 e3 e4 _ ih=>
   rw [List.lookup_cons] at hv
   rw [List.find?_cons]
   by_cases hj:k=j
   ·subst hj
    rw [beq_self_eq_true] at hv
    cases hv
    rw [hk] at e1
    cases e1
    rw [e2,N3]
    exact ⟨e,rfl,e3,e4⟩
   ·rw [beq_eq_false_iff_ne.mpr hj] at hv
    have:e.key.isStr name=false:=by
     rw [e2]
     show (nm==name)=false
     exact beq_eq_false_iff_ne.mpr fun z=>hj (Qm k j name hk (z▸e1))
    rw [this]
    exact ih hv
 refine x13 key fun e h1 h2 h3=>?_
 exact ⟨e.val,by unfold getL;rw [h1],h2,h3⟩
theorem Av.miss{X:Addr→Prop}{ρ:Rho}{T:Nat}{h:Heap}{at_:List (Nat×V)}{es:List DictEntry}(r:Av X ρ T h at_ es){name:Str}(hk:∀ k,k∈at_.map (·.1)→Ec[k]?≠some name):getL name es=some none:=by
 have key:es.find? (·.key.isStr name)=none:=by
  induction r with
  | nil=>rfl
  | @cons j nm e w at_ es t e1 e2 e3 e4 _ ih=>
   rw [List.find?_cons]
   have:e.key.isStr name=false:=by
    rw [e2]
    show (nm==name)=false
    exact beq_eq_false_iff_ne.mpr fun z=>hk j (by simp) (z▸e1)
   rw [this]
   exact ih fun k h=>hk k (by simp at h ⊢;exact .inr h)
 unfold getL
 rw [key,r.noRef];rfl
theorem Lh:∀ (m:Nat) (name:Str),Iv[m]?=some name→∀ k:Nat,Ec[k]?≠some name:=by
 intro m name hm k hk
 have hm':=(List.getElem?_eq_some_iff.mp hm).1
 have hk':=(List.getElem?_eq_some_iff.mp hk).1
 have key:∀ m:Fin 9,∀ k:Fin 7,Iv[m.val]?≠Ec[k.val]?:=by decide +kernel
 exact key ⟨m,hm'⟩ ⟨k,hk'⟩ (hm.trans hk.symm)
theorem uv{K:Frag}{f:Value}(h:typeIn K f=some (.type "function")):specialIn K f "__get__" = some (some (.builtin "function.__get__"))∧takesIn K f=some false:=by
 have e1:findIn K (.type "function") "__get__" = some (some (.builtin "function.__get__")):=show fastLookup "function" "__get__" = _ by kernel_rfl
 have e2:findIn K (.type "function") "__set__" = some none:=show fastLookup "function" "__set__" = _ by kernel_rfl
 have e3:findIn K (.type "function") "__delete__" = some none:=show fastLookup "function" "__delete__" = _ by kernel_rfl
 unfold takesIn specialIn
 rw [h]
 simp only [Option.bind_some,e1,e2,e3]
 exact ⟨trivial,rfl⟩
structure Ins(X:Addr→Prop)(ρ:Rho)(T:Nat)(h:Heap)(p:Addr×Addr)(C:Addr)(at_:List (Nat×V))(items:Option (List V))(ox:Obj)(es:List DictEntry)(k:Nat):Prop where
 ne:p.2≠p.1
 inst:InstAt h p.1 ox C (some (dictOf es k))
 dict:ox.dict=some p.2
 atd:h.get? p.2=some (dictOf es k)
 attrs:Av X ρ T h at_ es
 shape:match items with
  | none=>ox={cls:=.ref C,dict:=some p.2,data:=.plain}
  | some l=>∃ xs n,ox={cls:=.ref C,dict:=some p.2,data:=.seq xs.toArray n}∧Ae X ρ T h l xs
section
variable {c:Cfg} {tb:Tb} {A:Around} {g:Sg} {n k:Nat} {C f:Addr} {at_:List (Nat×V)} {items:Option (List V)} {v:V} {name:Str} {x:Value} {Q:Value→Shared→Prop}
theorem Cv.ins{ρ:Rho}{H:Hp}{s:Shared}{n:Nat}{C:Addr}{at_:List (Nat×V)}{items:Option (List V)}{x:Value}(S:Cv c ρ H s)(hn:H[n]?=some (.inst C at_ items))(r:Ao (Mut ρ H) ρ s.toks s.heap (.loc n) x) :
  ∃ p ox es k,ρ[n]?=some p∧x=.ref p.1∧Ins (Mut ρ H) ρ s.toks s.heap p C at_ items ox es k:=by
 cases r with
 | loc e=>
  rename_i a dd
  obtain ⟨h1,⟨es,k,h2,h3⟩,h4⟩:=S.heap.obj _ _ _ e hn
  cases items with
  | none=>exact ⟨_,_,es,k,e,rfl,h1,⟨h4,rfl,rfl,h2⟩,rfl,h2,h3,rfl⟩
  | some l=>
   refine x22 h4 fun xs m h4 h5=>?_
   exact ⟨_,_,es,k,e,rfl,h1,⟨h4,rfl,rfl,h2⟩,rfl,h2,h3,⟨xs,m,rfl,h5⟩⟩
theorem Fp.dictIn{K:Frag}{C:Addr}(h:Fp K tb C):hasDictIn K C=true:=by
 have e:=h.cd
 unfold hasDictIn
 cases q:clsIn K C with
 | none=>rw [q] at e;cases e
 | some cd=>rw [q] at e;exact e
end
section
variable {prog:Program} {w:World} {A:Around} {E:Value→Shared→Prop} {s:Shared} {K:Frag} {x C:Addr} {ox:Obj} {od:Option Obj}
theorem ko{M:Model}{i:String}{name:Str}{args:List Value}{Q:Option Value→Shared→Prop}(X:K.In s.heap)(I:InstAt s.heap x ox C od)(hs:findIn K (.ref C) name=some (some (.builtin i)))
  (hb:∀ self,bindSpecial (.builtin i) self=pure (.builtin i,[self])) (h:wpAny M A (call (.builtin i) (.ref x::args)) (fun v=>Q (some v)) E s):wpAny M A (callSpecial? (.ref x) name args) Q E s:=
 wpAny_bind (wpAny_bind (I.type.here ((looks_findIn X hs).here (wpAny_holding (wpAny_bind (wpAny_of_eq (hb _) (wpAny_bind (wpAny_mono h (fun zA zB z=>wpAny_pure z) fun zA zB z=>z))))))))
theorem Ud{M:Model}(X:K.In s.heap)(I:InstAt s.heap x ox C od)(hm:mroIn K C (.type "list")=some true):Looks M s.heap (isInstance (.ref x) (.type "list")) true:=
 I.type.andThen (looks_mroIn X hm)
theorem D0{i n:String}{b:Builtin}{rest:List Value}{Q:Value→Shared→Prop}(hk:builtinKind i=some .slot∨builtinKind i=some .method)(hs:splitId i=some ("list",n))(hp:plainId i=true)(hb:entryFor table i=some b)
  (X:K.In s.heap) (I:InstAt s.heap x ox C od) (hm:mroIn K C (.type "list")=some true) (ha:argsOk i ⟨.ref x::rest,[]⟩)
  (h:wpAny (model prog w) A.in1 (b ⟨.ref x::rest,[]⟩) (fun fin s'=>∃ v,fin=.done (.ret v)∧Q v s') E s):wpAny (model prog w) A (call (.builtin i) (.ref x::rest)) Q E s:=by
 have hc:wpAny (model prog w) A.in1 (checkBuiltinCall i ⟨.ref x::rest,[]⟩) (fun zA s₁=>wpAny (model prog w) A.in1 (b ⟨.ref x::rest,[]⟩) (fun fin s'=>∃ v,fin=.done (.ret v)∧Q v s') E s₁) E s:=by
  rcases hk with hk|hk <;>
  ·simp only [checkBuiltinCall,hk,hs]
   refine wpAny_bind ((Ud X I hm).here ?_)
   first|rw [if_pos rfl]|rw [if_neg Bool.false_ne_true]|simp only [Bool.not_true,Bool.false_eq_true,if_false]
   cases hsig:Manifest.signature? i with
   | none=>exact wpAny_pure h
   | some sig=>
    simp only [argsOk,hsig] at ha
    have h2:Bind.checkArgs i sig ⟨.ref x::rest,[]⟩=pure ():=ha
    show wpAny _ _ (Bind.checkArgs i sig ⟨.ref x::rest,[]⟩) _ _ _
    rw [h2];exact wpAny_pure h
 refine wpAny_call (codeAny_call_builtin hp hb (wpAny_mono hc (fun zA s₁ h₁=>wpAny_mono h₁ (fun fin s' h'=>?_) fun zA zB h'=>h') fun zA zB h'=>h'))
 obtain ⟨v,rfl,hv⟩:=h';exact hv
theorem Wh{M:Model}{k:Value}{name:Str}{Q:Value→Shared→Prop}(X:K.In s.heap)(I:InstAt s.heap x ox C od)(hm:mroIn K C (.type "collections.deque")=some false)(h:Q k s):wpAny M A (sequenceKey (.ref x) k name) Q E s:=by
 unfold sequenceKey
 refine wpAny_bind (I.type.here ?_)
 show wpAny _ _ ((seqItemTypes.anyM fun n=>isSubtype (.ref C) (.type n))>>=_) _ _ _
 refine wpAny_bind ?_
 show wpAny _ _ (isSubtype (.ref C) (.type "collections.deque")>>=_) _ _ _
 refine wpAny_bind ((looks_mroIn X hm).here ?_)
 exact wpAny_pure (wpAny_pure h)
theorem Wi{Q:Bool→Shared→Prop}{i:String}(X:K.In s.heap)(I:InstAt s.heap x ox C od)(hg:findIn K (.ref C) "__getitem__" = some (some (.builtin i)))(h:Q false s):wpAny (model prog w) A (getitemInPython (.ref x)) Q E s:=by
 unfold getitemInPython
 exact wpAny_bind (wpAny_bind (I.type.here ((looks_findIn X hg).here (wpAny_pure h))))
theorem Fq:builtinKind "list.__getitem__" = some .method∧builtinKind "list.__setitem__" = some .slot∧builtinKind "list.append" = some .method:=by decide +kernel
theorem Qn{xs:List Value}{n:Nat}{k:Int}{t:Tok}{z:Value}{Q:Value→Shared→Prop}(X:K.In s.heap)(I:InstAt s.heap x ox C od)(L:Ef K C)(hd:ox.data=.seq xs.toArray n)(h0:0≤k)(h1:k<2^63)(hz:xs[k.toNat]?=some z)(h:Q z s) :
  wpAny (model prog w) A (getItem (.ref x) (.int k t)) Q E s:=by
 unfold getItem
 refine wpAny_holding (wpAny_bind (Wh X I L.deque ?_))
 refine wpAny_bind (ko X I L.get (slot_list_getitem).bind ?_)
 refine D0 (n:= "__getitem__") (.inr Fq.1) (by decide +kernel) slot_list_getitem.plain entry_list_getitem X I L.list (args_list_getitem _ _) ?_
 show wpAny _ _ (Builtin.List.listSubscript? (.int k t)>>=_) _ _ s
 refine wpAny_bind (wpAny_listSubscript_int (fitsIndex_of h0 h1) ?_)
 clear h1
 refine x11 (Int.eq_ofNat_of_zero_le h0) fun j zz1=>?_;subst zz1
 have hx':xs.toArray[j]?=some z:=by simpa using hz
 show wpAny _ _ ((seqItemAt x j>>=fun r=>pure (r.map (j,·)))>>=_) _ _ s
 refine wpAny_bind (wpAny_bind (wpAny_seqItemAt I.at_ hd (wpAny_pure ?_)))
 rw [hx']
 first
  | exact wpAny_bind (wpAny_pure (wpAny_pure ⟨z,rfl,wpAny_pure h⟩))
  | exact wpAny_pure ⟨z,rfl,wpAny_pure h⟩
theorem Qo{xs:List Value}{n:Nat}{k:Int}{t:Tok}{z:Value}{Q:Value→Shared→Prop}(X:K.In s.heap)(I:InstAt s.heap x ox C od)(L:Ef K C)(hd:ox.data=.seq xs.toArray n)(h0:k<0)(h1 : -(xs.length:Int)≤k)(hfit : -(2^63)≤k)(hz:xs[(k+xs.length).toNat]?=some z)(h:Q z s) :
  wpAny (model prog w) A (getItem (.ref x) (.int k t)) Q E s:=by
 unfold getItem
 refine wpAny_holding (wpAny_bind (Wh X I L.deque ?_))
 refine wpAny_bind (ko X I L.get (slot_list_getitem).bind ?_)
 refine D0 (n:= "__getitem__") (.inr Fq.1) (by decide +kernel) slot_list_getitem.plain entry_list_getitem X I L.list (args_list_getitem _ _) ?_
 show wpAny _ _ (Builtin.List.listSubscript? (.int k t)>>=_) _ _ s
 refine wpAny_bind (wpAny_listSubscript_int (fitsIndex_neg h0 hfit) ?_)
 clear hfit
 have hidx:=seqIndex_neg (n:=xs.toArray.size) h0 (by simpa using h1)
 obtain ⟨j,rfl⟩:∃ j:Nat,k=Int.negSucc j:=by
  cases k with
  | ofNat n=>exact absurd h0 (Int.not_lt.mpr (Int.natCast_nonneg n))
  | negSucc n=>exact ⟨n,rfl⟩
 show wpAny _ _ ((Builtin.List.listItems (.ref x)>>=fun xs=>pure ((seqIndex? (Int.negSucc j) xs.size).bind fun i=>xs[i]?.map (i,·)))>>=_) _ _ s
 refine wpAny_bind (wpAny_bind ?_)
 show wpAny _ _ (seqItems? (.ref x)>>=_) _ _ s
 refine wpAny_bind (wpAny_seqItems I.at_ hd (wpAny_pure (wpAny_pure ?_)))
 rw [hidx]
 have hz':xs.toArray[(Int.negSucc j+(xs.toArray.size:Int)).toNat]?=some z:=by simpa using hz
 simp only [Option.bind_some,hz',Option.map_some]
 first
  | exact wpAny_bind (wpAny_pure (wpAny_pure ⟨z,rfl,wpAny_pure h⟩))
  | exact wpAny_pure ⟨z,rfl,wpAny_pure h⟩
theorem Nn{sl:Addr}{items:Array Value}{n:Nat}{vl vu vs:Value}{lo hi st:Option Int}{Q:Value→Shared→Prop}(X:K.In s.heap)(I:InstAt s.heap x ox C od)(L:Ef K C)(hd:ox.data=.seq items n)
  (hs:s.heap.IsSliceOf sl vl vu vs) (pl:IsPart vl lo) (pu:IsPart vu hi) (ps:IsPart vs st) (h0:st≠some 0)
  (h:Q (.ref s.heap.objs.size) {s with heap:=s.heap.push {cls:=.type "list",data:=.seq (slicePick items lo hi st)}})
  (hsz:items.size≤sizeLine):wpAny (model prog w) A (getItem (.ref x) (.ref sl)) Q E s:=by
 refine x13 (id hs) fun os hos hcs hds=>?_
 have hTs:s.TypeIs (.ref sl) "slice" :=⟨os,hos,hcs⟩
 unfold getItem
 refine wpAny_holding (wpAny_bind (Wh X I L.deque ?_))
 refine wpAny_bind (ko X I L.get (slot_list_getitem).bind ?_)
 refine D0 (n:= "__getitem__") (.inr Fq.1) (by decide +kernel) slot_list_getitem.plain entry_list_getitem X I L.list (args_list_getitem _ _) ?_
 show wpAny _ _ (Builtin.List.listSubscript? (.ref sl)>>=_) _ _ s
 refine wpAny_bind ?_
 unfold Builtin.List.listSubscript?
 refine wpAny_bind (wpAny_specialOf hTs slice_no_index ?_)
 first|rw [if_pos rfl]|rw [if_neg Bool.false_ne_true]|simp only [Option.isNone_none,if_true]
 refine wpAny_pure ?_
 show wpAny _ _ (typeOf (.ref sl)>>=_) _ _ s
 refine wpAny_bind (wpAny_typeOf hTs ?_)
 rw [if_neg (by decide)]
 rw [listSliceParts_eq]
 have hstep:¬((rawPart st==rawInt 0)=true):=by
  cases st with
  | none=>exact Bool.false_ne_true
  | some c=>
   intro hh
   have:c=0:=by simpa [rawPart,rawInt] using hh
   exact h0 (by rw [this])
 refine wpAny_bind (wpAny_bind (wpAny_field hos hds (x:=vs) rfl (wpAny_bind (wpAny_listPart ps ?_))))
 rw [if_neg hstep]
 refine wpAny_bind (wpAny_field hos hds (x:=vl) rfl (wpAny_bind (wpAny_listPart pl ?_)))
 refine wpAny_bind (wpAny_field hos hds (x:=vu) rfl (wpAny_bind (wpAny_listPart pu (wpAny_pure ?_))))
 refine wpAny_bind (m:=Builtin.List.listItems (.ref x)) ?_
 unfold Builtin.List.listItems
 refine wpAny_bind (wpAny_seqItems I.at_ hd (wpAny_pure ?_))
 refine wpAny_bind (wpAny_of_eq (sliceIndices_raw lo hi st items.size h0) ?_)
 exact wpAny_bind (wpAny_newObj_type (wpAny_pure ⟨_,rfl,wpAny_pure h⟩) (Nat.le_trans (slicePick_size_le items lo hi st) hsz))
theorem E0{o:Obj}{items:Array Value}{n:Nat}(hd:o.data=.seq items n)(f:Array Value→Array Value):∃ n',Obj.mapSeq f o={o with data:=.seq (f items) n'}:=by
 obtain ⟨a,b,d,e⟩:=o
 cases hd
 exact ⟨_,rfl⟩
theorem kp{items:Array Value}{n:Nat}{z:Value}{Q:Value→Shared→Prop}(X:K.In s.heap)(I:InstAt s.heap x ox C od)(L:Ef K C)(hd:ox.data=.seq items n)
  (h:∀ h' n',h'.get? x=some {ox with data:=.seq (items.push z) n'}→Heap.SameBut x s.heap h'→Q .none {s with heap:=h'}) (hz:items.size≤1000) :
  wpAny (model prog w) A (call (.builtin "list.append") [.ref x,z]) Q E s:=by
 refine D0 (n:= "append") (.inr Fq.2.2) (by decide +kernel) slot_list_append.plain entry_list_append X I L.list (args_list_append _ _) ?_
 show wpAny _ _ (updateSeq x (·.push z)>>=fun zA=>ret .none) _ _ s
 refine wpAny_bind (wpAny_updateSeq I.at_ hd (wpAny_pure ⟨.none,rfl,?_⟩))
 ·refine x11 (E0 hd (·.push z)) fun n' e=>?_
  refine h _ n' ?_ (Heap.SameBut.update ..)
  rw [Heap.get?_update_self _ I.at_ (by rw [e];rfl),e]
theorem ao{pl:Sem Bool}{Q:Value×List Value→Shared→Prop}(X:K.In s.heap)(I:InstAt s.heap x ox C od){ga:String}(hga:findIn K (.ref C) "__getattribute__" = some (some (.builtin ga)))(hcan:(Manifest.canonical ga != "object.__getattribute__")=false)(hk:findIn K (.ref C) "__getattr__" = some none)(L:Ef K C)
  (hs:shadowIn od "append" = some false) (h:Q (.builtin "list.append",[.ref x]) s):wpAny (model prog w) A (getMethod (.ref x) "append" pl) Q E s:=by
 have ht:Looks (model prog w) s.heap (typeOf (.builtin "list.append")) (.type "method_descriptor"):=Looks.of_pure (by kernel_rfl)
 unfold getMethod specialOf
 refine wpAny_bind (wpAny_bind (I.type.here ((looks_findIn X hga).here ?_)))
 dsimp only
 rw [hcan,if_neg (by decide)]
 refine wpAny_bind (wpAny_bind (I.type.here ((looks_findIn X hk).here ?_)))
 refine wpAny_bind (wpAny_bind (I.type.here ((looks_findIn X L.app).here (wpAny_bind (ht.here ?_)))))
 rw [if_neg (by decide +kernel)]
 refine wpAny_bind (wpAny_loadPart I.at_ ?_)
 have hd:=I.dict
 cases e:ox.dict with
 | none=>exact wpAny_bind (wpAny_rule (wpAny_pure h))
 | some dx=>
  cases od with
  | none=>rw [e] at hd;exact hd.elim
  | some o=>
   rw [e] at hd
   refine x12 (Option.map_eq_some_iff.mp hs) fun r a b=>?_
   refine wpAny_bind (wpAny_bind (wpAny_loadPart hd ?_))
   rw [nsLook_of a]
   refine wpAny_pure ?_
   rw [b]
   exact wpAny_bind (wpAny_rule (wpAny_pure h))
end
section
variable {prog:Program} {w:World} {A:Around} {E:Value→Shared→Prop} {s:Shared} {K:Frag} {x C:Addr} {ox:Obj} {od:Option Obj} {name:Str} {expr:Bool} {Q:Value→Shared→Prop}
theorem aq:builtinKind "list.__getattribute__" = some .slot∨builtinKind "list.__getattribute__" = some .method:=by decide +kernel
theorem Wj(a:Value)(n:Str)(t:Tok):argsOk "list.__getattribute__" ⟨[a,.str n t],[]⟩:=by unfold argsOk;kernel_rfl
theorem X4{v:Value}(X:K.In s.heap)(I:InstAt s.heap x ox C od)(hl:mroIn K C (.type "list")=some true)(hga:findIn K (.ref C) "__getattribute__" = some (some (.builtin "list.__getattribute__")))(hk:findIn K (.ref C) "__getattr__" = some none)
  (hf:findObj K C od name=some (.value v)) (hh:handedIn v=true) (h:Q v {s with toks:=s.toks+1}):wpAny (model prog w) A (getAttr (.ref x) name expr) Q E s:=by
 obtain ⟨hp,g,d,t,os⟩:=s
 have L1:=looks_findIn (M:=model prog w) X hga
 have L2:=looks_findIn (M:=model prog w) X hk
 have L0:=I.type (M:=model prog w)
 have LF:=looks_find (M:=model prog w) X I hf
 unfold getAttr getAttrBy
 refine wpAny_bind (wpAny_mkText (wpAny_holding (wpAny_bind (L0.at (wpAny_bind (L1.at ?_))))))
 show wpAny _ _ (getAttrByItsOwn (.ref x) (.str name t) (.ref C) (.builtin "list.__getattribute__") true expr) _ _ _
 unfold getAttrByItsOwn hookBefore callGetattribute boundAndCalled
 refine wpAny_bind (L2.at ?_)
 refine wpAny_bind (wpAny_attempt (wpAny_holding ?_))
 have hc:wpAny (model prog w) A (call (.builtin "list.__getattribute__") [.ref x,.str name t]) (fun v' s'=>v'=v∧s'=⟨hp,g,d,t+1,os⟩) (fun zA zB=>False) ⟨hp,g,d,t+1,os⟩:=by
  have I':InstAt hp x ox C od:=I
  refine D0 (n:= "__getattribute__") aq (by decide +kernel) PySem.F.slot_list_getattribute.plain am_entry_list_getattribute X I' hl (Wj _ _ _) ?_
  unfold Builtin.«object.__getattribute__»
  refine wpAny_bind (m:=slotArgs _ _ _) (wpAny_pure (wpAny_bind (wpAny_pure (wpAny_bind (L0.at (wpAny_bind (LF.at ?_)))))))
  exact wpAny_pure ⟨v,rfl,rfl,rfl⟩
 have go:wpAny (model prog w) A (bindSpecial (.builtin "list.__getattribute__") (.ref x)>>=fun p=>call p.1 (p.2++[.str name t])) (fun v' s'=>v'=v∧s'=⟨hp,g,d,t+1,os⟩) (fun zA zB=>False) ⟨hp,g,d,t+1,os⟩:=
  wpAny_bind (wpAny_of_eq (PySem.F.slot_list_getattribute.bind (.ref x)) hc)
 have he:(expr&&onTheHeap (.builtin "list.__getattribute__"))=false:=by cases expr<;>rfl
 rw [he,if_neg Bool.false_ne_true]
 refine wpAny_mono go (fun v' s' q=>?_) fun zA zB z=>z.elim
 obtain ⟨rfl,rfl⟩:=q
 show wpAny _ _ (handedOut v') Q E _
 rw [handedOut_of hh]
 exact wpAny_pure h
theorem au{gt a:Value}(X:K.In s.heap)(I:InstAt s.heap x ox C od)(hl:mroIn K C (.type "list")=some true)(hga:findIn K (.ref C) "__getattribute__" = some (some (.builtin "list.__getattribute__")))(hk:findIn K (.ref C) "__getattr__" = some none)
  (hf:findObj K C od name=some (.bind gt a))
  (h:wpAny (model prog w) A.in1 (call gt [a,.ref x,.ref C]) (fun v s'=>wpAny (model prog w) A (handedOut v) Q E s') (fun zA zB=>False) {s with toks:=s.toks+1}):wpAny (model prog w) A (getAttr (.ref x) name expr) Q E s:=by
 obtain ⟨hp,g,d,t,os⟩:=s
 have L1:=looks_findIn (M:=model prog w) X hga
 have L2:=looks_findIn (M:=model prog w) X hk
 have L0:=I.type (M:=model prog w)
 have LF:=looks_find (M:=model prog w) X I hf
 unfold getAttr getAttrBy
 refine wpAny_bind (wpAny_mkText (wpAny_holding (wpAny_bind (L0.at (wpAny_bind (L1.at ?_))))))
 show wpAny _ _ (getAttrByItsOwn (.ref x) (.str name t) (.ref C) (.builtin "list.__getattribute__") true expr) _ _ _
 unfold getAttrByItsOwn hookBefore callGetattribute boundAndCalled
 refine wpAny_bind (L2.at ?_)
 refine wpAny_bind (wpAny_attempt (wpAny_holding ?_))
 have hc:wpAny (model prog w) A (call (.builtin "list.__getattribute__") [.ref x,.str name t]) (fun v s'=>wpAny (model prog w) A (handedOut v) Q E s') (fun zA zB=>False) ⟨hp,g,d,t+1,os⟩:=by
  have I':InstAt hp x ox C od:=I
  refine D0 (n:= "__getattribute__") aq (by decide +kernel) PySem.F.slot_list_getattribute.plain am_entry_list_getattribute X I' hl (Wj _ _ _) ?_
  unfold Builtin.«object.__getattribute__»
  refine wpAny_bind (m:=slotArgs _ _ _) (wpAny_pure (wpAny_bind (wpAny_pure (wpAny_bind (L0.at (wpAny_bind (LF.at ?_)))))))
  show wpAny (model prog w) A.in1 (holding [a] (call gt [a,.ref x,.ref C])>>=ret) _ _ _
  exact wpAny_bind (wpAny_holding (wpAny_mono h (fun v s' z=>wpAny_pure ⟨v,rfl,z⟩) fun zA zB z=>z))
 have go:wpAny (model prog w) A (bindSpecial (.builtin "list.__getattribute__") (.ref x)>>=fun p=>call p.1 (p.2++[.str name t])) (fun v s'=>wpAny (model prog w) A (handedOut v) Q E s') (fun zA zB=>False) ⟨hp,g,d,t+1,os⟩:=
  wpAny_bind (wpAny_of_eq (PySem.F.slot_list_getattribute.bind (.ref x)) hc)
 have he:(expr&&onTheHeap (.builtin "list.__getattribute__"))=false:=by cases expr<;>rfl
 rw [he,if_neg Bool.false_ne_true]
 exact wpAny_mono go (fun v' s' q=>q) fun zA zB z=>z.elim
end
section
variable {prog:Program} {w:World} {A:Around} {E:Value→Shared→Prop} {s:Shared} {K:Frag} {x C:Addr} {ox:Obj} {od:Option Obj} {name:Str} {pl:Sem Bool} {Q:Value×List Value→Shared→Prop}
theorem X5{f:Addr}(X:K.In s.heap)(I:InstAt s.heap x ox C od)(hga:Aay K C)(hk:findIn K (.ref C) "__getattr__" = some none)
  (hf:findIn K (.ref C) name=some (some (.ref f))) (ht:typeIn K (.ref f)=some (.type "function")) (hs:shadowIn od name=some false) (h:Q (.ref f,[.ref x]) s):wpAny (model prog w) A (getMethod (.ref x) name pl) Q E s:=by
 rcases hga with hga|⟨hga,_⟩
 ·exact method_fn X I hga hk hf ht hs h
 ·unfold getMethod specialOf
  refine wpAny_bind (wpAny_bind (I.type.here ((looks_findIn X hga).here ?_)))
  dsimp only
  rw [Hj,if_neg Bool.false_ne_true]
  refine wpAny_bind (wpAny_bind (I.type.here ((looks_findIn X hk).here ?_)))
  refine wpAny_bind (wpAny_bind (I.type.here ((looks_findIn X hf).here (wpAny_bind ((looks_typeIn X ht).here ?_)))))
  rw [if_neg (by decide +kernel)]
  refine wpAny_bind (wpAny_loadPart I.at_ ?_)
  have hd:=I.dict
  cases e:ox.dict with
  | none=>exact wpAny_bind (wpAny_rule (wpAny_pure h))
  | some dx=>
   cases od with
   | none=>rw [e] at hd;exact hd.elim
   | some o=>
    rw [e] at hd
    refine x12 (Option.map_eq_some_iff.mp hs) fun r a b=>?_
    refine wpAny_bind (wpAny_bind (wpAny_loadPart hd ?_))
    rw [nsLook_of a]
    refine wpAny_pure ?_
    rw [b]
    exact wpAny_bind (wpAny_rule (wpAny_pure h))
end
end Mine
section
open Builtin Builtin.ObjectAttr
namespace Mine
theorem Ue(self:Value)(l:List Value):refuseLoop self "__setattr__" (.type "list" :: l)=refuseLoop self "__setattr__" l:=by
 have h:classOwn (.type "list") "__setattr__" = pure none:=by kernel_rfl
 unfold refuseLoop
 rw [List.forIn_cons]
 have e1:("list" == "_thread._local")=false:=by decide
 have e2:("list" == "_pickle.Pickler" || "list" == "_pickle.Unpickler")=false:=by decide
 simp only [e1,e2,h,pure_bind,Option.isSome_none,Bool.false_eq_true,if_false]
theorem G3(self:Value):∀ {l:List Value},Ix l=true→refuseLoop self "__setattr__" l=pure ()∧l.contains (.type "object")=true
 | [.type n],e=>by rw [show n = "object" from beq_iff_eq.mp e];exact ⟨PySem.F.store_object.passes self,by simp⟩
 | .ref c::r,e=>by
  have ih:=G3 self (l:=r) (by cases r<;>first|exact e|cases e)
  rw [refuseLoop_ref,List.contains_cons,ih.2,Bool.or_true];exact ⟨ih.1,rfl⟩
 | .type n::m::r,e=>by
  refine x02 (Bool.and_eq_true_iff.mp (show (n == "list" && Ix (m::r))=true from e)) fun e1 e2=>?_
  have ih:=G3 self (l:=m::r) e2
  rw [show n = "list" from beq_iff_eq.mp e1,Ue,List.contains_cons,ih.2,Bool.or_true];exact ⟨ih.1,rfl⟩
section
variable {prog:Program} {w:World} {A:Around} {E:Value→Shared→Prop} {s:Shared} {K:Frag} {x C dx:Addr} {ox:Obj} {es:List DictEntry} {n:Nat} {name:Str} {v:Value}
theorem Qp{Q:Unit→Shared→Prop}(X:K.In s.heap)(I:InstAt s.heap x ox C (some (dictOf es n)))(hd:ox.dict=some dx)(hs:findIn K (.ref C) "__setattr__" = some (some (.builtin "object.__setattr__")))
  (hp:(clsIn K C).any (fun cd=>Ix cd.mro&&cd.hasDict)=true) (ht:findIn K (.ref C) name=some none) (hl:getL name es≠none) (hz:(putL name (PyData.keyHash w.params name) (.str name (s.toks+1)) v es).length≤1000)
  (h:∀ h',h'.get? dx=some (dictOf (putL name (PyData.keyHash w.params name) (.str name (s.toks+1)) v es) (putN name es n))→Heap.SameBut dx s.heap h'→Q () {s with heap:=h',toks:=s.toks+2}) :
  wpAny (model prog w) A (setAttr (.ref x) name v) Q E s:=by
 refine set_plain X I hs ?_
 have SF:=PySem.F.store_object
 refine x12 (any_some hp) fun cd hc ho=>?_
 refine x02 (Bool.and_eq_true_iff.mp ho) fun ho hdd=>?_
 have RF:=fun self=>G3 self ho
 have ne:cd.mro.isEmpty=false:=by cases q:cd.mro with|nil=>rw [q] at ho;cases ho|cons _ _=>rfl
 have X':K.In {s with toks:=s.toks+1}.heap:=X
 have I':InstAt {s with toks:=s.toks+1}.heap x ox C (some (dictOf es n)):=I
 have sub:Looks (model prog w) s.heap (isInstance (.ref x) (.type "object")) true:=I.type.andThen (looks_mroIn X (by unfold mroIn;rw [hc,Option.bind_some,if_neg (by rw [ne];decide),(RF .none).2]))
 refine codeAny_call_builtin SF.slot.plain SF.entry (@check_slot (model prog w) _ _ {s with toks:=s.toks+1} "object.__setattr__" "object" "__setattr__" (.ref x) [.str name s.toks,v] [] _ SF.kind SF.split sub (SF.args (.ref x) (.str name s.toks) v) ?_)
 have hm:Looks (model prog w) s.heap (mroOf (.ref C)) cd.mro:=(looks_clsIn X hc).andThen .now
 rw [osa_eq,refuse_eq]
 refine wpAny_bind (wpAny_bind (I'.type.here (wpAny_bind (Looks.here (s:={s with toks:=s.toks+1}) hm ?_))))
 rw [(RF _).1]
 refine wpAny_pure (wpAny_bind (I'.type.here (wpAny_bind ((looks_findIn X' ht).here ?_))))
 refine wpAny_bind (wpAny_pure ?_)
 have D:=I.dict
 rw [hd] at D
 obtain ⟨hx,hcl,hn,-⟩:=I
 obtain ⟨oc,odi,oda,osl⟩:=ox
 dsimp only at hcl hd D
 subst hcl hd
 have D':(s.heap.update dx (Obj.putName name (PyData.keyHash w.params name) (.str name (s.toks+1)) v)).get? dx=some (dictOf (putL name (PyData.keyHash w.params name) (.str name (s.toks+1)) v es) (putN name es n)):=by
  rw [Heap.get?_update_self _ D (by rw [putName_dict];rfl),putName_dict]
 show wpAny _ _ (storeInOwnDict (.ref x) (.ref C) (.str name s.toks) name v false) _ _ _
 refine wpAny_bind (wpAny_pure (wpAny_bind (wpAny_bind (wpAny_loadPart hx (wpAny_bind ((looks_clsIn X' hc).here ?_))))))
 rw [hdd]
 refine wpAny_pure (a:=some dx) (wpAny_bind (wpAny_pure (wpAny_bind ?_)))
 unfold nsSet
 refine wpAny_bind (wpAny_bind (wpAny_askSetting (wpAny_pure (wpAny_bind (wpAny_mkText (wpAny_bind (wpAny_loadPart D ?_)))))))
 show wpAny _ _ (if aRefKeyMayBeTheName name es.toArray=true then _ else _) _ _ _
 have c:(!es.toArray.any (·.key.isStr name)&&es.toArray.any (·.refKey))=false:=by
  rw [←Array.any_toList,←Array.any_toList]
  unfold getL at hl
  split at hl
  ·rename_i en he
   rw [List.any_eq_true.mpr ⟨en,List.mem_of_find?_eq_some he,List.find?_some he⟩];rfl
  ·split at hl
   ·exact absurd rfl hl
   ·rename_i z;rw [Bool.not_eq_true] at z;rw [z,Bool.and_false]
 rw [aRefKeyMayBeTheName_at,c]
 refine wpAny_updatePart D ?_
 refine wpAny_bind (wpAny_lookBehind D' (pastItsLine_dict (by rw [List.size_toArray,sizeLine_eq];lia)) ?_)
 exact wpAny_pure (h _ D' (Heap.SameBut.update ..))
end
end Mine
end
namespace Mine
theorem uw(n:Nat)(i:Int):clipAt n i≤n:=Int.toNat_le.mpr (Int.max_le.mpr ⟨Int.natCast_nonneg n,Int.min_le_right _ _⟩)
theorem Uf(lo:Option Int)(n:Nat):sliceBounds lo none none n=(((lo.elim 0 (clipAt n):Nat):Int),(n:Int),(1:Int)):=by
 cases lo with
 | none=>rfl
 | some i=>
  simp only [sliceBounds,Option.getD_none,show (1:Int)>0 by decide,if_true,Option.elim_some]
  rw [clipAt_cast]
section
variable {prog:Program} {w:World} {A:Around} {E:Value→Shared→Prop} {s:Shared} {K:Frag} {x C:Addr} {ox:Obj} {od:Option Obj}
theorem kq(xs ys:List Value)(c:Nat)(hc:c≤xs.length):(xs.toArray.extract 0 ((c:Nat):Int).toNat++ys.toArray++xs.toArray.extract (max (c:Int) (xs.toArray.size:Int)).toNat xs.toArray.size)=(xs.take c++ys).toArray:=by
 rw [List.size_toArray,Aam hc,Int.toNat_natCast]
 apply Array.toList_inj.mp
 simp
theorem No{sl b:Addr}{xs ys:List Value}{n m:Nat}{vl vu:Value}{lo:Option Int}{Q:Unit→Shared→Prop}(X:K.In s.heap)(I:InstAt s.heap x ox C od)(L:Ef K C)(hd:ox.data=.seq xs.toArray n)(hb:s.heap.get? b=some (Dy ys.toArray m))(hne:x≠b)
  (hs:s.heap.IsSliceOf sl vl vu .none) (pl:IsPart vl lo) (pu:IsPart vu none) (hz:xs.length≤1000) (hz':ys.length≤1000)
  (h:∀ h' n',h'.get? x=some {ox with data:=.seq (xs.take (lo.elim 0 (clipAt xs.length))++ys).toArray n'}→Heap.SameBut x s.heap h'→Q () {s with heap:=h'}) :
  wpAny (model prog w) A (setItem (.ref x) (.ref sl) (.ref b)) Q E s:=by
 refine x13 (id hs) fun os hos hcs hds=>?_
 have hTs:s.TypeIs (.ref sl) "slice" :=⟨os,hos,hcs⟩
 have hTb:s.TypeIs (.ref b) "list" :=⟨_,hb,rfl⟩
 have hsl:=sizeLine_eq
 unfold setItem
 refine wpAny_holding (wpAny_bind (Wh X I L.deque ?_))
 refine wpAny_bind (ko X I L.set (slot_list_setitem).bind ?_)
 refine D0 (n:= "__setitem__") (.inl Fq.2.1) (by decide +kernel) slot_list_setitem.plain entry_list_setitem X I L.list (args_list_setitem _ _ _) ?_
 show wpAny _ _ (Builtin.List.listSubscript? (.ref sl)>>=_) _ _ s
 refine wpAny_bind ?_
 unfold Builtin.List.listSubscript?
 refine wpAny_bind (wpAny_specialOf hTs slice_no_index ?_)
 first|rw [if_pos rfl]|rw [if_neg Bool.false_ne_true]|simp only [Option.isNone_none,if_true]
 refine wpAny_pure ?_
 show wpAny _ _ (typeOf (.ref sl)>>=_) _ _ s
 refine wpAny_bind (wpAny_typeOf hTs ?_)
 rw [if_neg (by decide)]
 rw [listSliceParts_eq]
 refine wpAny_bind (wpAny_bind (wpAny_field hos hds (x:=.none) rfl (wpAny_bind (wpAny_listPart .none ?_))))
 rw [if_neg (show ¬((rawPart none==rawInt 0)=true) from Bool.false_ne_true)]
 refine wpAny_bind (wpAny_field hos hds (x:=vl) rfl (wpAny_bind (wpAny_listPart pl ?_)))
 refine wpAny_bind (wpAny_field hos hds (x:=vu) rfl (wpAny_bind (wpAny_listPart pu (wpAny_pure ?_))))
 have hsame:Builtin.List.listSameRef (.ref x) (.ref b)=false:=beq_eq_false_iff_ne.mpr hne
 dsimp only
 rw [hsame]
 show wpAny _ _ (Builtin.List.listAllItems (.ref b) _>>=_) _ _ _
 refine wpAny_bind ?_
 unfold Builtin.List.listAllItems
 refine wpAny_bind (wpAny_typeOf hTb ?_)
 rw [if_pos (by decide)]
 unfold Builtin.List.listItems
 refine wpAny_bind (wpAny_seqItems hb rfl (wpAny_pure ?_))
 refine wpAny_bind (wpAny_bind (wpAny_seqItems I.at_ hd (wpAny_pure ?_)))
 refine wpAny_bind (wpAny_of_eq (sliceIndices_raw lo none none xs.toArray.size (by decide)) ?_)
 rw [Uf]
 dsimp only
 rw [if_pos (by decide)]
 refine wpAny_bind (wpAny_rule ?_)
 have htl:Builtin.List.listTooLong (xs.toArray.size+ys.toArray.size)=false:=by
  unfold Builtin.List.listTooLong
  simp only [List.size_toArray,decide_eq_false_iff_not];lia
 rw [htl]
 first|rw [if_pos rfl]|rw [if_neg Bool.false_ne_true]|simp only [Bool.false_eq_true,if_false]
 have hcl:=uw xs.length
 have hk:(lo.elim 0 (clipAt xs.length))≤xs.length:=by cases lo with|none=>exact Nat.zero_le _|some i=>exact hcl i
 have hres:_=(xs.take (lo.elim 0 (clipAt xs.length))++ys).toArray:=kq xs ys (lo.elim 0 (clipAt xs.toArray.size)) hk
 show wpAny _ _ (updateSeq x _>>=_) _ _ _
 refine wpAny_bind (wpAny_updateSeq I.at_ hd ?_ (by simp;lia) (by rw [hres];simp;lia))
 refine wpAny_bind (wpAny_letGo ?_)
 refine wpAny_pure ⟨.none,rfl,wpAny_pure ?_⟩
 refine x11 (E0 hd (fun xs_1=>xs_1.extract 0 ((lo.elim 0 (clipAt xs.toArray.size):Nat):Int).toNat++ys.toArray++xs_1.extract (max ((lo.elim 0 (clipAt xs.toArray.size):Nat):Int) (xs.toArray.size:Int)).toNat xs_1.size)) fun n' e=>?_
 refine h _ n' ?_ (Heap.SameBut.update ..)
 rw [Heap.get?_update_self _ I.at_ (by rw [e];rfl),e,hres]
end
section
variable {prog:Program} {w:World} {A:Around} {E:Value→Shared→Prop} {s:Shared} {K:Frag} {x C f:Addr} {ox:Obj} {od:Option Obj}
theorem ux{id:String}{b:Builtin}{args:List Value}{Q:Value→Shared→Prop}(hk:builtinKind id=none)(hp:plainId id=true)(hb:entryFor table id=some b)(hcl:Cu (.builtin id ⟨args,[]⟩)=true)(ha:argsOk id ⟨args,[]⟩)
  (hc:wpN (model prog w) A.in1 (b ⟨args,[]⟩) (fun fin s'=>∃ v,fin=.done (.ret v)∧Q v s') E s):wpN (model prog w) A (call (.builtin id) args) Q E s:=by
 refine Ck (Cl hp hb hcl ?_)
 have hfin:=Ez hc (Q':=fun fin s'=>match fin with
   | .done f=>(match (Except.ok f:Result) with|.ok (.ret v)=>Q v s'|.ok _=>False|.error e=>E e s')
   | .again c'=>c'.quiet=true∧Bc (model prog w) A c' (fun r s'=>match r with|.ok (.ret v)=>Q v s'|.ok _=>False|.error e=>E e s') s')
  (fun fin s' h'=>by obtain ⟨v,rfl,hv⟩:=h';exact hv) fun zA zB h'=>h'
 simp only [checkBuiltinCall,hk]
 cases hsig:Manifest.signature? id with
 | none=>exact Ac hfin
 | some sig=>
  have ha':Bind.checkArgs id sig ⟨args,[]⟩=pure ():=by simpa only [argsOk,hsig] using ha
  simp only [ha']
  exact Ac hfin
theorem Li{M:Model}{name:Str}{args:List Value}{Q:Option Value→Shared→Prop}(X:K.In s.heap)(I:InstAt s.heap x ox C od)
  (hs:findIn K (.ref C) name=some (some (.ref f))) (hf:typeIn K (.ref f)=some (.type "function")) (h:wpN M A (call (.ref f) (.ref x::args)) (fun v=>Q (some v)) E s) :
  wpN M A (callSpecial? (.ref x) name args) Q E s:=
 Ab (wpAny_bind (I.type.here ((looks_findIn X hs).here (Ad (Ab ((bind_fn X _ hf).here (Aa (Bk h fun zA zB z=>Ac z))))))))
theorem uy{M:Model}{T i:String}{v:Value}{name:Str}{args:List Value}{Q:Option Value→Shared→Prop}(hT:s.TypeIs v T)(hl:typeLookup (.type T) name=pure (some (.builtin i)))
  (hb:∀ self,bindSpecial (.builtin i) self=pure (.builtin i,[self])) (h:wpN M A (call (.builtin i) (v::args)) (fun r=>Q (some r)) E s):wpN M A (callSpecial? v name args) Q E s:=by
 unfold callSpecial?
 refine Ab (wpAny_specialOf hT hl ?_)
 exact Ad (Ab (wpAny_of_eq (hb _) (Aa (Bk h fun zA zB z=>Ac z))))
theorem av{P:PySem.Fin→Shared→Prop}(X:K.In s.heap)(I:InstAt s.heap x ox C od)(hs:findIn K (.ref C) "__len__" = some (some (.ref f)))(hf:typeIn K (.ref f)=some (.type "function"))
  (h:wpN (model prog w) A (call (.ref f) [.ref x]) (fun v s'=>∃ k t,v=.int k t∧0≤k∧k<2^63∧P (.done (.ret (.int k s'.toks))) {s' with toks:=s'.toks+1}) E s):wpN (model prog w) A (Builtin.«len» ⟨[.ref x],[]⟩) P E s:=by
 unfold Builtin.«len»
 refine Aa (m:=oneArg "len" _) (Ac ?_)
 refine Aa (m:=callSpecial? (.ref x) (Str.ofString "__len__")) (Li X I hs hf (Bk h fun r s' hr=>?_))
 refine x24 hr fun k t zz2 h0 h1 hq=>?_;subst zz2
 refine Aa (Ad (Ac ?_))
 refine Ab (wpAny_letGo ?_)
 show wpN _ _ (if k<0 then _ else _) _ _ _
 rw [if_neg (Int.not_lt.mpr h0)]
 show wpN _ _ (if k≥2^63 then _ else _) _ _ _
 rw [if_neg (Int.not_le.mpr h1)]
 exact Ab (wpAny_mkInt (Ac hq))
open Builtin Builtin.Str in
theorem Aaz{Q:Value→Shared→Prop}(hu:A.units<cLine)(X:K.In s.heap)(I:InstAt s.heap x ox C od)(hs:findIn K (.ref C) "__str__" = some (some (.ref f)))(hf:typeIn K (.ref f)=some (.type "function"))
  (h:wpN (model prog w) A (call (.ref f) [.ref x]) (fun v s'=>∃ k t,v=.str k t∧Q v s') E s):wpN (model prog w) A (PySem.Builtin.Str.strOf (.ref x)) Q E s:=by
 unfold PySem.Builtin.Str.strOf
 rw [show isExactStr (.ref x)=false from rfl]
 refine Ab (m:=cRoomFor _ _) (wpAny_cRoomFor hu ?_)
 refine Aa (m:=callSpecial? (.ref x) (Str.ofString "__str__")) (Li X I hs hf (Bk h fun r s' hr=>?_))
 refine x22 hr fun k t zz2 hq=>?_;subst zz2
 exact Ac hq
open Builtin in
theorem ku{Q:Value→Shared→Prop}(hu:A.in1.in1.units<cLine)(X:K.In s.heap)(I:InstAt s.heap x ox C od)(hs:findIn K (.ref C) "__str__" = some (some (.ref f)))(hf:typeIn K (.ref f)=some (.type "function"))
  (h:wpN (model prog w) A.in1.in1 (call (.ref f) [.ref x]) (fun v s'=>∃ k t,v=.str k t∧Q v s') E s):wpN (model prog w) A (call (.type "str") [.ref x]) Q E s:=by
 have ft:=PySem.F.called_str
 refine x21 ft.mro fun c0 tl hmro=>?_
 have hmade:=ft.made
 have hli:=ft.init.lookup
 have hbi:=ft.init.bind
 refine Ck (codeN_of_tree rfl ?_)
 show wpN _ _ (callAny (.type "str") _) _ _ _
 refine Ac ⟨Code.quiet_builtin _ (by decide +kernel),Dj F.entry_type_call (Bw (by decide +kernel) _) ?_⟩
 rw [Around.under_plain (weight_type_call_type "str" [.ref x] []) rfl]
 unfold Builtin.«type.__call__»
 dsimp only
 rw [if_neg (by decide),if_neg (by decide +kernel)]
 refine Ab (wpAny_of_eq (PySem.F.typeCall_str_1 _) ?_)
 refine Ab (wpAny_of_eq hmro ?_)
 refine Bv (fun c=>(Bool.false_ne_true c).elim) fun zA=>?_
 refine Ab (wpAny_of_eq hmade ?_)
 refine Aa (Ac ?_)
 refine Aa (Ad (Ck ?_))
 refine codeN_of_tree rfl ?_
 show wpN _ A.in1.in1 (do checkBuiltinCall "str.__new__" ⟨[.type "str",.ref x],[]⟩;again (.builtin "str.__new__" ⟨[.type "str",.ref x],[]⟩)) _ _ s
 refine Ab (wpAny_of_eq (PySem.F.newCall_str_1 _) (Ac ⟨plainId_quiet (by decide +kernel) _,Dj PySem.F.entry_str_new (Bw (by decide +kernel) _) ?_⟩))
 rw [Around.under_plainId (by decide +kernel) _]
 rw [str_new_tree]
 refine Aa (Ac ?_)
 refine Ab (wpAny_of_eq isSubtype_str_str ?_)
 refine Aa (Aaz hu X I hs hf (Bk h fun r s₁ hr=>?_))
 refine x22 hr fun k t zz2 hq=>?_;subst zz2
 refine ⟨k,t,rfl,?_⟩
 refine Ac ?_
 refine Ab (wpAny_isInstance (T:= "str") (typeIs_str _ _ _) isSubtype_str_str ?_)
 refine Bv (fun c=>absurd c (by decide)) fun zA=>?_
 refine Aa (Ad ?_)
 have hts:s₁.TypeIs (Value.str k t) "str" :=typeIs_str _ _ _
 apply uy hts hli hbi
 refine Ck (Cl ft.init.plain PySem.F.entry_object_init (Bw (by decide +kernel) _) ?_)
 refine Af (ft.init.check _ _ _ _ _ _ _ _ hts (PySem.F.args_object_init_2 _ _) ?_)
 refine Af (wpAny_mono (object_init_meets (rest:=[.ref x]) ft.init.lookup ft.made (by decide) prog w A.in1 (fun r s'=>s'=s₁∧r=.ok (.ret .none)) s₁ ⟨hts,rfl,rfl⟩) (fun fin s' hh=>?_) fun zA zB hh=>nomatch hh.2)
 cases fin with
 | done f=>
  refine x02 hh fun zz0 e=>?_;subst zz0
  cases e
  exact Ac hq
 | again c'=>
  refine x02 hh fun hq' hc'=>?_
  refine ⟨hq',?_⟩
  refine Ee (Wa hc') fun r s' hr=>?_
  obtain ⟨rfl,rfl⟩:=hr
  exact Ac hq
end
section
variable {c:Cfg} {tb:Tb} {A:Around} {g:Sg} {n k:Nat} {C f:Addr} {at_:List (Nat×V)} {items:Option (List V)} {v:V} {name:Str} {x:Value} {Q:Value→Shared→Prop}
theorem X6{prog:Program}{w:World}{E:Value→Shared→Prop}{s:Shared}{K:Frag}{x:Addr}{ox:Obj}{od:Option Obj}{v:Value}(X:K.In s.heap)(I:InstAt s.heap x ox C od)(ga:Aay K C)(hk:findIn K (.ref C) "__getattr__" = some none)(hf:findObj K C od name=some (.value v))(hh:handedIn v=true)(h:Q v {s with toks:=s.toks+1}) :
  wpAny (model prog w) A (getAttr (.ref x) name true) Q E s:=ga.elim (fun ga=>get_value X I ga hf hh h) fun ga=>X4 X I ga.2 ga.1 hk hf hh h
theorem aw{E:Value→Shared→Prop}(C1:Fp c.K tb C)(S:SO c g)(hn:g.H[n]?=some (.inst C at_ items))(hk:Ec[k]?=some name)(hv:at_.lookup k=some v)(r:VR g (.loc n) x)(hQ:∀ z,VR g v z→Q z {g.s with toks:=g.s.toks+1}):wpAny c.M A (getAttr x name true) Q E g.s:=by
 refine x43 (S.ins hn r) fun p ox es m e1 zz5 I=>?_;subst zz5
 refine x13 (I.attrs.get hk hv) fun z h1 h2 h3=>?_
 exact X6 S.stat.K I.inst C1.ga C1.gattr (findObj_own C1.dictIn (C1.attr k name hk) rfl (by show lookIn name (dictOf es m)=_;rw [lookIn_dict,h1])) h2 (hQ z h3)
theorem ay(C1:Fp c.K tb C)(S:SO c g)(hn:g.H[n]?=some (.inst C at_ items))(hk:Ec[k]?=some name)(hv:at_.lookup k=some v)(r:VR g (.loc n) x)(hQ:∀ z s',Au g.s s'→VR (g.to s') v z→Q z s'):wpAny c.M A (getAttr x name true) Q FF g.s:=
 aw C1 S hn hk hv r fun z h3=>hQ z _ (Au.succ _) ((Au.succ g.s).rel h3)
theorem az(C1:Fp c.K tb C)(S:SO c g)(hn:g.H[n]?=some (.inst C at_ items))(hf:tb.meths C k=some f)(hm:Iv[k]?=some name)(r:VR g (.loc n) x){pl:Sem Bool}{Q:Value×List Value→Shared→Prop}(hQ:Q (.ref f,[x]) g.s):wpAny c.M A (getMethod x name pl) Q FF g.s:=by
 refine x43 (S.ins hn r) fun p ox es m e1 zz5 I=>?_;subst zz5
 refine x02 (C1.meth k name f hf hm) fun q1 q2=>?_
 refine X5 S.stat.K I.inst C1.ga C1.gattr q1 q2 ?_ hQ
 show (lookIn name (dictOf es m)).map _=_
 rw [lookIn_dict,I.attrs.miss fun j zA=>Lh k name hm j];rfl
theorem ba:∀ m:Fin 9,copiedNames.contains (Iv.getD m.val "")=false:=by decide +kernel
theorem X7(C1:Fp c.K tb C)(S:SO c g)(hn:g.H[n]?=some (.inst C at_ items))(hf:tb.meths C k=some f)(hm:Iv[k]?=some name)(r:VR g (.loc n) x)(hQ:∀ q s',Au g.s s'→s'.heap.get? q=some (methodObj (.ref f) x)→¬Mut g.ρ g.H q→¬c.old q→Q (.ref q) s'):wpAny c.M A (getAttr x name true) Q FF g.s:=by
 refine x43 (S.ins hn r) fun p ox es m e1 zz5 I=>?_;subst zz5
 refine x02 (C1.meth k name f hf hm) fun q1 q2=>?_
 refine x02 (uv q2) fun g1 g2=>?_
 have hcn:copiedNames.contains name=false:=by
  have:=ba ⟨k,(List.getElem?_eq_some_iff.mp hm).1⟩
  rwa [List.getD_eq_getElem?_getD,hm] at this
 have hfo:=findObj_fn (od:=dictOf es m) C1.dictIn q1 g1 g2 hcn (by show lookIn name (dictOf es m)=_;rw [lookIn_dict,I.attrs.miss fun j zA=>Lh k name hm j])
 have fin:Q (.ref g.s.heap.objs.size) {g.s with heap:=g.s.heap.push (methodObj (.ref f) (.ref p.1)),toks:=g.s.toks+1}:=by
  refine hQ _ _ ⟨fun b o e=>Heap.get?_push_of_some _ e,rfl,rfl,Nat.le_succ _⟩ (Heap.get?_push_at rfl rfl) (fun mm=>?_) fun o=>?_
  ·exact (S.mutEx mm).elim fun o e=>absurd (Heap.lt_size e) (Nat.lt_irrefl _)
  ·exact (S.stat.ex _ o).elim fun o e=>absurd (Heap.lt_size e) (Nat.lt_irrefl _)
 rcases C1.ga with ga|ga
 ·exact get_bind S.stat.K I.inst ga hfo C1.gattr (wpAny_call (fn_get (s:={g.s with toks:=g.s.toks+1}) S.stat.K q2 (handed_on rfl fin)))
 ·exact au S.stat.K I.inst ga.2 ga.1 C1.gattr hfo (wpAny_call (fn_get (s:={g.s with toks:=g.s.toks+1}) S.stat.K q2 (handed_on rfl fin)))
end
section
variable {X:Xc} {A:Around} {g:Sg} {n:Nat} {C f:Addr} {at_:List (Nat×V)} {items:Option (List V)} {v:V} {x:Value}
theorem Qq{n:Nat}(h:decide (n≤Ah)=true):(n:Int)<2^63:=Int.lt_of_le_of_lt (Int.ofNat_le.mpr (od9 h)) (by decide)
theorem Aa0{i:Int}(h:decide (i.natAbs<1152921504606846976)=true):i<2^63:=by have:=od9 h;lia
theorem qr{C:Addr}{k:Int→Prop}(e:Xx X.tb X.Φ n C g.H k){P:Prop}(h:∀ f,X.tb.lenOf C=some f→X.Φ f [.loc n] g.H (fun v H'=>H'=g.H∧Gw v fun i=>gd (decide (0≤i)) (gd (decide (i.natAbs<1152921504606846976)) (k i)))→P):P:=B4 e h
theorem kx(F:Fx X)(R:Eb A (X.d+1))(S:SO X.c g)(hn:g.H[n]?=some (.inst C at_ items)){k:Int→Prop}(e:Xx X.tb X.Φ n C g.H k)(r:VR g (.loc n) x){Q:Value→Shared→Prop}(hQ:∀ i t g',k i→g'.H=g.H→Go X.c g g'→Q (.int i t) g'.s):Wn X A (call (.builtin "len") [x]) Q g.s:=qr e fun f hf e=>by
 refine x43 (S.ins hn r) fun p ox es m e1 zz5 I=>?_;subst zz5
 refine x03 ((F.lens C f hf).len f hf) fun zA q2 q3=>?_
 refine ux kind_len plain_len entry_len (Bw (by decide +kernel) _) (args_len1 _) (av S.stat.K I.inst q2 q3 ?_)
 refine F.snd.call e R.in1 S (.cons r .nil) fun v z g' k' t' r'=>A7 (C:=fun v=>VR g' v z→_) k'.2 (fun i hk r'=>r'.int_E fun t=>⟨i,t,rfl,od9 hk.1,Aa0 hk.2.1,_,rfl,hQ _ _ (g'.to _) hk.2.2 k'.1 (t'.then F.ok (Au.succ _))⟩) r'
theorem Ug(F:Fx X)(R:Eb A (X.d+1))(S:SO X.c g)(hn:g.H[n]?=some (.inst C at_ items)){k:Bool→Prop}(e:Xx X.tb X.Φ n C g.H fun i=>k (i != 0))(r:VR g (.loc n) x){Q:Bool→Shared→Prop}(hQ:∀ t g',k t→g'.H=g.H→Go X.c g g'→Q t g'.s):Wn X A (truthy x) Q g.s:=qr e fun f hf e=>by
 refine x43 (S.ins hn r) fun p ox es m e1 zz5 I=>?_;subst zz5
 refine x03 ((F.lens C f hf).len f hf) fun q1 q2 q3=>?_
 unfold truthy
 refine Aa (m:=callSpecial? (.ref p.1) (Str.ofString "__bool__")) (Ab (wpAny_bind (I.inst.type.here ((looks_findIn S.stat.K q1).here (Ac ?_)))))
 refine Ab (wpAny_bind (I.inst.type.here ((looks_findIn S.stat.K q2).here ?_)))
 show wpN _ _ (runValue (.builtin "len" ⟨[.ref p.1],[]⟩)>>=_) _ _ _
 refine Aa (Js (Dj entry_len (Bw (by decide +kernel) _) ?_))
 rw [Around.under_plainId plain_len _]
 refine av S.stat.K I.inst q2 q3 ?_
 refine F.snd.call e R.in1 S (.cons r .nil) fun v z g' k' t' r'=>A7 (C:=fun v=>VR g' v z→_) k'.2 (fun i hk r'=>r'.int_E fun t=>⟨i,t,rfl,od9 hk.1,Aa0 hk.2.1,Ac (hQ _ (g'.to _) hk.2.2 k'.1 (t'.then F.ok (Au.succ _)))⟩) r'
theorem ky(F:Fx X)(R:Eb A (X.d+1))(S:SO X.c g)(hn:g.H[n]?=some (.inst C at_ items))(hf:X.tb.strOf C=some f){k:Str→Prop}(e:X.Φ f [.loc n] g.H fun v H'=>H'=g.H∧T3 v k)(r:VR g (.loc n) x){Q:Value→Shared→Prop}(hQ:∀ i t g',k i→g'.H=g.H→Go X.c g g'→Q (.str i t) g'.s):Wn X A (call (.type "str") [x]) Q g.s:=by
 refine x43 (S.ins hn r) fun p ox es m e1 zz5 I=>?_;subst zz5
 refine x02 ((F.texts C f hf).str f hf) fun q2 q3=>?_
 refine ku (R.in2.units_lt (n:=0) (by decide)) S.stat.K I.inst q2 q3 ?_
 exact F.snd.call e R.in2 S (.cons r .nil) fun v z g' k' t' r'=>Jt (C:=fun v=>VR g' v z→_) k'.2 (fun i hk r'=>r'.str_E fun t=>⟨i,t,rfl,hQ _ _ _ hk k'.1 t'⟩) r'
theorem t9.lst{ρ:Rho}{H:Hp}{T:Nat}{h:Heap}(r:t9 ρ H T h){n:Nat}{a d:Addr}{l:List V}(e:ρ[n]?=some (a,d))(e':H[n]?=some (.lst l)):∃ xs k,h.get? a=some (Dy xs.toArray k)∧Ae (Mut ρ H) ρ T h l xs:=(r.obj n _ _ e e').2
theorem Uh{l:List V}{xs:List Value}(h:l.length=xs.length):(!xs.toArray.isEmpty)=!l.isEmpty:=by
 cases l<;>cases xs<;>first|rfl|exact Nat.noConfusion h
theorem N4{ad:Addr}{l:List V}{xs:List Value}{m:Nat}{k:Bool→Prop}(ok:Bj X.c)(S:SO X.c g)(p2:g.s.heap.get? ad=some (Dy xs.toArray m))(p3:VRs g l xs)(e:gd (decide (l.length≤Ah)) (k (!l.isEmpty))){Q:Bool→Shared→Prop}(hQ:∀ t g',k t→g'.H=g.H→Go X.c g g'→Q t g'.s):wpAny X.c.M A (truthy (.ref ad)) Q FF g.s:=by
 refine wpAny_truthy_list ⟨_,p2,rfl,_,rfl⟩ (by rw [List.size_toArray,←p3.length];exact Qq e.1) ?_
 rw [Uh p3.length]
 exact hQ _ (g.to _) e.2 rfl (.grow ok S ((Au.succ _).trans (Au.succ _)))
theorem bd(F:Fx X)(R:Eb A (X.d+1))(S:SO X.c g){k:Bool→Prop}(e:Bs X.tb X.Φ v g.H k)(r:VR g v x){Q:Bool→Shared→Prop}(hQ:∀ t g',k t→g'.H=g.H→Go X.c g g'→Q t g'.s):Wn X A (truthy x) Q g.s:=by
 cases v<;>try exact e.elim
 case none=>exact r.none_E (Af (truthy_none (hQ _ g e rfl (.refl S))))
 case bool=>exact r.bool_E (Af (wpAny_truthy_bool (hQ _ g e rfl (.refl S))))
 case int=>exact r.int_E fun t=>Af (P.truthy_int (hQ _ g e rfl (.refl S)))
 case str i=>exact r.str_E fun t=>Af (P.truthy_str (Int.not_le.mpr (Qq e.1)) (by
   have q:((i.length:Int) != 0)=decide (i.length≠0):=by
    by_cases h:i.length=0
    ·rw [h];rfl
    ·rw [dq9 h];exact bne_iff_ne.mpr (fun z=>h (Int.ofNat.inj z))
   rw [q]
   exact hQ _ (g.to _) e.2 rfl (.grow F.ok S ((Au.succ _).trans (Au.succ _)))))
 case lst l=>exact r.lst_E fun a xs m zA p2 p3=>Af (N4 F.ok S p2 p3 e hQ)
 case loc n=>
  have e:(match g.H[n]? with|some (.lst l)=>gd (decide (l.length≤Ah)) (k (!l.isEmpty))|some (.inst C _ _)=>Xx X.tb X.Φ n C g.H fun i=>k (i != 0)|_=>False):=e
  cases hn:g.H[n]? with
  | none=>rw [hn] at e;exact e.elim
  | some o=>
   rw [hn] at e
   cases o<;>try exact e.elim
   case lst l=>exact r.loc_E fun a d e1=>(S.heap.lst e1 hn).elim fun xs q=>q.elim fun m q=>Af (N4 F.ok S q.1 q.2 e hQ)
   case inst C at_ items=>exact Ug F R S hn e r hQ
theorem kz{tb:Tb}{Φ:Orc}{H:Hp}{k:Bool→Prop}(e:Qj v H k):Bs tb Φ v H k:=by
 cases v<;>try exact e
 case loc n=>
  show (match H[n]? with|some (.lst l)=>gd (decide (l.length≤Ah)) (k (!l.isEmpty))|some (.inst C _ _)=>Xx tb Φ n C H fun i=>k (i != 0)|_=>False)
  have e:(match H[n]? with|some (.lst l)=>gd (decide (l.length≤Ah)) (k (!l.isEmpty))|_=>False):=e
  cases hn:H[n]? with
  | none=>rw [hn] at e;exact e.elim
  | some o=>rw [hn] at e;cases o<;>first|exact e|exact e.elim
theorem X8{tb:Tb}{Φ:Orc}{H:Hp}{R q r:Bool→Prop}{p:Prop}{D:Bool→Bool}(e:Qj v H R)(hR:∀ t,R t→bif D t then p else r t)(hp:p→Bs tb Φ v H q):Bs tb Φ v H fun t=>bif D t then q t else r t:=by
 have key:∀ (t:Bool),R t→(p→q t)→bif D t then q t else r t:=fun t h1 h2=>by
  have h:=hR t h1
  cases q:D t<;>rw [q] at h
  ·exact h
  ·exact h2 h
 cases v<;>try exact e.elim
 case none=>exact key _ e hp
 case bool=>exact key _ e hp
 case int=>exact key _ e hp
 case str=>exact ⟨e.1,key _ e.2 fun x=>(hp x).2⟩
 case lst=>exact ⟨e.1,key _ e.2 fun x=>(hp x).2⟩
 case loc n=>
  show (match H[n]? with|some (.lst l)=>gd (decide (l.length≤Ah)) (bif D (!l.isEmpty) then q (!l.isEmpty) else r (!l.isEmpty))|some (.inst C _ _)=>Xx tb Φ n C H fun i=>bif D (i != 0) then q (i != 0) else r (i != 0)|_=>False)
  have e:(match H[n]? with|some (.lst l)=>gd (decide (l.length≤Ah)) (R (!l.isEmpty))|_=>False):=e
  have hp:p→(match H[n]? with|some (.lst l)=>gd (decide (l.length≤Ah)) (q (!l.isEmpty))|some (.inst C _ _)=>Xx tb Φ n C H fun i=>q (i != 0)|_=>False):=hp
  cases hn:H[n]? with
  | none=>rw [hn] at e;exact e.elim
  | some o=>
   rw [hn] at e hp
   cases o<;>try exact e.elim
   case lst l=>exact ⟨e.1,key _ e.2 fun x=>(hp x).2⟩
end
theorem Wk{n k:Nat}{i:Int}(h:Ir n i=some k){P:Prop}(h1:0≤i→i<n→k=i.toNat→P)(h2:i<0→-(n:Int)≤i→k=(i+n).toNat→P):P:=by
 unfold Ir at h
 by_cases c:0≤i
 ·rw [dq9 c,if_pos rfl] at h
  by_cases d:i<n
  ·rw [dq9 d,if_pos rfl] at h;exact h1 c d (Option.some.inj h).symm
  ·rw [decide_eq_false d,if_neg Bool.false_ne_true] at h;cases h
 ·rw [decide_eq_false c,if_neg Bool.false_ne_true] at h
  by_cases d:0≤i+n
  ·rw [dq9 d,if_pos rfl] at h;exact h2 (Int.not_le.mp c) (by lia) (Option.some.inj h).symm
  ·rw [decide_eq_false d,if_neg Bool.false_ne_true] at h;cases h
theorem be{n k:Nat}{i:Int}(h:Ir n i=some k):seqIndex? i n=some k∧-(n:Int)≤i∧i<n:=Wk h
 (fun a b c=>⟨by unfold seqIndex?;rw [if_neg (Int.not_lt.mpr a)];subst c;dsimp only;rw [if_pos (by simp only [Bool.and_eq_true,decide_eq_true_eq];lia)],by lia,b⟩)
 (fun a b c=>⟨by unfold seqIndex?;rw [if_pos a];subst c;dsimp only;rw [if_pos (by simp only [Bool.and_eq_true,decide_eq_true_eq];lia)],b,by lia⟩)
section
variable {prog:Program} {w:World} {A:Around} {E:Value→Shared→Prop} {s:Shared} {Q:Value→Shared→Prop} {ρ:Rho} {H:List Ob}
theorem Lj(slice:Expr)(o i:Value):∃ ops,subscripted slice false o i=operate ops (getItem o i):=by
 cases slice
 case Slice a b s p=>cases s<;>exact ⟨_,rfl⟩
 all_goals exact ⟨_,rfl⟩
theorem C5{value slice:Expr}{o i:Value}(hg:∀ Q':Bool→Shared→Prop,Q' false s→wpAny (model prog w) A (getitemInPython o) Q' E s)(h:wpAny (model prog w) A (getItem o i) Q E s):wpAny (model prog w) A (subscriptTail value slice o i) Q E s:=by
 unfold subscriptTail
 refine wpAny_bind (hg _ ?_)
 have fin:wpAny (model prog w) A (subscripted slice false o i) (fun r s₃=>wpAny (model prog w) A (letTemporaryGo value o r>>=fun zA=>pure r) Q E s₃) E s:=by
  have h':=wpAny_mono h (fun r s₃ h₃=>(wpAny_bind (wpAny_letTemporaryGo (base:=value) (o:=o) (r:=r) (wpAny_pure h₃)):wpAny (model prog w) A (letTemporaryGo value o r>>=fun zA=>pure r) Q E s₃)) fun zA zB x=>x
  exact (Lj slice o i).elim fun ops e=>e▸wpAny_operating h'
 exact wpAny_bind fin
theorem D4{o:Value}{T id:String}{Q:Bool→Shared→Prop}(hT:s.TypeIs o T)(hl:typeLookup (.type T) "__getitem__" = pure (some (.builtin id)))(h:Q false s):wpAny (model prog w) A (getitemInPython o) Q E s:=by
 rw [getitemInPython_of_ne hT.not_modules]
 exact wpAny_bind (wpAny_specialOf hT hl (wpAny_pure h))
theorem Qr{a:Addr}{xs:List Value}{n:Nat}{i:Int}{t:Tok}{k:Nat}{z:Value}(hl:s.heap.get? a=some (Dy xs.toArray n))(hk:Ir xs.length i=some k)(hz:xs[k]?=some z)(hs:xs.length≤Ah)(h:Q z s) :
  wpAny (model prog w) A (getItem (.ref a) (.int i t)) Q E s:=by
 have hm:Ah=1048576:=rfl
 refine Wk hk (fun a b c=>?_) fun a b c=>?_
 ·exact wpAny_getItem_list ⟨_,hl,rfl,_,rfl⟩ a (by lia) (by rw [←c,List.getElem?_toArray];exact hz) h
 ·exact wpAny_getItem_list_neg ⟨_,hl,rfl,_,rfl⟩ a (by rw [List.size_toArray];exact b) (by lia) (by rw [List.size_toArray,←c,List.getElem?_toArray];exact hz) h
noncomputable abbrev Pc(l u st:Value):Obj:={cls:=.type "slice",data:=.fields #[l,u,st]}
theorem Qs{X:Addr→Prop}{T:Nat}{h:Heap}{v:V}{x:Value}{n d:Nat}{k:Nat→Prop}(e:K1 n d v k)(r:Ao X ρ T h v x){P:Prop}(f:∀ o,IsPart x o→k (o.elim d (clipAt n))→P):P:=by
 cases v<;>try exact e.elim
 case none=>exact f none (r.none_E .none) e
 case int i=>exact f (some i) (r.int_E fun t=>.int _ _) e
theorem Ae.slice{X:Addr→Prop}{T:Nat}{h:Heap}{vs:List V}{xs:List Value}(r:Ae X ρ T h vs xs)(a b:Nat):Ae X ρ T h (Do a b vs) (Do a b xs):=(r.drop a).take (b-a)
theorem N5(h:Heap)(xs:List Value):(h.push (Dy xs.toArray 0)).get? h.objs.size=some (Dy xs.toArray 0):=Heap.get?_push_size h rfl
theorem N6{s s':Shared}{X:Addr→Prop}{l:List V}{xs:List Value}(hX:∀ b,X b→∃ o,s.heap.get? b=some o)(g:Au s s')(r:Ae X ρ s'.toks s'.heap l xs) :
  Ao X ρ s'.toks (s'.heap.push (Dy xs.toArray 0)) (.lst l) (.ref s'.heap.objs.size):=
 .lst (Fo fun b m=>(hX b m).elim fun o e=>⟨o,g.keep _ _ e⟩) (N5 _ _) ((Au.push s' _).rels r)
theorem bf{b:Array UInt8}{t:Tok}{a:Addr}{u:Tok}(hs:s.heap.IsSliceOf a .none .none (.int (-1) u))(hz:b.size≤sizeLine)(h:∀ t' k,Q (.bytes b.toList.reverse.toArray t') {s with toks:=k}):wpAny (model prog w) A (getItem (.bytes b t) (.ref a)) Q E s:=by
 refine x13 hs fun o ho hc hd=>?_
 have hT:s.TypeIs (.ref a) "slice" :=⟨o,ho,hc⟩
 refine getItem_slot (typeIs_bytes s _ t) (by decide) FB.slot_bytes_getitem (wpAny_call_entry FB.slot_bytes_getitem (typeIs_bytes s _ t) FB.entry_bytes_getitem ?_ (FB.args_bytes_getitem_2 _ _))
 show wpAny _ _ (Builtin.Bytes.payload (.bytes b t)>>=fun r=>_) _ _ s
 refine wpAny_bind (wpAny_of_eq (a:=b) rfl ?_)
 show wpAny _ _ (Builtin.Bytes.subscript? (.ref a)>>=fun r=>_) _ _ s
 refine wpAny_bind ?_
 unfold Builtin.Bytes.subscript?
 refine wpAny_bind (wpAny_specialOf hT slice_no_index (wpAny_pure ?_))
 refine wpAny_bind (wpAny_typeOf hT ?_)
 show wpAny _ _ (Builtin.Bytes.sliceParts (.ref a)>>=fun r=>_) _ _ s
 refine wpAny_bind ?_
 unfold Builtin.Bytes.sliceParts
 refine wpAny_bind (wpAny_field (x:=.int (-1) u) ho hd rfl ?_)
 kby_int
 refine wpAny_ite (KBy.ite_no (show ¬((rawInt (-1)==rawInt 0)=true) from by decide) ?_)
 refine wpAny_bind (wpAny_field (x:=.none) ho hd rfl ?_)
 kby_none
 refine wpAny_bind (wpAny_field (x:=.none) ho hd rfl ?_)
 kby_none
 refine wpAny_pure ?_
 refine wpAny_bind (wpAny_of_eq (sliceIndices_raw none none (some (-1)) b.size (by decide)) ?_)
 rw [krv_bounds]
 refine wpAny_ite (KBy.ite_no (by simp) ?_)
 have e:Builtin.Bytes.sliced b ((b.size:Int)-1) (-1) (-1)=b.toList.reverse.toArray:=by
  unfold Builtin.Bytes.sliced
  rw [krv_sliceRange,krv_range,List.filterMap_reverse,krv_all]
 rw [e]
 exact wpAny_bind (wpAny_mkBytes (wpAny_pure ⟨_,rfl,h _ _⟩) (by rw [List.size_toArray,List.length_reverse,Array.length_toList];exact hz))
end
section
variable {X:Xc} {A:Around} {g:Sg} {n:Nat} {C f:Addr} {at_:List (Nat×V)} {v a b:V} {x y z:Value} {value slice:Expr}
@[elab_as_elim] theorem bg{k:List V→Prop}(S:SO X.c g)(e:O5 X.tb v g.H k)(r:VR g v x){P:Value→Prop}(h1:∀ l ad xs n,k l→g.s.heap.get? ad=some (Dy xs.toArray n)→VRs g l xs→P (.ref ad))(h2:∀ n C at_ l y,k l→VR g (.loc n) y→g.H[n]?=some (.inst C at_ (some l))→X.tb.isList C=true→P y):P x:=by
 cases v<;>try exact e.elim
 case lst l=>exact r.lst_E fun a xs m zA p2 p3=>h1 l a xs m e p2 p3
 case loc n=>
  have e:(match g.H[n]? with|some (.lst l)=>k l|some (.inst C _ (some l))=>gd (X.tb.isList C) (k l)|_=>False):=e
  cases hn:g.H[n]? with
  | none=>rw [hn] at e;exact e.elim
  | some o=>
   rw [hn] at e
   cases o<;>try exact e.elim
   case lst l=>exact r.loc_E fun a d e1=>(S.heap.lst e1 hn).elim fun xs q=>q.elim fun m q=>h1 l a xs m e q.1 q.2
   case inst C at_ items=>
    cases items with
    | none=>exact e.elim
    | some l=>exact h2 n C at_ l x e.2 r hn e.1
theorem bh{l:List V}{i:Int}{k:Nat}{t:Tok}(L:Ef X.c.K C)(S:SO X.c g)(hn:g.H[n]?=some (.inst C at_ (some l)))(hz:l.length≤Ah)(hk:Ir l.length i=some k)(hv:l[k]?=some v)(r:VR g (.loc n) x){Q:Value→Shared→Prop}(hQ:∀ z,VR g v z→Q z g.s):wpAny X.c.M A (subscriptTail value slice x (.int i t)) Q FF g.s:=by
 refine x43 (S.ins hn r) fun p ox es m e1 zz5 I=>?_;subst zz5
 refine x22 I.shape fun xs n' hox hxs=>?_
 have hd:ox.data=.seq xs.toArray n':=by rw [hox]
 refine x12 (hxs.get hv) fun z hz1 hz2=>?_
 have hm:Ah=1048576:=rfl
 have hlen:=hxs.length
 refine C5 (fun Q' q=>Wi S.stat.K I.inst L.get q) (Wk hk (fun a b c=>?_) fun a b c=>?_)
 ·exact Qn S.stat.K I.inst L hd a (by lia) (c▸hz1) (hQ z hz2)
 ·exact Qo S.stat.K I.inst L hd a (by lia) (by lia) (by rw [←hlen,←c];exact hz1) (hQ z hz2)
theorem Agn(F:Fx X)(S:SO X.c g){k:V→Prop}{i:Int}{u:Tok}(e:Aac X.tb a (.int i) g.H k)(ra:VR g a x){Q:Value→Shared→Prop}(hQ:∀ v z s',k v→Au g.s s'→VR (g.to s') v z→Q z s'):wpAny X.c.M A (subscriptTail value slice x (.int i u)) Q FF g.s:=by
 have hm:Ah=1048576:=rfl
 have lst:∀ a,O5 X.tb a g.H (fun l=>gd (decide (l.length≤Ah)) (opt (Ir l.length i) fun j=>opt (l[j]?) k))→VR g a x→wpAny X.c.M A (subscriptTail value slice x (.int i u)) Q FF g.s:=fun a e ra=>
  bg S e ra (fun l ad xs m hk p2 p3=>B4 hk.2 fun j hj hk'=>B4 hk' fun v hv hk'=>(p3.get hv).elim fun z q=>by
    have hT:g.s.TypeIs (.ref ad) "list" :=⟨_,p2,rfl⟩
    exact C5 (fun Q' q=>D4 hT slot_list_getitem.lookup q) (Qr p2 (p3.length▸hj) q.1 (p3.length▸od9 hk.1) (hQ _ _ _ hk' (Au.refl _) q.2)))
   fun n C at_ l y hk r hn hC=>B4 hk.2 fun j hj hk'=>B4 hk' fun v hv hk'=>bh (F.lists C hC).1 S hn (od9 hk.1) hj hv r fun z q=>hQ _ _ _ hk' (Au.refl _) q
 cases a
 case tup l=>
  have e:gd (decide (l.length≤Ah)) (opt (Ir l.length i) fun j=>opt (l[j]?) k):=e
  exact ra.tup_E fun ad xs zA p2 p3=>B4 e.2 fun j hj hk=>B4 hk fun v hv hk=>(p3.get hv).elim fun z q=>by
   have w:=be hj
   have hl:=p3.length
   have hs:=od9 e.1
   have hT:g.s.TypeIs (.ref ad) "tuple" :=⟨_,p2,rfl⟩
   exact C5 (fun Q' q=>D4 hT slot_tuple_getitem.lookup q) (getItem_tuple ⟨_,p2,rfl,_,rfl⟩ (by lia) (by lia) (by rw [List.size_toArray,←hl];exact w.1) (by rw [List.getElem?_toArray];exact q.1) (hQ _ _ _ hk (Au.refl _) q.2))
 case str s=>
  have e:gd (decide (s.length≤Ah)) (opt (Ir s.length i) fun j=>opt (s.cps[j]?) fun c=>k (.str ⟨#[c]⟩)):=e
  exact ra.str_E fun t=>B4 e.2 fun j hj hk=>B4 hk fun c hc hk=>by
   have w:=be hj
   have hs:=od9 e.1
   refine C5 (fun Q' q=>D4 (typeIs_str _ _ _) slot_str_getitem.lookup q) (getItem_str (c:=c) ?_ (by rw [w.1];exact hc) (hQ _ _ _ hk (Au.succ _) (.str _ _)))
   rw [decide_eq_false (by lia),decide_eq_false (by lia)];rfl
 case bytes b=>
  have e:gd (decide (b.size≤Ah)) (gd (decide (0≤i)) (gd (decide (i<b.size)) (k (.int (b.toList.getD i.toNat 0).toNat)))):=e
  exact ra.bytes_E fun t=>by
   have h1:=od9 e.1
   have h2:=od9 e.2.1
   have h3:=od9 e.2.2.1
   have:=getItem_bytes (prog:=X.c.prog) (w:=X.c.w) (A:=A) (E:=FF) (s:=g.s) (Q:=Q) (t:=t) (u:=u) (l:=b.toList) (i:=i) (by rw [Array.length_toList];lia) h2 (by rw [Array.length_toList];exact h3) (hQ _ _ _ e.2.2.2 (Au.succ _) (.int _ _))
   exact C5 (fun Q' q=>D4 (typeIs_bytes _ _ _) FB.slot_bytes_getitem.lookup q) this
 case lst l=>exact lst (.lst l) e ra
 case loc n=>exact lst (.loc n) e ra
 all_goals exact e.elim
theorem Ago(F:Fx X)(S:SO X.c g){k:V→Prop}(e:Aac X.tb a b g.H k)(ra:VR g a x)(rb:VR g b y){Q:Value→Shared→Prop}(hQ:∀ v z s',k v→Au g.s s'→VR (g.to s') v z→Q z s'):wpAny X.c.M A (subscriptTail value slice x y) Q FF g.s:=
 A7 (C:=fun b=>VR g b y→_) e (fun i e rb=>rb.int_E fun u=>Agn F S e ra hQ) rb
theorem qs(h:Heap)(y z st:Value):(h.push (Pc y z st)).IsSliceOf h.objs.size y z st:=⟨_,Heap.get?_push_size h rfl,rfl,rfl⟩
theorem Aa1(S:SO X.c g){k:V→Prop}{lo hi:V}{t:Tok}(e:K3 X.tb a lo hi true g.H k)(ra:VR g a x)(rl:VR g lo y)(rh:VR g hi z){Q:Value→Shared→Prop}(hQ:∀ v z s',k v→Au g.s s'→VR (g.to s') v z→Q z s') :
  wpAny X.c.M A (subscriptTail value slice x (.ref g.s.heap.objs.size)) Q FF {g.s with heap:=g.s.heap.push (Pc y z (.int (-1) t))}:=
 O9 (C:=fun lo=>VR g lo y→_) e (fun e rl=>O9 (C:=fun hi=>VR g hi z→_) e (fun e rh=>rl.none_E (rh.none_E (by
  have g1:Au g.s {g.s with heap:=g.s.heap.push (Pc .none .none (.int (-1) t))}:=Au.push _ _
  have hs:=qs g.s.heap .none .none (.int (-1) t)
  cases a<;>try exact e.elim
  case lst l=>
   exact ra.lst_E fun ad xs m zA p2 p3=>by
    have p2:=g1.keep _ _ p2
    have hT:({g.s with heap:=g.s.heap.push (Pc .none .none (.int (-1) t))}:Shared).TypeIs (.ref ad) "list" :=⟨_,p2,rfl⟩
    refine C5 (fun Q' q=>D4 hT slot_list_getitem.lookup q) (wpAny_getItem_list_slice ⟨_,p2,rfl,_,rfl⟩ hs .none .none (.int _ _) (by decide) ?_ (by rw [List.size_toArray,←p3.length];exact Lg e.1))
    rw [krv_pick]
    exact hQ _ _ _ e.2 (g1.trans (Au.push _ _)) (N6 (fun zA m=>S.mutEx m) g1 (g1.rels p3).reverse)
  case bytes b=>
   exact ra.bytes_E fun u=>C5 (fun Q' q=>D4 (typeIs_bytes _ _ _) FB.slot_bytes_getitem.lookup q) (Cg (P:=fun v s'=>Gro {g.s with heap:=g.s.heap.push (Pc .none .none (.int (-1) t))} s'∧∃ t,v=.bytes _ t) (bf hs (Lg e.1) fun t k=>⟨Gro.tok _ _,_,rfl⟩)
    fun v s' q htk=>q.2.elim fun t e'=>e'▸hQ _ _ _ e.2 (g1.trans (q.1.up htk)) (.bytes _ _))))) rh) rl
theorem Aa2(F:Fx X)(S:SO X.c g){k:V→Prop}{lo hi:V}(e:K3 X.tb a lo hi false g.H k)(ra:VR g a x)(rl:VR g lo y)(rh:VR g hi z){Q:Value→Shared→Prop}(hQ:∀ v z s',k v→Au g.s s'→VR (g.to s') v z→Q z s') :
  wpAny X.c.M A (subscriptTail value slice x (.ref g.s.heap.objs.size)) Q FF {g.s with heap:=g.s.heap.push (Pc y z .none)}:=by
 have g1:Au g.s {g.s with heap:=g.s.heap.push (Pc y z .none)}:=Au.push _ _
 have hs:=qs g.s.heap y z .none
 have pick:∀ {xs:List Value} {l:List V} {o1 o2:Option Int},VRs g l xs→k (.lst (Do (o1.elim 0 (clipAt l.length)) (o2.elim l.length (clipAt l.length)) l))→Q (.ref (g.s.heap.push (Pc y z .none)).objs.size) {g.s with heap:=(g.s.heap.push (Pc y z .none)).push (Dy (slicePick xs.toArray o1 o2 none) 0)}:=fun {xs l o1 o2} p3 hk=>by
  have h1:xs.toArray.size=l.length:=p3.length.symm
  rw [slicePick_plain,h1]
  exact hQ _ _ _ hk (g1.trans (Au.push _ _)) (N6 (fun zA m=>S.mutEx m) g1 ((g1.rels p3).slice _ _))
 refine bg S e ra (fun l ad xs m hk p2 p3=>Qs hk.2 rl fun o1 q1 hk'=>Qs hk' rh fun o2 q2 hk'=>?_) fun n C at_ l x hk r hn hC=>Qs hk.2 rl fun o1 q1 hk'=>Qs hk' rh fun o2 q2 hk'=>?_
 ·have p2:=g1.keep _ _ p2
  have hT:({g.s with heap:=g.s.heap.push (Pc y z .none)}:Shared).TypeIs (.ref ad) "list" :=⟨_,p2,rfl⟩
  exact C5 (fun Q' q=>D4 hT slot_list_getitem.lookup q) (wpAny_getItem_list_slice ⟨_,p2,rfl,_,rfl⟩ hs q1 q2 .none (by decide) (pick p3 hk') (by rw [List.size_toArray,←p3.length];exact Lg hk.1))
 ·have L:=(F.lists C hC).1
  refine x43 (S.ins hn r) fun p ox es m e1 zz5 I=>?_;subst zz5
  refine x22 I.shape fun xs n' hox hxs=>?_
  have I2:InstAt (g.s.heap.push (Pc y z .none)) p.1 ox C (some (dictOf es m)):=⟨g1.keep _ _ I.inst.at_,I.inst.cls,I.inst.no,by have:=I.inst.dict;rw [I.dict] at this ⊢;exact g1.keep _ _ this⟩
  have K':X.c.K.In (g.s.heap.push (Pc y z .none)):=(Cv.grow F.ok S g1).stat.K
  exact C5 (s:={g.s with heap:=g.s.heap.push (Pc y z .none)}) (fun Q' q=>Wi K' I2 L.get q) (Nn K' I2 L (by rw [hox]) hs q1 q2 .none (by decide) (pick hxs hk') (by rw [List.size_toArray,←hxs.length];exact Lg hk.1))
end
section
variable {X:Xc} {f:Fm} {ν:Nu} {g g':Sg}
theorem Hd.then{K:KE}{Q:Value→Shared→Prop}(hQ:Hd X g K Q)(t:Go X.c g g'):Hd X g' K Q:=fun v z g2 k t2 r=>hQ v z g2 k (t.trans t2) r
theorem an.then{K:Bool→Hp→Prop}{Q:Bool→Shared→Prop}(hQ:an X g K Q)(t:Go X.c g g'):an X g' K Q:=fun v g2 k t2=>hQ v g2 k (t.trans t2)
theorem kn.then{K:KL}{Q:List Value→Shared→Prop}(hQ:kn X g K Q)(t:Go X.c g g'):kn X g' K Q:=fun v z g2 k t2 r=>hQ v z g2 k (t.trans t2) r
theorem Hd.leaf{H:Hp}{K:KE}{Q:Value→Shared→Prop}(ok:Bj X.c)(S:SO X.c g)(hQ:Hd X g K Q)(hH:g.H=H):Aaf (Mut g.ρ g.H) g.ρ g.s (fun v=>K v H) Q:=fun v z s' k gr r=>hQ v z (g.to s') (by subst hH;exact k) (.grow ok S gr) r
noncomputable def An(x:Expr):Prop:=∀ (env:Env) (w:Sem Value),isTrue x env w=(do let v ←w;standAt x.pos;holding [v] (truthy v))
theorem k6(F:Fx X){e:ME}(hE:ES X e)(h:∀ (cx:Cx) (x:Expr),Az X.nm e cx x→An x):TS X e:=fun f ν g x K L hK hx S he Q hQ=>by
 rw [h _ _ hx]
 exact Aa (hE f ν g x K hx S he _ fun v z g1 k1 t1 r1=>Ab (wpAny_standAt (Ad (bd F S.room t1.st (hK _ _ k1) r1 fun t g2 k2 e2 t2=>hQ t g2 (by rw [e2];exact k2) (t1.trans t2)))))
theorem uz(_:Fx X):ES X .none:=fun f ν g x K hx S he Q hQ=>hx (fun x=>Wn X f.A (eval x f.env) Q g.s) fun k p=>Af (Constant_none (hQ _ _ g he (.refl S.st) .none))
theorem u0(_:Fx X)(b:Bool):ES X (.bool b):=fun f ν g x K hx S he Q hQ=>hx (fun x=>Wn X f.A (eval x f.env) Q g.s) fun k p=>Af (Constant_bool (hQ _ _ g he (.refl S.st) (.bool _)))
theorem Aa3(F:Fx X)(b:Int):ES X (.int b):=fun f ν g x K hx S he Q hQ=>hx (fun x=>Wn X f.A (eval x f.env) Q g.s) fun k p=>Af (wpAny_Constant_int (hQ _ _ (g.to _) he (.grow F.ok S.st (Au.succ _)) (.int _ _)))
theorem Aa4(F:Fx X)(b:Str):ES X (.str b):=fun f ν g x K hx S he Q hQ=>hx (fun x=>Wn X f.A (eval x f.env) Q g.s) fun k p=>Af (wpAny_Constant_str (hQ _ _ (g.to _) he (.grow F.ok S.st (Au.succ _)) (.str _ _)))
theorem Qt{M:Model}{A:Around}{E:Value→Shared→Prop}{s:Shared}{env:Env}{b:UInt64}{k:Nat}{p:Pos}{Q:Value→Shared→Prop}(h:Q (.float b s.toks) {s with toks:=s.toks+1}):wpAny M A (eval (.Constant (.float b) k p) env) Q E s:=fun zA zB zC=>h
theorem Aa5(F:Fx X)(b:UInt64):ES X (.flt b):=fun f ν g x K hx S he Q hQ=>hx (fun x=>Wn X f.A (eval x f.env) Q g.s) fun k p=>Af (Qt (hQ _ _ (g.to _) he (.grow F.ok S.st (Au.succ _)) (.flt _ S.st.pos (Nat.lt_succ_self _))))
theorem Wl{i:Nat}{k:V→Prop}(h:Iq ν i k){P:Prop}(f:∀ v,ν[i]?=some (some v)→k v→P):P:=by
 unfold Iq at h
 cases q:ν[i]? with
 | none=>rw [q] at h;exact h.elim
 | some o=>
  cases o with
  | none=>rw [q] at h;exact h.elim
  | some v=>rw [q] at h;exact f v q h
theorem qt(_:Fx X)(i:Nat):ES X (.var i):=fun f ν g x K hx S he Q hQ=>hx (fun x=>Wn X f.A (eval x f.env) Q g.s) fun y p hc=>Ak hc fun h1 hc=>Ak hc fun h2 hc=>Ak hc fun h3 h4=>
 Wl (k:=fun v=>K v g.H) he fun v hv hk=>Af (wpAny_Name (La S (eq_of_beq h1) h2 (Dw h4) hv fun z r=>hQ _ _ g hk (.refl S.st) r) (Dw h3))
theorem Qu(F:Fx X){x:Str}{y:Value}(hg:Ay f.cx x=true)(hy:X.c.mg x=some y∨(X.c.mg x=none∧X.c.mb x=some y))(S:Si X f ν g){p:Pos}{Q E:Value→Shared→Prop}(hQ:Q y g.s):wpAny X.c.M f.A (eval (.Name x p) f.env) Q E g.s:=Ak hg fun h1 h2=>by
 have hk:f.env.kindOf x=some .globalImplicit:=by show f.env.scope.names.lookup x=_;rw [S.fr.names];exact eq_of_beq h1
 have hm:g.s.heap.Ns f.env.globals X.c.mg:=by rw [S.fr.globals];exact S.st.stat.main F.ok
 refine Calls.Name_function_global S.fr.kind hk ?_ (Dw h2)
 rcases hy with hy|hy
 ·exact Calls.loadGlobal_global hm hy hQ
 ·exact Calls.loadGlobal_builtin hm hy.1 (by rw [S.fr.builtins];exact S.st.stat.b) hy.2 hQ
theorem u1(F:Fx X)(k:Nat):ES X (.glob k):=fun f ν g x K hx S he Q hQ=>hx (fun x=>Wn X f.A (eval x f.env) Q g.s) fun y p h1 h2=>
 (F.globs k y (eq_of_beq h1)).elim fun z h=>B4 (o:=X.tb.globs[k]?) (k:=fun (p:Str×V)=>K p.2 g.H) he fun q e hk=>Af (Qu F h2 (.inr h.2) S (hQ (.stat z) z g (by rw [h.1] at e;cases e;exact hk) (.refl S.st) (.stat _)))
theorem Aa6(F:Fx X)(op:Operator){l r:ME}(hl:ES X l)(hr:ES X r):ES X (.bin op l r):=fun f ν g x K hx S he Q hQ=>hx (fun x=>Wn X f.A (eval x f.env) Q g.s) fun a b p h1 h2=>
 Aa (hl f ν g a (fun a H1=>ev X.tb X.Φ r ν H1 fun b H2=>j9 op a b fun v=>K v H2) h1 S he _ fun va za g1 k1 t1 r1=>
  Aa (Ad (hr f ν g1 b (fun b H2=>j9 op va b fun v=>K v H2) h2 (t1.sit F.ok S) k1 _ fun vb zb g2 k2 t2 r2=>
   Ab (wpAny_standAt (Bl (Af (Aav k2 (t2.rel t1.st r1) r2 (fun b m=>t2.st.mutEx m) t2.st.pos ((hQ.then (t1.trans t2)).leaf F.ok t2.st rfl))))))))
theorem Aa7(F:Fx X){l:ME}(hl:ES X l):ES X (.neg l):=fun f ν g x K hx S he Q hQ=>hx (fun x=>Wn X f.A (eval x f.env) Q g.s) fun a p h1=>
 Aa (hl f ν g a (fun v H1=>Gw v fun i=>K (.int (-i)) H1) h1 S he _ fun va za g1 k1 t1 r1=>Ab (wpAny_standAt (Ad (Af (A7 (C:=fun v=>VR g1 v za→_) k1 (fun i hk r1=>r1.int_E fun t=>
  P.neg_int (hQ _ _ (g1.to _) hk (t1.then F.ok (Au.succ _)) (.int _ _))) r1)))))
theorem Aa8(F:Fx X){l:ME}(hl:ES X l):ES X (.not l):=fun f ν g x K hx S he Q hQ=>hx (fun x=>Wn X f.A (eval x f.env) Q g.s) fun a p h1=>
 Aa (hl f ν g a (fun v H1=>Bs X.tb X.Φ v H1 fun b=>K (.bool (!b)) H1) h1 S he _ fun va za g1 k1 t1 r1=>Ab (wpAny_standAt (Ad (
  show Wn X f.A (holding [za] (do return Value.bool (!(←truthy za)))) Q g1.s from Ad (Aa (bd F S.room t1.st k1 r1 fun t g2 k2 e2 t2=>Ac (hQ _ _ g2 (by rw [e2];exact k2) (t1.trans t2) (.bool _))))))))
theorem Aa9{l:ME}(hl:TS X l):TS X (.not l):=fun f ν g x K L hK hx S he Q hQ=>hx (fun x=>Wn X f.A (isTrue x f.env (eval x f.env)) Q g.s) fun a p h1=>
 Aa (hl f ν g a (fun v H1=>Bs X.tb X.Φ v H1 fun b=>K (.bool (!b)) H1) (fun t H=>K (.bool (!t)) H) (fun zA zB h=>h) h1 S he _ fun t g1 k1 t1=>Ac (hQ _ g1 (hK _ _ k1) t1))
theorem bj(F:Fx X)(op:CmpOp){l r:ME}(hl:ES X l)(hr:ES X r){a b:Expr}(h1:Az X.nm l f.cx a)(h2:Az X.nm r f.cx b)(S:Si X f ν g){K:KE}(he:ev X.tb X.Φ (.cmp op l r) ν g.H K)(p:Pos){Q:Value→Shared→Prop}(hQ:∀ t g',K (.bool t) g'.H→Go X.c g g'→Q (.bool t) g'.s) :
  Wn X f.A (do let x ←eval a f.env;let y ←holding [x] (eval b f.env);standAt p;operate [x,y] (compareOp op x y)) Q g.s:=
 Aa (hl f ν g a (fun a H1=>ev X.tb X.Φ r ν H1 fun b H2=>ub op a b fun t=>K (.bool t) H2) h1 S he _ fun va za g1 k1 t1 r1=>
  Aa (Ad (hr f ν g1 b (fun b H2=>ub op va b fun t=>K (.bool t) H2) h2 (t1.sit F.ok S) k1 _ fun vb zb g2 k2 t2 r2=>
   Ab (wpAny_standAt (Bl (Af (Aax (S.room.units_lt (by decide)) k2 (t2.rel t1.st r1) r2 fun t k=>hQ t g2 k (t1.trans t2))))))))
theorem Wm{op:CmpOp}{a b:Expr}{p:Pos}{env:Env}(h:behindInMarks op b=false):eval (.Compare a [op] [b] p) env=(do let x ←eval a env;let y ←holding [x] (eval b env);standAt p;operate [x,y] (compareOp op x y)):=
 (arm_eval_Compare ..).trans (congrArg (fun m:Sem Value=>(do let x ←eval a env;let y ←holding [x] m;standAt p;operate [x,y] (compareOp op x y))) (markedBehindIn_of_false h))
theorem Wo{op:CmpOp}{a b:Expr}{p:Pos}{env:Env}(h:behindInMarks op b=false):isTrue (.Compare a [op] [b] p) env (eval (.Compare a [op] [b] p) env)=(do let z ←(do let x ←eval a env;let y ←holding [x] (eval b env);standAt p;operate [x,y] (compareOp op x y));holding [z] (truthy z)):=
 (arm_isTrue_Compare ..).trans ((congrArg (fun m:Sem Value=>(do let x ←eval a env;let y ←holding [x] m;standAt p;let z ←operate [x,y] (compareOp op x y);holding [z] (truthy z))) (markedBehindIn_of_false h)).trans (by simp only [bind_assoc]))
theorem Aba(F:Fx X)(op:CmpOp){l r:ME}(hl:ES X l)(hr:ES X r):ES X (.cmp op l r):=fun f ν g x K hx S he Q hQ=>hx (fun x=>Wn X f.A (eval x f.env) Q g.s) fun a b p h1 h2 h3=>by
 rw [Wm h3]
 exact bj F op hl hr h1 h2 S he p fun t g' k t'=>hQ _ _ g' k t' (.bool _)
theorem Abb(F:Fx X)(op:CmpOp){l r:ME}(hl:ES X l)(hr:ES X r):TS X (.cmp op l r):=fun f ν g x K L hK hx S he Q hQ=>hx (fun x=>Wn X f.A (isTrue x f.env (eval x f.env)) Q g.s) fun a b p h1 h2 h3=>by
 rw [Wo h3]
 exact Aa (bj F op hl hr h1 h2 S he p fun t g' k t'=>Ad (Af (wpAny_truthy_bool (hQ _ g' (hK _ _ k) t'))))
theorem qu(_:Fx X):LS X .nil:=fun f ν g xs K hx S he pos Q hQ=>hx (fun xs=>Wn X f.A (spliced (backTo pos (starEach xs f.env))) Q g.s) (Ac (hQ _ _ g he (.refl S.st) .nil))
theorem Qv{e:Expr}{r:List Expr}{env:Env}(h:O6 e=true):starEach (e::r) env=(false,eval e env)::starEach r env:=by
 cases e<;>first|rfl|exact Bool.noConfusion h
theorem bk(F:Fx X){e:ME}{es:MEs}(h1:ES X e)(h2:LS X es):LS X (.cons e es):=fun f ν g xs K hx S he pos Q hQ=>hx (fun xs=>Wn X f.A (spliced (backTo pos (starEach xs f.env))) Q g.s) fun x r hs hc1 hc2=>by
 rw [Qv hs]
 show Wn X f.A (spliced ((false,eval x f.env)::backTo pos (starEach r f.env))) Q g.s
 rw [spliced]
 exact Aa (h1 f ν g x (fun v H1=>evs X.tb X.Φ es ν H1 fun vs H2=>K (v::vs) H2) hc1 S he _ fun v z g1 k1 t1 r1=>Aa (Ac (Aa (Ad
  (h2 f ν g1 r (fun vs H2=>K (v::vs) H2) hc2 (t1.sit F.ok S) k1 pos _ fun vs zs g2 k2 t2 r2=>Ac (hQ _ _ g2 k2 (t1.trans t2) (.cons (t2.rel t1.st r1) r2)))))))
theorem bm(h:Heap)(xs:List Value):(h.push (Z1 xs.toArray)).get? h.objs.size=some (Z1 xs.toArray):=Heap.get?_push_size h rfl
theorem u2(S:SO X.c g){l:List V}{xs:List Value}(r:VRs g l xs):VR (g.to {g.s with heap:=g.s.heap.push (Z1 xs.toArray)}) (.tup l) (.ref g.s.heap.objs.size):=
 .tup (Fo fun b m=>S.mutEx m) (bm _ _) ((Au.push g.s _).rels r)
theorem u3(S:SO X.c g){l:List V}{xs:List Value}(r:VRs g l xs):VR (g.to {g.s with heap:=g.s.heap.push (Dy xs.toArray 0)}) (.lst l) (.ref g.s.heap.objs.size):=
 .lst (Fo fun b m=>S.mutEx m) (N5 _ _) ((Au.push g.s _).rels r)
theorem G4{l:List V}{xs:List Value}(r:VRs g l xs)(h:decide (l.length≤1000)=true):xs.toArray.size≤sizeLine:=by
 show xs.length≤sizeLine
 rw [←r.length]
 exact Nat.le_trans (od9 h) (by rw [sizeLine_eq];decide)
theorem Abc(F:Fx X){es:MEs}(h:LS X es):ES X (.tup es):=fun f ν g x K hx S he Q hQ=>hx (fun x=>Wn X f.A (eval x f.env) Q g.s) fun xs k p h1=>by
 rw [arm_eval_Tuple]
 exact Ab (wpAny_standAt (Aa (h f ν g xs (fun vs H1=>gd (decide (vs.length≤1000)) (K (.tup vs) H1)) h1 S he _ _ fun vs zs g1 k1 t1 r1=>Af (wpAny_newObj_type (hQ _ _ (g1.to _) k1.2 (t1.then F.ok (Au.push _ _)) (u2 t1.st r1)) (G4 r1 k1.1)))))
theorem Abd(F:Fx X){es:MEs}(h:LS X es):ES X (.lst es):=fun f ν g x K hx S he Q hQ=>hx (fun x=>Wn X f.A (eval x f.env) Q g.s) fun xs p h1=>by
 rw [arm_eval_List]
 exact Ab (wpAny_standAt (Aa (h f ν g xs (fun vs H1=>gd (decide (vs.length≤1000)) (K (.lst vs) H1)) h1 S he _ _ fun vs zs g1 k1 t1 r1=>Af (wpAny_newObj_type (hQ _ _ (g1.to _) k1.2 (t1.then F.ok (Au.push _ _)) (u3 t1.st r1)) (G4 r1 k1.1)))))
theorem Go.new(F:Fx X)(S:SO X.c g){s':Shared}{ob:Ob}(gr:Au g.s s'){a:Addr}(h1:g.s.heap.get? a=none)(hx:∃ o,s'.heap.get? a=some o)(hnew:Le X.c.T (fun zA=>False) g.ρ g.H g.s (g.ρ++[(a,a)]) (g.H++[ob]) s'→He (Mut (g.ρ++[(a,a)]) (g.H++[ob])) (g.ρ++[(a,a)]) s'.toks s'.heap (a,a) ob) :
  Go X.c g ⟨g.ρ++[(a,a)],g.H++[ob],s'⟩∧VR ⟨g.ρ++[(a,a)],g.H++[ob],s'⟩ (.loc g.H.length) (.ref a):=by
 refine x02 (Cv.new F.ok S (p:=(a,a)) gr h1 h1 hx hx hnew) fun st le=>?_
 refine ⟨⟨st,le⟩,.loc (d:=a) ?_⟩
 show (g.ρ++[(a,a)])[g.H.length]?=_
 rw [←S.heap.len];exact List.getElem?_concat_length ..
theorem Eg(h:Heap):h.get? h.objs.size=none:=Heap.get?_none_of_le (Nat.le_refl _)
theorem u4(F:Fx X){es:MEs}(h:LS X es):ES X (.mlst es):=fun f ν g x K hx S he Q hQ=>hx (fun x=>Wn X f.A (eval x f.env) Q g.s) fun xs p h1=>by
 rw [arm_eval_List]
 refine Ab (wpAny_standAt (Aa (h f ν g xs (fun vs H1=>gd (decide (vs.length≤1000)) (K (.loc H1.length) (H1++[Ob.lst vs]))) h1 S he _ _ fun vs zs g1 k1 t1 r1=>Af (wpAny_newObj_type ?_ (G4 r1 k1.1)))))
 have n:=Go.new F t1.st (ob:=.lst vs) (Au.push g1.s (Dy zs.toArray 0)) (Eg _) ⟨_,N5 _ _⟩ fun le=>⟨rfl,zs,0,N5 _ _,le.rels t1.st.stat.tab A6.none r1⟩
 exact hQ _ _ _ k1.2 (t1.trans n.1) n.2
theorem Abe(F:Fx X){t a b:ME}(ht:TS X t)(ha:ES X a)(hb:ES X b):ES X (.ite t a b):=fun f ν g x K hx S he Q hQ=>hx (fun x=>Wn X f.A (eval x f.env) Q g.s) fun c y z p h1 h2 h3=>by
 rw [eval_IfExp]
 refine Aa (ht f ν g c (fun v H1=>Bs X.tb X.Φ v H1 fun t=>match t with|true=>ev X.tb X.Φ a ν H1 K|false=>ev X.tb X.Φ b ν H1 K) (fun t H1=>match t with|true=>ev X.tb X.Φ a ν H1 K|false=>ev X.tb X.Φ b ν H1 K) (fun zA zB h=>h) h1 S he _ fun t g1 k1 t1=>?_)
 cases t with
 | true=>exact ha f ν g1 y K h2 (t1.sit F.ok S) k1 Q (hQ.then t1)
 | false=>exact hb f ν g1 z K h3 (t1.sit F.ok S) k1 Q (hQ.then t1)
theorem Abf{t a b:ME}(F:Fx X)(ht:TS X t)(ha:TS X a)(hb:TS X b):TS X (.ite t a b):=fun f ν g x K L hK hx S he Q hQ=>hx (fun x=>Wn X f.A (isTrue x f.env (eval x f.env)) Q g.s) fun c y z p h1 h2 h3=>by
 rw [arm_isTrue_IfExp]
 refine Aa (ht f ν g c (fun v H1=>Bs X.tb X.Φ v H1 fun t=>match t with|true=>ev X.tb X.Φ a ν H1 K|false=>ev X.tb X.Φ b ν H1 K) (fun t H1=>match t with|true=>ev X.tb X.Φ a ν H1 K|false=>ev X.tb X.Φ b ν H1 K) (fun zA zB h=>h) h1 S he _ fun t g1 k1 t1=>?_)
 cases t with
 | true=>exact ha f ν g1 y K L hK h2 (t1.sit F.ok S) k1 Q (hQ.then t1)
 | false=>exact hb f ν g1 z K L hK h3 (t1.sit F.ok S) k1 Q (hQ.then t1)
end
section
variable {X:Xc} {f:Fm} {ν:Nu} {g g':Sg}
theorem Abg:BS X .nil:=fun op f ν g xs K hx S he=>False.elim he
theorem Abh:AS X .nil:=fun op f ν g xs K L hK hx S he=>False.elim he
noncomputable def Ae2(op:BoolOp)(t:Bool):Bool:=match op with|.And=>!t|.Or=>t
theorem u5(F:Fx X){e:ME}{es:MEs}(h1:ES X e)(h2:BS X es):BS X (.cons e es):=fun op f ν g xs K hx S he pos Q hQ=>hx (fun xs=>Wn X f.A (boolOp pos op (evalEach xs f.env)) Q g.s) fun x r zA hc1 hc2=>by
 cases es with
 | nil=>exact hc2 (fun r=>Wn X f.A (boolOp pos op (evalEach (x::r) f.env)) Q g.s) (h1 f ν g x K hc1 S he Q hQ)
 | cons e' es'=>
  have hc3:=hc2
  refine hc2 (fun r=>Dv X.nm (.cons e' es') f.cx r→Wn X f.A (boolOp pos op (evalEach (x::r) f.env)) Q g.s) (fun x' r' zA zB zC hc2=>?_) hc3
  show Wn X f.A (do let v ←eval x f.env;standAt pos;let t ←holding [v] (truthy v);match op,t with|.And,false=>pure v|.Or,true=>pure v|_,_=>boolOp pos op (evalEach (x'::r') f.env)) Q g.s
  refine Aa (h1 f ν g x (fun v H1=>Qj v H1 fun t=>match (generalizing:=false) op,t with|.And,false=>K v H1|.Or,true=>K v H1|_,_=>evB X.tb X.Φ op (.cons e' es') ν H1 K) hc1 S he _ fun v z g1 k1 t1 r1=>?_)
  refine Ab (wpAny_standAt (Aa (Ad (bd F S.room t1.st (kz k1) r1 fun t g2 k2 e2 t2=>?_))))
  have t12:=t1.trans t2
  have rest:evB X.tb X.Φ op (.cons e' es') ν g1.H K→Wn X f.A (boolOp pos op (evalEach (x'::r') f.env)) Q g2.s:=fun k=>h2 op f ν g2 _ K hc2 (t12.sit F.ok S) (by rw [e2];exact k) pos Q (hQ.then t12)
  have stop:K v g1.H→Wn X f.A (pure z) Q g2.s:=fun k=>Ac (hQ v z g2 (by rw [e2];exact k) t12 (t2.rel t1.st r1))
  cases op with
  | And=>cases t with
   | false=>exact stop k2
   | true=>exact rest k2
  | Or=>cases t with
   | false=>exact rest k2
   | true=>exact stop k2
theorem u6(F:Fx X){e:ME}{es:MEs}(h1:TS X e)(h2:AS X es):AS X (.cons e es):=fun op f ν g xs K L hK hx S he Q hQ=>hx (fun xs=>Wn X f.A (allTrue op xs f.env) Q g.s) fun x r zA hc1 hc2=>by
 cases es with
 | nil=>
  refine hc2 (fun r=>Wn X f.A (allTrue op (x::r) f.env) Q g.s) ?_
  show Wn X f.A (do match op,←isTrue x f.env (eval x f.env) with|.And,false=>pure false|.Or,true=>pure true|_,_=>allTrue op [] f.env) Q g.s
  refine Aa (h1 f ν g x K L hK hc1 S he _ fun t g1 k1 t1=>?_)
  cases op with
  | And=>cases t<;>exact Ac (hQ _ g1 k1 t1)
  | Or=>cases t<;>exact Ac (hQ _ g1 k1 t1)
 | cons e' es'=>
  show Wn X f.A (do match op,←isTrue x f.env (eval x f.env) with|.And,false=>pure false|.Or,true=>pure true|_,_=>allTrue op r f.env) Q g.s
  refine Aa (h1 f ν g x (fun v H1=>Qj v H1 fun t=>match (generalizing:=false) op,t with|.And,false=>K v H1|.Or,true=>K v H1|_,_=>evB X.tb X.Φ op (.cons e' es') ν H1 K) (fun t H1=>bif Ae2 op t then L t H1 else evB X.tb X.Φ op (.cons e' es') ν H1 K)
   (fun v H1 k=>X8 k (fun t k=>by cases op<;>cases t<;>exact k) (hK v H1)) hc1 S he _ fun t g1 k1 t1=>?_)
  have rest:evB X.tb X.Φ op (.cons e' es') ν g1.H K→Wn X f.A (allTrue op r f.env) Q g1.s:=fun k=>h2 op f ν g1 _ K L hK hc2 (t1.sit F.ok S) k Q (hQ.then t1)
  cases op with
  | And=>cases t with
   | false=>exact Ac (hQ _ g1 k1 t1)
   | true=>exact rest k1
  | Or=>cases t with
   | false=>exact rest k1
   | true=>exact Ac (hQ _ g1 k1 t1)
theorem Abi(_:Fx X)(op:BoolOp){es:MEs}(h:BS X es):ES X (.bop op es):=fun f ν g x K hx S he Q hQ=>hx (fun x=>Wn X f.A (eval x f.env) Q g.s) fun xs p h1=>h op f ν g xs K h1 S he _ Q hQ
theorem Abj(op:BoolOp){es:MEs}(h:AS X es):TS X (.bop op es):=fun f ν g x K L hK hx S he Q hQ=>hx (fun x=>Wn X f.A (isTrue x f.env (eval x f.env)) Q g.s) fun xs p h1=>h op f ν g xs K L hK h1 S he Q hQ
end
open PySem.SeqAt in
theorem Abk{A:Around}{s:Shared}{a b:UInt64}{t u:Tok}(hb:NoneBooked s.heap)(h1:t≠0)(h2:u≠0)(he:(Float64.cmp a b==some Ordering.eq)=true):EqAt A s (.float a t) (.float b u) true:=fun prog w E Q hq=>by
 unfold eqBool
 refine wpAny_holding ?_
 have hlast:wpAny (model prog w) A (do truthOfDropped (←richCompare .Eq (.float a t) (.float b u))) Q E s:=wpAny_bind (AutoFloatOps.eq_0 (wpAny_truthy_bool (by rw [he];exact hq)))
 by_cases hz:(Value.float a t==Value.float b u)=true
 ·show wpAny (model prog w) A (if (Value.float a t==Value.float b u)=true then (rule "eq-bool.same-object" >>= fun zA=>pure true) else _) Q E s
  rw [if_pos hz]
  exact wpAny_bind (wpAny_rule (wpAny_pure hq))
 ·show wpAny _ _ (if (Value.float a t==Value.float b u)=true then _ else _) Q E s
  rw [if_neg hz]
  show wpAny _ _ (isSame.created (a==b&&!Float64.isNaN a) t u>>=_) Q E s
  refine wpAny_bind ?_
  unfold isSame.created
  have h0:¬((t==0||u==0)=true):=fun z=>X3 z (fun z=>h1 (eq_of_beq z)) fun z=>h2 (eq_of_beq z)
  rw [if_neg h0]
  by_cases h3:(t==u)=true
  ·rw [if_pos h3];exact wpAny_pure (wpAny_pure hq)
  rw [if_neg h3]
  by_cases hc:(!(a==b&&!Float64.isNaN a))=true
  ·rw [if_pos hc];exact wpAny_pure hlast
  ·rw [if_neg hc]
   refine wpAny_bind (wpAny_sharingNotTold_none hb ?_)
   rw [if_neg Bool.false_ne_true]
   refine wpAny_bind (wpAny_sharingNotTold_none hb ?_)
   rw [if_neg Bool.false_ne_true]
   refine wpAny_bind (wpAny_rule (wpAny_bind (wpAny_askSetting (wpAny_pure ?_))))
   split
   ·exact wpAny_pure hq
   ·exact hlast
open PySem.SeqAt in
theorem qv{A:Around}{s:Shared}(hb:NoneBooked s.heap){X1 X2:Addr→Prop}{ρ1 ρ2:Rho}{T1 T2:Nat}{h1 h2:Heap}(v u:V)(x y:Value)(e:eqF v u=true)(r1:Ao X1 ρ1 T1 h1 v x)(r2:Ao X2 ρ2 T2 h2 u y):EqAt A s x y true:=by
 cases v<;>try exact Bool.noConfusion e
 case int a=>
  cases u<;>try exact Bool.noConfusion e
  case int b=>exact r1.int_E fun t=>r2.int_E fun t'=>(show (a==b)=true from e)▸EqAt.int_int a t b t'
 case flt a=>
  cases u<;>try exact Bool.noConfusion e
  case flt b=>exact r1.flt_E fun t t0 zA=>r2.flt_E fun t' t0' zA=>Abk hb (Nat.pos_iff_ne_zero.mp t0) (Nat.pos_iff_ne_zero.mp t0') (O8 a b▸e)
section
variable {X:Xc} {f:Fm} {ν:Nu} {g g':Sg}
open PySem.SeqAt in
theorem Wp(F:Fx X){l:ME}(tp:Bool){es:MEs}(hl:ES X l)(h:LS X es){a:Expr}{xs:List Expr}{k:Nat}{q:Pos}(h1:Az X.nm l f.cx a)(h2:Dv X.nm es f.cx xs)(S:Si X f ν g){K:KE}(he:ev X.tb X.Φ (.cmpD l tp es) ν g.H K)(p:Pos){Q:Value→Shared→Prop}(hQ:∀ t g',K (.bool t) g'.H→Go X.c g g'→Q (.bool t) g'.s) :
  Wn X f.A (do let x ←eval a f.env;let y ←holding [x] (eval (bif tp then .Tuple xs k q else .List xs q) f.env);standAt p;operate [x,y] (compareOp .Eq x y)) Q g.s:=by
 refine Aa (hl f ν g a (fun a H1=>evs X.tb X.Φ es ν H1 fun vs H2=>eqD tp a vs fun t=>K (.bool t) H2) h1 S he _ fun va za g1 k1 t1 r1=>?_)
 have hu:f.A.units<cLine:=S.room.units_lt (n:=0) (by decide)
 cases tp with
 | true=>
  refine Aa (Ad ?_)
  rw [show (bif true then Expr.Tuple xs k q else .List xs q)=.Tuple xs k q from rfl,arm_eval_Tuple]
  refine Ab (wpAny_standAt (Aa (h f ν g1 xs (fun vs H2=>eqD true va vs fun t=>K (.bool t) H2) h2 (t1.sit F.ok S) k1 _ _ fun vs zs g2 k2 t2 r2=>?_)))
  exact ac (C:=fun va=>VR g1 va za→_) k2 (fun l k2 r1=>r1.tup_E fun ad xl m2 p2 p3=>by
   have g3:Au g2.s {g2.s with heap:=g2.s.heap.push (Z1 zs.toArray)}:=Au.push _ _
   refine Af (wpAny_newObj_type (Ab (wpAny_standAt (Bl (Af ?_)))) (G4 r2 k2.2.1))
   have e1:=g3.keep _ _ (t2.le.stays t1.st.stat.tab A6.none _ _ p2 m2 rfl)
   have rc:=RcAt.tuples (A:=f.A) (s:={g2.s with heap:=g2.s.heap.push (Z1 zs.toArray)}) ⟨_,e1,rfl,_,rfl⟩ ⟨_,bm _ _,rfl,_,rfl⟩ hu (e:=fun zA=>true) (Wc (qv (Cv.grow F.ok t2.st g3).stat.book) l vs xl zs p3 r2 k2.2.2.1)
   have hs:xl.toArray.size=zs.toArray.size:=p3.length.symm.trans ((eq_of_beq k2.1).trans r2.length)
   rw [We,hs,beq_self_eq_true] at rc
   exact rc X.c.prog X.c.w _ _ (hQ _ (g2.to _) k2.2.2.2 ((t1.trans t2).then F.ok g3))) r1
 | false=>
  refine Aa (Ad ?_)
  rw [show (bif false then Expr.Tuple xs k q else .List xs q)=.List xs q from rfl,arm_eval_List]
  refine Ab (wpAny_standAt (Aa (h f ν g1 xs (fun vs H2=>eqD false va vs fun t=>K (.bool t) H2) h2 (t1.sit F.ok S) k1 _ _ fun vs zs g2 k2 t2 r2=>?_)))
  exact Lc (C:=fun va=>VR g1 va za→_) k2 (fun l k2 r1=>r1.lst_E fun ad xl n m2 p2 p3=>by
   have g3:Au g2.s {g2.s with heap:=g2.s.heap.push (Dy zs.toArray 0)}:=Au.push _ _
   refine Af (wpAny_newObj_type (Ab (wpAny_standAt (Bl (Af ?_)))) (G4 r2 k2.2.1))
   have e1:=g3.keep _ _ (t2.le.stays t1.st.stat.tab A6.none _ _ p2 m2 rfl)
   have rc:=Pa (A:=f.A) (s:={g2.s with heap:=g2.s.heap.push (Dy zs.toArray 0)}) e1 (N5 _ _) p3 r2 k2.1 hu k2.2.2.1 (qv (Cv.grow F.ok t2.st g3).stat.book)
   exact rc.1 X.c.prog X.c.w _ _ (hQ _ (g2.to _) k2.2.2.2 ((t1.trans t2).then F.ok g3))) r1
theorem bn(tp:Bool)(xs:List Expr)(k:Nat)(q:Pos):behindInMarks .Eq (bif tp then .Tuple xs k q else .List xs q)=false:=by cases tp<;>rfl
theorem u7(F:Fx X){l:ME}{tp:Bool}{es:MEs}(hl:ES X l)(h:LS X es):ES X (.cmpD l tp es):=fun f ν g x K hx S he Q hQ=>hx (fun x=>Wn X f.A (eval x f.env) Q g.s) fun a xs k q p h1 h2=>by
 rw [Wm (bn tp xs k q)]
 exact Wp F tp hl h h1 h2 S he p fun t g' k t'=>hQ _ _ g' k t' (.bool _)
theorem u8(F:Fx X){l:ME}{tp:Bool}{es:MEs}(hl:ES X l)(h:LS X es):TS X (.cmpD l tp es):=fun f ν g x K L hK hx S he Q hQ=>hx (fun x=>Wn X f.A (isTrue x f.env (eval x f.env)) Q g.s) fun a xs k q p h1 h2=>by
 rw [Wo (bn tp xs k q)]
 exact Aa (Wp F tp hl h h1 h2 S he p fun t g' k t'=>Ad (Af (wpAny_truthy_bool (hQ _ g' (hK _ _ k) t'))))
end
section
variable {α:Type} {M:Model} {A:Around} {E:Value→Shared→Prop} {s:Shared}
theorem Pd{vs:List Value}{m:Sem α}{Q:α→Shared→Prop}(h:wpN M A m Q E s):wpN M A (m.keep vs) Q E s:=
 fun Γ p hΓ hc=>by rw [Sem.wp_keep];exact h Γ p hΓ hc
theorem Lk{f:Value}{args:List (Bool×Sem Value)}{Q:Args→Shared→Prop}(hp:args.all (fun x=>!x.1)=true)(h:wpN M A (spliced args) (fun vs s'=>Q ⟨vs,[]⟩ s') E s):wpN M A (evalArgs f true args []) Q E s:=by
 have key:∀ (t:Sem Args),t=(spliced args>>=fun vs=>holding (vs++[]) (evalAll []>>=fun l=>pure vs>>=fun v=>pure ⟨v,([]:List Str).zip l⟩))→wpN M A t Q E s:=by
  rintro t rfl
  exact Aa (Bk h fun vs s' h'=>Ad (Aa (Ac (Aa (Ac (Ac h'))))))
 cases args with
 | nil=>exact key _ rfl
 | cons a r=>
  obtain ⟨b,x⟩:=a
  cases b with
  | true=>exact Bool.noConfusion hp
  | false=>cases r<;>exact key _ rfl
theorem Hk{pos:Pos}{f:Value}{first:List Value}{args:List (Bool×Sem Value)}{Q:Value→Shared→Prop}
  (h:wpN M A (evalArgs f true args []) (fun a s₁=>(∀ Q':Keeper→Shared→Prop,(∀ k,Q' k s₁)→wpAny M A (keeperOf f) Q' E s₁)∧wpN M A (call f (first++a.pos) a.kw) Q E s₁) E s):wpN M A (callWith pos f first args []) Q E s:=by
 unfold callWith
 refine Aa (Ad (Bk h fun a s₁ h₁=>Ab (wpAny_standAt ?_)))
 refine Aa (Af (h₁.1 _ fun k=>?_))
 have go:wpN M A (call f (first++a.pos) a.kw) (fun r s'=>wpN M A (holding [r] point>>=fun zA=>pure r) Q E s') E s₁:=Bk h₁.2 fun r s' hr=>Ab (wpAny_holding (wpAny_point (Ac hr)))
 dsimp only
 generalize (args.any (·.1)||([]:List (Option Str×Sem Value)).any (·.1.isNone))=st
 cases k with
 | frame=>cases st with
  | true=>exact Aa (Pd go)
  | false=>exact Bv (fun zA=>Aa go) fun zA=>Aa (Pd go)
 | boundFrame=>cases st with
  | true=>exact Aa (Bl go)
  | false=>exact Bv (fun zA=>Aa go) fun zA=>Aa (Pd go)
 | machine=>cases st with
  | true=>exact Aa (Bl go)
  | false=>exact Aa go
 | caller=>cases st<;>exact Aa (Bl go)
end
theorem C8{M:Model}{A:Around}{E:Value→Shared→Prop}{s:Shared}{f:Value}(h:∀ a,f≠.ref a){Q:Keeper→Shared→Prop}(hq:∀ k,Q k s):wpAny M A (keeperOf f) Q E s:=by
 cases f<;>first|exact absurd rfl (h _)|exact wpAny_pure (hq _)
theorem Qw{c:Cfg}{A:Around}{E:Value→Shared→Prop}{g:Sg}{a:Addr}(S:SO c g)(h:uu c a){Q:Keeper→Shared→Prop}(hq:∀ k,Q k g.s):wpAny c.M A (keeperOf (.ref a)) Q E g.s:=by
 refine x22 h fun o fd ho hd=>?_
 unfold keeperOf
 refine wpAny_bind (wpAny_load (S.stat.K _ _ ho) ?_)
 rw [hd]
 exact wpAny_pure (hq _)
section
variable {X:Xc} {f:Fm} {ν:Nu} {g:Sg}
theorem Ll:∀ {es:MEs} {cx:Cx} {xs:List Expr},Dv X.nm es cx xs→∀ (pos:Pos) (env:Env),(backTo pos (starEach xs env)).all (fun x=>!x.1)=true
 | .nil,cx,xs,h,pos,env=>h (fun xs=>(backTo pos (starEach xs env)).all (fun x=>!x.1)=true) rfl
 | .cons e es,cx,xs,h,pos,env=>h (fun xs=>(backTo pos (starEach xs env)).all (fun x=>!x.1)=true) fun x r hs zA h2=>by
  rw [Qv hs]
  exact Ll h2 pos env
theorem X9{es:MEs}(h:LS X es){xs:List Expr}(hc:Dv X.nm es f.cx xs)(S:Si X f ν g){K:KL}(he:evs X.tb X.Φ es ν g.H K){pos:Pos}{fv:Value}{first:List Value}(hk:∀ g',Go X.c g g'→∀ Q':Keeper→Shared→Prop,(∀ k,Q' k g'.s)→wpAny X.c.M f.A (keeperOf fv) Q' FF g'.s){Q:Value→Shared→Prop}
  (hQ:∀ vs zs g',K vs g'.H→Go X.c g g'→VRs g' vs zs→Wn X f.A (call fv (first++zs)) Q g'.s):Wn X f.A (callWith pos fv first (backTo pos (starEach xs f.env)) []) Q g.s:=
 Hk (Lk (Ll hc pos f.env) (h f ν g xs K hc S he pos _ fun vs zs g' k t r=>⟨hk g' t,hQ vs zs g' k t r⟩))
theorem u9(F:Fx X){fn:Addr}{es:MEs}(h:LS X es):ES X (.call fn es):=fun f ν g x K hx S he Q hQ=>hx (fun x=>Wn X f.A (eval x f.env) Q g.s) fun y q xs p h1 h2 h3=>
 (F.fns y fn (eq_of_beq h1)).elim fun hg hf=>
  show Wn X f.A (eval (.Name y q) f.env>>=fun fv=>callWith p fv [] (backTo p (starEach xs f.env)) []) Q g.s from
  Ab (Qu F h2 (.inl hg) S (X9 h h3 S (K:=fun vs H1=>X.Φ fn vs H1 K) he (fun g' t Q' q=>Qw t.st hf q) fun vs zs g' k t r=>F.snd.call k (S.room.mono (Nat.le_succ _)) t.st r (hQ.then t)))
end
theorem Pe(i:Int)(t:Tok)(ps:List (Int×Tok)):intItems ((i,t)::ps).toArray=(Value.int i t::(intItems ps.toArray).toList).toArray:=by
 simp only [intItems,List.map_toArray,List.map_cons]
theorem Ae.ints{X:Addr→Prop}{ρ:Rho}{T:Nat}{h:Heap}:∀ {vs:List V} {xs:List Value} {is:List Int},Ae X ρ T h vs xs→Ct vs=some is→IntsAre xs is∧∃ ps:List (Int×Tok),xs.toArray=intItems ps.toArray∧ps.map (·.1)=is
 | [],xs,is,r,e=>Ae.nil_E r (Option.some.inj e▸⟨.nil,[],by simp only [intItems,List.map_toArray,List.map_nil],rfl⟩)
 | v::vs,xs,is,r,e=>Pb (P:=fun v is=>Ae X ρ T h (v::vs) xs→IntsAre xs is∧∃ ps:List (Int×Tok),xs.toArray=intItems ps.toArray∧ps.map (·.1)=is) e (fun a js q r=>Ae.cons_E r fun y ys p r=>p.int_E fun t=>by
   obtain ⟨h1,ps,h2,h3⟩:=Ae.ints r q
   exact ⟨.cons _ _ h1,(a,t)::ps,by rw [Pe,←h2],congrArg (a :: ·) h3⟩) r
theorem k7{X:Addr→Prop}{ρ:Rho}{T:Nat}{h:Heap}{xs:List Value}{is:List Int}(r:IntsAre xs is):Ae X ρ T h (is.map .int) xs:=by
 induction r with
 | nil=>exact .nil
 | cons _ _ _ ih=>exact .cons (.int _ _) ih
theorem Eh(ps:List (Int×Tok))(i:Nat):numAt ps.toArray i=(ps.map (·.1)).getD i 0:=by
 simp only [numAt,List.getD_eq_getElem?_getD,List.getElem?_map,List.getElem?_toArray]
theorem Lm(l:List Int):∀ n,n≤l.length→preSum (fun i=>l.getD i 0) n=(l.take n).sum
 | 0,_=>rfl
 | n+1,h=>by
  rw [preSum,Lm l n (Nat.le_of_succ_le h),List.take_succ_eq_append_getElem h,List.sum_append,List.sum_cons,List.sum_nil,List.getD_eq_getElem?_getD,List.getElem?_eq_getElem h,Option.getD_some,Int.add_zero]
theorem Qx:∀ (l:List Int),(l.all fun i=>decide (i.natAbs<1099511627776))=true→l.sum.natAbs≤l.length*1099511627776
 | [],_=>Nat.le_refl _
 | a::l,h=>by
  have h2:=Qx l (Bool.and_eq_true_iff.mp h).2
  have h1:=od9 (Bool.and_eq_true_iff.mp h).1
  rw [List.sum_cons,List.length_cons,Nat.succ_mul]
  exact Nat.le_trans (Int.natAbs_add_le a l.sum) (Nat.le_trans (Nat.add_le_add (Nat.le_of_lt h1) h2) (Nat.le_of_eq (Nat.add_comm _ _)))
theorem k8{ns is:List Int}(hp:ns.Perm is)(hs:ns.Pairwise (·≤·)):ns=Gn is:=by
 delta Gn
 have h2:(is.mergeSort (fun a b=>decide (a≤b))).Pairwise (fun a b=>decide (a≤b)=true):=List.pairwise_mergeSort (le:=fun a b=>decide (a≤b)) (fun a b c h h'=>dq9 (Int.le_trans (od9 h) (od9 h'))) (fun a b=>by
  rcases Int.le_total a b with h|h
  ·rw [dq9 h];rfl
  ·rw [dq9 h,Bool.or_true]) is
 exact List.Perm.eq_of_pairwise (le:=fun a b=>a≤b) (fun a b zA zB h h'=>Int.le_antisymm h h') hs (h2.imp fun h=>od9 h) (hp.trans (List.mergeSort_perm _ _).symm)
section
variable {prog:Program} {w:World} {A:Around} {E:Value→Shared→Prop} {s:Shared} {Q:Value→Shared→Prop}
noncomputable def Ln(a b c:UInt64)(i:Nat):UInt64:=match i with|0=>a|1=>b|_=>c
noncomputable abbrev fl3(a b c:UInt64)(t u x:Tok):Array Value:=#[Value.float a t,.float b u,.float c x]
theorem Lo{a b c:UInt64}{t u x:Tok}{i:Nat}{v:Value}(h:(fl3 a b c t u x)[i]?=some v):∃ t',v=.float (Ln a b c i) t'∧(t'=t∨t'=u∨t'=x):=by
 match i,h with
 | 0,h=>exact ⟨_,(Option.some.inj h).symm,.inl rfl⟩
 | 1,h=>exact ⟨_,(Option.some.inj h).symm,.inr (.inl rfl)⟩
 | 2,h=>exact ⟨_,(Option.some.inj h).symm,.inr (.inr rfl)⟩
noncomputable def vc(f:UInt64→UInt64→Bool)(a b c:UInt64):UInt64:=bif f c (bif f b a then b else a) then c else bif f b a then b else a
theorem k9(f:UInt64→UInt64→Bool)(a b c:UInt64):Ln a b c (argBest (fun i j=>f (Ln a b c i) (Ln a b c j)) 2)=vc f a b c:=by
 have e1:argBest (fun i j=>f (Ln a b c i) (Ln a b c j)) 1=if f b a=true then 1 else 0:=rfl
 have e2:argBest (fun i j=>f (Ln a b c i) (Ln a b c j)) 2=if f c (Ln a b c (argBest (fun i j=>f (Ln a b c i) (Ln a b c j)) 1))=true then 2 else argBest (fun i j=>f (Ln a b c i) (Ln a b c j)) 1:=rfl
 rw [e2,e1]
 unfold vc
 cases h1:f b a
 ·cases h2:f c a
  ·rw [if_neg Bool.false_ne_true,show Ln a b c 0=a from rfl,h2,if_neg Bool.false_ne_true];exact (by rw [show (bif false then b else a)=a from rfl,h2];rfl)
  ·rw [if_neg Bool.false_ne_true,show Ln a b c 0=a from rfl,h2,if_pos rfl];exact (by rw [show (bif false then b else a)=a from rfl,h2];rfl)
 ·cases h2:f c b
  ·rw [if_pos rfl,show Ln a b c 1=b from rfl,h2,if_neg Bool.false_ne_true];exact (by rw [show (bif true then b else a)=b from rfl,h2];rfl)
  ·rw [if_pos rfl,show Ln a b c 1=b from rfl,h2,if_pos rfl];exact (by rw [show (bif true then b else a)=b from rfl,h2];rfl)
theorem N7{op:CmpOp}{f:UInt64→UInt64→Bool}{a b c:UInt64}{t u x:Tok}(hh:A.handled=none)(hc:CmpOf prog w A.in1 op (fun i v=>(fl3 a b c t u x)[i]?=some v) (fun i j=>f (Ln a b c i) (Ln a b c j)))
  (h:∀ h' tk t',(∀ d o,s.heap.get? d=some o→h'.get? d=some o)→(t'=t∨t'=u∨t'=x)→Q (.float (vc f a b c) t') {s with heap:=h',toks:=tk}) :
  wpAny (model prog w) A.in1 (pyIter (.ref s.heap.objs.size)) (fun it s₂=>∃ I fp wr n P St bt,it=.ref I∧Walks prog w A.in1 I fp wr n P St∧St 0 s₂.heap∧(∀ b∈fp,b<s₂.heap.objs.size)∧0<n∧CmpOf prog w A.in1 op P bt∧
   ∀ v h' tk,P (argBest bt (n-1)) v→(∀ b o,b∉wr→s₂.heap.get? b=some o→h'.get? b=some o)→Q v {s₂ with heap:=h',toks:=tk}) E {s with heap:=s.heap.push {cls:=.type "tuple",data:=.seq (fl3 a b c t u x)}}:=by
 have hT:(s.heap.push {cls:=.type "tuple",data:=.seq (fl3 a b c t u x)}).IsTuple s.heap.objs.size (fl3 a b c t u x):=⟨_,Heap.get?_push_size _ rfl,rfl,0,rfl⟩
 have hsz:(s.heap.push {cls:=.type "tuple",data:=.seq (fl3 a b c t u x)}).objs.size=s.heap.objs.size+1:=Heap.size_push ..
 have hne:s.heap.objs.size≠(s.heap.push {cls:=.type "tuple",data:=.seq (fl3 a b c t u x)}).objs.size:=hsz▸Nat.ne_of_lt (Nat.lt_succ_self _)
 refine wpAny_pyIter_tuple hT ⟨_,[_,s.heap.objs.size],[_],_,_,_,_,rfl,Walks.tuple (A:=A.in1) hh _ s.heap.objs.size hne (fl3 a b c t u x),⟨⟨_,Heap.get?_push_size _ rfl,rfl,rfl⟩,hT.push _⟩,fun d hd=>?_,(by decide:0<3),hc,fun v h' tk hP hk=>?_⟩
 ·show d<((s.heap.push _).push _).objs.size
  rw [Heap.size_push]
  rcases List.mem_cons.mp hd with rfl|hd
  ·exact Nat.lt_succ_self _
  ·rw [List.mem_singleton.mp hd,hsz];exact Nat.lt_succ_of_lt (Nat.lt_succ_self _)
 ·refine x12 (Lo hP) fun t' e ht=>?_
  rw [e,show (fl3 a b c t u x).size-1=2 from rfl,k9]
  refine h h' tk t' (fun d o e=>hk d o (fun hm=>?_) (Heap.get?_push_of_some _ (Heap.get?_push_of_some _ e))) ht
  have:=Heap.lt_size e
  rw [List.mem_singleton.mp hm,hsz] at this
  exact Nat.lt_irrefl _ (Nat.lt_of_succ_lt this)
theorem vd{a b c:UInt64}{t u x:Tok}:CmpOf prog w A .Gt (fun i v=>(fl3 a b c t u x)[i]?=some v) (fun i j=>(fun x y=>At x y==some Ordering.gt) (Ln a b c i) (Ln a b c j)):=fun i j vi vj s Q E hi hj h=>(Lo hi).elim fun t e=>(Lo hj).elim fun u e'=>by
 rw [e.1,e'.1]
 exact AutoFloatOps.gt_0 (O8 _ _▸h)
theorem ve{a b c:UInt64}{t u x:Tok}:CmpOf prog w A .Lt (fun i v=>(fl3 a b c t u x)[i]?=some v) (fun i j=>(fun x y=>At x y==some Ordering.lt) (Ln a b c i) (Ln a b c j)):=fun i j vi vj s Q E hi hj h=>(Lo hi).elim fun t e=>(Lo hj).elim fun u e'=>by
 rw [e.1,e'.1]
 exact AutoFloatOps.lt_0 (O8 _ _▸h)
end
noncomputable def biV:Bi→Value
 | .len=>.builtin "len" | .min=>.builtin "min" | .max=>.builtin "max" | .sum=>.builtin "sum" | .abs=>.builtin "abs" | .round=>.builtin "round" | .sorted=>.builtin "sorted"
 | .isinst=>.builtin "isinstance" | .bytes=>.type "bytes" | .bytearray=>.type "bytearray" | .list=>.type "list" | .str=>.type "str"
section
variable {X:Xc} {A:Around} {g:Sg} {xs:List Value}
@[elab_as_elim] theorem one_E{vs:List V}{k:V→Prop}{C:List V→Prop}(h:one vs k)(f:∀ v,k v→C [v]):C vs:=by
 cases vs with
 | nil=>exact h.elim
 | cons v r=>cases r with
  | nil=>exact f v h
  | cons=>exact h.elim
@[elab_as_elim] theorem Ae.one_E{v:V}{P:List Value→Prop}(r:VRs g [v] xs)(f:∀ x,VR g v x→P [x]):P xs:=Ae.cons_E r fun x ys p q=>Ae.nil_E q (f x p)
theorem Hl{P:Value→Shared→Prop}{v:V}{K:KE}{t:Sem Value}{Q:Value→Shared→Prop}(F:Fx X)(S:SO X.c g)(h:wpAny X.c.M A t (fun z s'=>Gro g.s s'∧P z s') FF g.s)(hk:K v g.H)(hQ:Hd X g K Q)(hr:∀ z s',Au g.s s'→P z s'→VR (g.to s') v z):Wn X A t Q g.s:=
 Af (Cg (P:=fun z s'=>Gro g.s s'∧P z s') h fun z s' p htk=>hQ v z (g.to s') hk (.grow F.ok S (p.1.up htk)) (hr z s' (p.1.up htk) p.2))
theorem Abl(F:Fx X)(R:Eb A (X.d+1))(S:SO X.c g){v:V}{x:Value}{K:KE}(e:Af6 X.tb X.Φ v g.H fun i=>K (.int i) g.H)(r:VR g v x){Q:Value→Shared→Prop}(hQ:Hd X g K Q):Wn X A (call (.builtin "len") [x]) Q g.s:=by
 have two:Au g.s {g.s with toks:=g.s.toks+1+1}:=(Au.succ _).trans (Au.succ _)
 have fin:∀ n:Nat,K (.int (n:Int)) g.H→Q (.int (n:Int) (g.s.toks+1)) {g.s with toks:=g.s.toks+1+1}:=fun n k=>hQ _ _ (g.to _) k (.grow F.ok S two) (.int _ _)
 have lst:∀ {l:List V} {ad:Addr} {ys:List Value} {m:Nat},gd (decide (l.length≤Ah)) (K (.int l.length) g.H)→g.s.heap.get? ad=some (Dy ys.toArray m)→VRs g l ys→Wn X A (call (.builtin "len") [.ref ad]) Q g.s:=fun {l ad ys m} e p2 p3=>by
  refine Af (Calls.call_len_list ⟨_,p2,rfl,_,rfl⟩ (by rw [List.size_toArray,←p3.length];exact Qq e.1) ?_)
  rw [List.size_toArray,←p3.length]
  exact fin _ e.2
 cases v<;>try exact e.elim
 case str i=>exact r.str_E fun t=>Af (P.len_str (Int.not_le.mpr (Qq e.1)) (fin _ e.2))
 case bytes i=>exact r.bytes_E fun t=>Af (len_bytes (Nat.le_trans (od9 e.1) (by decide)) (fin _ e.2))
 case lst l=>exact r.lst_E fun ad ys m zA p2 p3=>lst e p2 p3
 case tup l=>
  exact r.tup_E fun ad ys zA p2 p3=>by
   refine Af (len_tuple ⟨_,p2,rfl,_,rfl⟩ (by rw [List.size_toArray,←p3.length];exact Qq e.1) ?_)
   rw [List.size_toArray,←p3.length]
   exact fin _ e.2
 case loc n=>
  have e:(match g.H[n]? with|some (.lst l)=>gd (decide (l.length≤Ah)) (K (.int l.length) g.H)|some (.inst C _ _)=>Xx X.tb X.Φ n C g.H fun i=>K (.int i) g.H|_=>False):=e
  cases hn:g.H[n]? with
  | none=>rw [hn] at e;exact e.elim
  | some o=>
   rw [hn] at e
   cases o<;>try exact e.elim
   case lst l=>exact r.loc_E fun a d e1=>(S.heap.lst e1 hn).elim fun ys q=>q.elim fun m q=>lst e q.1 q.2
   case inst C at_ items=>exact kx F R S hn e r fun i t g' k e2 t'=>hQ _ _ g' (by rw [e2];exact k) t' (.int _ _)
theorem bo{v:V}{x:Value}{k:List V→List Int→Prop}(e:ka v k)(r:VR g v x){P:Value→Prop}(f:∀ l is ad ys m (ps:List (Int×Tok)),k l is→g.s.heap.get? ad=some (Dy ys.toArray m)→ys.length=l.length→is.length=l.length→IntsAre ys is→ys.toArray=intItems ps.toArray→ps.map (·.1)=is→P (.ref ad)):P x:=
 Lc (C:=fun v=>VR g v x→P x) e (fun l e r=>B4 e fun is hi e=>r.lst_E fun ad ys m zA p2 p3=>(Ae.ints p3 hi).elim fun h1 h2=>h2.elim fun ps h2=>f l is ad ys m ps e p2 p3.length.symm (N2 hi).symm h1 h2.1 h2.2) r
theorem bp(F:Fx X)(R:Eb A (X.d+1))(S:SO X.c g)(gt:Bool){vs:List V}{K:KE}(e:uc gt vs fun v=>K v g.H)(r:VRs g vs xs){Q:Value→Shared→Prop}(hQ:Hd X g K Q):Wn X A (call (.builtin (bif gt then "max" else "min")) xs) Q g.s:=by
 match vs,e,r with
 | [v],e,r=>
  refine r.one_E fun x r=>bo (P:=fun x=>Wn X A (call (.builtin (bif gt then "max" else "min")) [x]) Q g.s) e r fun l is ad ys m ps k p2 hl hl2 hI hps hps2=>B4 k.2 fun i hi k2=>?_
  have hpl:ps.length=is.length:=by rw [←hps2,List.length_map]
  have hL:g.s.heap.IsList ad (intItems ps.toArray):=⟨_,p2,rfl,_,by rw [←hps]⟩
  have h0:0<ps.toArray.size:=by rw [List.size_toArray,hpl,hl2];exact od9 k.1
  have fin:∀ (b:Nat→Nat→Bool),is[argBest b (is.length-1)]?=some i→∀ z,(intItems ps.toArray)[argBest b (ps.toArray.size-1)]?=some z→∃ t,z=.int i t:=fun b hb z hz=>by
   refine x11 (intItems_at hz) fun t ht=>?_
   refine ⟨t,?_⟩
   rw [ht,Eh,hps2,List.size_toArray,hpl,List.getD_eq_getElem?_getD,hb];rfl
  cases gt with
  | true=>
   refine Hl F S (P:=fun z zA=>∃ t,z=.int i t) (max_intList R.handled hL h0 fun v h' tk hv kk=>⟨Gro.of kk,?_⟩) k2 hQ fun z s' zA h=>h.elim fun t e=>e▸.int _ _
   have e3:(fun i j=>decide (numAt ps.toArray i>numAt ps.toArray j))=fun i j=>decide (is.getD i 0>is.getD j 0):=by
    funext i j;rw [Eh,Eh,hps2]
   rw [e3] at hv
   exact fin _ (show is[argBest (fun i j=>decide (is.getD i 0>is.getD j 0)) (is.length-1)]?=some i from hi) _ hv
  | false=>
   refine Hl F S (P:=fun z zA=>∃ t,z=.int i t) (min_intList R.handled hL h0 fun v h' tk hv kk=>⟨Gro.of kk,?_⟩) k2 hQ fun z s' zA h=>h.elim fun t e=>e▸.int _ _
   have e3:(fun i j=>decide (numAt ps.toArray i<numAt ps.toArray j))=fun i j=>decide (is.getD i 0<is.getD j 0):=by
    funext i j;rw [Eh,Eh,hps2]
   rw [e3] at hv
   exact fin _ (show is[argBest (fun i j=>decide (is.getD i 0<is.getD j 0)) (is.length-1)]?=some i from hi) _ hv
 | [v,u],e,r=>
  refine Ae.cons_E r fun x ys r1 r2=>Ae.one_E r2 fun y r2=>?_
  exact A7 (C:=fun v=>VR g v x→_) e (fun a e r1=>A7 (C:=fun u=>VR g u y→_) e (fun b e r2=>r1.int_E fun t=>r2.int_E fun t'=>by
   cases gt with
   | true=>exact Hl F S (P:=fun z zA=>∃ t,z=.int (if b>a then b else a) t) (max_two_ints R.handled fun h' tk k=>⟨Gro.of k,by split<;>exact ⟨_,rfl⟩⟩) e hQ fun z s' zA h=>h.elim fun t e=>e▸.int _ _
   | false=>exact Hl F S (P:=fun z zA=>∃ t,z=.int (if b<a then b else a) t) (min_two_ints R.handled fun h' tk k=>⟨Gro.of k,by split<;>exact ⟨_,rfl⟩⟩) e hQ fun z s' zA h=>h.elim fun t e=>e▸.int _ _) r2) r1
 | [v,u,w],e,r=>
  refine Ae.cons_E r fun x ys r1 r2=>Ae.cons_E r2 fun y ys r2 r3=>Ae.one_E r3 fun z r3=>?_
  exact Hi (C:=fun v=>VR g v x→_) e (fun a e r1=>Hi (C:=fun u=>VR g u y→_) e (fun b e r2=>Hi (C:=fun w=>VR g w z→_) e (fun c e r3=>r1.flt_E fun t1 p1 q1=>r2.flt_E fun t2 p2 q2=>r3.flt_E fun t3 p3 q3=>by
   have ok:∀ t',(t'=t1∨t'=t2∨t'=t3)→0<t'∧t'<g.s.toks:=fun t' h=>h.elim (fun h=>h▸⟨p1,q1⟩) fun h=>h.elim (fun h=>h▸⟨p2,q2⟩) fun h=>h▸⟨p3,q3⟩
   have fin:∀ {v:UInt64} (z:Value) (s':Shared),Au g.s s'→(∃ t,z=.float v t∧0<t∧t<g.s.toks)→VR (g.to s') (.flt v) z:=fun z s' gr h=>h.elim fun t e=>e.1▸.flt _ e.2.1 (Nat.lt_of_lt_of_le e.2.2 gr.tk)
   cases gt with
   | true=>exact Hl F S (P:=fun z zA=>∃ t,z=.float (Ke a b c) t∧0<t∧t<g.s.toks) (call_max_three (N7 (op:=.Gt) (f:=fun x y=>At x y==some Ordering.gt) (Q:=fun z s'=>Gro g.s s'∧∃ t,z=.float (Ke a b c) t∧0<t∧t<g.s.toks) (prog:=X.c.prog) (w:=X.c.w) (E:=FF) (s:=g.s) (a:=a) (b:=b) (c:=c) (t:=t1) (u:=t2) (x:=t3) R.handled vd fun h' tk t' k ht=>⟨Gro.of k,t',rfl,ok t' ht⟩)) e hQ fin
   | false=>exact Hl F S (P:=fun z zA=>∃ t,z=.float (Kf a b c) t∧0<t∧t<g.s.toks) (call_min_three (N7 (op:=.Lt) (f:=fun x y=>At x y==some Ordering.lt) (Q:=fun z s'=>Gro g.s s'∧∃ t,z=.float (Kf a b c) t∧0<t∧t<g.s.toks) (prog:=X.c.prog) (w:=X.c.w) (E:=FF) (s:=g.s) (a:=a) (b:=b) (c:=c) (t:=t1) (u:=t2) (x:=t3) R.handled ve fun h' tk t' k ht=>⟨Gro.of k,t',rfl,ok t' ht⟩)) e hQ fin) r3) r2) r1
end
theorem N8{X:Addr→Prop}{ρ:Rho}{T:Nat}{h:Heap}:∀ (l:List UInt8) (ys:List Value),(∀ (i:Nat) (v:Value),ys[i]?=some v→∃ (c:UInt8) (u:Tok),l[i]?=some c∧v=Value.int (c.toNat:Int) u)→ys.length=l.length→Ae X ρ T h (l.map fun x=>V.int x.toNat) ys
 | [],[],_,_=>.nil
 | [],_::_,_,e=>Nat.noConfusion e
 | _::_,[],_,e=>Nat.noConfusion e
 | a::l,y::ys,h,e=>(h 0 y rfl).elim fun c q=>q.elim fun u q=>by
  rw [q.2,←Option.some.inj q.1]
  exact .cons (.int _ _) (N8 l ys (fun i v e=>h (i+1) v e) (Nat.succ.inj e))
section
variable {X:Xc} {A:Around} {g:Sg} {xs:List Value}
theorem lc(fx:Fx X)(R:Eb A (X.d+1))(S:SO X.c g){v:V}{x:Value}{K:KE}(e:match v with
  | .lst l=>opt (Ct l) fun is=>gd (decide (l.length≤1000)) (gd (is.all fun i=>decide (0≤i)&&decide (i<256)) (K (.bytes (byteArr is)) g.H))
  | .loc n=>j8 g.H n fun b=>gd (decide (b.size≤1000)) (K (.bytes b) g.H)
  | _=>False) (r:VR g v x) {Q:Value→Shared→Prop} (hQ:Hd X g K Q):Wn X A (call (.type "bytes") [x]) Q g.s:=by
 cases v<;>try exact e.elim
 case lst l=>exact B4 e fun is hi e=>r.lst_E fun ad ys m zA p2 p3=>Hl fx S (P:=fun z zA=>∃ t,z=.bytes (byteArr is) t) (call_bytes_ints ⟨_,p2,rfl,_,rfl⟩ (Ae.ints p3 hi).1 (fun i h=>Ak (List.all_eq_true.mp e.2.1 i h) fun h1 h2=>⟨od9 h1,od9 h2⟩) (G4 p3 e.1) R.handled fun h' t k kk=>⟨Gro.of kk,_,rfl⟩) e.2.2 hQ fun z s' zA h=>h.elim fun t e=>e▸.bytes _ _
 case loc n=>
  have e:(match g.H[n]? with|some (Ob.barr b)=>gd (decide (b.size≤1000)) (K (.bytes b) g.H)|_=>False):=e
  cases hn:g.H[n]? with
  | none=>rw [hn] at e;exact e.elim
  | some o=>
   rw [hn] at e
   cases o<;>try exact e.elim
   case barr b=>exact r.loc_E fun a d e1=>Hl fx S (P:=fun z zA=>∃ t,z=.bytes b t) (Nl (S.heap.obj _ _ _ e1 hn).2 (od9 e.1) fun t k=>⟨Gro.tok _ _,_,rfl⟩) e.2 hQ fun z s' zA h=>h.elim fun t e=>e▸.bytes _ _
theorem lf(fx:Fx X){b:Bi}{vs:List V}{K:KE}(R:Eb A (X.d+1))(S:SO X.c g)(e:V5 X.tb X.Φ b vs g.H K)(r:VRs g vs xs){Q:Value→Shared→Prop}(hQ:Hd X g K Q):Wn X A (call (biV b) xs) Q g.s:=by
 cases b
 case len=>exact one_E (C:=fun vs=>VRs g vs xs→_) e (fun v e r=>r.one_E fun x r=>Abl fx R S e r hQ) r
 case min=>exact bp fx R S false e r hQ
 case max=>exact bp fx R S true e r hQ
 case sum=>
  exact one_E (C:=fun vs=>VRs g vs xs→_) e (fun v e r=>r.one_E fun x r=>bo (P:=fun x=>Wn X A (call (biV .sum) [x]) Q g.s) e r fun l is ad ys m ps k p2 hl hl2 hI hps hps2=>by
   have hpl:ps.length=is.length:=by rw [←hps2,List.length_map]
   have e3:numAt ps.toArray=fun i=>is.getD i 0:=by funext i;rw [Eh,hps2]
   refine Hl fx S (P:=fun z zA=>∃ t,z=.int is.sum t) (sum_intList (xs:=ps.toArray) R.handled ⟨_,p2,rfl,_,by rw [←hps]⟩ (fun j hj=>?_) fun h' tk t' k=>⟨Gro.of k,t',?_⟩) k.2.2 hQ fun z s' zA h=>h.elim fun t e=>e▸.int _ _
   ·rw [e3]
    have hj:j<is.length:=by rw [←hpl];exact hj
    rw [Lm is (j+1) hj]
    have b1:(is.getD j 0).natAbs<1099511627776:=by
     rw [List.getD_eq_getElem?_getD,List.getElem?_eq_getElem hj]
     exact od9 (List.all_eq_true.mp k.2.1 _ (List.getElem_mem hj))
    have b2:=Qx (is.take (j+1)) (List.all_eq_true.mpr fun i hi=>List.all_eq_true.mp k.2.1 i (List.mem_of_mem_take hi))
    have b3:(is.take (j+1)).length≤1000:=by have:=od9 k.1;rw [List.length_take];lia
    have b4:(is.take (j+1)).length*1099511627776≤1000*1099511627776:=Nat.mul_le_mul_right _ b3
    exact ⟨⟨by dsimp only;lia,by dsimp only;lia⟩,by lia,by lia⟩
   ·rw [e3,List.size_toArray,hpl,Lm _ _ (Nat.le_refl _),List.take_length]) r
 case abs=>exact one_E (C:=fun vs=>VRs g vs xs→_) e (fun v e r=>r.one_E fun x r=>A7 (C:=fun v=>VR g v x→_) e (fun a e r=>r.int_E fun t=>Hl fx S (P:=fun z zA=>∃ t,z=.int (if a<0 then -a else a) t) (call_abs_int fun u tk=>⟨Gro.tok _ _,_,rfl⟩) e hQ fun z s' zA h=>h.elim fun t e=>e▸.int _ _) r) r
 case sorted=>
  exact one_E (C:=fun vs=>VRs g vs xs→_) e (fun v e r=>r.one_E fun x r=>bo (P:=fun x=>Wn X A (call (biV .sorted) [x]) Q g.s) e r fun l is ad ys m ps k p2 hl hl2 hI hps hps2=>by
   refine Hl fx S (P:=fun z s'=>∃ out k,z=.ref (g.s.heap.objs.size+1)∧s'.heap.get? (g.s.heap.objs.size+1)=some (Dy out k)∧IntsAre out.toList (Gn is)) (sorted_ints ⟨_,p2,rfl,_,rfl⟩ hI (by rw [hl];exact od9 k.1) fun out ns' a1 a2 a3=>⟨Gro.of' fun zA zB=>sortedAll_old,out,?_⟩) k.2 hQ fun z s' gr h=>?_
   ·obtain ⟨e,he⟩:=sortedAll_at g.s.heap _ out
    exact ⟨e,rfl,he,k8 a2 a3▸a1⟩
   ·refine x23 h fun out k zz2 h1 h2=>?_;subst zz2
    refine .lst (xs:=out.toList) (n:=k) (fun m=>?_) h1 (k7 h2)
    exact (S.mutEx m).elim fun o ho=>absurd (Heap.lt_size ho) (Nat.not_lt.mpr (Nat.le_succ _))) r
 case isinst=>
  match vs,e,r with
  | [v,u],e,r=>
   exact Ae.cons_E r fun x ys r1 r2=>Ae.one_E r2 fun y r2=>ae (C:=fun v=>VR g v x→_) e (fun b e r1=>r1.bytes_E fun t=>by
    cases u<;>try exact e.elim
    case stat u=>
     have h:=eq_of_beq e.1
     subst h
     exact r2.stat_E (Af (call_isinstance (isinstance_true (Tx:= "bytes") F.isi_meta_bytes (by rw [isSubtype_type];kernel_rfl)) ⟨rfl,hQ _ _ g e.2 (.refl S) (.bool _)⟩))) r1
 case bytes=>exact one_E (C:=fun vs=>VRs g vs xs→_) e (fun v e r=>r.one_E fun x r=>lc fx R S e r hQ) r
 case bytearray=>
  exact one_E (C:=fun vs=>VRs g vs xs→_) e (fun v e r=>r.one_E fun x r=>A7 (C:=fun v=>VR g v x→_) e (fun n e r=>r.int_E fun t=>by
   refine Bk (Ez (kh (E:=FF) (Q:=fun z s'=>Gro g.s s'∧z=.ref g.s.heap.objs.size∧s'.heap.get? g.s.heap.objs.size=some (O1 (Array.replicate n.toNat 0))) (BA.call_ok (od9 e.1) (od9 e.2.1) fun h' tk hh kk=>⟨Gro.of kk,rfl,hh⟩)) (fun zA zB q=>q) fun zA zB q=>q.2) fun z s' q=>?_
   refine x04 q fun k gr e' hh=>?_
   subst e'
   have n:=Go.new fx S (ob:=Ob.barr (Array.replicate n.toNat 0)) (gr.up k) (Eg _) ⟨_,hh⟩ fun zA=>⟨rfl,hh⟩
   exact hQ _ _ _ e.2.2 n.1 n.2) r) r
 case list=>
  exact one_E (C:=fun vs=>VRs g vs xs→_) e (fun v e r=>r.one_E fun x r=>ae (C:=fun v=>VR g v x→_) e (fun b e r=>r.bytes_E fun t=>by
   refine Hl fx S (P:=fun z s'=>z=.ref g.s.heap.objs.size∧∃ acc k,s'.heap.get? g.s.heap.objs.size=some (Dy acc k)∧ItemsOf (fun i v=>∃ c u,b[i]?=some c∧v=Value.int (c.toNat:Int) u) acc b.size) (K9 R.handled b t (od9 e.1) fun h' tk acc' c' kk hh hi=>⟨Gro.of kk,rfl,_,_,hh,hi⟩) e.2 hQ fun z s' gr h=>?_
   obtain ⟨e',acc,k,hh,hi⟩:=h
   subst e'
   refine .lst (xs:=acc.toList) (n:=k) (fun m=>(S.mutEx m).elim fun o ho=>absurd (Heap.lt_size ho) (Nat.lt_irrefl _)) hh (N8 b.toList acc.toList (fun i v q=>?_) hi.1)
   obtain ⟨c',u,q1,q2⟩:=hi.2 i v (by rw [←Array.getElem?_toList];exact q)
   exact ⟨c',u,by rw [Array.getElem?_toList];exact q1,q2⟩) r) r
 case str=>
  exact one_E (C:=fun vs=>VRs g vs xs→_) e (fun v e r=>r.one_E fun x r=>Fk (C:=fun v=>VR g v x→_) e (fun n e r=>by
   have e:(match g.H[n]? with|some (.inst C a l)=>opt (X.tb.strOf C) fun f=>X.Φ f [.loc n] g.H fun r H'=>H'=g.H∧T3 r fun s=>K (.str s) g.H|_=>False):=e
   cases hn:g.H[n]? with
   | none=>rw [hn] at e;exact e.elim
   | some o=>
    rw [hn] at e
    cases o<;>try exact e.elim
    case inst C at_ items=>exact B4 e fun f hf e=>ky fx R S hn hf e r fun i t g' k e2 t'=>hQ _ _ g' (by rw [e2];exact k) t' (.str _ _)) r) r
 case round=>
  exact one_E (C:=fun vs=>VRs g vs xs→_) e (fun v e r=>r.one_E fun x r=>Hi (C:=fun v=>VR g v x→_) e (fun f e r=>r.flt_E fun t zA zB=>by
   have e:opt (match Float64.decode f with|.fin sg m e=>some (Float64.nearestOf sg m e)|_=>none) fun i=>K (.int i) g.H:=by delta Bt at e;exact e
   cases hd:Float64.decode f with
   | fin sg m ex=>
    rw [hd] at e
    exact Af (PySem.Flt.round_via1 (call_gives F.slot_float_round (typeIs_float g.s f _) F.entry_float_round (F.args_float_round_1 _) (PySem.Flt.gives_round _ hd) (hQ _ _ (g.to _) e (.grow fx.ok S (Au.succ _)) (.int _ _))))
   | _=>rw [hd] at e;exact e.elim) r) r
end
section
variable {X:Xc} {f:Fm} {ν:Nu} {g:Sg}
theorem bq(b:Bi):bootBuiltins (biN b)=some (biV b):=by cases b<;>decide +kernel
theorem br(b:Bi):biN b≠("__name__" : Str):=by cases b<;>decide
theorem lg(b:Bi)(a:Addr):biV b≠.ref a:=by cases b<;>exact fun h=>nomatch h
theorem lh(F:Fx X){b:Bi}{es:MEs}(h:LS X es):ES X (.bcall b es):=fun f ν g x K hx S he Q hQ=>hx (fun x=>Wn X f.A (eval x f.env) Q g.s) fun q xs p h1 h2=>
 show Wn X f.A (eval (.Name (biN b) q) f.env>>=fun fv=>callWith p fv [] (backTo p (starEach xs f.env)) []) Q g.s from
 Ab (Qu F h1 (.inr ⟨F.bis b,by rw [F.ok.boot _ (br b)];exact bq b⟩) S (X9 h h2 S (K:=fun vs H1=>V5 X.tb X.Φ b vs H1 K) he (fun g' t Q' q=>C8 (lg b) q) fun vs zs g' k t r=>lf F S.room t.st k r (hQ.then t)))
theorem Abm(F:Fx X){o i:ME}(ho:ES X o)(hi:ES X i):ES X (.sub o i):=fun f ν g x K hx S he Q hQ=>hx (fun x=>Wn X f.A (eval x f.env) Q g.s) fun a b p h1 h2=>
 show Wn X f.A (eval a f.env>>=fun o=>holding [o] (eval b f.env)>>=fun i=>standAt p>>=fun zA=>subscriptTail a b o i) Q g.s from
 Aa (ho f ν g a (fun a H1=>ev X.tb X.Φ i ν H1 fun b H2=>Aac X.tb a b H2 fun v=>K v H2) h1 S he _ fun va za g1 k1 t1 r1=>
  Aa (Ad (hi f ν g1 b (fun b H2=>Aac X.tb va b H2 fun v=>K v H2) h2 (t1.sit F.ok S) k1 _ fun vb zb g2 k2 t2 r2=>
   Ab (wpAny_standAt (Af (Ago F t2.st k2 (t2.rel t1.st r1) r2 ((hQ.then (t1.trans t2)).leaf F.ok t2.st rfl)))))))
theorem vf(_:Fx X){e:ME}(he:ES X e){x:Option Expr}(hc:Aar e (fun x=>Az X.nm e f.cx x) x)(S:Si X f ν g){K:KE}(hv:ev X.tb X.Φ e ν g.H K){Q:Value→Shared→Prop}(hQ:Hd X g K Q):Wn X f.A (valueOrNone (evalOpt x f.env)) Q g.s:=
 hc (fun x=>Wn X f.A (valueOrNone (evalOpt x f.env)) Q g.s) (fun h=>by subst h;exact Ac (hQ _ _ g hv (.refl S.st) .none)) fun x h=>he f ν g x K h S hv Q hQ
theorem Abn(F:Fx X){o lo hi:ME}{back:Bool}(ho:ES X o)(hl:ES X lo)(hh:ES X hi):ES X (.slc o lo hi back):=fun f ν g x K hx S he Q hQ=>hx (fun x=>Wn X f.A (eval x f.env) Q g.s) fun a l u s q p h1 h2 h3 h4=>by
 show Wn X f.A (eval a f.env>>=fun o=>holding [o] (eval (.Slice l u s q) f.env)>>=fun i=>standAt p>>=fun zA=>subscriptTail a (.Slice l u s q) o i) Q g.s
 refine Aa (ho f ν g a (fun a H1=>ev X.tb X.Φ lo ν H1 fun x H2=>ev X.tb X.Φ hi ν H2 fun y H3=>K3 X.tb a x y back H3 fun v=>K v H3) h1 S he _ fun va za g1 k1 t1 r1=>Aa (Ad ?_))
 rw [arm_eval_Slice]
 refine Aa (vf F hl h2 (t1.sit F.ok S) (K:=fun x H2=>ev X.tb X.Φ hi ν H2 fun y H3=>K3 X.tb va x y back H3 fun v=>K v H3) k1 fun vl zl g2 k2 t2 r2=>Aa (Ad (vf F hh h3 ((t1.trans t2).sit F.ok S) (K:=fun y H3=>K3 X.tb va vl y back H3 fun v=>K v H3) k2 fun vh zh g3 k3 t3 r3=>?_)))
 have t:=(t1.trans t2).trans t3
 have ra:=(t2.trans t3).rel t1.st r1
 have rl:=t3.rel t2.st r2
 refine h4 (fun s=>Wn X f.A (holding [zl,zh] (valueOrNone (evalOpt s f.env))>>=fun zs=>newFields "slice" [zl,zh,zs]) (fun i s'=>Wn X f.A (standAt p>>=fun zA=>subscriptTail a (.Slice l u s q) za i) Q s') g3.s) (fun hb=>?_) fun k q1 q2 hb=>?_
 ·subst hb
  refine Aa (Ad (Ac (Af (wpAny_newObj_type (Ab (wpAny_standAt (Af ?_))) (by show (3:Nat)≤_;rw [sizeLine_eq];decide)))))
  exact Aa2 F t3.st k3 ra rl r3 ((hQ.then t).leaf F.ok t3.st rfl)
 ·subst hb
  refine Aa (Ad ?_)
  show Wn X f.A (eval (.UnaryOp .USub (.Constant (.int 1) k q1) q2) f.env) _ g3.s
  rw [eval_UnaryOp]
  refine Ab (wpAny_Constant_int (Ab (wpAny_standAt (Ad (Af (P.neg_int (Af (wpAny_newObj_type (Ab (wpAny_standAt (Af ?_))) (by show (3:Nat)≤_;rw [sizeLine_eq];decide)))))))))
  have gr:Au g3.s {g3.s with toks:=g3.s.toks+1+1}:=(Au.succ _).trans (Au.succ _)
  exact Aa1 (g:=g3.to {g3.s with toks:=g3.s.toks+1+1}) (Cv.grow F.ok t3.st gr) k3 (gr.rel ra) (gr.rel rl) (gr.rel r3) ((hQ.then (t.then F.ok gr)).leaf F.ok (Cv.grow F.ok t3.st gr) rfl)
theorem Lp{a:Expr}(h:Cj a=true)(n:Str)(env:Env)(m:Sem Value):attributeBase a n env m=m:=by
 cases a<;>try rfl
 case Call fn args kw p=>
  cases args with
  | nil=>exact Bool.noConfusion h
  | cons x r=>cases fn<;>rfl
theorem Hm{a:Expr}{n:Str}{env:Env}{m:Sem Value}{M:Model}{A:Around}{E:Value→Shared→Prop}{s:Shared}{Q:Value→Shared→Prop}(hns:Cj a=true)(h:wpN M A m Q E s):wpN M A (attributeBase a n env m) Q E s:=by rw [Lp hns];exact h
theorem Iy{H:Hp}{n:Nat}{k:Addr→List (Nat×V)→Option (List V)→Prop}(h:Nk H n k){P:Prop}(f:∀ C at_ it,H[n]?=some (.inst C at_ it)→k C at_ it→P):P:=by
 unfold Nk at h
 cases hn:H[n]? with
 | none=>rw [hn] at h;exact h.elim
 | some o=>rw [hn] at h;cases o<;>first|exact f _ _ _ hn h|exact h.elim
theorem vg(F:Fx X){o:ME}{k:Nat}(ho:ES X o):ES X (.attr o k):=fun f ν g x K hx S he Q hQ=>hx (fun x=>Wn X f.A (eval x f.env) Q g.s) fun a n p h1 h2 h3=>by
 rw [arm_eval_Attribute]
 exact Aa (Hm h2 (ho f ν g a (fun a H1=>Aaq X.tb a k H1 fun v=>K v H1) h3 S he _ fun va za g1 k1 t1 r1=>Ab (wpAny_standAt (Aa (Ad (Af (Fk (C:=fun v=>VR g1 v za→_) k1 (fun nn k1 r1=>Iy k1 fun C at_ it hn k1=>B4 k1.2 fun v hv k1'=>
  ay (F.cls C k1.1) t1.st hn (eq_of_beq h1) hv r1 fun z s2 g2 r2=>Ab (wpAny_letTemporaryGo (Ac (hQ v z (g1.to s2) k1' (t1.then F.ok g2) r2)))) r1)))))))
noncomputable def Ei(X:Xc)(f:Fm)(ν:Nu)(es:MEs)(g g1:Sg)(n:Str)(z:Value)(Q:Value→Shared→Prop):Prop:=∀ P:Prop,(∀ (fv:Value) (K2:KL),evs X.tb X.Φ es ν g1.H K2→(∀ (pl:Sem Bool) (Q':Value×List Value→Shared→Prop),Q' (fv,[z]) g1.s→wpAny X.c.M f.A (getMethod z n pl) Q' FF g1.s)→
 (∀ g',Go X.c g g'→∀ Q':Keeper→Shared→Prop,(∀ k,Q' k g'.s)→wpAny X.c.M f.A (keeperOf fv) Q' FF g'.s)→(∀ vs zs g2,K2 vs g2.H→Go X.c g1 g2→VRs g2 vs zs→Wn X f.A (call fv (z::zs)) Q g2.s)→P)→P
theorem Wq(F:Fx X){o:ME}{es:MEs}(ho:ES X o)(h:LS X es){a:Expr}{n:Str}{q q':Pos}{args:List Expr}(hc:(decide (args.length<20)&&q.endLine==q'.line)=true)(hns:Cj a=true)(hca:Az X.nm o f.cx a)(hce:Dv X.nm es f.cx args)(S:Si X f ν g){K:V→Hp→Prop}
  (he:ev X.tb X.Φ o ν g.H K) {Q:Value→Shared→Prop} (hm:∀ va z g1,K va g1.H→Go X.c g g1→VR g1 va z→Ei X f ν es g g1 n z Q):Wn X f.A (eval (.Call (.Attribute a n q) args [] q') f.env) Q g.s:=Ak hc fun hlen hline=>by
 rw [arm_eval_Call]
 refine Aa (Hm hns (ho f ν g a K hca S he _ fun va za g1 k1 t1 r1=>hm va za g1 k1 t1 r1 _ fun fv K2 m1 m2 m3 m4=>?_))
 refine Ab (wpAny_standAt ?_)
 have hform:methodCallForm (args.length+([]:List Keyword).length) (backTo q' (starEach args f.env)) (backToKw q' (keywordEach [] f.env))=true:=by
  unfold methodCallForm
  rw [Ll hce q' f.env]
  show (true&&true&&decide (args.length<30))=true
  rw [dq9 (Nat.lt_trans (od9 hlen) (by decide))];rfl
 have hpos:methodCallPos true a f.env q q'=pure q':=by unfold methodCallPos;rw [hline];rfl
 unfold methodCall
 rw [hform]
 refine Aa (Ad (Af ?_))
 show wpAny X.c.M f.A (getMethod za n _) _ FF g1.s
 refine m2 _ _ (Aa (Af (wpAny_of_eq hpos ?_)))
 show Wn X f.A (callWith q' fv [za] (backTo q' (starEach args f.env)) []) Q g1.s
 exact X9 h hce (t1.sit F.ok S) m1 (fun g' t=>m3 g' (t1.trans t)) fun vs zs g2 k2 t2 r2=>m4 vs zs g2 k2 t2 r2
theorem vk(F:Fx X){m:Nat}{o:ME}{es:MEs}(ho:ES X o)(h:LS X es):ES X (.meth m o es):=fun f ν g x K hx S he Q hQ=>hx (fun x=>Wn X f.A (eval x f.env) Q g.s) fun a n q xs p h1 h2 h3 h4 h5=>
 Wq F ho h h2 h3 h4 h5 S (K:=fun a H1=>kc X.tb a m H1 fun n f=>evs X.tb X.Φ es ν H1 fun vs H2=>X.Φ f (.loc n::vs) H2 K) he fun va z g1 k1 t1 r1=>Fk (C:=fun v=>VR g1 v z→_) k1 (fun nn k1 r1=>Iy k1 fun C at_ it hn k1=>B4 k1 fun fa hf k1 P k=>
  k (.ref fa) (fun vs H2=>X.Φ fa (.loc nn::vs) H2 K) k1 (fun pl Q' q=>az (F.meths C m fa hf).1 t1.st hn hf (eq_of_beq h1) r1 q) (fun g' t Q' q=>Qw t.st (F.meths C m fa hf).2 q)
   fun vs zs g2 k2 t2 r2=>F.snd.call k2 (S.room.mono (Nat.le_succ _)) t2.st (.cons (t2.rel t1.st r1) r2) (hQ.then (t1.trans t2))) r1
end
section
variable {prog:Program} {w:World} {A:Around} {E:Value→Shared→Prop} {s:Shared} {Q:Value→Shared→Prop}
open Builtin.Str in
theorem li{x y:Str}{t u:Tok}(hy:y.length=1)(hx:x.length≤100000)
  (hq:∀ l k,(l.map (·.1):List Str)=Txt.split x y→Q (.ref s.heap.objs.size) {s with heap:=s.heap.push (Dy (strValues l).toArray 0),toks:=k}):wpAny (model prog w) A (call (.builtin "str.split") [.str x t,.str y u]) Q E s:=by
 have hsl:=sizeLine_eq
 have hy0:(y.length==0)=false:=by rw [hy];rfl
 cases h1:(decide (x.length<y.length)||decide (strKind x<strKind y))
 ·cases hf:(occurrences x y 0 x.length (x.length+1)).isEmpty
  ·have hlen:(partsBetween x (occurrences x y 0 x.length (x.length+1)) y.length).length≤sizeLine:=by
    have:=split_le x y
    unfold Txt.split at this
    rw [if_neg (ne_true_of_eq_false h1),if_neg (ne_true_of_eq_false hf)] at this
    lia
   refine call_meets F.slot_str_split (typeIs_str _ _ _) F.entry_str_split (F.args_str_split_2 _ _) (meets_str_split_sep x y t u h1 hy0 hf (by lia) hlen) ?_
   show wants Q E _ {s with toks:=_,heap:=s.heap.push {cls:=.type "list",data:=.seq (strsFrom s.toks (partsBetween x (occurrences x y 0 x.length (x.length+1)) y.length)).toArray}}
   rw [strsFrom_eq]
   exact hq (numbered s.toks _) _ ((numbered_texts _ _).trans ((if_neg (ne_true_of_eq_false h1)).trans (if_neg (ne_true_of_eq_false hf))).symm)
  ·exact call_meets F.slot_str_split (typeIs_str _ _ _) F.entry_str_split (F.args_str_split_2 _ _) (meets_str_split_not_found x y t u h1 hy0 hf)
    (hq [(x,t)] s.toks ((if_neg (ne_true_of_eq_false h1)).trans (if_pos hf)).symm)
 ·exact call_meets F.slot_str_split (typeIs_str _ _ _) F.entry_str_split (F.args_str_split_2 _ _) (meets_str_split_cannot_occur x y t u h1) (hq [(x,t)] s.toks (if_pos h1).symm)
end
theorem ll{X:Addr→Prop}{ρ:Rho}{T:Nat}{h:Heap}(l:List (Str×Tok)):Ae X ρ T h ((l.map (·.1)).map .str) (strValues l):=by
 induction l with
 | nil=>exact .nil
 | cons a l ih=>exact .cons (.str _ _) ih
theorem bu(x y:Str):Fa x y=Txt.split x y:=by delta Fa;rfl
theorem Lq(x:Str)(y:List Str):Ce x y=Txt.join x y:=by delta Ce;rfl
theorem bv(x:Str):Jq x=Txt.isspace x:=by delta Jq;rfl
theorem vm(i:String)(a:Addr):Value.builtin i≠.ref a:=fun h=>nomatch h
section
variable {X:Xc} {f:Fm} {ν:Nu} {g g1:Sg} {es:MEs} {z:Value} {Q:Value→Shared→Prop}
theorem Ei.bi{n:Str}(i:String){K2:KL}(he:evs X.tb X.Φ es ν g1.H K2)(hm:∀ (pl:Sem Bool) (Q':Value×List Value→Shared→Prop),Q' (.builtin i,[z]) g1.s→wpAny X.c.M f.A (getMethod z n pl) Q' FF g1.s)(hQ:∀ vs zs g2,K2 vs g2.H→Go X.c g1 g2→VRs g2 vs zs→Wn X f.A (call (.builtin i) (z::zs)) Q g2.s):Ei X f ν es g g1 n z Q:=
 fun P k=>k (.builtin i) K2 he hm (fun g' t Q' q=>C8 (vm i) q) hQ
theorem lm{v:V}{x:Value}{k:List V→Prop}(S:SO X.c g)(e:qj v g.H k)(r:VR g v x){P:Value→Prop}(h1:∀ l ad xs n,k l→g.s.heap.get? ad=some (Dy xs.toArray n)→VRs g l xs→P (.ref ad))(h2:∀ l ad xs,k l→g.s.heap.get? ad=some (Z1 xs.toArray)→VRs g l xs→P (.ref ad)):P x:=by
 cases v<;>try exact e.elim
 case lst l=>exact r.inv P fun a xs m zA p2 p3=>h1 l a xs m e p2 p3
 case tup l=>exact r.inv P fun a xs zA p2 p3=>h2 l a xs e p2 p3
 case loc n=>
  have e:(match g.H[n]? with|some (Ob.lst l)=>k l|_=>False):=e
  cases hn:g.H[n]? with
  | none=>rw [hn] at e;exact e.elim
  | some o=>
   rw [hn] at e
   cases o<;>try exact e.elim
   case lst l=>exact r.inv P fun a d e1=>(S.heap.lst e1 hn).elim fun xs q=>q.elim fun m q=>h1 l a xs m e q.1 q.2
theorem vn(F:Fx X){va:V}{H:Hp}{K:KE}(ho:ud X.tb .join va H=true)(he:evs X.tb X.Φ es ν g1.H fun vs H2=>K4 X.tb .join va vs H2 K)(r:VR g1 va z)(ht:Go X.c g g1)(hQ:Hd X g K Q):Ei X f ν es g g1 "join" z Q:=by
 cases va<;>try exact Bool.noConfusion ho
 case str sep=>
  exact r.str_E fun t=>Ei.bi "str.join" he (fun pl Q' q=>GM.join q) fun vs zs g2 k2 t2 r2=>one_E (C:=fun vs=>VRs g2 vs zs→_) k2 (fun v e r2=>r2.one_E fun x r2=>by
   have fin:∀ (ss:List Str) {m:Sem Value},K (.str (Ce sep ss)) g2.H→(∀ {Q':Value→Shared→Prop},(∀ t k,Q' (.str (Txt.join sep ss) t) {g2.s with toks:=k})→wpAny X.c.M f.A m Q' FF g2.s)→Wn X f.A m Q g2.s:=fun ss m k h=>
    Hl F t2.st (P:=fun z zA=>∃ t,z=.str (Txt.join sep ss) t) (h fun t k=>⟨Gro.tok _ _,_,rfl⟩) k (hQ.then (ht.trans t2)) fun z s' zA h=>h.elim fun t e=>e▸Lq sep ss▸.str _ _
   refine lm (P:=fun x=>Wn X f.A (call (.builtin "str.join") [.str sep t,x]) Q g2.s) t2.st e r2 (fun l ad xs m hk p2 p3=>B4 hk fun ss hss hk=>?_) fun l ad xs hk p2 p3=>B4 hk fun ss hss hk=>?_
   ·exact fin ss hk.2.2 fun h=>join_listW ⟨_,p2,rfl,_,rfl⟩ (p3.strs hss) (od9 hk.2.1) (od9 hk.1) h
   ·exact fin ss hk.2.2 fun h=>join_tupleW ⟨_,p2,rfl,_,rfl⟩ (p3.strs hss) (od9 hk.2.1) (od9 hk.1) h) r2
theorem lp(F:Fx X){va:V}{H:Hp}{K:KE}(ho:ud X.tb .split va H=true)(he:evs X.tb X.Φ es ν g1.H fun vs H2=>K4 X.tb .split va vs H2 K)(r:VR g1 va z)(ht:Go X.c g g1)(hQ:Hd X g K Q):Ei X f ν es g g1 "split" z Q:=by
 cases va<;>try exact Bool.noConfusion ho
 case str x=>
  exact r.str_E fun t=>Ei.bi "str.split" he (fun pl Q' q=>GM.split q) fun vs zs g2 k2 t2 r2=>one_E (C:=fun vs=>VRs g2 vs zs→_) k2 (fun v e r2=>r2.one_E fun y r2=>Jt (C:=fun v=>VR g2 v y→_) e (fun sep e r2=>r2.str_E fun u=>by
   refine Hl F t2.st (P:=fun z s'=>∃ l:List (Str×Tok),l.map (·.1)=Txt.split x sep∧z=.ref g2.s.heap.objs.size∧s'.heap.get? g2.s.heap.objs.size=some (Dy (strValues l).toArray 0)) (li (od9 e.2.1) (od9 e.1) fun l k h=>⟨Gro.of fun b o e=>Heap.get?_push_of_some _ e,l,h,rfl,N5 _ _⟩) e.2.2 (hQ.then (ht.trans t2)) fun z s' gr h=>?_
   obtain ⟨l,h,e,hh⟩:=h
   subst e
   rw [bu,←h]
   exact .lst (Fo fun b m=>t2.st.mutEx m) hh (ll l)) r2) r2
theorem lq(_:Fx X){va:V}{H:Hp}{K:KE}(ho:ud X.tb .isspace va H=true)(he:evs X.tb X.Φ es ν g1.H fun vs H2=>K4 X.tb .isspace va vs H2 K)(r:VR g1 va z)(ht:Go X.c g g1)(hQ:Hd X g K Q):Ei X f ν es g g1 "isspace" z Q:=by
 cases va<;>try exact Bool.noConfusion ho
 case str x=>
  exact r.str_E fun t=>Ei.bi "str.isspace" he (fun pl Q' q=>GM.isspace q) fun vs zs g2 k2 t2 r2=>by
   have k2:gd vs.isEmpty (K (.bool (Jq x)) g2.H):=k2
   cases vs with
   | cons v vs=>exact Bool.noConfusion k2.1
   | nil=>exact r2.nil_E (P:=fun zs=>Wn X f.A (call (.builtin "str.isspace") (.str x t::zs)) Q g2.s) (Af (SC.isspace (hQ _ _ g2 (bv x▸k2.2) (ht.trans t2) (.bool _))))
theorem lr(fx:Fx X){va:V}{H:Hp}{K:KE}(S:SO X.c g1)(ho:ud X.tb .count va H=true)(he:evs X.tb X.Φ es ν g1.H fun vs H2=>K4 X.tb .count va vs H2 K)(r:VR g1 va z)(ht:Go X.c g g1)(hQ:Hd X g K Q):Ei X f ν es g g1 "count" z Q:=by
 cases va<;>try exact Bool.noConfusion ho
 case lst l=>
  exact r.lst_E fun ad xs m n p2 p3=>Ei.bi "list.count" he (fun pl Q' q=>getMethod_builtin ⟨_,p2,rfl⟩ PySem.F.plainAttrs_list F.slot_list_count F.type_list_count (fun a e=>by cases e;exact ⟨_,p2,rfl⟩) q) fun vs zs g2 k2 t2 r2=>one_E (C:=fun vs=>VRs g2 vs zs→_) k2 (fun v e r2=>r2.one_E fun y r2=>A7 (C:=fun v=>VR g2 v y→_) e (fun i e r2=>r2.int_E fun u=>B4 e.2 fun is hi k=>
   Af (count_list_ints ⟨_,t2.le.stays S.stat.tab A6.none _ _ p2 n rfl,rfl,_,rfl⟩ (Ae.ints p3 hi).1 (hQ _ _ (g2.to _) k ((ht.trans t2).then fx.ok (Au.succ _)) (.int _ _)))) r2) r2
end
section
variable {X:Xc} {A:Around} {g:Sg} {n:Nat} {C:Addr} {at_:List (Nat×V)} {l:List V} {v:V} {x y:Value}
theorem Ui(F:Fx X)(S:SO X.c g)(L:Ef X.c.K C)(hn:g.H[n]?=some (.inst C at_ (some l)))(hz:l.length≤1000)(r:VR g (.loc n) x)(r':VR g v y){Q:Value→Shared→Prop}
  (hQ:∀ s',Go X.c g ⟨g.ρ,g.H.set n (.inst C at_ (some (l++[v]))),s'⟩→Q .none s'):wpAny X.c.M A (call (.builtin "list.append") [x,y]) Q FF g.s:=by
 refine x43 (S.ins hn r) fun p ox es m e1 zz5 I=>?_;subst zz5
 refine x22 I.shape fun xs n' hox hxs=>?_
 have hd:ox.data=.seq xs.toArray n':=by rw [hox]
 refine kp S.stat.K I.inst L hd (fun h' k hh hb=>?_) (by rw [List.size_toArray,←hxs.length];exact hz)
 refine x02 (Cv.put F.ok S (ob:=.inst C at_ (some (l++[v]))) e1 hn (fun e=>nomatch e) (.inl rfl) (tk:=g.s.toks) hb ⟨_,hh⟩ (Nat.le_refl _) fun le=>⟨I.ne,⟨es,m,(hb.2 _ I.ne).trans I.atd,I.attrs.map fun v x q=>le.rel S.stat.tab A6.none q⟩,xs++[y],k,by rw [hh,hox,List.push_toArray],(le.rels S.stat.tab A6.none hxs).append (.cons (le.rel S.stat.tab A6.none r') .nil)⟩) fun st le=>?_
 exact hQ _ ⟨st,le⟩
theorem Uj(F:Fx X)(S:SO X.c g)(hn:g.H[n]?=some (.lst l))(hz:l.length≤1000)(r:VR g (.loc n) x)(r':VR g v y){Q:Value→Shared→Prop}
  (hQ:∀ s',Go X.c g ⟨g.ρ,g.H.set n (.lst (l++[v])),s'⟩→Q .none s'):wpAny X.c.M A (call (.builtin "list.append") [x,y]) Q FF g.s:=
 r.loc_E fun a d e=>(S.heap.lst e hn).elim fun xs q=>q.elim fun k q=>Qk q.1 (by rw [←q.2.length];exact hz) fun h' n' hh hb=>by
  refine x02 (Cv.put F.ok S (ob:=.lst (l++[v])) e hn (fun e=>nomatch e) (.inl rfl) (tk:=g.s.toks) hb ⟨_,hh⟩ (Nat.le_refl _) fun le=>⟨(S.heap.obj _ _ _ e hn).1,_,_,hh,(le.rels S.stat.tab A6.none q.2).append (.cons (le.rel S.stat.tab A6.none r') .nil)⟩) fun st le=>?_
  exact hQ _ ⟨st,le⟩
theorem bw:∀ k:Fin 7,Ec[k.val]?≠some ("append" : Str):=by decide +kernel
theorem Qy(S:SO X.c g)(hn:g.H[n]?=some (.inst C at_ (some l)))(L:Ef X.c.K C)(C1:Fp X.c.K X.tb C)(r:VR g (.loc n) x){pl:Sem Bool}{Q:Value×List Value→Shared→Prop}(hQ:Q (.builtin "list.append",[x]) g.s):wpAny X.c.M A (getMethod x "append" pl) Q FF g.s:=by
 refine x43 (S.ins hn r) fun p ox es m e1 zz5 I=>?_;subst zz5
 refine x12 C1.ga.canon fun ga ga1 ga2=>?_
 refine ao S.stat.K I.inst ga1 ga2 C1.gattr L ?_ hQ
 show (lookIn "append" (dictOf es m)).map _=_
 rw [lookIn_dict,I.attrs.miss fun j zA h=>bw ⟨j,(List.getElem?_eq_some_iff.mp h).1⟩ h]
 rfl
end
section
variable {X:Xc} {f:Fm} {ν:Nu} {g g1:Sg} {es:MEs} {z:Value} {Q:Value→Shared→Prop}
theorem Abo(F:Fx X){va:V}{K:KE}(S:SO X.c g1)(ho:ud X.tb .append va g1.H=true)(he:evs X.tb X.Φ es ν g1.H fun vs H2=>K4 X.tb .append va vs H2 K)(r:VR g1 va z)(ht:Go X.c g g1)(hQ:Hd X g K Q):Ei X f ν es g g1 "append" z Q:=by
 cases va<;>try exact Bool.noConfusion ho
 case loc n=>
  have ho:(match g1.H[n]? with|some (Ob.lst _)=>true|some (Ob.inst C _ (some _))=>X.tb.isList C|_=>false)=true:=ho
  refine Ei.bi "list.append" he (fun pl Q' q=>?_) fun vs zs g2 k2 t2 r2=>one_E (C:=fun vs=>VRs g2 vs zs→_) k2 (fun v e r2=>r2.one_E fun y r2=>?_) r2
  ·cases hn:g1.H[n]? with
   | none=>rw [hn] at ho;exact Bool.noConfusion ho
   | some o=>
    rw [hn] at ho
    cases o<;>try exact Bool.noConfusion ho
    case lst l=>exact r.inv (fun x=>Q' (.builtin "list.append",[x]) g1.s→wpAny X.c.M f.A (getMethod x "append" pl) Q' FF g1.s) (fun a d e1 q=>(S.heap.lst e1 hn).elim fun xs p=>p.elim fun k p=>getMethod_builtin ⟨_,p.1,rfl⟩ PySem.F.plainAttrs_list PySem.F.slot_list_append PySem.F.type_list_append (fun b e=>by cases e;exact ⟨_,p.1,rfl⟩) q) q
    case inst C at_ it=>
     cases it with
     | none=>exact Bool.noConfusion ho
     | some l=>exact Qy S hn (F.lists C ho).1 (F.lists C ho).2 r q
  ·have e:(match g2.H[n]? with|some (Ob.lst l)=>gd (decide (l.length≤1000)) (K .none (g2.H.set n (.lst (l++[v]))))|some (Ob.inst C at_ (some l))=>gd (decide (l.length≤1000)) (gd (X.tb.isList C) (K .none (g2.H.set n (.inst C at_ (some (l++[v]))))))|_=>False):=e
   have r:=t2.rel S r
   have hQ:=hQ.then (ht.trans t2)
   cases hn:g2.H[n]? with
   | none=>rw [hn] at e;exact e.elim
   | some o=>
    rw [hn] at e
    cases o<;>try exact e.elim
    case lst l=>exact Af (Uj F t2.st hn (od9 e.1) r r2 fun s' t=>hQ _ _ _ e.2 t .none)
    case inst C at_ it=>
     cases it with
     | none=>exact e.elim
     | some l=>exact Af (Ui F t2.st (F.lists C e.2.1).1 hn (od9 e.1) r r2 fun s' t=>hQ _ _ _ e.2.2 t .none)
theorem ls(F:Fx X){m:Sm}{o:ME}{es:MEs}(ho:ES X o)(h:LS X es):ES X (.scall m o es):=fun f ν g x K hx S he Q hQ=>hx (fun x=>Wn X f.A (eval x f.env) Q g.s) fun a q xs p h2 h3 h4 h5=>
 Wq F ho h h2 h3 h4 h5 S (K:=fun a H1=>gd (ud X.tb m a H1) (evs X.tb X.Φ es ν H1 fun vs H2=>K4 X.tb m a vs H2 K)) he fun va z g1 k1 t1 r1=>by
  cases m with
  | join=>exact vn F k1.1 k1.2 r1 t1 hQ
  | split=>exact lp F k1.1 k1.2 r1 t1 hQ
  | isspace=>exact lq F k1.1 k1.2 r1 t1 hQ
  | count=>exact lr F t1.st k1.1 k1.2 r1 t1 hQ
  | append=>exact Abo F t1.st k1.1 k1.2 r1 t1 hQ
end
end Mine
section
open PyProof.V
namespace Mine
section
variable {M:Model} {A:Around} {E:Value→Shared→Prop} {s:Shared}
theorem lu{f:Value}{x:Sem Value}{pos:Pos}{Q:Args→Shared→Prop}
  (h:wpN M A x (fun v s₁=>StarOf M A E v (fun vs s₂=>Q ⟨vs,[]⟩ s₂) s₁) E s) :
  wpN M A (evalArgs f true [(true,(do let v ←x;standAt pos;pure v))] []) Q E s:=by
 unfold evalArgs
 refine Aa (Aa (Bk h fun v s₁ h₁=>Ab (wpAny_standAt (Ac (Aa (Ac ?_))))))
 unfold StarOf at h₁
 refine Ad (Af ?_)
 refine wpAny_bind (wpAny_pure ?_)
 refine wpAny_bind (wpAny_bind (wpAny_mono h₁ (fun b s₂ h₂=>?_) fun zA zB x=>x))
 obtain ⟨rfl,h₂⟩:=h₂
 exact wpAny_holding (vs:=[]) (wpAny_mono h₂ (fun vs s₃ h₃=>(wpAny_pure h₃:wpAny M A (pure (⟨vs,[]⟩:Args)) Q E s₃)) fun zA zB x=>x)
theorem Qz{prog:Program}{w:World}{p:Addr}{f:Addr}{self:Value}{pos:List Value}{kw:List (Str×Value)}{R:Result→Shared→Prop}(ho:s.heap.get? p=some (methodObj (.ref f) self))
  (h:Bc (model prog w) A (.call (.ref f) ⟨self::pos,kw⟩) R s):Bc (model prog w) A (.call (.ref p) ⟨pos,kw⟩) R s:=by
 obtain ⟨hh,g,dr,t,os⟩:=s
 refine codeN_of_tree rfl ?_
 show wpN _ _ (callAny (.ref p) _) _ _ _
 exact Af (nd_load ho (wpAny_pure ⟨rfl,h⟩))
theorem lv{prog:Program}{w:World}{a:Addr}{xs:List Value}{Q:List Value→Shared→Prop}(ho:s.heap.get? a=some (Z1 xs.toArray))(hz:xs.length≤sizeLine)(h:∀ s',Au s s'→Q xs s'):StarOf (model prog w) A E (.ref a) Q s:=by
 have hT':s.TypeIs (.ref a) "tuple" :=⟨_,ho,rfl⟩
 unfold StarOf notIterableAtAll
 refine wpAny_bind (wpAny_specialOf hT' PySem.F.slot_tuple_iter.lookup (wpAny_pure ⟨rfl,?_⟩))
 exact wpAny_collect_seq a (.inr rfl) ho rfl rfl (fun h' hk=>by rw [List.toList_toArray];exact h _ ⟨hk,rfl,rfl,Nat.le_refl _⟩) (by rw [List.size_toArray];exact hz)
theorem Q0{c:Cfg}{A:Around}{E:Value→Shared→Prop}{g:Sg}{a q:Addr}{z:Value}(S:SO c g)(h:uu c a)(hq:g.s.heap.get? q=some (methodObj (.ref a) z)){Q:Keeper→Shared→Prop}(hQ:∀ k,Q k g.s):wpAny c.M A (keeperOf (.ref q)) Q E g.s:=by
 obtain ⟨⟨oc,od,odt,osl⟩,fd,ho,hd⟩:=h
 cases hd
 have L:Looks c.M g.s.heap (keeperOf (.ref q)) .boundFrame:=(Looks.ld (part:=none) hq).andThen ((Looks.ld (part:=none) (S.stat.K _ _ ho)).andThen .now)
 exact L.here (hQ _)
end
section
variable {X:Xc} {f:Fm} {ν:Nu} {g:Sg}
theorem lx(F:Fx X){m:Nat}{o y:ME}(ho:ES X o)(hy:ES X y):ES X (.methS m o y):=fun f ν g x K hx S he Q hQ=>hx (fun x=>Wn X f.A (eval x f.env) Q g.s) fun a n q sx sp p h1 h2 h3 h4=>by
 rw [arm_eval_Call]
 refine Aa (Hm h2 (ho f ν g a (fun a H1=>kc X.tb a m H1 fun n f=>ev X.tb X.Φ y ν H1 fun v H2=>ua v fun vs=>gd (decide (vs.length≤1000)) (X.Φ f (.loc n::vs) H2 K)) h3 S he _ fun va za g1 k1 t1 r1=>?_))
 refine Fk (C:=fun v=>VR g1 v za→_) k1 (fun nn k1 r1=>Iy k1 fun C at_ it hn k1=>B4 k1 fun fa hf k1=>?_) r1
 refine Ab (wpAny_standAt ?_)
 show Wn X f.A (holding [za] (getAttr za n true>>=fun r=>pure (r,([]:List Value)))>>=fun pr=>pure p>>=fun callPos=>callWith callPos pr.1 pr.2 [(true,(do let v ←eval sx f.env;standAt p;pure v))] []) Q g1.s
 refine Aa (Ad (Ab (X7 (F.meths C m fa hf).1 t1.st hn hf (eq_of_beq h1) r1 fun qa s2 g2 hq hmq hoq=>Ac (Aa (Ac ?_)))))
 have t2:Go X.c g1 (g1.to s2):=.grow F.ok t1.st g2
 have t12:=t1.trans t2
 refine Hk (lu (hy f ν (g1.to s2) sx (fun v H2=>ua v fun vs=>gd (decide (vs.length≤1000)) (X.Φ fa (.loc nn::vs) H2 K)) h4 (t12.sit F.ok S) k1 _ fun vv zv g3 k3 t3 r3=>?_))
 refine ac (C:=fun v=>VR g3 v zv→_) k3 (fun vs k3 r3=>r3.tup_E fun ad xs m3 p3 w3=>?_) r3
 refine lv p3 (G4 w3 k3.1) fun s4 gr=>?_
 have hq4:=gr.keep _ _ (t3.le.keep qa _ hq hmq id fun p hp z=>hoq (z▸(F.ok.tabLow p hp).1))
 have t:=(t12.trans t3).then F.ok gr
 exact ⟨fun Q' q=>Q0 (g:=g3.to s4) t.st (F.meths C m fa hf).2 hq4 q,Ck (Qz hq4 (F.snd fa _ (g3.to s4) K k3.2 f.A _ (S.room.mono (Nat.le_succ _)) t.st (.cons (gr.rel (t3.rel t2.st (t2.rel t1.st r1))) (gr.rels w3)) Q (hQ.then t)))⟩
theorem Pf{n:Nat}{l:List V}{z:Value}{c:Cfg}(S:SO c g)(hn:g.H[n]?=some (.lst l))(r:VR g (.loc n) z) :
  Go c g ⟨g.ρ,g.H.set n .dead,g.s⟩∧VR ⟨g.ρ,g.H.set n .dead,g.s⟩ (.lst l) z:=by
 refine r.inv (fun z=>Go c g ⟨g.ρ,g.H.set n .dead,g.s⟩∧VR ⟨g.ρ,g.H.set n .dead,g.s⟩ (.lst l) z) fun a dd e=>?_
 refine x22 (S.heap.lst e hn) fun xs k h1 h2=>?_
 refine x02 (Cv.drop S hn (fun e=>nomatch e)) fun st le=>?_
 refine ⟨⟨st,le⟩,.lst (fun m=>?_) h1 (le.rels S.stat.tab A6.none h2)⟩
 refine x34 m fun m' p o q1 q2 q3 q4=>?_
 by_cases hk:m'=n
 ·subst hk
  rw [List.getElem?_set_self (List.getElem?_eq_some_iff.mp hn).1] at q2
  cases q2;exact q3 rfl
 ·refine x04 (S.heap.apart _ _ _ _ q1 e hk) fun a1 a2 a3 a4=>?_
  exact q4.elim (fun q4=>a1 q4.symm) fun q4=>a3 q4.symm
theorem Lr{H:Hp}{n:Nat}{k:List V→Prop}(h:Nj H n k){P:Prop}(f:∀ l,H[n]?=some (.lst l)→k l→P):P:=by
 unfold Nj at h
 cases hn:H[n]? with
 | none=>rw [hn] at h;exact h.elim
 | some o=>rw [hn] at h;cases o<;>first|exact f _ hn h|exact h.elim
theorem Abp(_:Fx X){y:ME}(h:ES X y):ES X (.frz y):=fun f ν g x K hx S he Q hQ=>
 h f ν g x (fun v H1=>Ae0 v H1 K) hx S he Q fun v z g1 k1 t1 r1=>Fk (C:=fun v=>VR g1 v z→Q z g1.s) k1 (fun n k1 r1=>Lr k1 fun l hn k=>hQ (.lst l) z ⟨g1.ρ,g1.H.set n .dead,g1.s⟩ k (t1.trans (Pf t1.st hn r1).1) (Pf t1.st hn r1).2) r1
end
noncomputable def Ju(ks:List (Str×Str)):List (PyData×PyData):=ks.map fun p=>(.str p.1,.str p.2)
theorem Wr:∀ {ks:List (Str×Str)} {keys:List (Option Expr)} {vals:List Expr},Aer ks keys vals→litPairs keys vals=some (Ju ks)∧keys.all (·.isSome)=true∧keys.length=vals.length∧keys.length=ks.length
 | [],keys,vals,h=>h (fun keys vals=>litPairs keys vals=some (Ju [])∧keys.all (·.isSome)=true∧keys.length=vals.length∧keys.length=0) ⟨rfl,rfl,rfl,rfl⟩
 | p::r,keys,vals,h=>h (fun keys vals=>litPairs keys vals=some (Ju (p::r))∧keys.all (·.isSome)=true∧keys.length=vals.length∧keys.length=(p::r).length) fun k1 p1 k2 p2 ks' vs' h=>by
  refine x04 (Wr h) fun h1 h2 h3 h4=>?_
  refine ⟨?_,h2,congrArg Nat.succ h3,congrArg Nat.succ h4⟩
  show (do let k ←tabLit (.Constant (.str p.1) k1 p1);let v ←tabLit (.Constant (.str p.2) k2 p2);let r ←litPairs ks' vs';some ((k,v)::r))=_
  rw [h1]
  rfl
theorem Iz:∀ (ks:List (Str×Str)),strKeyed (Ju ks)=true∧strKeysOf (Ju ks)=ks.map (·.1)
 | []=>⟨rfl,rfl⟩
 | p::r=>⟨(Iz r).1,congrArg (p.1 :: ·) (Iz r).2⟩
theorem Q1:∀ {l:List Str},K7 l=true→l.Nodup
 | [],_=>.nil
 | x::r,h=>Ak (a:=!r.contains x) (b:=K7 r) h fun h1 h2=>List.nodup_cons.mpr ⟨fun hy=>Bool.noConfusion ((List.contains_iff_mem.mpr hy).symm.trans (Dw h1)),Q1 h2⟩
theorem vo{kvs:List (Str×Value)}:∀ {ks:List (Str×Str)},FlatPairs PyData.str kvs (Ju ks)→∀ {k r:Str},ks.lookup k=some r→∃ t,valueAt kvs k=some (.str r t):=by
 induction kvs with
 | nil=>
  intro ks h k r e
  cases ks with
  | nil=>cases e
  | cons p q=>cases h
 | cons kv kvs ih=>
  intro ks h k r e
  cases ks with
  | nil=>cases h
  | cons p q=>
   obtain ⟨a,b⟩:=p
   unfold Ju at h
   rw [List.map_cons] at h
   cases h with
   | cons f g=>
    rw [List.lookup_cons] at e
    cases hk:k==a with
    | true=>
     rw [hk] at e
     rw [beq_iff_eq] at hk
     subst hk
     cases e
     refine x11 f.str_inv fun t zz1=>?_;subst zz1
     refine ⟨t,?_⟩
     unfold valueAt
     rw [List.find?_cons_of_pos (p:=fun kv:Str×Value=>decide (kv.1=k)) (dq9 rfl)]
     rfl
    | false=>
     rw [hk] at e
     refine x11 (ih g e) fun t ht=>?_
     refine ⟨t,?_⟩
     unfold valueAt at ht ⊢
     rw [List.find?_cons_of_neg (fun z=>Bool.noConfusion ((beq_iff_eq.mpr (od9 z).symm).symm.trans hk))]
     exact ht
section
variable {X:Xc} {f:Fm} {ν:Nu} {g:Sg}
theorem vp(F:Fx X){ks:List (Str×Str)}{i:ME}(hi:ES X i):ES X (.dget ks i):=fun f ν g x K hx S he Q hQ=>hx (fun x=>Wn X f.A (eval x f.env) Q g.s) fun keys vals q b p h1 h2 h4=>Ak h2 fun h0 h2=>Ak h2 fun hn h3=>by
 show Wn X f.A (eval (.Dict keys vals q) f.env>>=fun o=>holding [o] (eval b f.env)>>=fun i=>standAt p>>=fun zA=>subscriptTail (.Dict keys vals q) b o i) Q g.s
 refine x04 (Wr h1) fun q1 q2 q3 q4=>?_
 refine x02 (Iz ks) fun w1 w2=>?_
 cases ks with
 | nil=>exact Bool.noConfusion h0
 | cons p0 ks0=>
 refine Ab (Cg (P:=fun z s'=>∃ a o h₁ tk,z=.ref a∧s'={g.s with heap:=h₁,toks:=tk}∧g.s.heap.objs.size≤a∧h₁.get? a=some o∧TabObj (strKind X.c.prog X.c.w) PyData.str (Ju (p0::ks0)) o∧∀ b o',g.s.heap.get? b=some o'→h₁.get? b=some o')
  (Dict_lits_str q1 w1 (by rw [w2];exact Q1 h3) q2 q3 (fun e=>Nat.succ_ne_zero _ (q4.symm.trans (congrArg List.length e))) (by rw [q4];exact Nat.le_trans (od9 hn) (by decide)) fun a o h₁ tk r1 r2 r3 r4=>⟨a,o,h₁,tk,rfl,rfl,r1,r2,r3,r4⟩) ?_)
 rintro z s1 ⟨a,o,h₁,tk,rfl,rfl,r1,r2,⟨kvs,r3,r5⟩,r4⟩ ht
 have gr:Au g.s {g.s with heap:=h₁,toks:=tk}:=⟨r4,rfl,rfl,ht⟩
 have ha0:g.s.heap.get? a=none:=Heap.get?_none_of_le r1
 have t0:Go X.c g (g.to {g.s with heap:=h₁,toks:=tk}):=.grow F.ok S.st gr
 refine Aa (Ad (hi f ν (g.to _) b (fun v H1=>T3 v fun s=>opt ((p0::ks0).lookup s) fun r=>K (.str r) H1) h4 (t0.sit F.ok S) he _ fun vb zb g2 k2 t2 rb=>?_))
 refine Jt (C:=fun v=>VR g2 v zb→_) k2 (fun str k2 rb=>rb.str_E fun u=>B4 k2 fun r hr k2=>?_) rb
 refine Ab (wpAny_standAt (Af ?_))
 have ha2:g2.s.heap.get? a=some o:=t2.le.keep a o r2 (fun m=>(S.st.mutEx m).elim fun o' e=>by rw [ha0] at e;cases e) id fun q hq z=>by
   obtain ⟨ps,⟨_,et⟩,_⟩:=S.st.stat.tab q hq
   rw [←z,ha0] at et;cases et
 have hd:g2.s.heap.DictOf (strKind X.c.prog X.c.w) a kvs:=Heap.dictOf_iff.mpr ⟨o,ha2,r3⟩
 refine x11 (vo r5 hr) fun tv hv=>?_
 exact C5 (fun Q' q=>D4 hd.typeIs slot_dict_getitem.lookup q) (wpAny_getItem_of (strKind_is _ _ _ _) hd.mapOf hv (hQ _ _ (g2.to _) k2 ((t0.trans t2).then F.ok (Au.succ _)) (.str _ _)))
end
end Mine
end
namespace Mine
structure Q2(M:Model)(h:Heap)(C:Addr)(nid:String):Prop where
 obj:∃ oc od cd sl,h.get? C=some ⟨oc,od,.cls cd,sl⟩∧cd.abstract=false∧cd.hasDel=false∧cd.mro.isEmpty=false
 made:Looks M h (Bind.madeBy (.ref C)) (some nid)
 base:Looks M h (Bind.staticBase (.ref C)) (.ref C)
 self:Looks M h (isSubtype (.ref C) (.ref C)) true
 top:Looks M h (isSubtype (.ref C) (.type "object")) true
 call:Looks M h (specialOf (.ref C) "__call__") (some (.builtin "type.__call__"))
 typ:Looks M h (isInstance (.ref C) (.type "type")) true
theorem Ls{K:Frag}{M:Model}{h:Heap}(X:K.In h){C:Addr}{nid:String}(e:Wg K C nid=true):Q2 M h C nid:=by
 have e:(match K.lookup C with
  | some ⟨_,_,.cls cd,sl⟩=>!cd.abstract&&(!cd.hasDel&&((sl.toList[4]?).join==some (.builtin nid)&&(!cd.mro.isEmpty&&(cd.mro.contains (.ref C)&&(cd.mro.contains (.type "object") &&
   (specialIn K (.ref C) "__call__" == some (some (.builtin "type.__call__"))&&instIn K (.ref C) (.type "type")==some true))))))
  | _=>false)=true:=e
 cases ho:K.lookup C with
 | none=>rw [ho] at e;exact Bool.noConfusion e
 | some o=>
  rw [ho] at e
  obtain ⟨oc,od,dt,sl⟩:=o
  cases dt<;>try exact Bool.noConfusion e
  case cls cd=>
  refine Ak e fun e1 e=>Ak e fun e2 e=>Ak e fun e3 e=>Ak e fun e4 e=>Ak e fun e5 e=>Ak e fun e6 e=>Ak e fun e7 e8=>?_
  have e1:=Dw e1
  have e2:=Dw e2
  have e3:=eq_of_beq e3
  have e4:=Dw e4
  have hc:clsIn K C=some cd:=by unfold clsIn;rw [ho]
  have hm:Looks M h (mroOf (.ref C)) cd.mro:=(looks_clsIn X hc).andThen .now
  obtain ⟨c,l,hl⟩:∃ c l,cd.mro=c::l:=by cases q:cd.mro with|nil=>rw [q] at e4;cases e4|cons c l=>exact ⟨c,l,rfl⟩
  have made:Looks M h (Bind.madeBy (.ref C)) (some nid):=by
   intro A Q E s k q
   unfold Bind.madeBy
   refine wpAny_bind (hm A _ E s k ?_)
   rw [hl,List.forIn_cons]
   refine wpAny_bind (wpAny_bind (wpAny_bind (wpAny_bind (wpAny_loadPart (k _ _ (X _ _ ho)) (wpAny_pure ?_)))))
   dsimp only
   rw [←Array.getElem?_toList,e3]
   exact wpAny_pure (wpAny_pure (wpAny_pure q))
  refine ⟨⟨oc,od,cd,sl,X _ _ ho,e1,e2,e4⟩,made,?_,looks_mroIn X ?_,looks_mroIn X ?_,looks_specialIn X (eq_of_beq e7),looks_instIn X (eq_of_beq e8)⟩
  ·intro A Q E s k q
   unfold Bind.staticBase
   refine wpAny_bind (hm A _ E s k ?_)
   rw [hl,List.forIn_cons]
   exact wpAny_bind (wpAny_bind (wpAny_bind (made A _ E s k (wpAny_pure (wpAny_pure (wpAny_pure q))))))
  ·unfold mroIn;rw [hc,Option.bind_some,if_neg (by rw [e4];decide),e5]
  ·unfold mroIn;rw [hc,Option.bind_some,if_neg (by rw [e4];decide),e6]
theorem Q2.toMakes{M:Model}{h:Heap}{C:Addr}(Y:Q2 M h C "object.__new__"):Makes M h C:=⟨Y.obj,Y.made,Y.base,Y.self,Y.top,Y.call,Y.typ⟩
section
variable {prog:Program} {w:World} {A:Around} {E:Value→Shared→Prop} {s:Shared} {R:Result→Shared→Prop}
theorem Fr{id:String}{args:Args}{b:Builtin}(hq:(Code.builtin id args).quiet=true)(hb:entryFor table id=some b)(hcl:Cu (.builtin id args)=true)
  (h:wpN (model prog w) A.in1 (checkBuiltinCall id args) (fun zA s₁=>wpN (model prog w) (A.under (.builtin id args)) (b args)
   (fun fin s'=>match fin with|.done f=>R (.ok f) s'|.again c'=>c'.quiet=true∧Bc (model prog w) A c' R s') (fun e s'=>R (.error e) s') s₁)
   (fun e s'=>R (.error e) s') s):Bc (model prog w) A (.call (.builtin id) args) R s:=by
 refine codeN_of_tree rfl ?_
 show wpN _ A.in1 (do checkBuiltinCall id args;again (.builtin id args)) _ _ s
 refine Aa (Bk h fun zA s₁ h₁=>Ac (And.intro hq (codeN_of_tree hcl ?_)))
 show wpN _ _ (match entryFor table id with|some b=>b args|none=>unsupported ((withoutEnding? id "#data").getD id)) _ _ s₁
 rw [hb];exact h₁
end
section
variable {prog:Program} {w:World} {A:Around} {C fI:Addr} {R:Result→Shared→Prop} {h:Heap} {g:Array GenState} {d:Drawn} {t:Nat} {os:OsState}
theorem Yb{rest:List Value}{nid:String}{ob:Obj}(Y:Q2 (model prog w) h C nid)(hi:Looks (model prog w) h (typeLookup (.ref C) "__init__") (some (.ref fI)))
  (hb:∀ self,Looks (model prog w) h (bindSpecial (.ref fI) self) (.ref fI,[self])) (hcls:ob.cls=.ref C) (hfr:ob.isFreed=false)
  (hnew:∀ {A':Around} {R':Result→Shared→Prop},R' (.ok (.ret (.ref (h.objs.size+1)))) ⟨(h.push emptyDict).push ob,g,d,t,os⟩→codeAny (model prog w) A' (.call (.builtin nid) ⟨.ref C::rest,[]⟩) R' ⟨h,g,d,t,os⟩)
  (hq:Bc (model prog w) (A.under (.builtin "type.__call__" ⟨.ref C::rest,[]⟩)) (.call (.ref fI) ⟨.ref (h.objs.size+1)::rest,[]⟩) (InitBack (h.objs.size+1) R) ⟨(h.push emptyDict).push ob,g,d,t,os⟩) :
  Bc (model prog w) A (.call (.ref C) ⟨rest,[]⟩) R ⟨h,g,d,t,os⟩:=by
 have Y':=Y
 obtain ⟨⟨oc,od,cd,sl,hC,e1,e2,e4⟩,made,base,self,top,call,typ⟩:=Y
 refine codeN_of_tree rfl (Af ?_)
 show wpAny _ _ (callAny (.ref C) _) _ _ _
 refine nd_load hC ?_
 show wpAny _ _ (callAny.viaDunder (.ref C) _) _ _ _
 unfold callAny.viaDunder
 refine wpAny_bind (call.at ?_)
 dsimp only
 rw [tc_bind]
 refine wpAny_bind (wpAny_pure (wpAny_bind (wpAny_pure ?_)))
 refine wpAny_pure (a:=Fin.again (.call (.builtin "type.__call__") ⟨.ref C::rest,[]⟩)) (And.intro rfl ?_)
 refine Fr (Code.quiet_builtin _ (by decide +kernel)) entry_typeCall (Bw (by decide +kernel) _) (Af (check_slot tc_kind tc_split typ (tc_args _ _ _) ?_))
 unfold Builtin.«type.__call__»
 have hm:Looks (model prog w) h (mroOf (.ref C)) cd.mro:=((Looks.ld (part:=none) hC).andThen .now).andThen .now
 dsimp only
 rw [if_neg (by simp)]
 refine Ab (hm.at ?_)
 rw [e4]
 refine Bv (fun c=>(Bool.false_ne_true c).elim) fun zA=>?_
 refine Ab (made.at ?_)
 refine Aa (Ac ?_)
 refine Aa (Ad (Ck (Wa (hnew ?_))))
 have k:∀ b o,h.get? b=some o→((h.push emptyDict).push ob).get? b=some o:=fun b o e=>Heap.get?_push_of_some _ (Heap.get?_push_of_some _ e)
 have hx:((h.push emptyDict).push ob).get? (h.objs.size+1)=some ob:=by
  have:=Heap.get?_push_size (h.push emptyDict) (o:=ob) hfr
  rwa [Heap.size_push] at this
 have t1:Looks (model prog w) ((h.push emptyDict).push ob) (typeOf (.ref (h.objs.size+1))) (.ref C):=hcls▸(Looks.ld hx).andThen .now
 have s1:=self.keeps k
 have i1:=hi.keeps k
 have b1:=(hb (.ref (h.objs.size+1))).keeps k
 refine Ab (m:=isInstance (.ref (h.objs.size+1)) (.ref C)) (wpAny_bind (t1.at (s1.at ?_)))
 refine Bv (fun c=>absurd c (by decide)) fun zA=>?_
 refine Aa (Ad ?_)
 refine Ab (m:=specialOf (.ref (h.objs.size+1)) "__init__") (wpAny_bind (t1.at (i1.at ?_)))
 refine Ad (Ab (b1.at ?_))
 refine Aa (Ck (Ee hq fun r s' z=>?_))
 rcases r with e|(v|_|_|_)<;>first|exact z|exact z.elim|skip
 obtain ⟨rfl,z⟩:=z
 refine Ac ?_
 refine Bv (fun c=>absurd c (by decide)) fun zA=>?_
 exact Ac z
end
noncomputable abbrev bx(C dx:Addr):Obj:={cls:=.ref C,dict:=some dx,data:=.seq #[]}
namespace LN
theorem kind:builtinKind "list.__new__" = some .builtinFn:=by decide +kernel
theorem split:splitId "list.__new__" = some ("list","__new__"):=by decide +kernel
theorem row:Manifest.signature? "list.__new__" = some ⟨.any,"list","list",.cls,[⟨"args",.varPos,false⟩,⟨"kwargs",.varKw,false⟩]⟩:=by kernel_rfl
theorem quiet : "list.__new__".startsWith "lifetime." = false:=by decide +kernel
end LN
section
variable {prog:Program} {w:World} {A:Around} {C fI:Addr} {R:Result→Shared→Prop} {h:Heap} {g:Array GenState} {d:Drawn} {t:Nat} {os:OsState}
theorem Ae3{rest:List Value}(Y:Q2 (model prog w) h C "list.__new__")(hl:Looks (model prog w) h (isSubtype (.ref C) (.type "list")) true)
  (hq:R (.ok (.ret (.ref (h.objs.size+1)))) ⟨(h.push emptyDict).push (bx C h.objs.size),g,d,t,os⟩) :
  codeAny (model prog w) A (.call (.builtin "list.__new__") ⟨.ref C::rest,[]⟩) R ⟨h,g,d,t,os⟩:=by
 obtain ⟨⟨oc,od,cd,sl,hC,e1,e2,e4⟩,made,base,self,top,call,typ⟩:=Y
 refine codeAny_call_builtin_code (Code.quiet_builtin _ LN.quiet) ?_
 simp only [checkBuiltinCall,LN.kind,LN.split,LN.row]
 have args:Bind.checkArgs "list.__new__" ⟨.any,"list","list",.cls,[⟨"args",.varPos,false⟩,⟨"kwargs",.varKw,false⟩]⟩ ⟨.ref C::rest,[]⟩=pure ():=by kernel_rfl
 rw [args]
 repeat (first|rw [if_pos (by decide)]|rw [if_neg (by decide)]|rw [if_neg (by simp only [bne_self_eq_false,Bool.false_eq_true,not_false_eq_true])]|lk)
 refine codeAny_builtin_stack F.entry_list_new rfl fun p st=>?_
 have hown:=owner_list_new
 simp only [hown]
 repeat (first|rw [if_pos (by decide)]|rw [if_neg (by decide)]|rw [if_neg (by simp only [bne_self_eq_false,Bool.false_eq_true,not_false_eq_true])]|lk)
 refine nd_load (Heap.get?_push_of_some _ (Heap.get?_push_of_some _ hC)) ?_
 refine wpAny_pure ?_
 dsimp only
 rw [e2]
 refine wpAny_pure ?_
 rw [if_neg (by decide),Heap.size_push]
 exact wpAny_pure (wpAny_pure hq)
end
theorem bz(C:Addr)(rest:List Value):(Code.builtin "type.__call__" ⟨.ref C::rest,[]⟩).weight=1:=by
 have hg:(Code.builtin "type.__call__" ⟨.ref C::rest,[]⟩).isGuard=false:=show guardIds.contains "type.__call__" = false by decide +kernel
 unfold Code.weight
 rw [hg]
 rfl
theorem Eb.typeCall{A:Around}{d:Nat}(r:Eb A (d+1))(C:Addr)(rest:List Value):Eb (A.under (.builtin "type.__call__" ⟨.ref C::rest,[]⟩)) d:=by
 refine x11 r.frames fun l hl=>?_
 have hd:=r.depth
 have hu:=r.units
 refine ⟨r.handled,⟨l,?_⟩,?_,?_⟩
 ·show pushEnvs (Code.builtin "type.__call__" ⟨.ref C::rest,[]⟩).envs A.frames=some l
  rw [hl];rfl
 ·show A.depth+(Code.builtin "type.__call__" ⟨.ref C::rest,[]⟩).weight+d≤900
  rw [bz];lia
 ·show A.units+1+64*d≤9000
  lia
theorem b6{K:Frag}{M:Model}{A:Around}{E:Value→Shared→Prop}{s:Shared}{f:Value}(X:K.In s.heap)(e:keepIn K f=true){Q:Keeper→Shared→Prop}(hq:∀ k,Q k s):wpAny M A (keeperOf f) Q E s:=by
 refine x12 (looks_keep (M:=M) e X) fun k zA L=>?_
 exact L.here (hq k)
section
variable {X:Xc} {f:Fm} {ν:Nu} {g:Sg} {A:Around}
theorem b7(F:Fx X){C fI:Addr}{it:Option (List V)}{nid:String}{vs:List V}{zs:List Value}{K:KE}{Q:Value→Shared→Prop}(R:Eb A (X.d+1))(S:SO X.c g)(r:VRs g vs zs)(he:X.Φ fI (.loc g.H.length::vs) (g.H++[.inst C [] it]) fun r H2=>O4 r (K (.loc g.H.length) H2))(hQ:Hd X g K Q)
  (n1:Wg X.c.K C nid=true) (n3:findIn X.c.K (.ref C) "__init__" = some (some (.ref fI))) (n4:typeIn X.c.K (.ref fI)=some (.type "function")) (ob:Obj) (ho1:ob.cls=.ref C) (ho2:ob.isFreed=false)
  (hrel:∀ (T:Nat) (Y:Addr→Prop) (ρ':Rho) (h':Heap),h'.get? (g.s.heap.objs.size+1)=some ob→h'.get? g.s.heap.objs.size=some emptyDict→He Y ρ' T h' (g.s.heap.objs.size+1,g.s.heap.objs.size) (.inst C [] it))
  (hnew:∀ {A':Around} {R':Result→Shared→Prop},R' (.ok (.ret (.ref (g.s.heap.objs.size+1)))) {g.s with heap:=(g.s.heap.push emptyDict).push ob}→codeAny X.c.M A' (.call (.builtin nid) ⟨.ref C::zs,[]⟩) R' g.s) :
  Bc X.c.M A (.call (.ref C) ⟨zs,[]⟩) (j4 Q) g.s:=by
 have hD:((g.s.heap.push emptyDict).push ob).get? g.s.heap.objs.size=some emptyDict:=Heap.get?_push_of_some _ (Heap.get?_push_size _ rfl)
 have hX:((g.s.heap.push emptyDict).push ob).get? (g.s.heap.objs.size+1)=some ob:=by
  have:=Heap.get?_push_size (g.s.heap.push emptyDict) (o:=ob) ho2
  rwa [Heap.size_push] at this
 have gr:Au g.s {g.s with heap:=(g.s.heap.push emptyDict).push ob}:=(Au.push g.s emptyDict).trans (Au.push {g.s with heap:=g.s.heap.push emptyDict} ob)
 refine x02 (Cv.new F.ok S (p:=(g.s.heap.objs.size+1,g.s.heap.objs.size)) (ob:=.inst C [] it) gr (Heap.get?_none_of_le (Nat.le_succ _)) (Heap.get?_none_of_le (Nat.le_refl _)) ⟨_,hX⟩ ⟨_,hD⟩ (fun zA=>hrel _ _ _ _ hX hD)) fun st le=>?_
 let g2:Sg:=⟨g.ρ++[(g.s.heap.objs.size+1,g.s.heap.objs.size)],g.H++[.inst C [] it],{g.s with heap:=(g.s.heap.push emptyDict).push ob}⟩
 have t:Go X.c g g2:=⟨st,le⟩
 refine Yb (Ls (M:=X.c.M) S.stat.K n1) (looks_findIn S.stat.K n3) (fun self=>bind_fn S.stat.K self n4) ho1 ho2 hnew ?_
 have rl:VR g2 (.loc g.H.length) (.ref (g.s.heap.objs.size+1)):=by
  refine .loc (d:=g.s.heap.objs.size) ?_
  show (g.ρ++[(g.s.heap.objs.size+1,g.s.heap.objs.size)])[g.H.length]?=_
  rw [←S.heap.len];exact List.getElem?_concat_length ..
 refine Ee (F.snd fI _ g2 _ he _ _ (R.typeCall C zs) st (.cons rl (t.rels S r)) (fun z s'=>z=.none∧Q (.ref (g.s.heap.objs.size+1)) s') fun v z g3 k3 t3 r3=>?_) fun r s' z=>?_
 ·cases v<;>try exact k3.elim
  exact r3.none_E ⟨rfl,hQ _ _ g3 k3 (t.trans t3) (t3.rel st rl)⟩
 ·exact z
theorem Abq(F:Fx X){C:Addr}{es:MEs}(h:LS X es):ES X (.new C es):=fun f ν g x K hx S he Q hQ=>hx (fun x=>Wn X f.A (eval x f.env) Q g.s) fun y q xs p h1 h2 h3=>
 show Wn X f.A (eval (.Name y q) f.env>>=fun fv=>callWith p fv [] (backTo p (starEach xs f.env)) []) Q g.s from by
 refine x02 (F.clss y C (eq_of_beq h1)) fun hg hi=>?_
 refine Ab (Qu F h2 (.inl hg) S ?_)
 cases hf:X.tb.initOf C with
 | none=>rw [hf] at hi;exact Bool.noConfusion hi
 | some fI=>
  refine x04 (F.news C fI hf) fun n1 n2 n3 n4=>?_
  refine X9 h h3 S (K:=fun vs H1=>opt (X.tb.initOf C) fun f=>X.Φ f (.loc H1.length::vs) (H1++[Ob.inst C [] (if X.tb.isList C then some [] else none)]) fun r H2=>O4 r (K (.loc H1.length) H2)) he (fun g' t Q' q=>b6 t.st.stat.K n2 q) fun vs zs g' k t r=>Ck ?_
  rw [hf] at k
  have hQ:=hQ.then t
  by_cases hl:X.tb.isList C=true
  ·rw [if_pos hl] at n1 k
   refine b7 F S.room t.st r k hQ n1 n3 n4 (bx C g'.s.heap.objs.size) rfl rfl (fun T X ρ' h' q1 q2=>⟨(Nat.succ_ne_self _).symm,⟨[],0,q2,.nil⟩,[],0,q1,.nil⟩) fun hR=>?_
   exact Ae3 (Ls (M:=X.c.M) t.st.stat.K n1) (looks_mroIn t.st.stat.K (F.lists C hl).1.list) hR
  ·rw [if_neg hl] at n1 k
   refine b7 F S.room t.st r k hQ n1 n3 n4 (instObj C g'.s.heap.objs.size) rfl rfl (fun T X ρ' h' q1 q2=>⟨(Nat.succ_ne_self _).symm,⟨[],0,q2,.nil⟩,q1⟩) fun hR=>?_
   exact new_K (Ls (M:=X.c.M) t.st.stat.K n1).toMakes (looks_findIn t.st.stat.K n3) (.inl rfl) hR
end
noncomputable abbrev LeS(c:Cfg)(Y:Addr→Prop)(g g':Sg):Prop:=Le c.T Y g.ρ g.H g.s g'.ρ g'.H g'.s
structure b8(c:Cfg)(A:Around)(env:Env)(g:Sg)(l:List V)(I:Addr)(s₂:Shared)(fp:List Addr)(P:Nat→Value→Prop)(St:Nat→Heap→Prop):Prop where
 grow:Au g.s s₂
 new:g.s.heap.get? I=none
 W:Walks c.prog c.w A I fp [I] l.length P St
 st:St 0 s₂.heap
 firm:∀ b∈fp,b≠I→(∃ o,g.s.heap.get? b=some o)∧¬Mut g.ρ g.H b∧¬Fy env b∧∀ q∈c.T,b≠q.2
 item:∀ i v,i<l.length→P i v→∃ u,l[i]?=some u∧VR g u v
 at_:∀ i h,St i h→∃ o,h.get? I=some o∧Cb o=false
noncomputable abbrev b9(c:Cfg)(A:Around)(env:Env)(g:Sg)(l:List V)(R:Value→Shared→Prop):Prop:=∀ I s2 fp P St,b8 c A env g l I s2 fp P St→R (.ref I) s2
section
variable {X:Xc} {f:Fm} {ν:Nu} {g:Sg} {l:List V} {E R:Value→Shared→Prop}
theorem ca(S:Si X f ν g){a:Addr}{xs:List Value}{n:Nat}(p1:¬Mut g.ρ g.H a)(p2:g.s.heap.get? a=some (Dy xs.toArray n))(p3:VRs g l xs)(hR:b9 X.c f.A f.env g l R):wpAny X.c.M f.A (pyIter (.ref a)) R E g.s:=by
 have hL:g.s.heap.IsList a xs.toArray:=⟨_,p2,rfl,_,rfl⟩
 have hna:a≠g.s.heap.objs.size:=Nat.ne_of_lt (Heap.lt_size p2)
 refine wpAny_pyIter_list hL (hR _ _ [g.s.heap.objs.size,a] (fun i v=>xs.toArray[i]?=some v) (fun i h=>h.IsListIter g.s.heap.objs.size a i∧h.IsList a xs.toArray) ⟨Au.push _ _,Eg _,?_,⟨⟨_,Heap.get?_push_size _ rfl,rfl,rfl⟩,hL.push _⟩,fun b hb hbI=>?_,fun i v zA hv=>?_,fun i h w=>?_⟩)
 ·have hsz:l.length=xs.toArray.size:=p3.length
  rw [hsz]
  exact Walks.list (prog:=X.c.prog) (w:=X.c.w) (A:=f.A) S.room.handled g.s.heap.objs.size a hna xs.toArray
 ·have hba:b=a:=(List.mem_cons.mp hb).elim (fun e=>absurd e hbI) List.mem_singleton.mp
  subst hba
  refine ⟨⟨_,p2⟩,p1,fun y=>?_,fun q hq z=>?_⟩
  ·have:=S.fr.quiet _ _ y p2
   cases this
  ·obtain ⟨ps,⟨_,et⟩,_⟩:=S.st.stat.tab q hq
   rw [←z,p2] at et
   cases et
 ·rw [List.getElem?_toArray] at hv
  exact p3.get' hv
 ·obtain ⟨⟨o,h1,h2,h3⟩,_⟩:=w
  exact ⟨o,h1,by unfold Cb;rw [h3]⟩
theorem ly(S:Si X f ν g){str:Str}{tk:Tok}(hR:b9 X.c f.A f.env g (It str) R):wpAny X.c.M f.A (pyIter (.str str tk)) R E g.s:=by
 have hlen:(It str).length=str.cps.size:=by unfold It;rw [List.length_map,Array.length_toList]
 have fin:∀ (ty:String),(∀ A':Around,A'.handled=none→Walks X.c.prog X.c.w A' g.s.heap.objs.size [g.s.heap.objs.size] [g.s.heap.objs.size] str.cps.size (SignAt str) (fun i h=>h.IsStrIter g.s.heap.objs.size ty str tk i))→
   R (.ref g.s.heap.objs.size) {g.s with heap:=g.s.heap.push {cls:=.type ty,data:=.fields #[.str str tk,.int 0 0]}}:=fun ty W=>by
  refine hR _ _ [g.s.heap.objs.size] (SignAt str) (fun i h=>h.IsStrIter g.s.heap.objs.size ty str tk i) ⟨Au.push _ _,Eg _,by rw [hlen];exact W f.A S.room.handled,⟨_,Heap.get?_push_size _ rfl,rfl,rfl⟩,fun b hb hbI=>absurd (List.mem_singleton.mp hb) hbI,?_,?_⟩
  ·rintro i v _ ⟨cp,u,h1,rfl⟩
   refine ⟨.str ⟨#[cp]⟩,?_,.str _ _⟩
   unfold It
   rw [List.getElem?_map,Array.getElem?_toList,h1];rfl
  ·rintro i h ⟨o,h1,h2,h3⟩
   exact ⟨o,h1,by unfold Cb;rw [h3]⟩
 cases ha:str.cps.all (· < 128)
 ·exact wpAny_pyIter_wide ha (fin _ fun A' hA=>Walks.strWide hA _ str _)
 ·exact wpAny_pyIter_ascii ha (fin _ fun A' hA=>Walks.strAscii hA _ str _)
theorem Abr(S:Si X f ν g){v:V}{x:Value}{k:List V→Prop}(e:Z4 v k)(r:VR g v x){P:Prop}(hP:∀ l,k l→(∀ {E R:Value→Shared→Prop},b9 X.c f.A f.env g l R→wpAny X.c.M f.A (pyIter x) R E g.s)→P):P:=by
 cases v<;>try exact e.elim
 case lst l=>exact hP l e.2 fun h=>r.lst_E (fun a xs n p1 p2 p3 h=>ca S p1 p2 p3 h) h
 case str s=>exact hP _ e fun h=>r.str_E (fun t h=>ly S h) h
theorem Q3(a b st:Int):0≤Builtin.Range.rangeSize a b st:=by
 unfold Builtin.Range.rangeSize
 by_cases h0:st>0
 ·rw [if_pos h0]
  by_cases h1:a<b
  ·rw [if_pos h1]
   exact Int.add_nonneg (Int.ediv_nonneg (Int.sub_nonneg_of_le (Int.lt_iff_add_one_le.mp (Int.sub_pos_of_lt h1))) (Int.le_of_lt h0)) (by decide)
  ·rw [if_neg h1];exact Int.le_refl 0
 ·rw [if_neg h0]
  by_cases h1:a>b
  ·rw [if_pos h1]
   exact Int.add_nonneg (Int.ediv_nonneg (Int.sub_nonneg_of_le (Int.lt_iff_add_one_le.mp (Int.sub_pos_of_lt h1))) (Int.neg_nonneg_of_nonpos (Int.not_lt.mp h0))) (by decide)
  ·rw [if_neg h1];exact Int.le_refl 0
theorem lz(S:Si X f ν g){r:Addr}{a b st:Int}{t u v:Tok}(hr:IsRange g.s.heap r a b st t u v)(hs:Builtin.Range.small a b st=true)(hR:b9 X.c f.A f.env g ((Zw a b st).map .int) R):wpAny X.c.M f.A (pyIter (.ref r)) R E g.s:=by
 have hlen:((Zw a b st).map V.int).length=(Builtin.Range.rangeSize a b st).toNat:=by unfold Zw;rw [List.length_map,List.length_map,List.length_range]
 refine wpAny_pyIter_range hr hs (hR _ _ [g.s.heap.objs.size] (fun i v=>∃ t,v=.int (a+i*st) t) (fun i h=>IsRangeIter h g.s.heap.objs.size (a+(i:Nat)*st) (((Builtin.Range.rangeSize a b st).toNat:Int)-(i:Nat)) st) ⟨Au.push _ _,Eg _,by rw [hlen];exact Walks.range S.room.handled g.s.heap.objs.size a st _,?_,fun b hb hbI=>absurd (List.mem_singleton.mp hb) hbI,fun i v hi q=>?_,fun i h e=>⟨_,e,rfl⟩⟩)
 ·show (g.s.heap.push _).get? _=_
  rw [Heap.get?_push_size _ rfl]
  rw [show a+((0:Nat):Int)*st=a by lia,show ((Builtin.Range.rangeSize a b st).toNat:Int)-((0:Nat):Int)=Builtin.Range.rangeSize a b st by rw [Int.toNat_of_nonneg (Q3 a b st)];lia]
 ·refine x11 q fun tk zz1=>?_;subst zz1
  rw [hlen] at hi
  refine ⟨.int (a+i*st),?_,.int _ _⟩
  unfold Zw
  rw [List.getElem?_map,List.getElem?_map,List.getElem?_range hi]
  rfl
end
section
variable {M:Model} {A:Around} {E:Value→Shared→Prop} {s:Shared} {env:Env}
theorem Q4(hh:A.handled=none):A.mark none=A:=by obtain ⟨a,b,c,d,e⟩:=A;cases hh;rfl
theorem Gg{c:Code}{Q:Flow→Shared→Prop}(hc:Bc M A c (fun r s'=>match r with|.ok f=>Q f s'|.error _=>False) s)(hh:A.handled=none):wpN M A (runOwn c env) Q FF s:=by
 unfold runOwn
 refine Cy (Z8 (h:=none) ?_)
 rw [Q4 hh]
 refine Ee hc fun r s' hr=>?_
 cases r with
 | ok f=>exact hr
 | error e=>exact hr.elim
theorem B5{α:Type}{m:Sem α}{k:Value→Sem Unit}{Q:α→Shared→Prop}(h:wpN M A m Q FF s):wpN M A (m.onRaise k) Q E s:=Cy (Ez h (fun zA zB q=>q) fun zA zB e=>e.elim)
theorem Uk{e:Expr}{d:Nat}{it acc:Value}{env:Env}(h:(Code.compStart e d it acc env).frames=0):A.under (.compStart e d it acc env)=A:=by
 refine Around.under_of_weight ?_ ?_
 ·show (Code.compStart e d it acc env).frames+0+0+0=0;exact h
 ·simp only [Code.cUnits,h,Nat.mul_zero]
theorem N9{e:Expr}{d:Nat}{it acc:Value}{env:Env}(h:(Code.compLoop e d it acc env).frames=0):A.under (.compLoop e d it acc env)=A:=by
 refine Around.under_of_weight ?_ ?_
 ·show (Code.compLoop e d it acc env).frames+0+0+0=0;exact h
 ·simp only [Code.cUnits,h,Nat.mul_zero]
end
section
variable (X:Xc) (f:Fm)
structure Kh(ν:Nu)(Y:Addr→Prop)(g0:Sg)(I:Addr)(St:Nat→Heap→Prop)(k:Nat)(g:Sg):Prop where
 sit:Si X f ν g
 le:LeS X.c Y g0 g
 st:St k g.s.heap
 off:Off g.ρ I
structure Ki(Y:Addr→Prop)(g0:Sg)(l:List V)(I:Addr)(fp:List Addr)(P:Nat→Value→Prop)(St:Nat→Heap→Prop):Prop where
 st0:SO X.c g0
 W:Walks X.c.prog X.c.w f.A I fp [I] l.length P St
 new:g0.s.heap.get? I=none
 firm:∀ b∈fp,b≠I→(∃ o,g0.s.heap.get? b=some o)∧¬Mut g0.ρ g0.H b∧¬Y b∧∀ q∈X.c.T,b≠q.2
 item:∀ i v,i<l.length→P i v→∃ u,l[i]?=some u∧VR g0 u v
 at_:∀ i h,St i h→∃ o,h.get? I=some o∧Cb o=false
 env:f.env.locals≠I∧∀ x a,(x,a)∈f.env.cells→a≠I
 quiet:A6 Y g0.s.heap
 yI:¬Y I
end
section
variable {X:Xc} {f:Fm} {ν:Nu} {Y:Addr→Prop} {g0 g:Sg} {l:List V} {I:Addr} {fp:List Addr} {P:Nat→Value→Prop} {St:Nat→Heap→Prop} {k:Nat}
theorem Ki.old(F:Ki X f Y g0 l I fp P St):¬X.c.old I:=fun o=>(F.st0.stat.ex I o).elim fun ob e=>by rw [F.new] at e;cases e
theorem Kh.moved(ok:Bj X.c)(F:Ki X f Y g0 l I fp P St)(L:Kh X f ν Y g0 I St k g){h':Heap}{tk:Nat}(hb:∀ b o,b∉[I]→g.s.heap.get? b=some o→h'.get? b=some o)(ht:g.s.toks≤tk):Si X f ν (g.to {g.s with heap:=h',toks:=tk})∧LeS X.c Y g0 (g.to {g.s with heap:=h',toks:=tk}):=by
 have hb:∀ b o,b≠I→g.s.heap.get? b=some o→h'.get? b=some o:=fun b o hn=>hb b o fun m=>hn (List.mem_singleton.mp m)
 have hq:∀ o,g.s.heap.get? I=some o→Cb o=false:=fun o e=>by
  refine x12 (F.at_ k _ L.st) fun o' e' q=>?_
  rw [e] at e';cases e';exact q
 exact ⟨⟨L.sit.room,L.sit.st.iter ok L.off F.old hq hb ht,L.sit.fr.iter (X:=Mut g.ρ g.H) F.env hq hb ht,L.sit.ap⟩,L.le.iter ok F.st0 F.new hb ht⟩
theorem Kh.next(ok:Bj X.c)(F:Ki X f Y g0 l I fp P St)(L:Kh X f ν Y g0 I St k g){u:V}(hu:l[k]?=some u){E:Value→Shared→Prop}{Q:Option Value→Shared→Prop}
  (hQ:∀ z s',Kh X f ν Y g0 I St (k+1) (g.to s')→VR (g.to s') u z→Q (some z) s'):wpAny X.c.M f.A (pyNext (.ref I)) Q E g.s:=by
 have hk:k<l.length:=(List.getElem?_eq_some_iff.mp hu).1
 refine Cg (P:=fun r s'=>∃ v h' tk,r=some v∧s'={g.s with heap:=h',toks:=tk}∧P k v∧St (k+1) h'∧∀ b o,b∉[I]→g.s.heap.get? b=some o→h'.get? b=some o) (F.W.item k g.s _ _ hk L.st fun v h' tk hP hS hb=>⟨v,h',tk,rfl,rfl,hP,hS,hb⟩) fun r s' ⟨v,h',tk,e1,e2,hP,hS,hb⟩ ht=>?_
 subst e1 e2
 refine x02 (L.moved ok F hb ht) fun st le=>?_
 refine x12 (F.item k v hk hP) fun u' h1 h2=>?_
 rw [hu] at h1;cases h1
 exact hQ v _ ⟨st,le,hS,L.off⟩ (le.rel F.st0.stat.tab F.quiet h2)
theorem Kh.done(ok:Bj X.c)(F:Ki X f Y g0 l I fp P St)(L:Kh X f ν Y g0 I St l.length g){E:Value→Shared→Prop}{Q:Option Value→Shared→Prop}
  (hQ:∀ s',Si X f ν (g.to s')→LeS X.c Y g0 (g.to s')→Q none s'):wpAny X.c.M f.A (pyNext (.ref I)) Q E g.s:=
 Cg (P:=fun r s'=>∃ h' tk,r=none∧s'={g.s with heap:=h',toks:=tk}∧∀ b o,b∉[I]→g.s.heap.get? b=some o→h'.get? b=some o) (F.W.done g.s _ _ L.st fun h' tk hb=>⟨h',tk,rfl,rfl,hb⟩) fun r s' ⟨h',tk,e1,e2,hb⟩ ht=>by
 subst e1 e2
 refine x02 (L.moved ok F hb ht) fun st le=>?_
 exact hQ _ st le
theorem Off.noMut{g:Sg}(h:Off g.ρ I):¬Mut g.ρ g.H I:=fun ⟨n,p,o,e1,_,_,h'⟩=>h'.elim (fun e=>(h n p e1).1 e.symm) fun e=>(h n p e1).2 e.symm
theorem Kh.body(F:Ki X f Y g0 l I fp P St)(L:Kh X f ν Y g0 I St k g){ν':Nu}{g':Sg}(S:Si X f ν' g')(a:LeS X.c Y g g'):Kh X f ν' Y g0 I St k g':=by
 have hI:=F.at_ _ _ L.st
 refine ⟨S,L.le.trans a,F.W.frame k _ _ L.st fun b hb o e=>?_,L.off.le a (hI.elim fun o q=>⟨o,q.1⟩)⟩
 by_cases hbI:b=I
 ·subst hbI
  refine a.keep b o e L.off.noMut F.yI fun q hq z=>?_
  obtain ⟨ps,⟨_,et⟩,_⟩:=F.st0.stat.tab q hq
  rw [←z,F.new] at et;cases et
 ·obtain ⟨⟨o0,e0⟩,f2,f3,f4⟩:=F.firm b hb hbI
  exact a.keep b o e (fun m=>f2 (L.le.mu b o0 e0 m)) f3 f4
end
noncomputable def Oa(e0:Expr)(gens:List Comprehension)(elt:Expr)(dth:Nat)(acc:Value)(env:Env):Sem Unit:=
 match gens[dth]? with
 | some g'=>do
  let x ←eval g'.iter env
  standAt g'.iter.pos
  let x ←if g'.is_async != 0 then foldedIterable g'.iter x else foldedSetIterable g'.iter env x
  let _ ←runOwn (.compStart e0 dth (←holding [x] (if g'.is_async != 0 then asyncIter x else pyIter x)) acc env) env
 | none=>do
  let _ ←call (.builtin "list.append") [acc,←eval elt env]
noncomputable abbrev qw(elt:Expr)(gens:List Comprehension)(scope:Scope)(pos:Pos)(dth:Nat)(it acc:Value)(env:Env)(x:Str)(px:Pos)(iter:Expr):Sem Fin:=
 standAt iter.pos>>=fun zA=>pyNext it>>=fun r=>match r with
   | none=>pure (.done .next)
   | some v=>letOwnedTupleGo (.Name x px) it v>>=fun zA=>assign (.Name x px) env v>>=fun zA=>Oa (.ListComp elt gens scope pos) gens elt (dth+1) acc env>>=fun zA=>again (.compLoop (.ListComp elt gens scope pos) dth it acc env)
theorem cb{elt:Expr}{gens:List Comprehension}{scope:Scope}{pos:Pos}{dth:Nat}{it acc:Value}{env:Env}{x:Str}{px:Pos}{iter:Expr}(hg:gens[dth]?=some ⟨.Name x px,iter,[],0⟩)(hz:∀ g',gens[dth+1]?=some g'→(g'.is_async != 0)=false) :
  compTurn (.ListComp elt gens scope pos) dth it acc env=qw elt gens scope pos dth it acc env x px iter:=by
 unfold compTurn qw Oa
 cases hn:gens[dth+1]? with
 | none=>
  simp only [hg,hn]
  simp only [bind_assoc]
  rfl
 | some g'=>
  simp only [hg,hn]
  simp only [hz g' hn,Bool.false_eq_true,if_false,bind_assoc]
  rfl
theorem cf{nm:Nm}:∀ {gs:MGs} {cx:Cx} {l:List Comprehension},ql nm gs cx l→∀ g',l[0]?=some g'→(g'.is_async != 0)=false
 | .nil,_,_,h=>h (fun l=>∀ g',l[0]?=some g'→(g'.is_async != 0)=false) fun g' e=>nomatch e
 | .cons _ _ _,_,_,h=>h (fun l=>∀ g',l[0]?=some g'→(g'.is_async != 0)=false) fun x p iter rest zA zB zC g' e=>Option.some.inj e▸rfl
section
variable (X:Xc)
noncomputable def IS(it:MI):Prop:=∀ (f:Fm) (ν:Nu) (g:Sg) (x:Expr) (K:KL),Z6 X.nm it f.cx x→Si X f ν g→evI X.tb X.Φ it ν g.H K→∀ Q:Value→Shared→Prop,
 (∀ z l g',K l g'.H→Go X.c g g'→(∀ {E R:Value→Shared→Prop},b9 X.c f.A f.env g' l R→wpAny X.c.M f.A (pyIter z) R E g'.s)→Q z g'.s)→Wn X f.A (eval x f.env) Q g.s
noncomputable abbrev Loc(f:Fm):Addr→Prop:=fun b=>b=f.env.locals
noncomputable def GB(gs:MGs)(el:ME):Prop:=∀ (f:Fm) (ν:Nu) (g:Sg) (elt:Expr) (gens:List Comprehension) (scope:Scope) (pos:Pos) (dth:Nat) (n:Nat) (D:Addr) (κ:Hp→Prop),ql X.nm gs f.cx (gens.drop dth)→Az X.nm el f.cx elt→Hf (Zx gs)=true→
 Si X f ν g→(∀ i∈Zx gs,ν[i]?=some none)→g.ρ[n]?=some (D,D)→evG X.tb X.Φ (fun ν H K=>ev X.tb X.Φ el ν H K) n gs ν g.H κ→∀ Q:Unit→Shared→Prop,
 (∀ g',κ g'.H→Si X f ν g'→LeS X.c (Loc f) g g'→Q () g'.s)→Wn X f.A (Oa (.ListComp elt gens scope pos) gens elt dth (.ref D) f.env) Q g.s
end
section
variable {X:Xc} {f:Fm} {ν:Nu} {g:Sg}
theorem Ul{it:MI}{nm:Nm}{cx:Cx}{x:Expr}(h:Z6 nm it cx x)(env:Env)(y:Value):foldedSetIterable x env y=pure y:=by
 cases it with
 | val e=>
  have h:V8 x=true:=h.1
  cases x<;>first|rfl|exact Bool.noConfusion h
 | rng es=>exact h (fun x=>foldedSetIterable x env y=pure y) fun zA zB zC zD zE=>rfl
theorem qx(F:Fx X){e:ME}(h:ES X e):IS X (.val e):=fun f ν g x K hx S he Q hQ=>h f ν g x (fun v H1=>Z4 v fun l=>K l H1) (And.right hx) S he Q fun v z g1 k1 t1 r1=>Abr (t1.sit F.ok S) k1 r1 fun l k hit=>hQ z l g1 k t1 hit
theorem Abs{i:Int}(h:qk i=true):i.natAbs<1152921504606846976:=Ak (a:=decide (-1000000≤i)) h fun h1 h2=>by
 have:=od9 h1
 have:=od9 h2
 lia
theorem qy(F:Fx X){es:MEs}(h:LS X es):IS X (.rng es):=fun f ν g x K hx S he Q hQ=>hx (fun x=>Wn X f.A (eval x f.env) Q g.s) fun q xs p h2 h3=>by
 show Wn X f.A (eval (.Name ("range" : Str) q) f.env>>=fun fv=>callWith p fv [] (backTo p (starEach xs f.env)) []) Q g.s
 refine Ab (Qu F h2 (y:=.type "range") (.inr ⟨F.rng.1,by rw [F.ok.boot _ (by decide)];decide +kernel⟩) S ?_)
 refine X9 h h3 S (K:=fun vs H1=>Af7 vs fun l=>K l H1) he (fun g' t Q' q=>C8 (f:=.type "range") (fun a e=>nomatch e) q) fun vs zs g1 k1 t1 r1=>Af ?_
 have fin:∀ (a b st:Int) (t u v:Tok) (s2:Shared),Au g1.s s2→IsRange s2.heap g1.s.heap.objs.size a b st t u v→Aad a b st (fun l=>K l g1.H)→Q (.ref g1.s.heap.objs.size) s2:=fun a b st t u v s2 gr hr k=>
  hQ _ _ (g1.to s2) k.2.2.2.2.2 (t1.then F.ok gr) fun hR=>lz ((t1.then F.ok gr).sit F.ok S) hr k.2.2.2.2.1 hR
 match vs,k1,r1 with
 | [],k,_=>exact k.elim
 | _::_::_::_::_,k,_=>exact k.elim
 | [n],k,r=>exact r.one_E fun z r=>A7 (C:=fun v=>VR g1 v z→_) k (fun i k r=>r.int_E fun t=>call_range_1 (fin 0 _ 1 _ _ _ _ ((Au.push g1.s _).trans ((Au.succ _).trans (Au.succ _))) (Heap.get?_push_size _ rfl) k)) r
 | [a,b],k,r=>
  exact Ae.cons_E r fun y ys r1 r2=>Ae.one_E r2 fun z r2=>A7 (C:=fun v=>VR g1 v y→_) k (fun i k r1=>A7 (C:=fun v=>VR g1 v z→_) k (fun j k r2=>r1.int_E fun t=>r2.int_E fun u=>
   call_range_2 (fin _ _ 1 _ _ _ _ ((Au.push g1.s _).trans (Au.succ _)) (Heap.get?_push_size _ rfl) k)) r2) r1
 | [a,b,c],k,r=>
  exact Ae.cons_E r fun y ys r1 r2=>Ae.cons_E r2 fun z zs r2 r3=>Ae.one_E r3 fun w r3=>A7 (C:=fun v=>VR g1 v y→_) k (fun i k r1=>A7 (C:=fun v=>VR g1 v z→_) k (fun j k r2=>A7 (C:=fun v=>VR g1 v w→_) k (fun m k r3=>r1.int_E fun t=>r2.int_E fun u=>r3.int_E fun v=>
   call_range_3 (fun e=>Bool.noConfusion ((Dw k.2.2.2.1).symm.trans (beq_iff_eq.mpr e))) (fin _ _ _ _ _ _ _ (Au.push g1.s _) (Heap.get?_push_size _ rfl) k) (.inl (Ld (Abs k.2.2.1)))) r3) r2) r1
theorem Q5(F:Fx X){n:Nat}{D:Addr}{v:V}{z:Value}{A:Around}(S:SO X.c g)(hD:g.ρ[n]?=some (D,D)){κ:Hp→Prop}(e:ue n v g.H κ)(r:VR g v z){Q:Value→Shared→Prop}{E:Value→Shared→Prop}(hQ:∀ g',κ g'.H→Go X.c g g'→Q .none g'.s):wpAny X.c.M A (call (.builtin "list.append") [.ref D,z]) Q E g.s:=
 Lr e fun l hn k=>(S.heap.lst hD hn).elim fun xs q=>q.elim fun k' q=>Qk q.1 (by rw [←q.2.length];exact od9 k.1) fun h' n' hh hb=>by
  refine x02 (Cv.put F.ok S (ob:=.lst (l++[v])) hD hn (fun e=>nomatch e) (.inl rfl) (tk:=g.s.toks) hb ⟨_,hh⟩ (Nat.le_refl _) fun le=>⟨rfl,_,_,hh,(le.rels S.stat.tab A6.none q.2).append (.cons (le.rel S.stat.tab A6.none r) .nil)⟩) fun st le=>?_
  exact hQ ⟨g.ρ,g.H.set n (.lst (l++[v])),_⟩ k.2 ⟨st,le⟩
theorem qz(F:Fx X){el:ME}(hE:ES X el):GB X .nil el:=fun f ν g elt gens scope pos dth n D κ hg hx zA S zB hD he Q hQ=>by
 have hnone:gens[dth]?=none:=List.getElem?_eq_none (List.drop_eq_nil_iff.mp (hg (fun l=>l=[]) rfl))
 unfold Oa
 rw [hnone]
 exact Aa (hE f ν g elt (fun v H1=>ue n v H1 κ) hx S he _ fun v z g1 k1 t1 r1=>Ab (Q5 F t1.st (t1.le.pre _ _ hD) k1 r1 fun g2 k2 t2=>Ac (hQ g2 k2 ((t1.trans t2).sit F.ok S) ((t1.trans t2).le.weaken fun b o zA y=>y.elim))))
section
variable {el:ME} {gs:MGs} {elt iter:Expr} {gens:List Comprehension} {scope:Scope} {pos px:Pos} {x:Str} {i dth n:Nat} {D I:Addr} {l:List V} {g0:Sg} {fp:List Addr} {P:Nat→Value→Prop} {St:Nat→Heap→Prop} {Y:Addr→Prop} {κ:Hp→Prop} {R:Result→Shared→Prop}
theorem Q6(F:Fx X)(hB:GB X gs el)(hg:gens[dth]?=some ⟨.Name x px,iter,[],0⟩)(hs:f.cx.slots.lookup x=some i)(hn:f.cx.names.lookup x=some .local)(hcg:ql X.nm gs f.cx (gens.drop (dth+1)))(hce:Az X.nm el f.cx elt)(hnd:Hf (i::Zx gs)=true)
  (hν:∀ j∈i::Zx gs,ν[j]?=some none) (LF:Ki X f (Loc f) g0 l I fp P St) (hR:∀ g',κ g'.H→g'.ρ[n]?=some (D,D)→Si X f ν g'→LeS X.c (Loc f) g0 g'→R (.ok .next) g'.s) :
  ∀ (m k:Nat) (g:Sg),g.ρ[n]?=some (D,D)→l.length=k+m→Kh X f ν (Loc f) g0 I St k g→T7 (fun v H' k'=>evG X.tb X.Φ (fun ν H K=>ev X.tb X.Φ el ν H K) n gs (ν.set i (some v)) H' k') (l.drop k) g.H κ→Bc X.c.M f.A (.compLoop (.ListComp elt gens scope pos) dth (.ref I) (.ref D) f.env) R g.s:=by
 have hsync:∀ g',gens[dth+1]?=some g'→(g'.is_async != 0)=false:=fun g' e=>cf hcg g' (by rw [List.getElem?_drop];exact e)
 intro m
 induction m with
 | zero=>
  intro k g hD hk L hf
  have hkl:k=l.length:=hk.symm
  subst hkl
  refine codeN_of_tree rfl ?_
  rw [N9 rfl]
  show wpN X.c.M f.A ((compTurn (.ListComp elt gens scope pos) dth (.ref I) (.ref D) f.env).onRaise _) _ _ g.s
  refine B5 ?_
  rw [cb hg hsync]
  rw [List.drop_length] at hf
  exact Ab (wpAny_standAt (Ab (L.done F.ok LF fun s' S' le=>Ac (hR (g.to s') hf hD S' le))))
 | succ m ih=>
  intro k g hD hk L hf
  have hkl:k<l.length:=by rw [hk];exact Nat.lt_add_of_pos_right (Nat.succ_pos m)
  have hu:l[k]?=some l[k]:=List.getElem?_eq_getElem hkl
  rw [List.drop_eq_getElem_cons hkl] at hf
  refine codeN_of_tree rfl ?_
  rw [N9 rfl]
  show wpN X.c.M f.A ((compTurn (.ListComp elt gens scope pos) dth (.ref I) (.ref D) f.env).onRaise _) _ _ g.s
  refine B5 ?_
  rw [cb hg hsync]
  refine Ab (wpAny_standAt (Ab (L.next F.ok LF hu fun y s1 L1 r1=>?_)))
  refine Aa (Ac ?_)
  show wpN X.c.M f.A ((standAt px>>=fun zA=>bindName f.env x y)>>=_) _ _ s1
  refine Aa (Ab (wpAny_standAt (Af (wpAny_bindName ?_))))
  refine Lb F.ok L1.sit hs hn r1 fun s2 S2 le2=>?_
  have hνi:=hν i ms9
  refine Ak (a:=!(Zx gs).contains i) hnd fun hni hnd=>?_
  have hnd':∀ j∈Zx gs,j≠i:=fun j hj e=>Bool.noConfusion ((List.contains_iff_mem.mpr (e▸hj)).symm.trans (Dw hni))
  refine Aa (hB f (ν.set i (some l[k])) (g.to s2) elt gens scope pos (dth+1) n D _ hcg hce hnd S2 (fun j hj=>?_) hD hf _ fun g3 k3 S3 le3=>Ac ⟨rfl,?_⟩)
  ·rw [Fj ⟨_,hνi⟩,if_neg (hnd' j hj)]
   exact hν j (mm9 _ hj)
  ·have S3':Si X f ν g3:=⟨S3.room,S3.st,S3.fr.forget (by rw [List.length_set]) fun j ov e=>by
    by_cases hj:j=i
    ·subst hj;rw [hνi] at e;cases e;exact .inl rfl
    ·rw [Fj ⟨_,hνi⟩,if_neg hj];exact .inr e,S3.ap⟩
   exact ih (k+1) g3 (le3.pre _ _ hD) (by rw [hk,Nat.add_assoc,Nat.add_comm m]) (L1.body LF S3' (le2.trans le3)) k3
theorem Oc(hg:gens[dth]?=some ⟨.Name x px,iter,[],0⟩){acc:Value}(LF:Ki X f Y g0 l I fp P St){s:Shared}(hS:St 0 s.heap)(h:Bc X.c.M f.A (.compLoop (.ListComp elt gens scope pos) dth (.ref I) acc f.env) R s):Bc X.c.M f.A (.compStart (.ListComp elt gens scope pos) dth (.ref I) acc f.env) R s:=by
 refine codeN_of_tree rfl ?_
 rw [Uk rfl]
 show wpN X.c.M f.A ((compStart (.ListComp elt gens scope pos) dth (.ref I) acc f.env).onRaise _) _ _ s
 refine B5 ?_
 unfold compStart
 have hcl:clausesOf (.ListComp elt gens scope pos)=gens:=rfl
 rw [hcl,hg]
 show wpN X.c.M f.A (ask>>=_) _ _ s
 refine Ab (wpAny_askSetting ?_)
 refine Bv (fun zA=>Ac ⟨rfl,h⟩) fun zA=>?_
 refine Ab (wpAny_rule (Ab (wpAny_standAt ?_)))
 exact Ab (LF.W.self 0 s _ _ hS (Ac ⟨rfl,h⟩))
end
theorem cg(F:Fx X){el:ME}{i:Nat}{it:MI}{gs:MGs}(hI:IS X it)(hB:GB X gs el):GB X (.cons i it gs) el:=fun f ν g elt gens scope pos dth n D κ hG hce hnd S hν hD he Q hQ=>
 hG (fun l=>gens.drop dth=l→Wn X f.A (Oa (.ListComp elt gens scope pos) gens elt dth (.ref D) f.env) Q g.s) (fun x px iter rest hc h3 h4 hdrop=>Ak hc fun h1 h2=>by
  have hg:gens[dth]?=some ⟨.Name x px,iter,[],0⟩:=by
   have:=congrArg (·[0]?) hdrop
   rw [List.getElem?_drop] at this;exact this
  have hrest:gens.drop (dth+1)=rest:=by rw [List.drop_add_one_eq_tail_drop,hdrop];rfl
  unfold Oa
  rw [hg]
  dsimp only
  refine Aa (hI f ν g iter _ h3 S he _ fun z l g1 k1 t1 hit=>?_)
  refine Ab (wpAny_standAt ?_)
  rw [if_neg (show ¬((0:Int) != 0)=true by decide),Ul h3]
  refine Aa (Ac (Aa (Ad (Af ?_))))
  rw [if_neg (show ¬((0:Int) != 0)=true by decide)]
  refine hit fun I s2 fp P St K=>?_
  have S1:=t1.sit F.ok S
  have hIe:f.env.locals≠I∧∀ x a,(x,a)∈f.env.cells→a≠I:=by
   obtain ⟨m,⟨o,es,ep,ho,_⟩,_⟩:=S1.fr.ns
   refine ⟨fun z=>by (rw [z,K.new] at ho;cases ho),fun x a hx z=>?_⟩
   refine x22 (S1.fr.cellEx x a hx) fun x' o' ho' zA=>?_
   rw [z,K.new] at ho';cases ho'
  have LF:Ki X f (Loc f) g1 l I fp P St:=⟨t1.st,K.W,K.new,fun b hb hbI=>(K.firm b hb hbI).imp id fun q=>q.imp id fun q=>q.imp (fun q y=>q (.inl y)) id,K.item,K.at_,hIe,fun b o y e=>S1.fr.quiet b o (.inl y) e,fun y=>hIe.1 y.symm⟩
  refine Aa (Gg ?_ S.room.handled)
  refine Oc hg LF K.st (Q6 F hB hg (eq_of_beq h1) (eq_of_beq h2) (by rw [hrest];exact h4) hce hnd hν LF (κ:=κ) (fun g3 k3 zA S3 le3=>?_) l.length 0 (g1.to s2) (t1.le.pre _ _ hD) (Nat.zero_add _).symm ⟨S1.grow F.ok K.grow,K.grow.le,K.st,t1.st.off K.new⟩ k1)
  exact Ac (hQ g3 k3 S3 ((t1.le.weaken fun b o zA y=>y.elim).trans le3))) rfl
end
theorem Jv{α:Type}[BEq α][LawfulBEq α]{l:List α}{x:α}{b:Bool}(h:(!l.contains x&&b)=true){P:Prop}(k:(∀ y∈l,x≠y)→b=true→P):P:=
 Ak h fun h1 h2=>k (fun y hy e=>Bool.noConfusion ((List.contains_iff_mem.mpr (e▸hy)).symm.trans (Dw h1))) h2
theorem Q7:∀ {l:List Str},K7 l=true→l.Pairwise (·≠·)
 | [],_=>.nil
 | x::r,h=>Jv (l:=r) (b:=K7 r) h fun h1 h2=>.cons h1 (Q7 h2)
theorem Lu:∀ {l:List Nat},Hf l=true→l.Pairwise (·≠·)
 | [],_=>.nil
 | x::r,h=>Jv (l:=r) (b:=Hf r) h fun h1 h2=>.cons h1 (Lu h2)
theorem Aj{α:Type}{a b:α}{l:List α}(h:a∈b::l){P:Prop}(h1:a=b→P)(h2:a∈l→P):P:=(List.mem_cons.mp h).elim h1 h2
theorem Ae4{α β:Type}{l:List α}{f:α→β}(h:(l.map f).Pairwise (·≠·)){p q:α}(hp:p∈l)(hq:q∈l)(e:f p=f q):p=q:=by
 induction l with
 | nil=>exact nomatch hp
 | cons a r ih=>
  rw [List.map_cons] at h
  cases h with
  | cons h1 h2=>exact Aj hp (fun e1=>Aj hq (fun e2=>e1.trans e2.symm) fun e2=>absurd (e1▸e) (h1 _ (List.mem_map_of_mem e2))) fun e1=>Aj hq (fun e2=>absurd (e2▸e.symm) (h1 _ (List.mem_map_of_mem e1))) fun e2=>ih h2 e1 e2
theorem E1{α:Type}:∀ {l:List (Str×α)} {x:Str} {a:α},(x,a)∈l→(∀ b,(x,b)∈l→b=a)→l.lookup x=some a
 | [],_,_,h,_=>nomatch h
 | (y,b)::r,x,a,h,hu=>by
  rw [List.lookup_cons]
  cases e:x==y with
  | true=>exact congrArg some (hu b (eq_of_beq e▸ms9))
  | false=>exact Aj h (fun e1=>by cases e1;rw [beq_self_eq_true] at e;cases e) fun e1=>E1 e1 fun b hb=>hu b (mm9 _ hb)
noncomputable def Hn(cells:List (Str×Addr))(names:List (Str×NameKind)):List (Str×Addr):=
 ((names.filter (·.2==.free)).map fun p=>(p.1,(cells.lookup p.1).getD 0)).reverse
theorem Q8{cells:List (Str×Addr)}{p:Str×NameKind}{r:List (Str×NameKind)}(hp:(p.2==.free)=true):Hn cells (p::r)=Hn cells r++[(p.1,(cells.lookup p.1).getD 0)]:=by
 unfold Hn
 rw [List.filter_cons,if_pos hp,List.map_cons,List.reverse_cons]
theorem Ws{cells:List (Str×Addr)}{p:Str×NameKind}{r:List (Str×NameKind)}(hp:¬(p.2==.free)=true):Hn cells (p::r)=Hn cells r:=by
 unfold Hn
 rw [List.filter_cons,if_neg hp]
theorem Pg{scope:Scope}{env:Env}(h:∀ x∈scope.names,x.2=.free→∃ a,env.cells.lookup x.1=some a):closureFor scope env=pure (Hn env.cells scope.names):=by
 unfold closureFor
 have key:∀ (names:List (Str×NameKind)) (acc:List (Str×Addr)),(∀ x∈names,x.2=.free→∃ a,env.cells.lookup x.1=some a)→
   (forIn names acc fun (p:Str×NameKind) (cs:List (Str×Addr))=>(do
    if p.2==.free then
     let a ←cellOf env p.1
     pure (ForInStep.yield ((p.1,a)::cs))
    else pure (ForInStep.yield cs):Sem _))=pure (Hn env.cells names++acc):=by
  intro names
  induction names with
  | nil=>intro acc _;rfl
  | cons p r ih=>
   intro acc hr
   rw [List.forIn_cons]
   have hr':=fun x hx=>hr x (mm9 _ hx)
   by_cases hp:(p.2==.free)=true
   ·refine x11 (hr p ms9 (eq_of_beq hp)) fun a ha=>?_
    have hc:cellOf env p.1=pure a:=by unfold cellOf;rw [ha]
    rw [if_pos hp,hc,Q8 hp,ha,List.append_assoc]
    exact (pure_bind _ _).trans (ih _ hr')
   ·rw [if_neg hp,Ws hp]
    exact (pure_bind _ _).trans (ih _ hr')
 have:=key scope.names [] h
 rw [List.append_nil] at this
 exact (congrArg (· >>= pure) this).trans (pure_bind _ _)
theorem Ho{cells:List (Str×Addr)}{x:Str}{a:Addr}:∀ {names:List (Str×NameKind)},(∀ x∈names,x.2=.free→∃ a,cells.lookup x.1=some a)→((x,a)∈Hn cells names↔(x,.free)∈names∧cells.lookup x=some a)
 | [],_=>⟨fun h=>(nomatch h),fun h=>(nomatch h.1)⟩
 | (y,k)::r,hr=>by
  have ih:=@Ho cells x a r fun x hx=>hr x (mm9 _ hx)
  by_cases hp:(k==NameKind.free)=true
  ·have hk:=eq_of_beq hp
   subst hk
   rw [Q8 (p:=(y,.free)) hp,List.mem_append,ih]
   refine x11 (hr _ ms9 rfl) fun b hb=>?_
   have hb:cells.lookup y=some b:=hb
   refine ⟨fun h=>h.elim (fun h=>⟨mm9 _ h.1,h.2⟩) fun h=>?_,fun h=>Aj h.1 (fun e=>.inr ?_) fun e=>.inl ⟨e,h.2⟩⟩
   ·have h:=List.mem_singleton.mp h
    rw [hb] at h;cases h
    exact ⟨ms9,hb⟩
   ·cases e
    rw [h.2];exact List.mem_singleton_self _
  ·rw [Ws (p:=(y,k)) hp,ih]
   exact ⟨fun h=>⟨mm9 _ h.1,h.2⟩,fun h=>⟨Aj h.1 (fun e=>by cases e;exact absurd rfl hp) id,h.2⟩⟩
theorem Hq{cx:Cx}{x:Str}{i:Nat}:∀ {names:List (Str×NameKind)} {b:Nat},(x,i)∈Bg cx names b→(x,.local)∈names∨((x,.free)∈names∧cx.slots.lookup x=some i)
 | [],_,h=>nomatch h
 | (n,k)::r,b,h=>by
  have up:∀ {b},(x,i)∈Bg cx r b→(x,NameKind.local)∈(n,k)::r∨((x,NameKind.free)∈(n,k)::r∧cx.slots.lookup x=some i):=fun h=>
   (Hq h).imp (mm9 _) fun e=>⟨mm9 _ e.1,e.2⟩
  have h:(x,i)∈bif k==.local&&!(n==(".0" : Str)) then (n,b)::Bg cx r (b+1) else
   bif k==.free then (Option.rec (Bg cx r b) (fun i=>(n,i)::Bg cx r b) (cx.slots.lookup n)) else Bg cx r b:=h
  cases e1:k==.local&&!(n==(".0" : Str)) with
  | true=>
   rw [e1] at h
   exact Aj h (fun e=>.inl (by cases e;exact Ak e1 fun e1 zA=>eq_of_beq e1▸ms9)) up
  | false=>
   rw [e1] at h
   cases e2:k==.free with
   | true=>
    rw [e2] at h
    have h:(x,i)∈(Option.rec (Bg cx r b) (fun i=>(n,i)::Bg cx r b) (cx.slots.lookup n):List (Str×Nat)):=h
    cases e3:cx.slots.lookup n with
    | none=>rw [e3] at h;exact up h
    | some j=>rw [e3] at h;exact Aj h (fun e=>.inr (by cases e;exact ⟨eq_of_beq e2▸ms9,e3⟩)) up
   | false=>rw [e2] at h;exact up h
structure Fs(cx:Cx)(scope:Scope):Prop where
 all:∀ p∈scope.names,p.2=.local∨(p.2=.free∧(∃ i,cx.slots.lookup p.1=some i)∧(cx.names.lookup p.1=some .cell∨cx.names.lookup p.1=some .free))∨p.2=.globalImplicit
 nd:(scope.names.map (·.1)).Pairwise (·≠·)
 inj:((Bu cx scope).slots.map (·.2)).Pairwise (·≠·)
 lt:∀ p∈(Bu cx scope).slots,p.2<(Bu cx scope).size
 ge:∀ p∈(Bu cx scope).slots,(Bu cx scope).names.lookup p.1=some .local→cx.size≤p.2
section
variable {c:Cfg} {cx:Cx} {env:Env} {ν:Nu} {X:Addr→Prop} {ρ:Rho} {T:Nat} {h:Heap} {scope:Scope}
theorem Fs.of(h:Z5 cx scope=true):Fs cx scope:=Ak h fun h1 h=>Ak h fun h2 h=>Ak h fun h3 h=>Ak h fun h4 h5=>
 ⟨fun p hp=>X3 (List.all_eq_true.mp h1 p hp) (fun e=>.inl (eq_of_beq e)) fun e=>.inr (X3 e (fun e=>.inl (Ak e fun e1 e=>Ak e fun e2 e3=>⟨eq_of_beq e1,Option.isSome_iff_exists.mp e2,X3 e3 (fun e=>.inl (eq_of_beq e)) fun e=>.inr (eq_of_beq e)⟩)) fun e=>.inr (eq_of_beq e)),
  Q7 h2,Lu h3,fun p hp=>od9 (List.all_eq_true.mp h4 p hp),fun p hp e=>X3 (List.all_eq_true.mp h5 p hp) (fun q=>by rw [e] at q;exact Bool.noConfusion q) od9⟩
theorem Fs.uniq(I:Fs cx scope){x:Str}{k k':NameKind}(h1:(x,k)∈scope.names)(h2:(x,k')∈scope.names):k=k':=congrArg Prod.snd (Ae4 (f:=fun p:Str×NameKind=>p.1) I.nd h1 h2 rfl)
theorem Fs.cells(I:Fs cx scope)(F:Ky c cx env ν X ρ T h):∀ x∈scope.names,x.2=.free→∃ a,env.cells.lookup x.1=some a:=fun x hx hf=>by
 rcases I.all x hx with e|⟨_,⟨i,e1⟩,e2⟩|e
 ·rw [hf] at e;cases e
 ·refine x32 (F.cell _ _ e1 e2) fun a ov x' h1 zA=>?_
  exact ⟨a,h1⟩
 ·rw [hf] at e;cases e
theorem Pi(F:Ky c cx env ν X ρ T h):(relabel scope env).names=Ey cx scope.names:=by
 unfold relabel Ey
 refine List.map_congr_left fun p zA=>?_
 obtain ⟨n,k⟩:=p
 have e:Env.kindOf env n=cx.names.lookup n:=by unfold Env.kindOf;rw [F.names]
 have e2:(env.scope.kind==ScopeKind.function)=true:=by rw [F.kind];rfl
 show (if (k==NameKind.free&&env.scope.kind==ScopeKind.function&&env.kindOf n==some NameKind.cell)=true then (n,NameKind.cell) else (n,k))=if (k==NameKind.free&&cx.names.lookup n==some NameKind.cell)=true then (n,NameKind.cell) else (n,k)
 rw [e,e2,Bool.and_true]
theorem Lv{cx:Cx}{l:List (Str×NameKind)}{x:Str}{k:NameKind}(h:(Ey cx l).lookup x=some k):(x,k)∈l∨((x,.free)∈l∧k=.cell):=by
 have:=mem_of_lookup h
 unfold Ey at this
 refine x12 (List.mem_map.mp this) fun p hp e=>?_
 obtain ⟨n,k'⟩:=p
 cases hc:k'==.free&&cx.names.lookup n==some .cell with
 | true=>
  rw [if_pos hc] at e
  cases e
  exact Ak hc fun h1 zA=>.inr ⟨eq_of_beq h1▸hp,rfl⟩
 | false=>
  rw [if_neg (ne_true_of_eq_false hc)] at e
  cases e
  exact .inl hp
theorem Fs.free(I:Fs cx scope){x:Str}(e:(Ey cx scope.names).lookup x=some .cell∨(Ey cx scope.names).lookup x=some .free):(x,NameKind.free)∈scope.names:=by
 rcases e with e|e
 ·exact (Lv e).elim (fun q=>by rcases I.all _ q with z|⟨z,_⟩|z<;>cases z) And.left
 ·exact (Lv e).elim id And.left
theorem Ky.comp(F:Ky c cx env ν X ρ T h)(I:Fs cx scope)(hk:scope.kind=.function){C:Addr}(hn:h.Ns C (fun zA=>none))(hC:¬c.old C) :
  Ky c (Bu cx scope) (compEnvC scope (Hn env.cells scope.names) C env) (ν++List.replicate (Cc scope.names) none) X ρ T h:=by
 have hcl:=fun {x:Str} {a:Addr}=>@Ho env.cells x a scope.names (I.cells F)
 have hmem:∀ x a,(x,a)∈Hn env.cells scope.names→(x,a)∈env.cells:=fun x a e=>mem_of_lookup (hcl.mp e).2
 refine ⟨?_,hk,Pi F,F.globals,F.builtins,⟨_,hn,fun x i e1 e2=>?_⟩,fun x i e1 e2=>?_,fun x a e=>F.cellEx x a (hmem x a e),?_,fun x y i e1 e2=>congrArg Prod.fst (Ae4 (f:=fun p:Str×Nat=>p.2) I.inj (mem_of_lookup e1) (mem_of_lookup e2) rfl),⟨hC,fun x a e hx=>F.high.2 x a (hmem x a e) hx⟩,fun a e=>F.cls a (hmem _ a e)⟩
 ·rw [List.length_append,List.length_replicate,F.len];rfl
 ·have m:=mem_of_lookup e1
  have h1:cx.size≤i:=I.ge _ m e2
  have h2:i<cx.size+Cc scope.names:=I.lt _ m
  refine ⟨none,?_,trivial⟩
  rw [List.getElem?_append_right (by rw [F.len];exact h1),List.getElem?_replicate,if_pos (by rw [F.len];lia)]
 ·have hfree:=I.free e2
  rcases Hq (mem_of_lookup e1) with q|⟨_,q⟩
  ·cases I.uniq q hfree
  ·rcases I.all _ hfree with z|⟨_,_,z⟩|z
   ·cases z
   ·refine x34 (F.cell x i q z) fun a ov x' w1 w2 w3 w4=>?_
    refine ⟨a,ov,x',E1 (hcl.mpr ⟨hfree,w1⟩) (fun b hb=>?_),?_,w3,w4⟩
    ·exact Option.some.inj ((hcl.mp hb).2.symm.trans w1)
    ·rw [List.getElem?_append_left (List.getElem?_eq_some_iff.mp w2).1];exact w2
   ·cases z
 ·show (Hn env.cells scope.names).Pairwise _
  unfold Hn
  rw [List.pairwise_reverse,List.pairwise_map]
  have hpw:(scope.names.filter (·.2==.free)).Pairwise (fun p q=>p.1≠q.1):=(List.pairwise_map.mp I.nd).sublist List.filter_sublist
  refine List.Pairwise.imp_of_mem (fun {p q} hp hq hne=>?_) hpw
  refine x11 (I.cells F p (List.mem_filter.mp hp).1 (eq_of_beq (List.mem_filter.mp hp).2)) fun a ha=>?_
  refine x11 (I.cells F q (List.mem_filter.mp hq).1 (eq_of_beq (List.mem_filter.mp hq).2)) fun b hb=>?_
  rw [ha,hb]
  intro e
  have e:b=a:=e
  subst e
  exact hne (name_of_addr F.apart (mem_of_lookup ha) (mem_of_lookup hb))
end
section
variable {M:Model} {A:Around} {E:Value→Shared→Prop} {s:Shared} {env:Env}
noncomputable def Q9(M:Model)(A:Around)(use:Option (Value→Sem Unit))(Q:Value→Shared→Prop)(acc:Value)(C:Addr)(s':Shared):Prop:=
 match use with
 | none=>∀ h' m',h'.Ns C m'→Heap.SameBut C s'.heap h'→Q acc {s' with heap:=h'}
 | some u=>wpN M A (u acc) (fun zA s''=>∃ m,s''.heap.Ns C m∧∀ h' m',h'.Ns C m'→Heap.SameBut C s''.heap h'→Q .none {s'' with heap:=h'}) FF s'
theorem Um{α:Type}{c:Prop}[Decidable c]{pos:Pos}{k:PUnit→Sem α}{Q:α→Shared→Prop}(h:wpN M A (k ()) Q E s) :
  wpN M A (if c then (standAt pos>>=k) else k ()) Q E s:=Bv (fun zA=>Ab (wpAny_standAt h)) fun zA=>h
theorem l4{e:Expr}{scope:Scope}{pos:Pos}{newAcc first:Sem Value}{g:Comprehension}{gs:List Comprehension}{cl:List (Str×Addr)}{use:Option (Value→Sem Unit)}
  {Q:Value→Shared→Prop}
  (hcl:clausesOf e=g::gs) (hs:∀ x,foldedSetIterable g.iter env x=pure x) (hclos:closureFor scope env=pure cl)
  (hkind:scope.kind=.function) (hnames:∀ x∈scope.names,x.2=.local→scope.names.lookup x.1=some .local)
  (h:wpN M A first (fun x s₁=>wpAny M A (pyIter x) (fun it s₂=>wpAny M A newAcc (fun acc s₃=>
   wpAny M A (newFunctionEnv scope env.globals cl [] env.qual none .none (some env)) (fun cenv s₄=>
    Bc M (A.mark none) (.compStart e 0 it acc {cenv with scope:=relabel scope env}) (fun r s'=>match r with|.ok _=>(∃ m,s'.heap.Ns cenv.locals m)∧Q9 M A use Q acc cenv.locals s'|.error _=>False) s₄) FF s₃) FF s₂) FF s₁) FF s) :
  wpN M A (comprehension e scope env pos newAcc false first use) Q FF s:=by
 unfold comprehension
 rw [hclos,hcl]
 refine Aa (Bk h (fun x s₁ h₁=>Ab (wpAny_standAt (Ab (wpAny_of_eq (hs x) ?_)))))
 refine Ab (wpAny_holding (wpAny_mono h₁ (fun it s₂ h₂=>?_) fun zA zB h'=>h'))
 refine Um (Ab (wpAny_mono h₂ (fun acc s₃ h₃=>Aa (Ac (Ab (wpAny_mono h₃ (fun cenv s₄ h₄=>?_) fun zA zB h'=>h')))) fun zA zB h'=>h'))
 dsimp only
 have hv:∀ x∈(scope.names.filter fun x=>(x.2==.local||x.2==.cell)&&x.1 != (".0" : Str)).reverse,x.2=.local→
   Env.kindOf {cenv with scope:=relabel scope env} x.1=some .local:=fun x hx hl=>lookup_relabel_local (hnames x (List.mem_filter.mp (List.mem_reverse.mp hx)).1 hl)
 refine Ad (Aa (G2 (Ad (Z8 (h:=none) (Ee h₄ fun r s' hr=>?_)))))
 cases r with
 | ok f=>
  obtain ⟨⟨m,hn⟩,hr⟩:=hr
  cases use with
  | none=>
   exact Ab (wpAny_holding (wpAny_comp_letGo (cenv:={cenv with scope:=relabel scope env}) hkind _ s' m hv hn fun h' m' hn' hs'=>Ac (hr h' m' hn' hs')))
  | some u=>
   refine Ab (wpAny_rule (Aa (Ad (Bk hr (fun zA s'' hr'=>?_)))))
   refine x12 hr' fun m hn hr'=>?_
   exact Ab (wpAny_comp_letGo (cenv:={cenv with scope:=relabel scope env}) hkind _ s'' m (fun x hx hl=>(List.mem_append.mp hx).elim (fun h1=>hv x (List.mem_of_mem_drop h1) hl) fun h1=>hv x (List.mem_of_mem_take h1) hl) hn fun h' m' hn' hs'=>Ac (hr' h' m' hn' hs'))
 | error x=>exact hr.elim
end
theorem Od{nm:Nm}:∀ {gs:MGs} {cx:Cx} {l:List Comprehension},ql nm gs cx l→∀ j∈Zx gs,∃ x,cx.slots.lookup x=some j
 | .nil,_,_,_,j,h=>nomatch h
 | .cons i it gs,cx,l,h,j,hj=>h (fun zA=>∃ x,cx.slots.lookup x=some j) fun x p iter rest hc zA hg=>Aj hj (fun e=>⟨x,e▸Ak hc fun h1 zA=>eq_of_beq h1⟩) fun hj=>Od hg j hj
section
variable {X:Xc} {f:Fm} {ν:Nu} {g:Sg}
theorem I0{I D:Addr}(S:SO X.c g)(h:g.s.heap.get? I=none)(hD:D≠I):Off (g.ρ++[(D,D)]) I:=fun n p e=>by
 by_cases hk:n<g.ρ.length
 ·rw [List.getElem?_append_left hk] at e
  exact Cv.off S h n p e
 ·rw [List.getElem?_append_right (Nat.not_lt.mp hk)] at e
  have e:=List.mem_singleton.mp (List.mem_of_getElem? e)
  subst e
  exact ⟨hD,hD⟩
noncomputable abbrev vq(f:Fm)(scope:Scope)(C:Addr):Env:=compEnvC scope (Hn f.env.cells scope.names) C f.env
noncomputable abbrev Yc(f:Fm)(scope:Scope)(C:Addr):Fm:=⟨Bu f.cx scope,f.A,vq f scope C⟩
theorem l5(S:Si X f ν g){scope:Scope}(CI:Fs f.cx scope)(hkind:scope.kind=.function){C:Addr}(hns:g.s.heap.Ns C fun zA=>none)(hCo:¬X.c.old C)(off:Off g.ρ C):Si X (Yc f scope C) (ν++List.replicate (Cc scope.names) none) g:=
 ⟨S.room,S.st,S.fr.comp CI hkind hns hCo,fun b y m=>y.elim (fun e=>by subst e;exact off.noMut m) fun ⟨y,hy,hb⟩=>S.ap b (.inr ⟨y,hy,mem_of_lookup ((Ho (CI.cells S.fr)).mp hb).2⟩) m⟩
noncomputable abbrev l6(g1:Sg)(s3:Shared)(h':Heap)(D:Addr):Sg:=⟨g1.ρ++[(D,D)],g1.H++[.lst []],{s3 with heap:=h',toks:=s3.toks+([]:List (Str×Value)).length}⟩
theorem Ra(F:Fx X){k i:Nat}{it:MI}{gs:MGs}{el:ME}(hI:IS X it)(hB:GB X gs el){elt iter:Expr}{rest:List Comprehension}{scope:Scope}{ppos pos px:Pos}{x:Str}{use:Option (Value→Sem Unit)}
  (hc:(scope.kind==.function&&(k==Cc scope.names&&(Z5 f.cx scope&&(Hf (i::Zx gs)&&((i::Zx gs).all fun i=>decide (f.cx.size≤i))))))=true)
  (hx:((Bu f.cx scope).slots.lookup x==some i&&(Bu f.cx scope).names.lookup x==some .local)=true) (hci:Z6 X.nm it f.cx iter) (hcg:ql X.nm gs (Bu f.cx scope) rest) (hce:Az X.nm el (Bu f.cx scope) elt) (S:Si X f ν g) {κ:List V→Hp→Prop}
  (he:evI X.tb X.Φ it ν g.H fun l H1=>T7 (fun v H' k'=>evG X.tb X.Φ (fun ν H K=>ev X.tb X.Φ el ν H K) H1.length gs ((ν++List.replicate k none).set i (some v)) H' k') l (H1++[Ob.lst []]) fun H2=>Nj H2 H1.length fun r=>κ r (H2.set H1.length .dead)) {Q:Value→Shared→Prop}
  (hK:∀ C D r g',κ r g'.H→¬X.c.old C→g.s.heap.get? C=none→¬Mut g'.ρ g'.H C→(∃ m,g'.s.heap.Ns C m)→Go X.c g g'→VR g' (.lst r) (.ref D)→Q9 X.c.M f.A use Q (.ref D) C g'.s) :
  Wn X f.A (comprehension (.ListComp elt (⟨.Name x px,iter,[],0⟩::rest) scope pos) scope f.env ppos (newList []) false (eval iter f.env) use) Q g.s:=Ak hc fun hkind hc=>Ak hc fun hkl hc=>Ak hc fun hok hc=>Ak hc fun hnd hge=>Ak hx fun hs hn=>by
 have hkind:=eq_of_beq hkind
 have hkl:=eq_of_beq hkl
 subst hkl
 have CI:=Fs.of hok
 refine l4 (g:=⟨.Name x px,iter,[],0⟩) (gs:=rest) rfl (Ul hci f.env) (Pg (CI.cells S.fr)) hkind (fun y hy hl=>?_) ?_
 ·obtain ⟨y,k⟩:=y
  have hl:k=.local:=hl
  subst hl
  exact E1 hy fun b hb=>CI.uniq hb hy
 refine hI f ν g iter _ hci S he _ fun z l g1 k1 t1 hit=>hit fun I s2 fp P St K=>?_
 refine wpAny_newList (wpAny_newFunctionEnv (fun y hy e=>?_) (fun zA h=>nomatch h) (fun h' hn' hsb=>?_) hkind)
 ·rcases CI.all y hy with q|⟨q,_⟩|q<;>rw [e] at q<;>cases q
 have S1:=t1.sit F.ok S
 generalize hs3:({s2 with heap:=s2.heap.push {cls:=.type "list",data:=.seq ([]:List Value).toArray}}:Shared)=s3 at hsb hn' ⊢
 have hD3:s3.heap.get? s2.heap.objs.size=some (Dy ([]:List Value).toArray 0):=by subst hs3;exact Heap.get?_push_size _ rfl
 have g23:Au s2 s3:=by subst hs3;exact Au.push s2 _
 have hsz:s3.heap.objs.size=s2.heap.objs.size+1:=by subst hs3;exact Array.size_push _
 clear hs3
 generalize hDD:s2.heap.objs.size=D at *
 have hD2:s2.heap.get? D=none:=Heap.get?_none_of_le (Nat.le_of_eq hDD)
 rw [hsz] at hsb hn' ⊢
 have hC3:s3.heap.get? (D+1)=none:=Heap.get?_none_of_le (Nat.le_of_eq hsz)
 have hC2:s2.heap.get? (D+1)=none:=Heap.get?_none_of_le (hDD▸Nat.le_succ _)
 have hDC:D≠D+1:=(Nat.succ_ne_self D).symm
 generalize D+1=C at *
 have back:∀ b,s2.heap.get? b=none→g1.s.heap.get? b=none:=fun b e=>by
  cases e':g1.s.heap.get? b with
  | none=>rfl
  | some o=>rw [K.grow.keep b o e'] at e;cases e
 have hC1:=back C hC2
 have g34:Au s3 (l6 g1 s3 h' D).s:=⟨fun b o e=>(hsb.2 b fun z=>by rw [z,hC3] at e;cases e).trans (Heap.get?_push_of_some _ e),rfl,rfl,Nat.le_refl _⟩
 have hD4:h'.get? D=some (Dy ([]:List Value).toArray 0):=g34.keep _ _ hD3
 have n:=Go.new F t1.st (ob:=.lst []) ((K.grow.trans g23).trans g34) (back D hD2) ⟨_,hD4⟩ fun zA=>⟨rfl,[],0,hD4,.nil⟩
 have hCo:¬X.c.old C:=fun o=>(t1.st.stat.ex C o).elim fun ob q=>by rw [hC1] at q;cases q
 have S4:Si X (Yc f scope C) (ν++List.replicate (Cc scope.names) none) (l6 g1 s3 h' D):=l5 (n.1.sit F.ok S1) CI hkind hn' hCo (I0 t1.st hC1 hDC)
 refine x12 (K.at_ 0 _ K.st) fun oI hoI zA=>?_
 have hCI:C≠I:=fun z=>by rw [←z,hC2] at hoI;cases hoI
 have hDI:D≠I:=fun z=>by rw [←z,hD2] at hoI;cases hoI
 have LF:Ki X (Yc f scope C) (Loc (Yc f scope C)) g1 l I fp P St:=⟨t1.st,K.W,K.new,fun b hb hbI=>by
   obtain ⟨⟨o,q1⟩,q2,q3,q4⟩:=K.firm b hb hbI
   exact ⟨⟨o,q1⟩,q2,fun y=>by (rw [show b=C from y,hC1] at q1;cases q1),q4⟩,K.item,K.at_,⟨hCI,fun y a hy z=>by
    refine x22 (S1.fr.cellEx y a (mem_of_lookup ((Ho (CI.cells S.fr)).mp hy).2)) fun x' o' ho' zA=>?_
    rw [z,K.new] at ho';cases ho'⟩,fun b o y e=>by (rw [show b=C from y,hC1] at e;cases e),fun y=>hCI y.symm⟩
 have hS4:St 0 h':=K.W.frame 0 _ _ K.st fun b zA o e=>(g23.trans g34).keep b o e
 rw [Q4 S.room.handled]
 have hDn:(l6 g1 s3 h' D).ρ[g1.H.length]?=some (D,D):=by rw [←t1.st.heap.len];exact List.getElem?_concat_length ..
 refine Oc (f:=Yc f scope C) (gens:=⟨.Name x px,iter,[],0⟩::rest) rfl LF hS4 (Q6 F hB (f:=Yc f scope C) (gens:=⟨.Name x px,iter,[],0⟩::rest) (dth:=0) rfl (eq_of_beq hs) (eq_of_beq hn) hcg hce hnd (fun j hj=>?_) LF (fun g5 k5 hD5 S5 le5=>?_) l.length 0 (l6 g1 s3 h' D) hDn (Nat.zero_add _).symm ⟨S4,n.1.le.weaken fun b o zA y=>y.elim,hS4,I0 t1.st K.new hDI⟩ k1)
 ·obtain ⟨y,hy⟩:∃ y,(Bu f.cx scope).slots.lookup y=some j:=Aj hj (fun e=>⟨x,e▸eq_of_beq hs⟩) (Od hcg j)
  have h1:j<f.cx.size+Cc scope.names:=CI.lt _ (mem_of_lookup hy)
  have h2:f.cx.size≤j:=od9 (List.all_eq_true.mp hge j hj)
  have hl:ν.length=f.cx.size:=S.fr.len
  rw [List.getElem?_append_right (by rw [hl];exact h2),List.getElem?_replicate,if_pos (by lia)]
 ·refine Lr k5 fun r e3 k5=>?_
  refine x12 S5.fr.ns fun m5 hm5 zA=>?_
  have t5:Go X.c g1 g5:=⟨S5.st,le5.weaken fun b o e y=>by (rw [show b=C from y,hC1] at e;cases e)⟩
  refine x02 (Pf S5.st e3 (.loc hD5)) fun t6 r6=>?_
  have hC0:g.s.heap.get? C=none:=by
   cases e':g.s.heap.get? C with
   | none=>rfl
   | some o=>obtain ⟨o',q⟩:=t1.le.ex C o e';rw [hC1] at q;cases q
  exact ⟨⟨m5,hm5⟩,hK C D r ⟨g5.ρ,g5.H.set g1.H.length .dead,g5.s⟩ k5 hCo hC0 (fun m=>S5.ap C (.inl rfl) (Ua e3 (fun e=>nomatch e) m)) ⟨m5,hm5⟩ ((t1.trans t5).trans t6) r6⟩
theorem Kq{h:Heap}{C:Addr}{m:Str→Option Value}(hn:h.Ns C m):∀ o,h.get? C=some o→Cb o=false:=fun o e=>by
 refine x33 hn fun o' es ep ho hd zA=>?_
 rw [e] at ho;cases ho
 unfold Cb;rw [hd]
theorem Abt(F:Fx X){g':Sg}{C:Addr}(t:Go X.c g g')(hC:¬X.c.old C)(hC0:g.s.heap.get? C=none)(hm:¬Mut g'.ρ g'.H C){m m':Str→Option Value}(hn:g'.s.heap.Ns C m){h':Heap}(hn':h'.Ns C m')(hsb:Heap.SameBut C g'.s.heap h'):Go X.c g (g'.to {g'.s with heap:=h'})∧∀ v x,VR g' v x→VR (g'.to {g'.s with heap:=h'}) v x:=by
 have hx:∃ o,h'.get? C=some o:=hn'.elim fun o q=>q.elim fun es q=>q.elim fun ep q=>⟨o,q.1⟩
 refine x02 (Cv.touch F.ok t.st hm hC (Kq hn) hsb hx (Nat.le_refl _)) fun st le=>?_
 exact ⟨⟨st,((t.le.weaken (Y':=fun x=>x=C) fun b o zA y=>y.elim).trans le).weaken fun b o e y=>by (rw [show b=C from y,hC0] at e;cases e)⟩,fun v x r=>le.rel t.st.stat.tab (fun b o y e=>by subst y;exact Kq hn o e) r⟩
theorem vt(F:Fx X){k i:Nat}{it:MI}{gs:MGs}{el:ME}(hI:IS X it)(hB:GB X gs el):ES X (.comp k el (.cons i it gs)):=fun f ν g x K hx S he Q hQ=>hx (fun x=>Wn X f.A (eval x f.env) Q g.s) fun elt y py iter rest scope p h1 h2 h3 h4 h5=>
 show Wn X f.A (comprehension (.ListComp elt (⟨.Name y py,iter,[],0⟩::rest) scope p) scope f.env iter.pos (newList []) false (eval iter f.env)) Q g.s from
 Ra F hI hB h1 h2 h3 h4 h5 S (κ:=fun r H=>K (.lst r) H) he fun C D r g' k hC hC0 hm hn t rv h' m' hn' hsb=>hn.elim fun m hn=>by
  refine x02 (Abt F t hC hC0 hm hn hn' hsb) fun t' hr=>?_
  exact hQ _ _ (g'.to _) k t' (hr _ _ rv)
end
section
variable {X:Xc}
theorem Abu:ES X .bad:=fun f ν g x K hx S he=>False.elim he
theorem Abv:TS X .bad:=fun f ν g x K L hK hx S he=>False.elim he
theorem Abw(_:Fx X){y:ME}(h:TS X y):TS X (.frz y):=fun f ν g x K L hK hx S he Q hQ=>
 h f ν g x (fun v H1=>Ae0 v H1 K) (fun t H=>∃ n l,H[n]?=some (.lst l)∧L t (H.set n .dead)) (fun v H e=>Fk (C:=fun v=>Bs X.tb X.Φ v H fun t=>∃ n l,H[n]?=some (.lst l)∧L t (H.set n .dead)) e fun n e=>Lr e fun l hn k=>by
  show (match H[n]? with|some (Ob.lst l)=>gd (decide (l.length≤Ah)) (∃ m l',H[m]?=some (.lst l')∧L (!l.isEmpty) (H.set m .dead))|some (.inst C _ _)=>Xx X.tb X.Φ n C H fun i=>∃ m l',H[m]?=some (.lst l')∧L (i != 0) (H.set m .dead)|_=>False)
  rw [hn]
  have k:=hK _ _ k
  exact ⟨k.1,n,l,hn,k.2⟩) hx S he Q fun t g1 k1 t1=>k1.elim fun n k1=>k1.elim fun l k1=>by
   refine x02 (Cv.drop t1.st k1.1 (fun e=>nomatch e)) fun st le=>?_
   exact hQ t ⟨g1.ρ,g1.H.set n .dead,g1.s⟩ k1.2 (t1.trans ⟨st,le⟩)
theorem pt{e:ME}(F:Fx X)(h:ES X e)(hp:∀ (cx:Cx) (x:Expr),Az X.nm e cx x→An x):ES X e∧TS X e:=⟨h,k6 F h hp⟩
theorem vw(cx:Cx)(x:Expr)(h:Az X.nm (.none) cx x):An x:=h (fun x=>An x) (by intros;exact fun zA zB=>rfl)
theorem vx{b:Bool}(cx:Cx)(x:Expr)(h:Az X.nm (.bool b) cx x):An x:=h (fun x=>An x) (by intros;exact fun zA zB=>rfl)
theorem Abx{b:Int}(cx:Cx)(x:Expr)(h:Az X.nm (.int b) cx x):An x:=h (fun x=>An x) (by intros;exact fun zA zB=>rfl)
theorem Aby{b:UInt64}(cx:Cx)(x:Expr)(h:Az X.nm (.flt b) cx x):An x:=h (fun x=>An x) (by intros;exact fun zA zB=>rfl)
theorem Abz{b:Str}(cx:Cx)(x:Expr)(h:Az X.nm (.str b) cx x):An x:=h (fun x=>An x) (by intros;exact fun zA zB=>rfl)
theorem Ab0{b:Nat}(cx:Cx)(x:Expr)(h:Az X.nm (.var b) cx x):An x:=h (fun x=>An x) (by intros;exact fun zA zB=>rfl)
theorem vy{b:Nat}(cx:Cx)(x:Expr)(h:Az X.nm (.glob b) cx x):An x:=h (fun x=>An x) (by intros;exact fun zA zB=>rfl)
theorem Ab1{op:Operator}{l r:ME}(cx:Cx)(x:Expr)(h:Az X.nm (.bin op l r) cx x):An x:=h (fun x=>An x) (by intros;exact fun zA zB=>rfl)
theorem Ab2{e:ME}(cx:Cx)(x:Expr)(h:Az X.nm (.neg e) cx x):An x:=h (fun x=>An x) (by intros;exact fun zA zB=>rfl)
theorem Ab3{es:MEs}(cx:Cx)(x:Expr)(h:Az X.nm (.tup es) cx x):An x:=h (fun x=>An x) (by intros;exact fun zA zB=>rfl)
theorem Ab4{es:MEs}(cx:Cx)(x:Expr)(h:Az X.nm (.lst es) cx x):An x:=h (fun x=>An x) (by intros;exact fun zA zB=>rfl)
theorem vz{es:MEs}(cx:Cx)(x:Expr)(h:Az X.nm (.mlst es) cx x):An x:=h (fun x=>An x) (by intros;exact fun zA zB=>rfl)
theorem v1{ks:List (Str×Str)}{e:ME}(cx:Cx)(x:Expr)(h:Az X.nm (.dget ks e) cx x):An x:=h (fun x=>An x) (by intros;exact fun zA zB=>rfl)
theorem Ab5{o i:ME}(cx:Cx)(x:Expr)(h:Az X.nm (.sub o i) cx x):An x:=h (fun x=>An x) (by intros;exact fun zA zB=>rfl)
theorem Ab6{o lo hi:ME}{back:Bool}(cx:Cx)(x:Expr)(h:Az X.nm (.slc o lo hi back) cx x):An x:=h (fun x=>An x) (by intros;exact fun zA zB=>rfl)
theorem v2{o:ME}{k:Nat}(cx:Cx)(x:Expr)(h:Az X.nm (.attr o k) cx x):An x:=h (fun x=>An x) (by intros;exact fun zA zB=>rfl)
theorem l7{b:Bi}{es:MEs}(cx:Cx)(x:Expr)(h:Az X.nm (.bcall b es) cx x):An x:=h (fun x=>An x) (by intros;exact fun zA zB=>rfl)
theorem l8{m:Sm}{o:ME}{es:MEs}(cx:Cx)(x:Expr)(h:Az X.nm (.scall m o es) cx x):An x:=h (fun x=>An x) (by intros;exact fun zA zB=>rfl)
theorem v3{f:Addr}{es:MEs}(cx:Cx)(x:Expr)(h:Az X.nm (.call f es) cx x):An x:=h (fun x=>An x) (by intros;exact fun zA zB=>rfl)
theorem v4{m:Nat}{o:ME}{es:MEs}(cx:Cx)(x:Expr)(h:Az X.nm (.meth m o es) cx x):An x:=h (fun x=>An x) (by intros;exact fun zA zB=>rfl)
theorem l9{m:Nat}{o e:ME}(cx:Cx)(x:Expr)(h:Az X.nm (.methS m o e) cx x):An x:=h (fun x=>An x) (by intros;exact fun zA zB=>rfl)
theorem Ab7{C:Addr}{es:MEs}(cx:Cx)(x:Expr)(h:Az X.nm (.new C es) cx x):An x:=h (fun x=>An x) (by intros;exact fun zA zB=>rfl)
theorem v5{k:Nat}{el:ME}{gs:MGs}(cx:Cx)(x:Expr)(h:Az X.nm (.comp k el gs) cx x):An x:=by
 cases gs with
 | nil=>exact False.elim h
 | cons i it gs=>exact h (fun x=>An x) (by intros;exact fun zA zB=>rfl)
theorem ma{k:Nat}{el:ME}:ES X (.comp k el .nil):=fun f ν g x K hx S he=>False.elim he
theorem B1(F:Fx X)(e:ME):ES X e∧TS X e:=
 @ME.rec (fun e=>ES X e∧TS X e) (fun es=>LS X es∧BS X es∧AS X es) (fun gs=>(∀ el,ES X el→GB X gs el)∧∀ k el,ES X el→ES X (.comp k el gs)) (fun it=>IS X it)
  (pt F (uz F) vw)
  (fun b=>pt F (u0 F b) vx)
  (fun b=>pt F (Aa3 F b) Abx)
  (fun b=>pt F (Aa5 F b) Aby)
  (fun b=>pt F (Aa4 F b) Abz)
  (fun b=>pt F (qt F b) Ab0)
  (fun b=>pt F (u1 F b) vy)
  (fun op l r h1 h2=>pt F (Aa6 F op h1.1 h2.1) Ab1)
  (fun e h1=>pt F (Aa7 F h1.1) Ab2)
  (fun e h1=>⟨Aa8 F h1.1,Aa9 h1.2⟩)
  (fun op l r h1 h2=>⟨Aba F op h1.1 h2.1,Abb F op h1.1 h2.1⟩)
  (fun l tp es h1 h2=>⟨u7 F h1.1 h2.1,u8 F h1.1 h2.1⟩)
  (fun op es h1=>⟨Abi F op h1.2.1,Abj op h1.2.2⟩)
  (fun c a b h1 h2 h3=>⟨Abe F h1.2 h2.1 h3.1,Abf F h1.2 h2.2 h3.2⟩)
  (fun es h1=>pt F (Abc F h1.1) Ab3)
  (fun es h1=>pt F (Abd F h1.1) Ab4)
  (fun es h1=>pt F (u4 F h1.1) vz)
  (fun ks e h1=>pt F (vp F h1.1) v1)
  (fun o i h1 h2=>pt F (Abm F h1.1 h2.1) Ab5)
  (fun o lo hi back h1 h2 h3=>pt F (Abn F h1.1 h2.1 h3.1) Ab6)
  (fun o k h1=>pt F (vg F h1.1) v2)
  (fun b es h1=>pt F (lh F h1.1) l7)
  (fun m o es h1 h2=>pt F (ls F h1.1 h2.1) l8)
  (fun f es h1=>pt F (u9 F h1.1) v3)
  (fun m o es h1 h2=>pt F (vk F h1.1 h2.1) v4)
  (fun m o e h1 h2=>pt F (lx F h1.1 h2.1) l9)
  (fun C es h1=>pt F (Abq F h1.1) Ab7)
  (fun k el gs h1 h2=>pt F (h2.2 k el h1.1) v5)
  (fun e h1=>⟨Abp F h1.1,Abw F h1.2⟩)
  (⟨Abu,Abv⟩)
  ⟨qu F,Abg,Abh⟩ (fun e es h1 h2=>⟨bk F h1.1 h2.1,u5 F h1.1 h2.2.1,u6 F h1.2 h2.2.2⟩)
  ⟨fun el h=>qz F h,fun k el h=>ma⟩ (fun i it gs h1 h2=>⟨fun el h=>cg F h1 (h2.1 el h),fun k el h=>vt F h1 (h2.1 el h)⟩)
  (fun e h=>qx F h.1) (fun es h=>qy F h.1) e
theorem Un(F:Fx X):∀ es:MEs,LS X es
 | .nil=>qu F
 | .cons e es=>bk F (B1 F e).1 (Un F es)
theorem ch(F:Fx X):∀ it:MI,IS X it
 | .val e=>qx F (B1 F e).1
 | .rng es=>qy F (Un F es)
end
noncomputable def FlR(g:Sg)(fl:Fl)(y:Flow):Prop:=match fl with
 | .next=>y=.next
 | .brk=>y=.brk
 | .cont=>y=.cont
 | .ret v=>∃ z,y=.ret z∧VR g v z
noncomputable abbrev Lw(X:Xc)(f:Fm)(g:Sg)(K:KS)(Q:Flow→Shared→Prop):Prop:=∀ fl y ν' g',K fl ν' g'.H→Si X f ν' g'→LeS X.c (Fy f.env) g g'→FlR g' fl y→Q y g'.s
section
variable (X:Xc)
noncomputable def XS(e:MS):Prop:=∀ (f:Fm) (ν:Nu) (g:Sg) (x:Stmt) (K:KS),T9 X.nm e f.cx x→Si X f ν g→ex X.tb X.Φ e ν g.H K→∀ Q,Lw X f g K Q→Wn X f.A (exec x f.env) Q g.s
noncomputable def XL(e:MSs):Prop:=∀ (f:Fm) (ν:Nu) (g:Sg) (x:List Stmt) (K:KS),Fi X.nm e f.cx x→Si X f ν g→exs X.tb X.Φ e ν g.H K→∀ Q,Lw X f g K Q→Wn X f.A (execs x f.env) Q g.s
end
section
variable {X:Xc} {f:Fm} {ν:Nu} {g g':Sg} {K:KS} {Q:Flow→Shared→Prop}
theorem Go.leS{c:Cfg}{Y:Addr→Prop}(t:Go c g g'):LeS c Y g g':=t.le.weaken fun zA zB zC y=>y.elim
theorem Lw.then(hQ:Lw X f g K Q)(t:LeS X.c (Fy f.env) g g'):Lw X f g' K Q:=fun fl y ν g2 k S t2 r=>hQ fl y ν g2 k S (t.trans t2) r
theorem Lw.next{H:Hp}(hQ:Lw X f g K Q)(k:K .next ν g'.H)(S:Si X f ν g')(t:LeS X.c (Fy f.env) g g'):Q .next g'.s:=hQ .next .next ν g' k S t rfl
theorem q7:XL X .nil:=fun f ν g x K hx S he Q hQ=>hx (fun x=>Wn X f.A (execs x f.env) Q g.s) (Ac (hQ .next .next ν g he S Le.refl rfl))
theorem ck{e:MS}{es:MSs}(h1:XS X e)(h2:XL X es):XL X (.cons e es):=fun f ν g x K hx S he Q hQ=>hx (fun x=>Wn X f.A (execs x f.env) Q g.s) fun x r hc1 hc2=>by
 rw [arm_execs_cons]
 refine Aa (h1 f ν g x (fun fl ν' H'=>match fl with|.next=>exs X.tb X.Φ es ν' H' K|fl=>K fl ν' H') hc1 S he _ fun fl y ν' g1 k1 S1 t1 r1=>?_)
 cases fl with
 | next=>cases r1;exact h2 f ν' g1 r K hc2 S1 k1 Q (hQ.then t1)
 | brk=>cases r1;exact Ac (hQ .brk _ ν' g1 k1 S1 t1 rfl)
 | cont=>cases r1;exact Ac (hQ .cont _ ν' g1 k1 S1 t1 rfl)
 | ret v=>exact r1.elim fun z q=>by rw [q.1];exact Ac (hQ (.ret v) _ ν' g1 k1 S1 t1 ⟨z,rfl,q.2⟩)
theorem Ab8:XS X .brk:=fun f ν g x K hx S he Q hQ=>hx (fun x=>Wn X f.A (exec x f.env) Q g.s) fun p=>by
 rw [arm_exec_Break]
 exact Ab (wpAny_standAt (Ac (hQ .brk .brk ν g he S Le.refl rfl)))
theorem v6:XS X .cont:=fun f ν g x K hx S he Q hQ=>hx (fun x=>Wn X f.A (exec x f.env) Q g.s) fun p=>by
 rw [arm_exec_Continue]
 exact Ab (wpAny_standAt (Ac (hQ .cont .cont ν g he S Le.refl rfl)))
theorem Ab9:XS X .bad:=fun f ν g x K hx S he=>False.elim he
theorem Aca(F:Fx X)(e:ME):XS X (.ret e):=fun f ν g x K hx S he Q hQ=>hx (fun x=>Wn X f.A (exec x f.env) Q g.s) (fun p h=>by
  subst h
  rw [exec_Return_none]
  exact Ab (wpAny_standAt (Ac (hQ (.ret .none) _ ν g he S Le.refl ⟨_,rfl,.none⟩)))) fun v p h=>by
 rw [exec_Return_some]
 exact Ab (wpAny_standAt (Aa ((B1 F e).1 f ν g v (fun v H1=>K (.ret v) ν H1) h S he _ fun v z g1 k1 t1 r1=>Ac (hQ (.ret v) _ ν g1 k1 (t1.sit F.ok S) t1.leS ⟨z,rfl,r1⟩))))
theorem Gx(S:Si X f ν g):interactive f.env=false:=by
 unfold interactive
 rw [S.fr.kind]
 rfl
theorem E2{value:Expr}(h:Dp value=true)(t:Option Expr)(n:Nat)(env:Env):swapsWith value t n env=pure false:=by
 cases value<;>first|rfl|exact Bool.noConfusion h
theorem v7(F:Fx X)(e:ME):XS X (.expr e):=fun f ν g x K hx S he Q hQ=>hx (fun x=>Wn X f.A (exec x f.env) Q g.s) fun v p h1 h2=>by
 rw [arm_exec_Expr,Gx S,E2 h2]
 show Wn X f.A (standAt p>>=fun zA=>eval v f.env>>=fun z=>dropValue v p z) Q g.s
 exact Ab (wpAny_standAt (Aa ((B1 F e).1 f ν g v (fun zA H1=>K .next ν H1) h1 S he _ fun v z g1 k1 t1 r1=>Af (wpAny_dropValue (hQ .next _ ν g1 k1 (t1.sit F.ok S) t1.leS rfl)))))
theorem v8(F:Fx X){t:ME}{b o:MSs}(hb:XL X b)(ho:XL X o):XS X (.cond t b o):=fun f ν g x K hx S he Q hQ=>hx (fun x=>Wn X f.A (exec x f.env) Q g.s) fun c y z p h1 h2 h3=>by
 rw [arm_exec_If]
 refine Ab (wpAny_standAt (Aa ((B1 F t).2 f ν g c (fun v H1=>Bs X.tb X.Φ v H1 fun t=>match t with|true=>exs X.tb X.Φ b ν H1 K|false=>exs X.tb X.Φ o ν H1 K) (fun t H1=>match t with|true=>exs X.tb X.Φ b ν H1 K|false=>exs X.tb X.Φ o ν H1 K) (fun zA zB h=>h) h1 S he _ fun t g1 k1 t1=>?_)))
 cases t with
 | true=>exact hb f ν g1 y K h2 (t1.sit F.ok S) k1 Q (hQ.then t1.leS)
 | false=>exact ho f ν g1 z K h3 (t1.sit F.ok S) k1 Q (hQ.then t1.leS)
theorem Oe(F:Fx X){x:Str}{i:Nat}{v:V}{z:Value}(hx:Ap f.cx x i=true)(S:Si X f ν g)(r:VR g v z){E:Value→Shared→Prop}{Q:Unit→Shared→Prop}(hQ:∀ s',Si X f (ν.set i (some v)) (g.to s')→LeS X.c (Fy f.env) g (g.to s')→Q () s'):wpAny X.c.M f.A (bindName f.env x z) Q E g.s:=
 Ak hx fun h1 h=>Ak h fun h2 h=>Ak h fun h3 h4=>wpAny_bindName (Wb F.ok S (eq_of_beq h1) (X3 h2 (fun e=>.inl (eq_of_beq e)) fun e=>.inr (eq_of_beq e)) (fun e=>Bool.noConfusion ((beq_iff_eq.mpr e).symm.trans (Dw h3))) r fun s' S' le=>hQ s' S' le)
theorem Rb(F:Fx X){e:ME}{i:Nat}{x:Str}{px p:Pos}{value:Expr}(hx:Ap f.cx x i=true)(hc:Az X.nm e f.cx value)(hs:swapsWith value (some (.Name x px)) p.line f.env=pure false)(S:Si X f ν g)(he:ev X.tb X.Φ e ν g.H fun v H1=>K .next (ν.set i (some v)) H1)(hQ:Lw X f g K Q):Wn X f.A (exec (.Assign [.Name x px] value p) f.env) Q g.s:=by
 rw [PySem.exec_Assign_Name (hs:=hs)]
 exact Ab (wpAny_standAt (Aa ((B1 F e).1 f ν g value (fun v H1=>K .next (ν.set i (some v)) H1) hc S he _ fun v z g1 k1 t1 r1=>Ab (wpAny_standAt (Ab (Oe F hx (t1.sit F.ok S) r1 fun s2 S2 le2=>Ac (hQ .next _ _ (g1.to s2) k1 S2 (t1.leS.trans le2) rfl)))))))
theorem q8(F:Fx X):∀ (gs:MGs) (el:ME),GB X gs el
 | .nil,el=>qz F (B1 F el).1
 | .cons _ it gs,el=>cg F (ch F it) (q8 F gs el)
theorem cm(F:Fx X){C:Addr}(hC:¬X.c.old C)(hC0:g.s.heap.get? C=none)(hy:¬Fy f.env C)(S:Si X f ν g')(t:LeS X.c (Fy f.env) g g')(hm:¬Mut g'.ρ g'.H C){m m':Str→Option Value}(hn:g'.s.heap.Ns C m){h':Heap}(hn':h'.Ns C m')(hsb:Heap.SameBut C g'.s.heap h') :
  Si X f ν (g'.to {g'.s with heap:=h'})∧LeS X.c (Fy f.env) g (g'.to {g'.s with heap:=h'}):=by
 have hx:∃ o,h'.get? C=some o:=hn'.elim fun o q=>q.elim fun es q=>q.elim fun ep q=>⟨o,q.1⟩
 refine x02 (Cv.touch F.ok S.st hm hC (Kq hn) hsb hx (Nat.le_refl _)) fun st le=>?_
 refine ⟨⟨S.room,st,S.fr.iter (X:=Mut g'.ρ g'.H) ⟨fun e=>hy (.inl e.symm),fun y b hb e=>?_⟩ (Kq hn) (fun b o hb e=>(hsb.2 b hb).trans e) (Nat.le_refl _),S.ap⟩,((t.weaken (Y':=fun b=>Fy f.env b∨b=C) fun b o zA y=>.inl y).trans (le.weaken fun b o zA y=>.inr y)).weaken fun b o e y=>y.elim id fun y=>by rw [show b=C from y,hC0] at e;cases e⟩
 subst e
 by_cases hc:y=("__class__" : Str)
 ·subst hc;exact hC (S.fr.cls b hb).1
 ·exact hy (.inr ⟨y,hc,hb⟩)
theorem md(F:Fx X){k j:Nat}{el:ME}{it:MI}{gs:MGs}{i:Nat}{x:Str}{px p:Pos}{value:Expr}(hx:Ap f.cx x i=true)(hc:Az X.nm (.comp k el (.cons j it gs)) f.cx value)(hs:swapsWith value (some (.Name x px)) p.line f.env=pure true)(S:Si X f ν g)
  (he:ev X.tb X.Φ (.comp k el (.cons j it gs)) ν g.H fun v H1=>K .next (ν.set i (some v)) H1) (hQ:Lw X f g K Q):Wn X f.A (exec (.Assign [.Name x px] value p) f.env) Q g.s:=by
 refine hc (fun value=>swapsWith value (some (.Name x px)) p.line f.env=pure true→Wn X f.A (exec (.Assign [.Name x px] value p) f.env) Q g.s) (fun elt y py iter rest scope p' h1 h2 h3 h4 h5 hs=>?_) hs
 rw [PySem.exec_Assign_Name_used (hs:=hs)]
 refine Ab (wpAny_standAt ?_)
 show Wn X f.A ((comprehension (.ListComp elt (⟨.Name y py,iter,[],0⟩::rest) scope p') scope f.env iter.pos (newList []) false (eval iter f.env) (some (assign (.Name x px) f.env))>>=fun zA=>pure ())>>=fun zA=>pure Flow.next) Q g.s
 refine Aa (Aa (Ra F (ch F it) (q8 F gs el) h1 h2 h3 h4 h5 S (κ:=fun r H=>K .next (ν.set i (some (.lst r))) H) he fun C D r g' k hC hC0 hm hn t rv=>?_))
 show Wn X f.A (standAt px>>=fun zA=>bindName f.env x (.ref D)) _ g'.s
 refine Ab (wpAny_standAt (Af (Oe F hx (t.sit F.ok S) rv fun s4 S4 le4=>?_)))
 have hy:¬Fy f.env C:=fun y=>by
  refine x12 (Fy.ex S.fr y) fun o e zA=>?_
  rw [hC0] at e;cases e
 refine x43 hn fun m o es ep ho hd hr=>?_
 have ho4:=le4.keep C o ho hm hy fun q hq z=>hC (z▸(F.ok.tabLow q hq).1)
 have hn4:s4.heap.Ns C m:=⟨o,es,ep,ho4,hd,hr⟩
 refine ⟨m,hn4,fun h' m' hn' hsb=>Ac (Ac ?_)⟩
 refine x02 (cm F hC hC0 hy S4 (t.leS.trans le4) hm hn4 hn' hsb) fun S5 le5=>?_
 exact hQ .next _ _ ((g'.to s4).to {s4 with heap:=h'}) k S5 le5 rfl
theorem cn(F:Fx X)(i:Nat)(e:ME):XS X (.assign i e):=fun f ν g x K hx S he Q hQ=>hx (fun x=>Wn X f.A (exec x f.env) Q g.s) fun x px v p h1 h2 h3=>X3 h3 (fun hn=>Rb F h1 h2 (E2 hn _ _ _) S he hQ) fun hi=>by
 cases e<;>try exact Bool.noConfusion hi
 case comp k el gs=>
  cases gs with
  | nil=>exact False.elim he
  | cons j it gs=>
   have hv:∃ b,swapsWith v (some (.Name x px)) p.line f.env=pure b:=h2 (fun v=>∃ b,swapsWith v (some (.Name x px)) p.line f.env=pure b) fun zA zB zC zD zE zF zG zH zI zJ zK zL=>⟨_,rfl⟩
   refine x11 hv fun b hb=>?_
   cases b with
   | true=>exact md F h1 h2 hb S he hQ
   | false=>exact Rb F h1 h2 hb S he hQ
end
theorem Cz{A:Around}{c:Code}(h:c.frames=0)(hc:c.isCreation=false)(hg:c.isGuard=false)(hk:c.isCaller=false)(hu:c.cUnits=0):A.under c=A:=by
 refine Around.under_of_weight ?_ hu
 simp only [Code.weight,h,hc,hg,hk];rfl
section
variable {X:Xc} {f:Fm} {g:Sg} {K:KS} {R:Result→Shared→Prop}
noncomputable abbrev whB(X:Xc)(t:ME)(b:MSs)(n:Nat)(ν:Nu)(H:Hp)(K:KS):Prop:=Jr (fun ν H k=>ev X.tb X.Φ t ν H fun v H1=>Bs X.tb X.Φ v H1 fun t=>k t H1) (fun ν H K=>exs X.tb X.Φ b ν H K) n ν H K
noncomputable abbrev whT(X:Xc)(t:ME)(b:MSs)(n:Nat)(ν:Nu)(K:KS)(tt:Bool)(H1:Hp):Prop:=match tt with
 | false=>K .next ν H1
 | true=>exs X.tb X.Φ b ν H1 fun fl ν' H'=>match fl with
   | .next=>whB X t b n ν' H' K
   | .cont=>whB X t b n ν' H' K
   | .brk=>K .next ν' H'
   | .ret x=>K (.ret x) ν' H'
theorem cq(F:Fx X){t:ME}{b:MSs}(hb:XL X b){test:Expr}{body:List Stmt}(hct:Az X.nm t f.cx test)(hcb:Fi X.nm b f.cx body) :
  ∀ (n:Nat) (ν:Nu) (g:Sg),Si X f ν g→whB X t b n ν g.H K→Lw X f g K (fun y s'=>R (.ok y) s')→Bc X.c.M f.A (.whileLoop test body [] f.env) R g.s:=by
 intro n
 induction n with
 | zero=>intro ν g S he hQ;exact False.elim he
 | succ n ih=>
  intro ν g S he hQ
  refine codeN_of_tree rfl ?_
  rw [Cz rfl rfl rfl rfl rfl]
  show wpN X.c.M f.A ((whileTurn test body [] f.env).onRaise _) _ _ g.s
  refine B5 ?_
  unfold whileTurn
  refine Aa ((B1 F t).2 f ν g test (fun v H1=>Bs X.tb X.Φ v H1 fun tt=>whT X t b n ν K tt H1) (whT X t b n ν K) (fun zA zB h=>h) hct S he _ fun tt g1 k1 t1=>?_)
  have S1:=t1.sit F.ok S
  have hQ1:=hQ.then t1.leS
  cases tt with
  | false=>
   rw [if_neg Bool.false_ne_true]
   show Wn X f.A (execs [] f.env>>=fun y=>pure (Fin.done y)) _ g1.s
   exact Aa (Ac (Ac (hQ1 .next .next ν g1 k1 S1 Le.refl rfl)))
  | true=>
   rw [if_pos rfl]
   refine Aa (hb f ν g1 body (fun fl ν' H'=>match fl with|.next=>whB X t b n ν' H' K|.cont=>whB X t b n ν' H' K|.brk=>K .next ν' H'|.ret x=>K (.ret x) ν' H') hcb S1 k1 _ fun fl y ν' g2 k2 S2 t2 r2=>?_)
   have hQ2:=hQ1.then t2
   cases fl with
   | next=>cases r2;exact Ac ⟨rfl,ih ν' g2 S2 k2 hQ2⟩
   | cont=>cases r2;exact Ac ⟨rfl,ih ν' g2 S2 k2 hQ2⟩
   | brk=>cases r2;exact Ac (hQ2 .next .next ν' g2 k2 S2 Le.refl rfl)
   | ret v=>exact r2.elim fun z q=>by rw [q.1];exact Ac (hQ2 (.ret v) (.ret z) ν' g2 k2 S2 Le.refl ⟨z,rfl,q.2⟩)
theorem v9(F:Fx X){t:ME}{b:MSs}(hb:XL X b):XS X (.loop t b):=fun f ν g x K hx S he Q hQ=>hx (fun x=>Wn X f.A (exec x f.env) Q g.s) fun test body p h1 h2=>by
 rw [arm_exec_While]
 exact Ab (wpAny_standAt (Gg (cq F hb h1 h2 60 ν g S he hQ) S.room.handled))
noncomputable abbrev eaB(X:Xc)(b o:MSs)(i:Nat)(l:List V)(ν:Nu)(H:Hp)(K:KS):Prop:=Kg (fun ν H K=>exs X.tb X.Φ b ν H K) (fun ν H K=>exs X.tb X.Φ o ν H K) i l ν H K
theorem me(F:Fx X){i:Nat}{b o:MSs}(hb:XL X b)(ho:XL X o){x:Str}{px:Pos}{body orelse:List Stmt}(hx:Ap f.cx x i=true)(hcb:Fi X.nm b f.cx body)(hco:Fi X.nm o f.cx orelse)
  {l:List V} {I:Addr} {g0:Sg} {fp:List Addr} {P:Nat→Value→Prop} {St:Nat→Heap→Prop} (LF:Ki X f (Fy f.env) g0 l I fp P St) (hQ:Lw X f g0 K (fun y s'=>R (.ok y) s')) :
  ∀ (m k:Nat) (ν:Nu) (g:Sg),l.length=k+m→Kh X f ν (Fy f.env) g0 I St k g→eaB X b o i (l.drop k) ν g.H K→Bc X.c.M f.A (.forLoop (.Name x px) (.ref I) body orelse f.env) R g.s:=by
 intro m
 induction m with
 | zero=>
  intro k ν g hk L he
  have hkl:k=l.length:=hk.symm
  subst hkl
  rw [List.drop_length] at he
  refine codeN_of_tree rfl ?_
  rw [Cz rfl rfl rfl rfl rfl]
  show wpN X.c.M f.A ((forTurn (.Name x px) (.ref I) body orelse f.env).onRaise _) _ _ g.s
  refine B5 ?_
  unfold forTurn
  refine Ab (wpAny_standAt (Aa (Cy (Af (L.done F.ok LF fun s' S' le=>Ac ⟨rfl,?_⟩)))))
  refine codeN_of_tree rfl ?_
  rw [Cz rfl rfl rfl rfl rfl]
  show wpN X.c.M f.A ((execs orelse f.env).onRaise _>>=fun y=>pure (Fin.done y)) _ _ s'
  exact Aa (B5 (ho f ν (g.to s') orelse K hco S' he _ fun fl y ν' g2 k2 S2 t2 r2=>Ac (hQ fl y ν' g2 k2 S2 (le.trans t2) r2)))
 | succ m ih=>
  intro k ν g hk L he
  have hkl:k<l.length:=by rw [hk];exact Nat.lt_add_of_pos_right (Nat.succ_pos m)
  have hu:l[k]?=some l[k]:=List.getElem?_eq_getElem hkl
  rw [List.drop_eq_getElem_cons hkl] at he
  refine codeN_of_tree rfl ?_
  rw [Cz rfl rfl rfl rfl rfl]
  show wpN X.c.M f.A ((forTurn (.Name x px) (.ref I) body orelse f.env).onRaise _) _ _ g.s
  refine B5 ?_
  unfold forTurn
  refine Ab (wpAny_standAt (Aa (Cy (Af (L.next F.ok LF hu fun y s1 L1 r1=>?_)))))
  show Wn X f.A (pure ()>>=fun zA=>(standAt px>>=fun zA=>bindName f.env x y)>>=_) _ s1
  refine Aa (Ac (Aa (Ab (wpAny_standAt (Af (Oe (g:=g.to s1) F hx L1.sit r1 fun s2 S2 le2=>?_))))))
  refine Aa (hb f (ν.set i (some l[k])) (g.to s2) body (fun fl ν' H'=>match fl with|.next=>eaB X b o i (l.drop (k+1)) ν' H' K|.cont=>eaB X b o i (l.drop (k+1)) ν' H' K|.brk=>K .next ν' H'|.ret x=>K (.ret x) ν' H') hcb S2 he _ fun fl y ν' g3 k3 S3 t3 r3=>?_)
  have L3:=L1.body LF S3 (le2.trans t3)
  have go:eaB X b o i (l.drop (k+1)) ν' g3.H K→Bc X.c.M f.A (.forLoop (.Name x px) (.ref I) body orelse f.env) R g3.s:=ih (k+1) ν' g3 (by rw [hk,Nat.add_assoc,Nat.add_comm m]) L3
  cases fl with
  | next=>cases r3;exact Ac ⟨rfl,go k3⟩
  | cont=>cases r3;exact Ac ⟨rfl,go k3⟩
  | brk=>cases r3;exact Ac (hQ .next .next ν' g3 k3 S3 L3.le rfl)
  | ret v=>exact r3.elim fun z q=>by rw [q.1];exact Ac (hQ (.ret v) (.ret z) ν' g3 k3 S3 L3.le ⟨z,rfl,q.2⟩)
theorem b8.loop{ν:Nu}{l:List V}{I:Addr}{s2:Shared}{fp:List Addr}{P:Nat→Value→Prop}{St:Nat→Heap→Prop}(K:b8 X.c f.A f.env g l I s2 fp P St)(S:Si X f ν g):Ki X f (Fy f.env) g l I fp P St:=by
 have hIe:f.env.locals≠I∧∀ x a,(x,a)∈f.env.cells→a≠I:=by
  obtain ⟨m,⟨o,es,ep,ho,_⟩,_⟩:=S.fr.ns
  refine ⟨fun z=>by (rw [z,K.new] at ho;cases ho),fun x a hx z=>?_⟩
  refine x22 (S.fr.cellEx x a hx) fun x' o' ho' zA=>?_
  rw [z,K.new] at ho';cases ho'
 exact ⟨S.st,K.W,K.new,K.firm,K.item,K.at_,hIe,S.fr.quiet,fun y=>(Fy.ex S.fr y).elim fun o e=>by rw [K.new] at e;cases e.1⟩
theorem wa(F:Fx X)(i:Nat)(it:MI){b o:MSs}(hb:XL X b)(ho:XL X o):XS X (.each i it b o):=fun f ν g x K hx S he Q hQ=>hx (fun x=>Wn X f.A (exec x f.env) Q g.s) fun x px iter body orelse p h1 h2 h3 h4=>by
 rw [arm_exec_For]
 refine Ab (wpAny_standAt (Aa (ch F it f ν g iter (fun l H1=>eaB X b o i l ν H1 K) h2 S he _ fun z l g1 k1 t1 hit=>?_)))
 rw [Ul h2]
 refine Aa (Ac (Ab (wpAny_standAt (Aa (Ad (Af (hit fun I s2 fp P St K=>?_)))))))
 have S1:=t1.sit F.ok S
 exact Gg (me F hb ho h1 h3 h4 (K.loop S1) (hQ.then t1.leS) l.length 0 ν (g1.to s2) (Nat.zero_add _).symm ⟨S1.grow F.ok K.grow,K.grow.le,K.st,Cv.off t1.st K.new⟩ k1) S.room.handled
end
section
variable {prog:Program} {w:World} {A:Around} {E:Value→Shared→Prop} {s:Shared} {X:Addr→Prop} {ρ:Rho}
theorem q9{op:Operator}{a b:V}{x y:Value}{k:V→Prop}(he:ke op a b k)(ra:Ao X ρ s.toks s.heap a x)(rb:Ao X ρ s.toks s.heap b y){Q:Value→Shared→Prop}(hQ:Aaf X ρ s k Q):wpAny (model prog w) A (inplaceOp op x y) Q E s:=by
 cases op<;>try exact he.elim
 case Add=>
  cases a<;>try exact he.elim
  case int i=>exact A7 (C:=fun b=>Ao X ρ s.toks s.heap b y→_) he (fun j hk rb=>ra.int_E fun t=>rb.int_E fun u=>AutoIntOps.iadd_0 (Lf hQ hk)) rb
  case str i=>exact Jt (C:=fun b=>Ao X ρ s.toks s.heap b y→_) he (fun j hk rb=>ra.str_E fun t=>rb.str_E fun u=>
   Cg (P:=fun z s'=>Gro s s'∧∃ t,z=.str (i++j) t) (iadd_str (fun t tk=>⟨Gro.tok _ _,t,rfl⟩) (Lg hk.1)) fun z s' p htk=>p.2.elim fun t e=>e▸hQ _ _ _ hk.2 (p.1.up htk) (.str _ _)) rb
 case FloorDiv=>exact A7 (C:=fun a=>Ao X ρ s.toks s.heap a x→_) he (fun i hk ra=>A7 (C:=fun b=>Ao X ρ s.toks s.heap b y→_) hk (fun j hk rb=>ra.int_E fun t=>rb.int_E fun u=>
   AutoIntOps.ifloordiv_1 (ag hk.1) (by rw [Ld (od9 hk.2.1)];exact Bool.false_ne_true) (by rw [Int.fdiv_eq_ediv_of_nonneg _ (Int.le_of_lt (od9 hk.1))];exact Lf hQ hk.2.2)) rb) ra
theorem cr{a:Addr}{xs:List Value}{n k:Nat}{i:Int}{t:Tok}{v:Value}{Q:Unit→Shared→Prop}(ho:s.heap.get? a=some (Dy xs.toArray n))(hk:Ir xs.length i=some k)(hz:xs.length≤1000)
  (h:∀ h' n',h'.get? a=some (Dy (xs.set k v).toArray n')→Heap.SameBut a s.heap h'→Q () {s with heap:=h'}):wpAny (model prog w) A (setItem (.ref a) (.int i t) v) Q E s:=by
 have fin:Q () {s with heap:=s.heap.update a (Obj.mapSeq (·.setIfInBounds k v))}:=by
  refine x11 (Z9 (f:=(·.setIfInBounds k v)) (ys:=xs.set k v) ho (by rw [List.setIfInBounds_toArray])) fun n' e=>?_
  exact h _ n' e (Heap.SameBut.update ..)
 refine Wk hk (fun a b c=>?_) fun a b c=>?_
 ·exact ki_setAt ho a (by lia) (by rw [List.size_toArray];exact b) (by rw [←c];exact fin)
 ·exact ki_setBack ho a (by rw [List.size_toArray];exact b) (by lia) (by rw [List.size_toArray,←c];exact fin)
end
section
variable {X:Xc} {f:Fm} {ν:Nu} {g g':Sg} {K:KS} {Q:Flow→Shared→Prop} {A:Around}
theorem rd(F:Fx X){a b v:V}{x y z:Value}{k:Hp→Prop}(S:SO X.c g)(e:Cw a b v g.H k)(ra:VR g a x)(rb:VR g b y)(rv:VR g v z){E:Value→Shared→Prop}{Q:Unit→Shared→Prop}(hQ:∀ g',k g'.H→Go X.c g g'→Q () g'.s):wpAny X.c.M A (setItem x y z) Q E g.s:=
 Fk (C:=fun a=>VR g a x→_) e (fun n e ra=>A7 (C:=fun b=>VR g b y→_) e (fun i e rb=>ra.loc_E fun ad d hr=>rb.int_E fun t=>by
  have e:(match g.H[n]? with
   | some (.lst l)=>gd (decide (l.length≤1000)) (opt (Ir l.length i) fun j=>k (g.H.set n (.lst (l.set j v))))
   | some (Ob.barr b)=>Gw v fun x=>gd (decide (b.size≤1000)) (gd (decide (0≤x)) (gd (decide (x<256)) (gd (decide (0≤i)) (gd (decide (i<b.size)) (k (g.H.set n (.barr (b.setIfInBounds i.toNat x.toNat.toUInt8))))))))
   | _=>False):=e
  cases hn:g.H[n]? with
  | none=>rw [hn] at e;exact e.elim
  | some o=>
   rw [hn] at e
   cases o<;>try exact e.elim
   case lst l=>
    refine x22 (S.heap.lst hr hn) fun xs m p2 p3=>?_
    refine B4 e.2 fun j hj hk=>cr p2 (p3.length▸hj) (p3.length▸od9 e.1) fun h' n' hh hb=>?_
    refine x02 (Cv.put F.ok S (ob:=.lst (l.set j v)) hr hn (fun e=>nomatch e) (.inl rfl) (tk:=g.s.toks) hb ⟨_,hh⟩ (Nat.le_refl _) fun le=>⟨(S.heap.obj n _ _ hr hn).1,_,_,hh,(le.rels S.stat.tab A6.none p3).set _ (le.rel S.stat.tab A6.none rv)⟩) fun st le=>?_
    exact hQ ⟨g.ρ,g.H.set n (.lst (l.set j v)),_⟩ hk ⟨st,le⟩
   case barr bb=>
    refine A7 (C:=fun v=>VR g v z→_) e (fun xv e rv=>rv.int_E fun u=>?_) rv
    refine x02 (S.heap.obj n _ _ hr hn) fun hd ho=>?_
    refine uj ho (od9 e.2.2.2.1) (od9 e.2.2.2.2.1) (od9 e.1) (od9 e.2.1) (od9 e.2.2.1) fun h' hh hb=>?_
    refine x02 (Cv.put F.ok S (ob:=.barr (bb.setIfInBounds i.toNat xv.toNat.toUInt8)) hr hn (fun e=>nomatch e) (.inl rfl) (tk:=g.s.toks) hb ⟨_,hh⟩ (Nat.le_refl _) fun le=>⟨hd,hh⟩) fun st le=>?_
    exact hQ ⟨g.ρ,g.H.set n (.barr (bb.setIfInBounds i.toNat xv.toNat.toUInt8)),_⟩ e.2.2.2.2.2 ⟨st,le⟩) rb) ra
theorem wc{a b:V}{x y:Value}{k:V→Prop}(S:SO X.c g)(e:Aeq X.tb a b g.H k)(ra:VR g a x)(rb:VR g b y){E:Value→Shared→Prop}{Q:Value→Shared→Prop}(hQ:∀ v z,k v→VR g v z→Q z g.s):wpAny X.c.M A (getItem x y) Q E g.s:=
 by
 cases a<;>try exact e.elim
 case loc n=>
  exact Lr e fun l hn e=>A7 (C:=fun b=>VR g b y→_) e (fun i e rb=>ra.loc_E fun ad d hr=>rb.int_E fun t=>by
   have e:(match g.H[n]? with|some (Ob.lst l)=>gd (decide (l.length≤Ah)) (opt (Ir l.length i) fun j=>opt (l[j]?) k)|some (.inst C _ (some l))=>gd (X.tb.isList C) (gd (decide (l.length≤Ah)) (opt (Ir l.length i) fun j=>opt (l[j]?) k))|_=>False):=e
   rw [hn] at e
   refine x22 (S.heap.lst hr hn) fun xs m p2 p3=>?_
   exact B4 e.2 fun j hj e'=>B4 e' fun v hv e'=>(p3.get hv).elim fun z q=>Qr p2 (p3.length▸hj) q.1 (p3.length▸od9 e.1) (hQ _ _ e' q.2)) rb
theorem Rc{cx:Cx}{x:Str}{i:Nat}(h:Ap cx x i=true){P:Prop}(k:cx.slots.lookup x=some i→V7 (cx.names.lookup x)=true→(x==("__classdict__" : Str))=false→P):P:=
 Ak h fun h1 h=>Ak h fun h2 h=>Ak h fun h3 h4=>k (eq_of_beq h1) (X3 h2 (fun e=>by rw [eq_of_beq e];rfl) fun e=>by rw [eq_of_beq e];rfl) (Dw h4)
theorem wd(F:Fx X)(i:Nat)(op:Operator)(e:ME):XS X (.augv i op e):=fun f ν g x K hx S he Q hQ=>hx (fun x=>Wn X f.A (exec x f.env) Q g.s) fun x px v p h1 h2=>by
 rw [arm_exec_AugAssign]
 refine Wl (k:=fun old=>ev X.tb X.Φ e ν g.H fun v H1=>ke op old v fun r=>K .next (ν.set i (some r)) H1) he fun old e0 he=>Rc h1 fun q1 q2 q3=>?_
 refine Ab (wpAny_standAt (Ab (La S q1 q2 q3 e0 fun z0 r0=>?_)))
 refine Aa (Ad ((B1 F e).1 f ν g v (fun v H1=>ke op old v fun r=>K .next (ν.set i (some r)) H1) h2 S he _ fun vv z g1 k1 t1 r1=>?_))
 refine Ab (wpAny_standAt (Aa (Bl (Af (q9 k1 (t1.rel S.st r0) r1 fun vr zr s2 kr g2 rr=>?_)))))
 have t2:=t1.then F.ok g2
 exact Ab (wpAny_standAt (Ab (Oe (g:=g1.to s2) F h1 (t2.sit F.ok S) rr fun s3 S3 le3=>Ac (hQ .next _ _ (g1.to s3) kr S3 (t2.leS.trans le3) rfl))))
theorem we(F:Fx X)(o i e:ME):XS X (.asub o i e):=fun f ν g x K hx S he Q hQ=>hx (fun x=>Wn X f.A (exec x f.env) Q g.s) fun a b q v p h1 h2 h3 h4 h5=>by
 rw [PySem.exec_Assign_Subscript (hs:=E2 h4 _ _ _)]
 refine Ab (wpAny_standAt (Aa ((B1 F e).1 f ν g v (fun v H1=>ev X.tb X.Φ o ν H1 fun a H2=>ev X.tb X.Φ i ν H2 fun b H3=>Cw a b v H3 fun H4=>K .next ν H4) h3 S he _ fun vv z g1 k1 t1 r1=>Aa ?_)))
 rw [assign_Subscript]
 refine Aa (Ad ((B1 F o).1 f ν g1 a (fun a H2=>ev X.tb X.Φ i ν H2 fun b H3=>Cw a b vv H3 fun H4=>K .next ν H4) h1 (t1.sit F.ok S) k1 _ fun va za g2 k2 t2 r2=>?_))
 refine Aa (Ad ((B1 F i).1 f ν g2 b (fun b H3=>Cw va b vv H3 fun H4=>K .next ν H4) h2 ((t1.trans t2).sit F.ok S) k2 _ fun vb zb g3 k3 t3 r3=>?_))
 refine Ab (wpAny_standAt (Ab (wpAny_holding (rd F t3.st k3 (t3.rel t2.st r2) r3 ((t2.trans t3).rel t1.st r1) fun g4 k4 t4=>Af (wpAny_release (Ac ?_))))))
 have t:=((t1.trans t2).trans t3).trans t4
 exact hQ .next _ ν g4 k4 (t.sit F.ok S) t.leS rfl
theorem Uo{b:Expr}(h:Hg b=true)(x y z:Value):augStore b x y z=(holding [z,x,y] (setItem x y z)>>=fun zA=>release [z,x,y] []>>=fun zA=>pure .next):=by
 cases b<;>first|rfl|exact Bool.noConfusion h
theorem cu(F:Fx X)(o i:ME)(op:Operator)(e:ME):XS X (.augsub o i op e):=fun f ν g x K hx S he Q hQ=>hx (fun x=>Wn X f.A (exec x f.env) Q g.s) fun a b q v p h1 h2 h3 h5=>by
 rw [arm_exec_AugAssign_3]
 refine Ab (wpAny_standAt (Aa ((B1 F o).1 f ν g a (fun a H1=>ev X.tb X.Φ i ν H1 fun b H2=>Aeq X.tb a b H2 fun old=>ev X.tb X.Φ e ν H2 fun v H3=>ke op old v fun r=>Cw a b r H3 fun H4=>K .next ν H4) h1 S he _ fun va za g1 k1 t1 r1=>?_)))
 refine Aa (Ad ((B1 F i).1 f ν g1 b (fun b H2=>Aeq X.tb va b H2 fun old=>ev X.tb X.Φ e ν H2 fun v H3=>ke op old v fun r=>Cw va b r H3 fun H4=>K .next ν H4) h2 (t1.sit F.ok S) k1 _ fun vb zb g2 k2 t2 r2=>?_))
 refine Aa (Ad (Ab (wpAny_standAt (Ab (wc t2.st k2 (t2.rel t1.st r1) r2 fun old zo k2 ro=>?_)))))
 refine Aa (Ad ((B1 F e).1 f ν g2 v (fun v H3=>ke op old v fun r=>Cw va vb r H3 fun H4=>K .next ν H4) h3 ((t1.trans t2).sit F.ok S) k2 _ fun vv zv g3 k3 t3 r3=>?_))
 refine Ab (wpAny_standAt (Bl (Af (q9 k3 (t3.rel t2.st ro) r3 fun vr zr s4 k4 g4 r4=>?_))))
 refine Ab (wpAny_standAt ?_)
 rw [Uo h5]
 have t4:Go X.c g2 (g3.to s4):=t3.then F.ok g4
 refine Ab (wpAny_holding (rd (g:=g3.to s4) F t4.st k4 (t4.rel t2.st (t2.rel t1.st r1)) (t4.rel t2.st r2) r4 fun g5 k5 t5=>Ab (wpAny_release (Ac ?_))))
 have t:=((t1.trans t2).trans t4).trans t5
 exact hQ .next _ ν g5 k5 (t.sit F.ok S) t.leS rfl
theorem Acb{b:MSs}(hb:XL X b):XS X (.try_ b):=fun f ν g x K hx S he Q hQ=>hx (fun x=>Wn X f.A (exec x f.env) Q g.s) fun body hs p h=>by
 rw [arm_exec_Try]
 refine Ab (wpAny_standAt ?_)
 delta tryStmt
 extract_lets main
 rw [if_pos (show List.isEmpty ([]:List Stmt)=true from rfl)]
 refine Aa (G2 (Ez (hb f ν g body K h S he Q hQ) (fun y s1 h1=>?_) fun e s1 h1=>h1.elim))
 cases y with
 | next=>exact Ac h1
 | brk=>exact Ac h1
 | cont=>exact Ac h1
 | ret v=>exact Ac h1
theorem Lx(F:Fx X){E:Value→Shared→Prop}{Q:Unit→Shared→Prop}:∀ (is:List Nat) (ts:List Expr) (vs:List V) (zs:List Value) (ν:Nu) (g:Sg),ug is f.cx ts→Si X f ν g→vs.length=is.length→VRs g vs zs→
  (∀ s',Si X f (Am ν is vs) (g.to s')→LeS X.c (Fy f.env) g (g.to s')→Q () s')→wpAny X.c.M f.A (assignInOrder ((assignEach ts f.env).map (·.2)) zs) Q E g.s
 | [],ts,vs,zs,ν,g,hc,S,hl,r,hQ=>hc (fun ts=>wpAny X.c.M f.A (assignInOrder ((assignEach ts f.env).map (·.2)) zs) Q E g.s) (by
  cases vs with
  | nil=>exact wpAny_pure (hQ g.s S Le.refl)
  | cons v vs=>exact nomatch hl)
 | i::is,ts,vs,zs,ν,g,hc,S,hl,r,hQ=>hc (fun ts=>wpAny X.c.M f.A (assignInOrder ((assignEach ts f.env).map (·.2)) zs) Q E g.s) fun x px r' h1 h2=>by
  cases vs with
  | nil=>exact nomatch hl
  | cons v vs=>
   refine Ae.cons_E r fun z zs ra rb=>?_
   show wpAny X.c.M f.A (holding zs (standAt px>>=fun zA=>bindName f.env x z)>>=fun zA=>assignInOrder ((assignEach r' f.env).map (·.2)) zs) Q E g.s
   exact wpAny_bind (wpAny_holding (wpAny_bind (wpAny_standAt (Oe F h1 S ra fun s1 S1 le1=>Lx F is r' vs zs _ (g.to s1) h2 S1 (Nat.succ.inj hl) (le1.rels S.st.stat.tab S.fr.quiet rb) fun s2 S2 le2=>hQ s2 S2 (le1.trans le2)))))
theorem I3{cx:Cx}{env:Env}:∀ {is:List Nat} {ts:List Expr},ug is cx ts→(assignEach ts env).length=is.length∧(assignEach ts env).findIdx? (·.1)=none
 | [],ts,h=>h (fun ts=>(assignEach ts env).length=0∧(assignEach ts env).findIdx? (·.1)=none) ⟨rfl,rfl⟩
 | i::is,ts,h=>h (fun ts=>(assignEach ts env).length=is.length+1∧(assignEach ts env).findIdx? (·.1)=none) fun x px r h1 h2=>by
  refine x02 (I3 (env:=env) h2) fun q1 q2=>?_
  refine ⟨congrArg Nat.succ q1,?_⟩
  show ((false,assign (.Name x px) env)::assignEach r env).findIdx? (·.1)=none
  rw [List.findIdx?_cons,q2]
  rfl
theorem Yd{ts:List Expr}{k:Nat}{pt:Pos}{value:Expr}(h:O7 value=true)(env:Env):swappedStores [.Tuple ts k pt] value env=pure none:=by
 unfold swappedStores
 cases value<;>first|rfl|exact Bool.noConfusion h
theorem cy(F:Fx X)(is:List Nat)(e:ME):XS X (.unpack is e):=fun f ν g x K hx S he Q hQ=>hx (fun x=>Wn X f.A (exec x f.env) Q g.s) fun ts k pt value p h1 h2 h3 h4=>by
 refine x02 (I3 (env:=f.env) h1) fun q1 q2=>?_
 rw [arm_exec_Assign]
 refine Ab (wpAny_standAt ?_)
 rw [show swapsWithSole [.Tuple ts k pt] value p.line f.env=pure false from (show swapsWith value (some (.Tuple ts k pt)) p.line f.env=pure false from E2 h3 _ _ _)]
 show Wn X f.A (eval value f.env>>=fun v=>swappedStores [.Tuple ts k pt] value f.env>>=fun st=>assignStores f.env v st ((assignEach [.Tuple ts k pt] f.env).map (·.2))) Q g.s
 refine Aa ((B1 F e).1 f ν g value (fun v H1=>match v with
  | .tup l=>gd (l.length==is.length) (K .next (Am ν is l) H1)
  | .lst l=>gd (l.length==is.length) (K .next (Am ν is l) H1)
  | _=>False) h2 S he _ fun v z g1 k1 t1 r1=>?_)
 have go:∀ (l:List V) (xs:List Value),gd (l.length==is.length) (K .next (Am ν is l) g1.H)→VRs g1 l xs→(∀ {Q':List Value→Shared→Prop},(∀ s2,Au g1.s s2→Q' xs s2)→wpAny X.c.M f.A (unpackItems z xs.toArray.size none) Q' FF g1.s)→
   Wn X f.A (swappedStores [.Tuple ts k pt] value f.env>>=fun st=>assignStores f.env z st ((assignEach [.Tuple ts k pt] f.env).map (·.2))) Q g1.s:=fun l xs kk rl hun=>by
  rw [Yd h4]
  refine Aa (Ac ?_)
  show Wn X f.A ((standAt pt>>=fun zA=>unpack z (assignEach ts f.env))>>=fun zA=>pure Flow.next) Q g1.s
  refine Aa (Ab (wpAny_standAt (Af ?_)))
  have hl:=eq_of_beq kk.1
  unfold unpack
  rw [q2,q1,←hl,show l.length=xs.toArray.size from rl.length]
  refine wpAny_bind (wpAny_holding (hun fun s2 g2=>?_))
  have t2:=t1.then F.ok g2
  exact Lx F is ts l xs ν (g1.to s2) h1 (t2.sit F.ok S) hl (g2.rels rl) fun s3 S3 le3=>Ac (hQ .next _ _ (g1.to s3) kk.2 S3 (t2.leS.trans le3) rfl)
 cases v<;>try exact k1.elim
 case tup l=>
  refine r1.inv (fun z'=>z'=z→_) (fun a xs w1 w2 w3 hz=>go l xs k1 w3 fun {Q'} hun=>?_) rfl
  subst hz
  exact unpackItems_tuple S.room.handled ⟨_,w2,rfl,_,rfl⟩ fun h' he'=>hun _ ⟨fun b o e=>he' b o (Nat.ne_of_lt (Heap.lt_size e)) e,rfl,rfl,Nat.le_refl _⟩
 case lst l=>
  refine r1.inv (fun z'=>z'=z→_) (fun a xs nn w1 w2 w3 hz=>go l xs k1 w3 fun {Q'} hun=>?_) rfl
  subst hz
  exact kun_itemsOf S.room.handled ⟨_,w2,rfl,_,rfl⟩ fun h' he'=>hun _ ⟨fun b o e=>he' b o (Nat.ne_of_lt (Heap.lt_size e)) e,rfl,rfl,Nat.le_refl _⟩
end
theorem Rd{X:Addr→Prop}{ρ:Rho}{T:Nat}{h:Heap}{v:V}{z:Value}(r:Ao X ρ T h v z)(hv:V6 v=false):handedIn z=true:=by
 cases v
 case stat y=>exact Bool.noConfusion hv
 all_goals exact r.inv (fun z=>handedIn z=true) (by first|exact rfl|(intros;rfl))
theorem Av.put{X:Addr→Prop}{ρ:Rho}{T:Nat}{h:Heap}{at_:List (Nat×V)}{es:List DictEntry}(r:Av X ρ T h at_ es){k:Nat}{name:Str}(hk:Ec[k]?=some name){v:V}{z:Value}(rv:Ao X ρ T h v z)(hz:handedIn z=true)(hs:Int)(tk:Tok) :
  Av X ρ T h (Fh at_ k v) (putL name hs (.str name tk) z es):=by
 induction r with
 | nil=>exact .cons tk hk rfl hz rv .nil
 | @cons j nm e w at_ es t e1 e2 e3 e4 r ih=>
  show Av X ρ T h (if k==j then (j,v)::at_ else (j,w)::Fh at_ k v) (if e.key.isStr name then {e with val:=z}::es else e::putL name hs (.str name tk) z es)
  by_cases hj:k=j
  ·subst hj
   rw [hk] at e1
   cases e1
   rw [e2,N3,if_pos rfl,beq_self_eq_true,if_pos rfl]
   exact .cons t hk rfl hz rv r
  ·have:e.key.isStr name=false:=by
    rw [e2]
    exact beq_eq_false_iff_ne.mpr fun z=>hj (Qm k j name hk (z▸e1))
   rw [this,beq_eq_false_iff_ne.mpr hj,if_neg Bool.false_ne_true,if_neg Bool.false_ne_true]
   exact .cons t e1 e2 e3 e4 ih
theorem Av.getL_some{X:Addr→Prop}{ρ:Rho}{T:Nat}{h:Heap}{at_:List (Nat×V)}{es:List DictEntry}(r:Av X ρ T h at_ es)(name:Str):getL name es≠none:=by
 unfold getL
 rw [r.noRef]
 cases es.find? fun e=>e.key.isStr name<;>exact fun h=>nomatch h
theorem Wt(name:Str)(hs:Int)(key z:Value):∀ es:List DictEntry,(putL name hs key z es).length≤es.length+1
 | []=>Nat.le_refl _
 | e::es=>by
  show (if e.key.isStr name then {e with val:=z}::es else e::putL name hs key z es).length≤es.length+1+1
  by_cases h:e.key.isStr name=true
  ·rw [if_pos h];exact Nat.le_succ _
  ·rw [if_neg h];exact Nat.succ_le_succ (Wt name hs key z es)
section
variable {X:Xc} {f:Fm} {ν:Nu} {g g':Sg} {A:Around}
theorem Ye(F:Fx X){a v:V}{j:Nat}{name:Str}{x z:Value}{k:Hp→Prop}(S:SO X.c g)(e:Kp X.tb a j v g.H k)(hk:Ec[j]?=some name)(ra:VR g a x)(rv:VR g v z){E:Value→Shared→Prop}{Q:Unit→Shared→Prop}(hQ:∀ g',k g'.H→Go X.c g g'→Q () g'.s):wpAny X.c.M A (setAttr x name z) Q E g.s:=
 Fk (C:=fun a=>VR g a x→_) e (fun n e ra=>Iy e fun C at_ items hn e=>by
  refine x43 (S.ins hn ra) fun p ox es m e1 zz5 I=>?_;subst zz5
  have C1:=F.cls C e.2.2.1
  refine Qp S.stat.K I.inst I.dict C1.sa C1.mro (C1.attr j name hk) (I.attrs.getL_some name) (Nat.le_trans (Wt ..) ?_) fun h' hh hb=>?_
  ·rw [I.attrs.length];exact Nat.le_trans (od9 e.2.1) (by decide)
  ·obtain ⟨st,le⟩:=Cv.put F.ok S (ob:=.inst C (Fh at_ j v) items) e1 hn (fun e=>nomatch e) (.inr rfl) (tk:=g.s.toks+2) hb ⟨_,hh⟩ (Nat.le_add_right _ 2) fun le=>by
    refine ⟨I.ne,⟨_,_,hh,(I.attrs.map fun v x q=>le.rel S.stat.tab A6.none q).put hk (le.rel S.stat.tab A6.none rv) (Rd rv (Dw e.2.2.2.1)) _ _⟩,?_⟩
    have h1:h'.get? p.1=some ox:=(hb.2 _ (Ne.symm I.ne)).trans I.inst.at_
    have sh:=I.shape
    cases items with
    | none=>exact h1.trans (congrArg some sh)
    | some l=>
     refine x22 sh fun xs n' hox hxs=>?_
     exact ⟨xs,n',h1.trans (congrArg some hox),le.rels S.stat.tab A6.none hxs⟩
   exact hQ ⟨g.ρ,g.H.set n (.inst C (Fh at_ j v) items),_⟩ e.2.2.2.2 ⟨st,le⟩) ra
theorem mf(F:Fx X)(o:ME)(k:Nat)(e:ME):XS X (.aattr o k e):=fun f ν g x K hx S he Q hQ=>hx (fun x=>Wn X f.A (exec x f.env) Q g.s) fun a n q v p h1 h2 h3 h4=>by
 rw [plainObj_exec_Assign_Attribute (hs:=E2 h4 _ _ _)]
 refine Ab (wpAny_standAt (Aa ((B1 F e).1 f ν g v (fun v H1=>ev X.tb X.Φ o ν H1 fun a H2=>Kp X.tb a k v H2 fun H3=>K .next ν H3) h3 S he _ fun vv z g1 k1 t1 r1=>Aa ?_)))
 rw [assign_Attribute]
 refine Aa (Ad ((B1 F o).1 f ν g1 a (fun a H2=>Kp X.tb a k vv H2 fun H3=>K .next ν H3) h2 (t1.sit F.ok S) k1 _ fun va za g2 k2 t2 r2=>?_))
 refine Ab (wpAny_standAt (Ab (wpAny_holding (Ye F t2.st k2 (eq_of_beq h1) r2 (t2.rel t1.st r1) fun g3 k3 t3=>Af (wpAny_release (Ac ?_))))))
 have t:=(t1.trans t2).trans t3
 exact hQ .next _ ν g3 k3 (t.sit F.ok S) t.leS rfl
theorem cz(F:Fx X){a b v:V}{x y z:Value}{k:Hp→Prop}(S:SO X.c g)(e:K5 X.tb a b v g.H k)(ra:VR g a x)(rb:VR g b y)(rv:VR g v z){E:Value→Shared→Prop}{Q:Unit→Shared→Prop}(hQ:∀ g',k g'.H→Go X.c g g'→Q () g'.s):wpAny X.c.M A (setItem x (.ref g.s.heap.objs.size) z) Q E {g.s with heap:=g.s.heap.push (Pc y .none .none)}:=by
 have gr:Au g.s {g.s with heap:=g.s.heap.push (Pc y .none .none)}:=Au.push _ _
 have t1:Go X.c g (g.to {g.s with heap:=g.s.heap.push (Pc y .none .none)}):=.grow F.ok S gr
 refine Fk (C:=fun a=>VR g a x→_) e (fun n e ra=>Lc (C:=fun v=>VR g v z→_) e (fun r e rv=>?_) rv) ra
 have e:(match g.H[n]? with
  | some (Ob.inst C at_ (some l))=>gd (decide (l.length≤1000)) (gd (decide (r.length≤1000)) (gd (X.tb.isList C) (K1 l.length 0 b fun a=>k (g.H.set n (.inst C at_ (some (l.take a++r)))))))
  | _=>False):=e
 cases hn:g.H[n]? with
 | none=>rw [hn] at e;exact e.elim
 | some o=>
  rw [hn] at e
  cases o<;>try exact e.elim
  case inst C at_ it=>
  cases it with
  | none=>exact e.elim
  | some l=>
   have S1:=t1.st
   refine x43 (S1.ins hn (gr.rel ra)) fun p ox es m e1 zz5 I=>?_;subst zz5
   have hs:(g.s.heap.push (Pc y .none .none)).IsSliceOf g.s.heap.objs.size y .none .none:=⟨_,Heap.get?_push_size g.s.heap (o:=Pc y .none .none) rfl,rfl,rfl⟩
   refine x22 I.shape fun xs n' hox hxs=>?_
   have hd:ox.data=.seq xs.toArray n':=by rw [hox]
   refine Qs e.2.2.2 rb fun o1 w1 kk=>(gr.rel rv).inv (fun z=>wpAny X.c.M A (setItem (.ref p.1) (.ref g.s.heap.objs.size) z) Q E {g.s with heap:=g.s.heap.push (Pc y .none .none)}) fun bb ys nn p1 p2 p3=>?_
   have hne:p.1≠bb:=fun z=>p1 ⟨n,p,_,e1,hn,(fun e=>nomatch e),.inl z.symm⟩
   refine No S1.stat.K I.inst (F.lists C e.2.2.1).1 hd p2 hne hs w1 .none (hxs.length▸od9 e.1) (p3.length▸od9 e.2.1) fun h' k hh hb=>?_
   obtain ⟨st,le⟩:=Cv.put F.ok S1 (ob:=.inst C at_ (some (l.take (o1.elim 0 (clipAt l.length))++r))) e1 hn (fun e=>nomatch e) (.inl rfl) (tk:=g.s.toks) hb ⟨_,hh⟩ (Nat.le_refl _) fun le=>
    ⟨I.ne,⟨es,m,(hb.2 _ I.ne).trans I.atd,I.attrs.map fun v x q=>le.rel S1.stat.tab A6.none q⟩,xs.take (o1.elim 0 (clipAt xs.length))++ys,k,by rw [hh,hox],(le.rels S1.stat.tab A6.none (hxs.length▸hxs.take _)).append (le.rels S1.stat.tab A6.none p3)⟩
   exact hQ ⟨g.ρ,g.H.set n (.inst C at_ (some (l.take (o1.elim 0 (clipAt l.length))++r))),_⟩ kk (t1.trans ⟨st,le⟩)
theorem wf(F:Fx X)(o lo e:ME):XS X (.aslc o lo e):=fun f ν g x K hx S he Q hQ=>hx (fun x=>Wn X f.A (exec x f.env) Q g.s) fun a l q1 q v p h1 h2 h3 h4=>by
 rw [PySem.exec_Assign_Subscript (hs:=E2 h4 _ _ _)]
 refine Ab (wpAny_standAt (Aa ((B1 F e).1 f ν g v (fun v H1=>ev X.tb X.Φ o ν H1 fun a H2=>ev X.tb X.Φ lo ν H2 fun b H3=>K5 X.tb a b v H3 fun H4=>K .next ν H4) h3 S he _ fun vv z g1 k1 t1 r1=>Aa ?_)))
 rw [assign_Subscript]
 refine Aa (Ad ((B1 F o).1 f ν g1 a (fun a H2=>ev X.tb X.Φ lo ν H2 fun b H3=>K5 X.tb a b vv H3 fun H4=>K .next ν H4) h1 (t1.sit F.ok S) k1 _ fun va za g2 k2 t2 r2=>Aa (Ad ?_)))
 rw [arm_eval_Slice]
 refine Aa (vf F (B1 F lo).1 h2 ((t1.trans t2).sit F.ok S) (K:=fun b H3=>K5 X.tb va b vv H3 fun H4=>K .next ν H4) k2 fun vl zl g3 k3 t3 r3=>?_)
 refine Aa (Ad (Ac (Aa (Ad (Ac ?_)))))
 refine Af (wpAny_newObj_type ?_ (by show (3:Nat)≤_;rw [sizeLine_eq];decide))
 refine Ab (wpAny_standAt (Ab (wpAny_holding (cz F t3.st k3 (t3.rel t2.st r2) r3 ((t2.trans t3).rel t1.st r1) fun g4 k4 t4=>Af (wpAny_release (Ac ?_))))))
 have t:=((t1.trans t2).trans t3).trans t4
 exact hQ .next _ ν g4 k4 (t.sit F.ok S) t.leS rfl
end
section
variable {prog:Program} {w:World} {A:Around} {E:Value→Shared→Prop} {s:Shared}
theorem re{h:Heap}{z TI TO e:Addr}{v:Value}{oe:Obj}(q:IsZip h z TI TO v)(ho:h.get? e=some oe)(hc:oe.cls=.type "StopIteration"):e≠z:=fun x=>by
 subst x
 rw [q] at ho
 cases ho
 exact absurd (Value.type.inj hc) (by decide)
theorem Pj{z TI TO i1 i2 l1 l2:Addr}{k1 k2:Nat}{xs ys:Array Value}{a b:Value}{Q:PySem.Fin→Shared→Prop}(hh:A.handled=none)(D:ZipApart z TI TO i1 i2 l1 l2)
  (hz:IsZip s.heap z TI TO .none) (hTI:IsPair s.heap TI (.ref i1) (.ref i2)) (hTO:IsPair s.heap TO a b)
  (h1:s.heap.IsListIter i1 l1 k1) (h2:s.heap.IsListIter i2 l2 k2) (hl1:s.heap.IsList l1 xs) (hl2:s.heap.IsList l2 ys) (hend:xs[k1]?=none∨ys[k2]?=none)
  (hE:∀ h' x o a b,(∀ c o,c≠z→c≠TO→c≠i1→c≠i2→s.heap.get? c=some o→h'.get? c=some o)→IsPair h' TO a b→h'.get? x=some o→o.cls=.type "StopIteration" →E (.ref x) {s with heap:=h'}):wpAny (model prog w) A (Builtin.«zip.__next__» ⟨[.ref z],[]⟩) Q E s:=by
 show wpAny _ _ (field (.ref z) 2>>=_) _ _ _
 refine wpAny_bind (wpAny_field hz rfl (x:=.bool false) rfl (wpAny_bind (wpAny_field hz rfl (x:=.ref TI) rfl (wpAny_bind (wpAny_seqItems hTI rfl ?_)))))
 show wpAny _ _ (Builtin.SmallTypes.ownedTupleIsFree (.ref z)>>=_) _ _ _
 delta Builtin.SmallTypes.ownedTupleIsFree
 refine wpAny_bind (wpAny_bind (wpAny_field hz rfl (x:=.none) rfl (wpAny_pure ?_)))
 rw [if_pos rfl]
 refine wpAny_bind (wpAny_rule (wpAny_bind (wpAny_field hz rfl (x:=.ref TO) rfl (wpAny_bind (wpAny_setField_rec hz (Nat.succ_pos 4) fun g1 q1 b1=>?_)))))
 have q1:IsZip g1 z TI TO .ellipsis:=q1
 have t1:IsPair g1 TO a b:=b1.extBut _ _ D.TOz hTO
 refine wpAny_bind (wpAny_bind (wpAny_bind (wpAny_onRaise ?_)))
 show wpAny _ _ (Builtin.SmallTypes.nextOf (.ref i1)>>=_) _ _ _
 cases hx:xs[k1]? with
 | none=>
  refine wpAny_bind (wpAny_nextOf_list_end hh (h1.extBut b1.extBut D.i1z) (hl1.extBut b1.extBut D.l1z) hx fun g2 e b2 he=>he.elim fun oe he=>?_)
  have q2:IsZip g2 z TI TO .ellipsis:=b2 _ _ D.i1z.symm q1
  exact wpAny_setField_rec q2 (Nat.succ_pos 4) fun g3 zA b3=>hE g3 e oe a b (fun c o c1 zA c3 zB x=>b3.extBut _ _ c1 (b2 _ _ c3 (b1.extBut _ _ c1 x))) (b3.extBut _ _ D.TOz (b2 _ _ D.TOi1 t1)) (b3.extBut _ _ (re q2 he.1 he.2) he.1) he.2
 | some x=>
  have hy:ys[k2]?=none:=hend.elim (fun h=>nomatch hx.symm.trans h) id
  refine wpAny_bind (wpAny_nextOf_list_item (h1.extBut b1.extBut D.i1z) (hl1.extBut b1.extBut D.l1z) hx fun g2 p2 b2=>wpAny_pure ?_)
  refine wpAny_bind (wpAny_seqItems (b2.extBut _ _ D.TOi1 t1) rfl (wpAny_bind (wpAny_updateSeq_pair (b2.extBut _ _ D.TOi1 t1) fun g3 t3 b3=>wpAny_bind (wpAny_letGo (wpAny_pure ?_)))))
  have t3:IsPair g3 TO x b:=t3
  refine wpAny_bind (wpAny_bind (wpAny_onRaise ?_))
  show wpAny _ _ (Builtin.SmallTypes.nextOf (.ref i2)>>=_) _ _ _
  refine wpAny_bind (wpAny_nextOf_list_end hh (((h2.extBut b1.extBut D.i2z).extBut b2.extBut D.i12.symm).extBut b3.extBut D.TOi2.symm)
   (((hl2.extBut b1.extBut D.l2z).extBut b2.extBut D.l2i1).extBut b3.extBut D.l2TO) hy fun g4 e b4 he=>he.elim fun oe he=>?_)
  have q4:IsZip g4 z TI TO .ellipsis:=b4 _ _ D.i2z.symm (b3.extBut _ _ D.TOz.symm (b2.extBut _ _ D.i1z.symm q1))
  exact wpAny_setField_rec q4 (Nat.succ_pos 4) fun g5 zA b5=>hE g5 e oe x b (fun c o c1 c2 c3 c4 x=>b5.extBut _ _ c1 (b4 _ _ c4 (b3.extBut _ _ c2 (b2.extBut _ _ c3 (b1.extBut _ _ c1 x))))) (b5.extBut _ _ D.TOz (b4 _ _ D.TOi2 t3)) (b5.extBut _ _ (re q4 he.1 he.2) he.1) he.2
theorem mh{z TI TO i1 i2 l1 l2:Addr}{k1 k2:Nat}{xs ys:Array Value}{a b:Value}{Q:Option Value→Shared→Prop}(hh:A.handled=none)(D:ZipApart z TI TO i1 i2 l1 l2)
  (hz:IsZip s.heap z TI TO .none) (hTI:IsPair s.heap TI (.ref i1) (.ref i2)) (hTO:IsPair s.heap TO a b)
  (h1:s.heap.IsListIter i1 l1 k1) (h2:s.heap.IsListIter i2 l2 k2) (hl1:s.heap.IsList l1 xs) (hl2:s.heap.IsList l2 ys) (hend:xs[k1]?=none∨ys[k2]?=none)
  (hQ:∀ h',(∀ c o,c≠z→c≠TO→c≠i1→c≠i2→s.heap.get? c=some o→h'.get? c=some o)→(∃ a b,IsPair h' TO a b)→Q none {s with heap:=h'}):wpAny (model prog w) A (pyNext (.ref z)) Q E s:=by
 have hT:s.TypeIs (.ref z) "zip" :=⟨_,hz,rfl⟩
 delta pyNext
 refine wpAny_bind (wpAny_attempt (wpAny_callSpecial?_slot (name:=Str.ofString "__next__") hT F.slot_zip_next
  (wpAny_call_entry F.slot_zip_next hT F.entry_zip_next (Pj hh D hz hTI hTO h1 h2 hl1 hl2 hend fun h' x o a b hk hp ho hc=>?_) (F.args_zip_next_1 _))))
 refine wpAny_bind (wpAny_isInstance (T:= "StopIteration") (b:=true) ⟨o,ho,hc⟩ isSubtype_stop ?_)
 exact wpAny_pure (hQ _ hk ⟨a,b,hp⟩)
end
noncomputable abbrev Sg.at(g:Sg)(h':Heap)(tk:Nat):Sg:=g.to {g.s with heap:=h',toks:=tk}
structure Stp(c:Cfg)(W:Addr→Prop)(g:Sg)(h':Heap)(tk:Nat):Prop where
 old:∀ b,W b→¬c.old b
 seq:∀ b o,W b→g.s.heap.get? b=some o→¬Mut g.ρ g.H b→Cb o=false
 keep:∀ b o,¬W b→g.s.heap.get? b=some o→h'.get? b=some o
 ex:∀ (n:Nat) (q:Addr×Addr),g.ρ[n]?=some q→∀ b,(b=q.1∨b=q.2)→W b→∃ o,h'.get? b=some o
 tk:g.s.toks≤tk
section
variable {c:Cfg} {cx:Cx} {env:Env} {ν:Nu} {g g0:Sg} {W:Addr→Prop} {h':Heap} {tk:Nat}
theorem Stp.exs(p:Stp c W g h' tk){n:Nat}{q:Addr×Addr}(e:g.ρ[n]?=some q){b:Addr}(hb:b=q.1∨b=q.2)(h:∃ o,g.s.heap.get? b=some o):∃ o,h'.get? b=some o:=by
 by_cases w:W b
 ·exact p.ex n q e b hb w
 ·exact h.elim fun o e=>⟨o,p.keep b o w e⟩
theorem Stp.rel(p:Stp c W g h' tk){v:V}{x:Value}(r:VR g v x):VR (g.at h' tk) v x:=
 r.move p.tk (fun zA zB zC e=>e) (fun b o e hm hs=>p.keep b o (fun w=>by rw [p.seq b o w e hm] at hs;cases hs) e) fun zA zB e=>e
theorem Stp.rels(p:Stp c W g h' tk){v:List V}{x:List Value}(r:VRs g v x):VRs (g.at h' tk) v x:=
 r.move p.tk (fun zA zB zC e=>e) (fun b o e hm hs=>p.keep b o (fun w=>by rw [p.seq b o w e hm] at hs;cases hs) e) fun zA zB e=>e
theorem Stp.ok(ok:Bj c)(S:SO c g)(p:Stp c W g h' tk)(hob:∀ (n:Nat) (q:Addr×Addr) (o:Ob),g.ρ[n]?=some q→g.H[n]?=some o→o≠.dead→(W q.1∨W q.2)→He (Mut g.ρ g.H) g.ρ tk h' q o):SO c (g.at h' tk):=by
 have low:∀ b o,c.old b→g.s.heap.get? b=some o→h'.get? b=some o:=fun b o hb e=>p.keep b o (fun w=>p.old b w hb) e
 refine ⟨⟨fun b o e=>low b o (ok.low b o e) (S.stat.K b o e),?_,?_,?_,fun q hq'=>?_,fun b hb=>(S.stat.ex b hb).elim fun o e=>⟨o,low b o hb e⟩⟩,⟨S.heap.len,fun n q o e1 e2=>?_,S.heap.apart,fun n q e=>(S.heap.ex n q e).imp (p.exs e (.inl rfl)) (p.exs e (.inr rfl))⟩,Nat.lt_of_lt_of_le S.pos p.tk,S.high⟩
 ·refine x32 S.stat.b fun o es ep e r=>?_
  exact ⟨o,es,ep,low _ _ ok.two.1 e,r⟩
 ·obtain ⟨mc,⟨o,es,ep,e,r⟩,z⟩:=S.stat.lim
  exact ⟨mc,⟨o,es,ep,low _ _ ok.two.2 e,r⟩,z⟩
 ·obtain ⟨mc,⟨o,es,ep,e,r⟩,z⟩:=S.stat.book
  exact ⟨mc,⟨o,es,ep,low _ _ ok.two.2 e,r⟩,z⟩
 ·obtain ⟨ps,⟨⟨o,vs,e,r⟩,e2⟩,tr⟩:=S.stat.tab q hq'
  exact ⟨ps,⟨⟨o,vs,low _ _ (ok.tabLow1 q hq') e,r⟩,low _ _ (ok.tabLow q hq').1 e2⟩,tr⟩
 ·by_cases hd:o=.dead
  ·subst hd;trivial
  ·by_cases hw:W q.1∨W q.2
   ·exact hob n q o e1 e2 hd hw
   ·exact (S.heap.obj n q o e1 e2).move (fun zA zB r=>p.rel r) (fun zA zB r=>p.rels r) (fun o e=>p.keep _ _ (fun w=>hw (.inl w)) e) fun o e=>p.keep _ _ (fun w=>hw (.inr w)) e
theorem Stp.le(ok:Bj c){Y:Addr→Prop}(S0:SO c g0)(a:LeS c Y g0 g)(hI:∀ b,W b→g0.s.heap.get? b=none)(p:Stp c W g h' tk):LeS c Y g0 (g.at h' tk):=by
 have ne:∀ b o,g0.s.heap.get? b=some o→¬W b:=fun b o e z=>by rw [hI b z] at e;cases e
 refine ⟨a.pre,a.mu,fun b o e=>(a.ex b o e).elim fun o' e'=>⟨o',p.keep _ _ (ne b o e) e'⟩,fun b o e h1 h2 h3=>p.keep _ _ (ne b o e) (a.keep b o e h1 h2 h3),fun q hq e=>?_,a.os,a.gens,Nat.le_trans a.tk p.tk,a.fresh⟩
 obtain ⟨ps,⟨⟨o,vs,e1,r⟩,e2⟩,tr⟩:=a.tab q hq e
 refine x11 (S0.stat.ex _ (ok.tabLow1 q hq)) fun o1 w1=>?_
 refine x11 (S0.stat.ex _ (ok.tabLow q hq).1) fun o2 w2=>?_
 exact ⟨ps,⟨⟨o,vs,p.keep _ _ (ne _ _ w1) e1,r⟩,p.keep _ _ (ne _ _ w2) e2⟩,tr⟩
theorem Stp.fr(F:Ky c cx env ν (Mut g.ρ g.H) g.ρ g.s.toks g.s.heap)(hI:¬W env.locals)(hcell:∀ x a,(x,a)∈env.cells→¬W a)(p:Stp c W g h' tk):Ky c cx env ν (Mut g.ρ g.H) g.ρ tk h':=by
 have orel:∀ v x,OV (Mut g.ρ g.H) g.ρ g.s.toks g.s.heap v x→OV (Mut g.ρ g.H) g.ρ tk h' v x:=fun v x r=>by
  cases v<;>cases x<;>first|trivial|exact r.elim|exact p.rel r
 obtain ⟨m,⟨o,es,ep,e,r⟩,hv⟩:=F.ns
 refine ⟨F.len,F.kind,F.names,F.globals,F.builtins,⟨m,⟨o,es,ep,p.keep _ _ hI e,r⟩,fun x i e1 e2=>(hv x i e1 e2).elim fun ov h=>⟨ov,h.1,orel _ _ h.2⟩⟩,fun x i e1 e2=>?_,fun x b hb=>?_,F.apart,F.inj,F.high,F.cls⟩
 ·obtain ⟨b,ov,x',h1,h2,⟨o,ho,hd⟩,h4⟩:=F.cell x i e1 e2
  exact ⟨b,ov,x',h1,h2,⟨o,p.keep _ _ (hcell x b (mem_of_lookup h1)) ho,hd⟩,orel _ _ h4⟩
 ·refine x22 (F.cellEx x b hb) fun x' o ho hd=>?_
  exact ⟨x',o,p.keep _ _ (hcell x b hb) ho,hd⟩
end
structure Zp where
 z:Addr
 TI:Addr
 TO:Addr
 i1:Addr
 i2:Addr
 l1:Addr
 l2:Addr
noncomputable def Zp.V(p:Zp)(b:Addr):Prop:=b=p.z∨b=p.i1∨b=p.i2
noncomputable def Zp.W(p:Zp)(b:Addr):Prop:=b=p.TO∨p.V b
noncomputable def Zp.O(p:Zp)(b:Addr):Prop:=b=p.TI∨p.V b
noncomputable abbrev Zp.St(p:Zp)(xs ys:Array Value)(i:Nat)(h:Heap):Prop:=IsZip h p.z p.TI p.TO .none∧IsPair h p.TI (.ref p.i1) (.ref p.i2)∧(∃ a b,IsPair h p.TO a b)∧h.IsListIter p.i1 p.l1 i∧h.IsListIter p.i2 p.l2 i∧h.IsList p.l1 xs∧h.IsList p.l2 ys
structure ZF(X:Xc)(f:Fm)(g0:Sg)(p:Zp)(l r:List V)(xs ys:List Value)(n:Nat):Prop where
 st0:SO X.c g0
 D:ZipApart p.z p.TI p.TO p.i1 p.i2 p.l1 p.l2
 new:∀ b,p.W b∨p.O b→g0.s.heap.get? b=none
 l1:∃ k,g0.s.heap.get? p.l1=some (Dy xs.toArray k)∧¬Mut g0.ρ g0.H p.l1
 l2:∃ k,g0.s.heap.get? p.l2=some (Dy ys.toArray k)∧¬Mut g0.ρ g0.H p.l2
 rl:VRs g0 l xs
 rr:VRs g0 r ys
 quiet:A6 (Fy f.env) g0.s.heap
 loc:∃ o,g0.s.heap.get? f.env.locals=some o
 cell:∀ x a,(x,a)∈f.env.cells→∃ o,g0.s.heap.get? a=some o
structure ZI(X:Xc)(f:Fm)(ν:Nu)(g0:Sg)(p:Zp)(xs ys:List Value)(n k:Nat)(g:Sg):Prop where
 sit:Si X f ν g
 le:LeS X.c (Fy f.env) g0 g
 st:p.St xs.toArray ys.toArray k g.s.heap
 two:g.ρ[n]?=some (p.TO,p.TO)∧g.H[n]?=some .two
 off:∀ b,p.O b→Off g.ρ b
section
variable {X:Xc} {f:Fm} {ν ν':Nu} {g0 g g':Sg} {p:Zp} {l r:List V} {xs ys:List Value} {n k:Nat}
theorem ZI.hq(L:ZI X f ν g0 p xs ys n k g){m:Nat}{q:Addr×Addr}(e1:g.ρ[m]?=some q){b:Addr}(hb:b=q.1∨b=q.2)(w:p.W b):b=p.TO:=w.elim id fun v=>hb.elim (fun h=>absurd h.symm (L.off b (.inr v) m q e1).1) fun h=>absurd h.symm (L.off b (.inr v) m q e1).2
theorem ZI.stp(F:ZF X f g0 p l r xs ys n)(L:ZI X f ν g0 p xs ys n k g){h':Heap}{tk:Nat}(hk:∀ b o,¬p.W b→g.s.heap.get? b=some o→h'.get? b=some o)(hTO:∃ a b,IsPair h' p.TO a b)(ht:g.s.toks≤tk):Stp X.c p.W g h' tk:=by
 refine ⟨fun b hb o=>?_,fun b o hb e hm=>?_,hk,fun m q e b hb w=>?_,ht⟩
 ·refine x11 (F.st0.stat.ex b o) fun ob e=>?_
  rw [F.new b (.inl hb)] at e;cases e
 ·obtain ⟨hz,hTI,⟨a,a',hTO⟩,⟨o1,g1,g2,g3⟩,⟨o2,k1,k2,k3⟩,-,-⟩:=L.st
  rcases hb with rfl|rfl|rfl|rfl
  ·exact absurd ⟨n,(p.TO,p.TO),.two,L.two.1,L.two.2,(fun h=>nomatch h),.inl rfl⟩ hm
  ·rw [show g.s.heap.get? p.z=_ from hz] at e;cases e;rfl
  ·rw [g1] at e;cases e;unfold Cb;rw [g3]
  ·rw [k1] at e;cases e;unfold Cb;rw [k3]
 ·rw [L.hq e hb w]
  exact hTO.elim fun a q=>q.elim fun b q=>⟨_,q⟩
theorem ZI.go(ok:Bj X.c)(F:ZF X f g0 p l r xs ys n)(L:ZI X f ν g0 p xs ys n k g){h':Heap}{tk:Nat}(hk:∀ b o,¬p.W b→g.s.heap.get? b=some o→h'.get? b=some o)(hTO:∃ a b,IsPair h' p.TO a b)(ht:g.s.toks≤tk) :
  Si X f ν (g.at h' tk)∧LeS X.c (Fy f.env) g0 (g.at h' tk):=by
 have P:=L.stp F hk hTO ht
 refine ⟨⟨L.sit.room,Stp.ok (g:=g) ok L.sit.st P fun m q o e1 e2 hd hw=>?_,Stp.fr (g:=g) L.sit.fr (fun w=>?_) (fun x a ha w=>?_) P,L.sit.ap⟩,P.le ok F.st0 L.le fun b w=>F.new b (.inl w)⟩
 ·have hm:m=n:=Classical.byContradiction fun hne=>by
   have ap:=L.sit.st.heap.apart m n q (p.TO,p.TO) e1 L.two.1 hne
   exact hw.elim (fun w=>ap.1 (L.hq e1 (.inl rfl) w)) fun w=>ap.2.2.1 (L.hq e1 (.inr rfl) w)
  subst hm
  rw [L.two.1] at e1;cases e1
  rw [L.two.2] at e2;cases e2
  exact hTO.elim fun a q=>q.elim fun b q=>⟨rfl,a,b,q⟩
 ·exact F.loc.elim fun o e=>by rw [F.new _ (.inl w)] at e;cases e
 ·exact (F.cell x a ha).elim fun o e=>by rw [F.new _ (.inl w)] at e;cases e
theorem ZI.keep(ok:Bj X.c)(F:ZF X f g0 p l r xs ys n)(L:ZI X f ν g0 p xs ys n k g)(a:LeS X.c (Fy f.env) g g'){b:Addr}(hb:p.O b){o:Obj}(e:g.s.heap.get? b=some o):g'.s.heap.get? b=some o:=by
 have hn:g0.s.heap.get? b=none:=F.new b (.inr hb)
 refine a.keep b o e (L.off b hb).noMut (fun y=>?_) fun q hq z=>?_
 ·rcases y with rfl|⟨x,_,hx⟩
  ·exact F.loc.elim fun o e=>by rw [hn] at e;cases e
  ·exact (F.cell x b hx).elim fun o e=>by rw [hn] at e;cases e
 ·refine x11 (F.st0.stat.ex _ (ok.tabLow q hq).1) fun o e=>?_
  rw [←z,hn] at e;cases e
theorem ZI.body(ok:Bj X.c)(F:ZF X f g0 p l r xs ys n)(L:ZI X f ν g0 p xs ys n k g)(S:Si X f ν' g')(a:LeS X.c (Fy f.env) g g')(h2:g'.H[n]?=some .two):ZI X f ν' g0 p xs ys n k g':=by
 have hoff:∀ b,p.O b→Off g'.ρ b:=fun b hb=>(L.off b hb).le a (by
  obtain ⟨hz,hTI,_,⟨o1,g1,_⟩,⟨o2,k1,_⟩,-,-⟩:=L.st
  rcases hb with rfl|rfl|rfl|rfl
  ·exact ⟨_,hTI⟩
  ·exact ⟨_,hz⟩
  ·exact ⟨_,g1⟩
  ·exact ⟨_,k1⟩)
 obtain ⟨hz,hTI,⟨x,y,hTO⟩,⟨o1,g1,g2,g3⟩,⟨o2,k1,k2,k3⟩,hl1,hl2⟩:=L.st
 have hρ:=a.pre _ _ L.two.1
 obtain ⟨_,x',y',hTO'⟩:=S.st.heap.obj _ _ _ hρ h2
 refine x12 F.l1 fun q1 w1 m1=>?_
 refine x12 F.l2 fun q2 w2 m2=>?_
 have le2:=L.le.trans a
 exact ⟨S,le2,⟨L.keep ok F a (.inr (.inl rfl)) hz,L.keep ok F a (.inl rfl) hTI,⟨x',y',hTO'⟩,⟨o1,L.keep ok F a (.inr (.inr (.inl rfl))) g1,g2,g3⟩,⟨o2,L.keep ok F a (.inr (.inr (.inr rfl))) k1,k2,k3⟩,⟨_,le2.stays F.st0.stat.tab F.quiet _ _ w1 m1 rfl,rfl,_,rfl⟩,⟨_,le2.stays F.st0.stat.tab F.quiet _ _ w2 m2 rfl,rfl,_,rfl⟩⟩,⟨hρ,h2⟩,hoff⟩
end
section
variable {X:Xc} {f:Fm} {ν ν':Nu} {g0 g g':Sg} {p:Zp} {l r:List V} {xs ys:List Value} {n:Nat} {κ:KS} {R:Result→Shared→Prop}
theorem Zp.mem{b:Addr}(h:b∈[p.z,p.TO,p.i1,p.i2]):p.W b:=
 Aj h (fun e=>.inr (.inl e)) fun h=>Aj h .inl fun h=>Aj h (fun e=>.inr (.inr (.inl e))) fun h=>.inr (.inr (.inr (List.mem_singleton.mp h)))
theorem wg{n:Nat}{H:Hp}(h:Xy n H=true):H[n]?=some .two:=by
 unfold Xy at h
 cases hn:H[n]? with
 | none=>rw [hn] at h;exact Bool.noConfusion h
 | some o=>rw [hn] at h;cases o<;>first|rfl|exact Bool.noConfusion h
noncomputable abbrev zpB(X:Xc)(b:MSs)(n i j:Nat)(l r:List V)(ν:Nu)(H:Hp)(K:KS):Prop:=Xz (fun ν H K=>exs X.tb X.Φ b ν H K) n i j l r ν H K
theorem mi{x y:Str}{px py:Pos}{i j:Nat}{cx:Cx}(hx:Ap cx x i=true)(hy:Ap cx y j=true):ug [i,j] cx [.Name x px,.Name y py]:=fun P k=>k x px _ hx fun P k=>k y py _ hy fun P k=>k
noncomputable def Ae5(g:Sg)(p:Zp)(xs ys:List Value)(k:Nat)(r:Option Value)(s':Shared):Prop:=∀ C:Prop,(∀ T zx zy h' tk,r=some (.ref T)→s'={g.s with heap:=h',toks:=tk}→xs.toArray[k]?=some zx→ys.toArray[k]?=some zy→h'.IsTuple T #[zx,zy]→
 (IsZip h' p.z p.TI p.TO (rawInt T)∧IsPair h' p.TI (.ref p.i1) (.ref p.i2)∧(∃ a b,IsPair h' p.TO a b)∧h'.IsListIter p.i1 p.l1 (k+1)∧h'.IsListIter p.i2 p.l2 (k+1)∧h'.IsList p.l1 xs.toArray∧h'.IsList p.l2 ys.toArray∧T≠p.z∧T≠p.TO∧T≠p.i1∧T≠p.i2)→
 (∀ b o,b∉[p.z,p.TO,p.i1,p.i2]→g.s.heap.get? b=some o→h'.get? b=some o)→C)→C
noncomputable def zpK(X:Xc)(b:MSs)(n i j:Nat)(l r:List V)(κ:KS)(fl:Fl)(ν':Nu)(H':Hp):Prop:=gd (Xy n H') (match fl with
 | .next=>zpB X b n i j l r ν' H' κ
 | .cont=>zpB X b n i j l r ν' H' κ
 | .brk=>κ .next ν' H'
 | .ret x=>κ (.ret x) ν' H')
theorem mj(F:Fx X){i j:Nat}{b:MSs}(hb:XL X b){x y:Str}{px py pt:Pos}{kk:Nat}{body:List Stmt}(hx:Ap f.cx x i=true)(hy:Ap f.cx y j=true)(hcb:Fi X.nm b f.cx body)(Z:ZF X f g0 p l r xs ys n)
  (hQ:∀ fl y ν' g',κ fl ν' g'.H→g'.H[n]?=some .two→Si X f ν' g'→LeS X.c (Fy f.env) g0 g'→FlR g' fl y→R (.ok y) g'.s) :
  ∀ (m k:Nat) (ν:Nu) (g:Sg),min l.length r.length=k+m→ZI X f ν g0 p xs ys n k g→zpB X b n i j (l.drop k) (r.drop k) ν g.H κ→Bc X.c.M f.A (.forLoop (.Tuple [.Name x px,.Name y py] kk pt) (.ref p.z) body [] f.env) R g.s:=by
 have hxl:=Z.rl.length
 have hyl:=Z.rr.length
 intro m
 induction m with
 | zero=>
  intro k ν g hk L he
  have hor:l.length≤k∨r.length≤k:=by lia
  have he:κ .next ν g.H:=by
   cases hl:l.drop k with
   | nil=>rw [hl] at he;exact he
   | cons v l'=>cases hr:r.drop k with
    | nil=>rw [hl,hr] at he;exact he
    | cons w r'=>exact hor.elim (fun h=>by rw [List.drop_eq_nil_of_le h] at hl;cases hl) fun h=>by rw [List.drop_eq_nil_of_le h] at hr;cases hr
  refine codeN_of_tree rfl ?_
  rw [Cz rfl rfl rfl rfl rfl]
  show wpN X.c.M f.A ((forTurn (.Tuple [.Name x px,.Name y py] kk pt) (.ref p.z) body [] f.env).onRaise _) _ _ g.s
  refine B5 ?_
  unfold forTurn
  have hend:xs.toArray[k]?=none∨ys.toArray[k]?=none:=hor.imp (fun h=>Array.getElem?_eq_none (by rw [List.size_toArray,←hxl];exact h)) fun h=>Array.getElem?_eq_none (by rw [List.size_toArray,←hyl];exact h)
  obtain ⟨hz,hTI,⟨ta,tb',hTO⟩,g1,g2,hl1,hl2⟩:=L.st
  refine Ab (wpAny_standAt (Aa (Cy (Af (mh L.sit.room.handled Z.D hz hTI hTO g1 g2 hl1 hl2 hend fun h' hk' hp'=>?_)))))
  refine x02 (L.go F.ok Z (h':=h') (tk:=g.s.toks) (fun b o hb e=>hk' b o (fun q=>hb (.inr (.inl q))) (fun q=>hb (.inl q)) (fun q=>hb (.inr (.inr (.inl q)))) (fun q=>hb (.inr (.inr (.inr q)))) e) hp' (Nat.le_refl _)) fun S' le'=>?_
  refine Ac ⟨rfl,codeN_of_tree rfl ?_⟩
  rw [Cz rfl rfl rfl rfl rfl]
  show wpN X.c.M f.A ((execs [] f.env).onRaise _>>=fun y=>pure (Fin.done y)) _ _ _
  exact Aa (B5 (Ac (Ac (hQ .next .next ν (g.at h' g.s.toks) he L.two.2 S' le' rfl))))
 | succ m ih=>
  intro k ν g hk L he
  have hkl:k<l.length:=by lia
  have hkr:k<r.length:=by lia
  rw [List.drop_eq_getElem_cons hkl,List.drop_eq_getElem_cons hkr] at he
  refine codeN_of_tree rfl ?_
  rw [Cz rfl rfl rfl rfl rfl]
  show wpN X.c.M f.A ((forTurn (.Tuple [.Name x px,.Name y py] kk pt) (.ref p.z) body [] f.env).onRaise _) _ _ g.s
  refine B5 ?_
  unfold forTurn
  have WT:=WalksT.zip2 (prog:=X.c.prog) (w:=X.c.w) (A:=f.A) L.sit.room.handled p.z p.TI p.TO p.i1 p.i2 p.l1 p.l2 Z.D xs.toArray ys.toArray
  refine Ab (wpAny_standAt (Aa (Cy (Af (Cg (P:=Ae5 g p xs ys k) (WT.item k g.s _ _ (by simp only [List.size_toArray];lia) L.st fun T vals h' tk a1 a2 a3 a4 a5=>a1.elim fun zx a1=>a1.elim fun zy a1=>fun C f=>f T zx zy h' tk rfl rfl a1.1 a1.2.1 (a1.2.2▸a3) a4 a5) fun r' s' hh ht=>hh _ fun T zx zy h1 tk e1 e2 hzx hzy hT hMid hk1=>?_)))))
  subst e1 e2
  refine Ab (WT.go [.Name x px,.Name y py] kk pt k T _ _ _ hMid fun h2 hst2 hk2=>?_)
  refine x02 (L.go F.ok Z (h':=h2) (tk:=tk) (fun b o hb e=>hk2 b o (fun q=>hb (Zp.mem q)) (hk1 b o (fun q=>hb (Zp.mem q)) e)) hst2.2.2.1 ht) fun S2 le2=>?_
  have hT2:h2.IsTuple T #[zx,zy]:=hT.elim fun o q=>⟨o,hk2 T o (WT.apart k T h1 hMid) q.1,q.2⟩
  show Wn X f.A ((standAt pt>>=fun zA=>unpack (.ref T) (assignEach [.Name x px,.Name y py] f.env))>>=_) _ _
  have hcs:=mi (px:=px) (py:=py) hx hy
  refine x02 (I3 (env:=f.env) hcs) fun q1 q2=>?_
  refine Aa (Ab (wpAny_standAt (Af ?_)))
  unfold unpack
  rw [q2,q1]
  refine wpAny_bind (wpAny_holding ?_)
  rw [show ([i,j]:List Nat).length=(#[zx,zy]:Array Value).size from rfl]
  refine unpackItems_tuple (s:={g.s with heap:=h2,toks:=tk}) S2.room.handled hT2 fun h3 he3=>?_
  have g3:Au {g.s with heap:=h2,toks:=tk} {g.s with heap:=h3,toks:=tk}:=⟨fun b o e=>he3 b o (Nat.ne_of_lt (Heap.lt_size e)) e,rfl,rfl,Nat.le_refl _⟩
  have L3:ZI X f ν g0 p xs ys n (k+1) (g.at h3 tk):=⟨S2.grow F.ok g3,le2.trans g3.le,WT.frame _ _ _ hst2 fun b zA o e=>g3.keep b o e,L.two,L.off⟩
  obtain ⟨u,hu1,hu2⟩:=Z.rl.get' (by rw [←List.getElem?_toArray];exact hzx)
  obtain ⟨v,hv1,hv2⟩:=Z.rr.get' (by rw [←List.getElem?_toArray];exact hzy)
  rw [Option.some.inj ((List.getElem?_eq_getElem hkl).symm.trans hu1),Option.some.inj ((List.getElem?_eq_getElem hkr).symm.trans hv1)] at he
  refine Lx F [i,j] [.Name x px,.Name y py] [u,v] [zx,zy] ν (g.at h3 tk) hcs L3.sit rfl (.cons (L3.le.rel Z.st0.stat.tab Z.quiet hu2) (.cons (L3.le.rel Z.st0.stat.tab Z.quiet hv2) .nil)) fun s4 S4 le4=>?_
  refine Aa (hb f _ (g.to s4) body (zpK X b n i j (l.drop (k+1)) (r.drop (k+1)) κ) hcb S4 he _ fun fl fy ν' g5 k5 S5 t5 r5=>?_)
  have h2t:=wg k5.1
  have k5:=k5.2
  have L5:=L3.body F.ok Z S5 (le4.trans t5) h2t
  have go:zpB X b n i j (l.drop (k+1)) (r.drop (k+1)) ν' g5.H κ→Bc X.c.M f.A (.forLoop (.Tuple [.Name x px,.Name y py] kk pt) (.ref p.z) body [] f.env) R g5.s:=ih (k+1) ν' g5 (by lia) L5
  cases fl with
  | next=>cases r5;exact Ac ⟨rfl,go k5⟩
  | cont=>cases r5;exact Ac ⟨rfl,go k5⟩
  | brk=>cases r5;exact Ac (hQ .next .next ν' g5 k5 h2t S5 L5.le rfl)
  | ret v=>exact r5.elim fun z q=>by rw [q.1];exact Ac (hQ (.ret v) (.ret z) ν' g5 k5 h2t S5 L5.le ⟨z,rfl,q.2⟩)
end
section
variable {X:Xc} {f:Fm} {ν ν':Nu} {g0 g g':Sg}
noncomputable abbrev Af9(n:Nat)(l1 l2:Addr):Zp:=⟨n+4,n+2,n+3,n,n+1,l1,l2⟩
theorem ml{n:Nat}{l1 l2:Nat}(h1:l1<n)(h2:l2<n):ZipApart (n+4) (n+2) (n+3) n (n+1) l1 l2:=by
 have ad:∀ (a b:Nat),a≠b→n+a≠n+b:=fun a b h e=>h (Nat.add_left_cancel e)
 have k:∀ {l:Nat},l<n→∀ m:Nat,l≠n+m:=fun h m=>Nat.ne_of_lt (Nat.lt_of_lt_of_le h (Nat.le_add_right _ m))
 exact ⟨ad 2 4 (by decide),ad 3 4 (by decide),ad 0 4 (by decide),ad 1 4 (by decide),ad 2 3 (by decide),ad 2 0 (by decide),ad 2 1 (by decide),ad 3 0 (by decide),ad 3 1 (by decide),ad 0 1 (by decide),k h1 4,k h1 3,k h1 0,k h1 1,k h2 4,k h2 3,k h2 0,k h2 1⟩
noncomputable def Aga(vs:List V)(k:V→V→Prop):Prop:=match vs with|[v,w]=>k v w|_=>False
@[elab_as_elim] theorem Ae6{vs:List V}{k:V→V→Prop}{C:List V→Prop}(h:Aga vs k)(f:∀ v w,k v w→C [v,w]):C vs:=by
 cases vs with
 | nil=>exact h.elim
 | cons v r=>cases r with
  | nil=>exact h.elim
  | cons w r=>cases r with
   | nil=>exact f v w h
   | cons=>exact h.elim
theorem wh(F:Fx X)(i j:Nat)(x y:ME){b:MSs}(hb:XL X b):XS X (.zips i j x y b):=fun f ν g st K hst S he Q hQ=>hst (fun st=>Wn X f.A (exec st f.env) Q g.s) fun n1 q1 n2 q2 kk q3 q4 l r q5 body p h1 h2 h3 h4 h5=>by
 rw [arm_exec_For]
 refine Ab (wpAny_standAt (Aa ?_))
 show Wn X f.A (eval (.Name "zip" q4) f.env>>=fun fv=>callWith q5 fv [] (backTo q5 (starEach [l,r] f.env)) []) _ g.s
 refine Ab (Qu F h1 (.inr ⟨F.rng.2.1,by rw [F.ok.boot _ (by decide)];exact (by decide +kernel:bootBuiltins "zip" = some (.type "zip"))⟩) S ?_)
 refine X9 (Un F (.cons x (.cons y .nil))) h4 S (K:=fun vs H2=>Aga vs fun v w=>Zv v fun l=>Zv w fun r=>gd (decide (l.length≤1000)) (gd (decide (r.length≤1000)) (zpB X b H2.length i j l r ν (H2++[Ob.two]) fun fl ν' H'=>K fl ν' (H'.set H2.length .dead)))) he (fun g' t Q' q=>C8 (f:=.type "zip") (fun a e=>nomatch e) q) fun vs zs g1 k1 t1 r1=>?_
 refine Ae6 (C:=fun vs=>VRs g1 vs zs→_) k1 (fun v w k1 r1=>Ae.cons_E r1 fun z1 zs ra rb=>Ae.one_E rb fun z2 rb=>Lc (C:=fun v=>VR g1 v z1→_) k1 (fun vl k1 ra=>Lc (C:=fun w=>VR g1 w z2→_) k1 (fun vr k1 rb=>ra.lst_E fun l1 xs m1 a1 a2 a3=>rb.lst_E fun l2 ys m2 b1 b2 b3=>?_) rb) ra) r1
 have k1:=k1.2.2
 refine Af (call_zip_2 (xs:=xs.toArray) (ys:=ys.toArray) ⟨_,a2,rfl,_,rfl⟩ ⟨_,b2,rfl,_,rfl⟩ fun h' q1 q2 q3 q4 q5 q6 hk=>?_)
 have hsz:∀ k,g1.s.heap.get? (g1.s.heap.objs.size+k)=none:=fun k=>Heap.get?_none_of_le (Nat.le_add_right _ _)
 have S1:=t1.sit F.ok S
 have gr:Au g1.s {g1.s with heap:=h'}:=⟨hk,rfl,rfl,Nat.le_refl _⟩
 have n:=Go.new F t1.st (ob:=.two) gr (hsz 3) ⟨_,q3⟩ fun zA=>⟨rfl,_,_,q3⟩
 refine Aa (Ac (Ab (wpAny_standAt (Aa (Ad (Af (wpAny_pyIter_zip q1 ?_)))))))
 have hD:=ml (Heap.lt_size a2) (Heap.lt_size b2)
 have Z:ZF X f g1 (Af9 g1.s.heap.objs.size l1 l2) vl vr xs ys g1.H.length:=by
  refine ⟨t1.st,hD,fun b hb=>?_,⟨m1,a2,a1⟩,⟨m2,b2,b1⟩,a3,b3,S1.fr.quiet,?_,fun x a ha=>?_⟩
  ·rcases hb with (rfl|rfl|rfl|rfl)|(rfl|rfl|rfl|rfl)
   ·exact hsz 3
   ·exact hsz 4
   ·exact hsz 0
   ·exact hsz 1
   ·exact hsz 2
   ·exact hsz 4
   ·exact hsz 0
   ·exact hsz 1
  ·obtain ⟨m,⟨o,es,ep,ho,_⟩,_⟩:=S1.fr.ns
   exact ⟨o,ho⟩
  ·refine x22 (S1.fr.cellEx x a ha) fun x' o ho zA=>?_
   exact ⟨o,ho⟩
 let g2:Sg:=⟨g1.ρ++[(g1.s.heap.objs.size+3,g1.s.heap.objs.size+3)],g1.H++[.two],{g1.s with heap:=h'}⟩
 have L0:ZI X f ν g1 (Af9 g1.s.heap.objs.size l1 l2) xs ys g1.H.length 0 g2:=by
  refine ⟨n.1.sit F.ok S1,n.1.leS,⟨q1,q2,⟨_,_,q3⟩,q4,q5,⟨_,hk _ _ a2,rfl,_,rfl⟩,⟨_,hk _ _ b2,rfl,_,rfl⟩⟩,⟨?_,List.getElem?_concat_length ..⟩,fun b hb=>?_⟩
  ·rw [←t1.st.heap.len];exact List.getElem?_concat_length ..
  ·rcases hb with rfl|rfl|rfl|rfl
   ·exact I0 t1.st (hsz 2) hD.TITO.symm
   ·exact I0 t1.st (hsz 4) hD.TOz
   ·exact I0 t1.st (hsz 0) hD.TOi1
   ·exact I0 t1.st (hsz 1) hD.TOi2
 refine Gg (mj F hb h2 h3 h5 Z (κ:=fun fl ν' H'=>K fl ν' (H'.set g1.H.length .dead)) (fun fl y ν' g3 k3 h2t S3 t3 r3=>?_) _ 0 ν g2 (Nat.zero_add _).symm L0 k1) S.room.handled
 refine x02 (Cv.drop S3.st h2t (fun h=>nomatch h)) fun st le=>?_
 refine hQ fl y ν' ⟨g3.ρ,g3.H.set g1.H.length .dead,g3.s⟩ k3 (S3.le F.ok st le) ((t1.leS.trans t3).trans (le.weaken fun zA zB zC y=>y.elim)) ?_
 cases fl with
 | ret v=>exact r3.imp fun z q=>⟨q.1,le.rel S3.st.stat.tab A6.none q.2⟩
 | _=>exact r3
end
section
variable {X:Xc}
theorem rf{ν:Nu}{i:Nat}{v:V}{k:V→Prop}(h:ν[i]?=some (some v))(hk:k v):Iq ν i k:=by
 unfold Iq
 rw [h];exact hk
theorem mo(x c r:Str):Xw x c r=Txt.replace x c r:=by delta Xw;rfl
theorem Acc(F:Fx X)(i:Nat)(a r:Str):XS X (.esc i a r):=fun f ν g x K hx S he Q hQ=>hx (fun x=>Wn X f.A (exec x f.env) Q g.s) fun x k1 p1 p2 p3 p4 p5 q q' k2 p6 k3 p7 p8 p9 h7 h8 h9=>
 Wl (k:=fun v=>T3 v fun x=>gd (decide (x.length≤100000)) (gd (decide (r.length≤14)) (gd (!(a==r)) (match tin x a with|true=>K .next (ν.set i (some (.str (Xw x a r)))) g.H|false=>K .next ν g.H)))) he fun v e0 he=>by
  refine Jt (C:=fun v=>ν[i]?=some (some v)→_) he (fun xs he e0=>?_) e0
  have hv:Az X.nm (.var i) f.cx (.Name x p5):=fun P k=>k _ _ h9
  have hT:Az X.nm (.cmp .In (.str a) (.var i)) f.cx (.Compare (.Constant (.str a) k1 p1) [.In] [.Name x p2] p3):=fun P k=>k _ _ _ (fun P k=>k _ _) (fun P k=>k _ _ h9) rfl
  rw [arm_exec_If]
  refine Ab (wpAny_standAt (Aa ((B1 F (.cmp .In (.str a) (.var i))).2 f ν g _ (fun v H=>v=.bool (tin xs a)∧H=g.H) (fun t H=>t=tin xs a∧H=g.H) (fun v H e=>by obtain ⟨rfl,rfl⟩:=e;exact ⟨rfl,rfl⟩) hT S (rf e0 ⟨rfl,rfl⟩) _ fun t g1 k1 t1=>?_)))
  refine x02 k1 fun ht hH=>?_
  have S1:=t1.sit F.ok S
  have hQ1:=hQ.then t1.leS
  have k:=he.2.2.2
  rw [←ht,←hH] at k
  cases t with
  | false=>exact Ac (hQ1 .next .next ν g1 k S1 Le.refl rfl)
  | true=>
   show Wn X f.A (execs [.Assign [.Name x p4] (.Call (.Attribute (.Name x p5) "replace" q) [.Constant (.str a) k2 p6,.Constant (.str r) k3 p7] [] q') p8] f.env) Q g1.s
   rw [arm_execs_cons,PySem.exec_Assign_Name (hs:=rfl)]
   refine Aa (Ab (wpAny_standAt (Aa ?_)))
   rw [arm_eval_Call]
   refine Aa (Hm (a:=.Name x p5) rfl (qt F i f ν g1 _ (fun v H=>v=.str xs∧H=g1.H) hv S1 (rf e0 ⟨rfl,rfl⟩) _ fun va za g2 k2' t2 r2=>?_))
   refine x02 k2' fun zz0 hH2=>?_;subst zz0
   refine r2.str_E fun tx=>Ab (wpAny_standAt ?_)
   have hpos:methodCallPos true (.Name x p5) f.env q q'=pure q':=by unfold methodCallPos;rw [h7];rfl
   unfold methodCall
   show Wn X f.A (holding [.str xs tx] (calleeOf true (.Name x p5) f.env (.str xs tx) "replace")>>=fun p=>methodCallPos true (.Name x p5) f.env q q'>>=fun cp=>callWith cp p.1 p.2 _ _) _ g2.s
   refine Aa (Ad (Af (GM.replace ?_)))
   rw [hpos]
   refine Aa (Ac ?_)
   refine Hk (Lk rfl (Af (Calls.spliced_cons (x:=eval (.Constant (.str a) k2 p6) f.env) (wpAny_Constant_str (Calls.spliced_cons (x:=eval (.Constant (.str r) k3 p7) f.env) (wpAny_Constant_str (Calls.spliced_nil ?_)))))))
   refine ⟨fun Q' q=>C8 (f:=.builtin "str.replace") (fun a e=>nomatch e) q,?_⟩
   have g23:Au g2.s {g2.s with toks:=g2.s.toks+1+1}:=(Au.succ _).trans (Au.succ _)
   refine Af (Cg (P:=fun z s'=>Gro {g2.s with toks:=g2.s.toks+1+1} s'∧∃ t,z=.str (Txt.replace xs a r) t) (SC.replaceW (Nat.ne_of_gt t2.st.pos) (Nat.succ_ne_zero _) (Nat.ne_of_lt (Nat.lt_succ_self _)) (Dw he.2.2.1) (Nat.le_trans (od9 he.1) (by decide)) (od9 he.2.1) fun t' k=>⟨Gro.tok _ _,t',rfl⟩) fun z s4 hz htk=>?_)
   obtain ⟨gr,t',rfl⟩:=hz
   have t4:Go X.c g1 (g2.to s4):=t2.then F.ok (g23.trans (gr.up htk))
   refine Ab (wpAny_standAt (Ab (Oe (g:=g2.to s4) F h8 (t4.sit F.ok S1) (.str (Txt.replace xs a r) t') fun s5 S5 le5=>Ac (Ac ?_))))
   rw [mo] at k
   exact hQ1 .next .next _ (g2.to s5) (by rw [show (g2.to s5).H=g1.H from hH2];exact k) S5 (t4.leS.trans le5) rfl
theorem Acd(F:Fx X)(e:MS):XS X e:=
 @MS.rec (fun e=>XS X e) (fun es=>XL X es) (fun i e=>cn F i e) (fun is e=>cy F is e) (fun o i e=>we F o i e) (fun o lo e=>wf F o lo e) (fun o k e=>mf F o k e) (fun i op e=>wd F i op e) (fun o i op e=>cu F o i op e) (fun e=>v7 F e)
  (fun t b o h1 h2=>v8 F h1 h2) (fun t b h1=>v9 F h1) (fun i it b o h1 h2=>wa F i it h1 h2) (fun i j x y b h1=>wh F i j x y h1) Ab8 v6 (fun e=>Aca F e) (fun b h=>Acb h) (fun i a r=>Acc F i a r) Ab9 q7 (fun s ss h1 h2=>ck h1 h2) e
theorem c5(F:Fx X):∀ es:MSs,XL X es
 | .nil=>q7
 | .cons s ss=>ck (Acd F s) (c5 F ss)
end
noncomputable def Of{α:Type}(M:Model)(A:Around)(c:Code)(t:Sem α)(Q:α→Shared→Prop)(E:Value→Shared→Prop)(s:Shared):Prop:=
 ∀ Γ p,Γ.code=c→Γ.In A→kg Γ→wp M Γ t (fun a zA s'=>Q a s') (fun e zA s'=>E e s') p s
section
variable {α β:Type} {M:Model} {A:Around} {c:Code} {E:Value→Shared→Prop} {s:Shared}
theorem E3{t:Sem α}{Q:α→Shared→Prop}(h:wpN M A t Q E s):Of M A c t Q E s:=fun Γ p zA hΓ hc=>h Γ p hΓ hc
theorem A9{m:Sem α}{f:α→Sem β}{Q:β→Shared→Prop}(h:Of M A c m (fun a s'=>Of M A c (f a) Q E s') E s):Of M A c (m>>=f) Q E s:=fun Γ p hc hΓ hcl=>by
 rw [Sem.wp_bind']
 exact Sem.wp_mono M Γ m (fun a p' s' h'=>h' Γ p' hc hΓ hcl) (fun zA zB zC h'=>h') p s (h Γ p hc hΓ hcl)
theorem C9{a:α}{Q:α→Shared→Prop}(h:Q a s):Of M A c (pure a) Q E s:=fun zA zB zC zD zE=>h
theorem c6{t:Sem α}{Q Q':α→Shared→Prop}{E':Value→Shared→Prop}(h:Of M A c t Q E s)(hQ:∀ a s,Q a s→Q' a s)(hE:∀ e s,E e s→E' e s):Of M A c t Q' E' s:=
 fun Γ p hc hΓ hcl=>Sem.wp_mono M Γ t (fun a zA s=>hQ a s) (fun e zA s=>hE e s) p s (h Γ p hc hΓ hcl)
theorem wi{t:Sem α}{Q:α→Shared→Prop}(h:_root_.PySem.wpAt M A c t Q E s):Of M A c t Q E s:=fun Γ p hc hΓ zA=>h Γ p hc hΓ
theorem Re{m:Sem α}{k:Value→Sem Unit}{Q:α→Shared→Prop}(h:Of M A c m Q FF s):Of M A c (m.onRaise k) Q E s:=fun Γ p hc hΓ hcl=>by
 rw [Sem.wp_onRaise]
 exact Sem.wp_mono M Γ m (fun zA zB zC h'=>h') (fun e p' s' h'=>h'.elim) p s (h Γ p hc hΓ hcl)
end
section
variable {prog:Program} {w:World} {A:Around} {s:Shared} {R:Result→Shared→Prop}
theorem Np{M:Model}{c:Code}(hcl:Cu c=true)
  (h:Of M (A.under c) c (M.den c) (fun fin s'=>match fin with|.done f=>R (.ok f) s'|.again c'=>c'.quiet=true∧Bc M A c' R s') (fun e s'=>R (.error e) s') s):Bc M A c R s:=fun Γ p hc hΓ hB=>by
 rw [wpCode_iff_wp,hc]
 refine Sem.wp_mono M Γ _ (fun fin p' s' h'=>?_) (fun zA zB zC h'=>h') p s (h Γ p hc (hc▸hΓ.in) ⟨by rw [hc];exact hcl,hB⟩)
 cases fin with
 | done f=>exact h'
 | again c'=>exact ⟨h'.1,h'.2 (Γ.goto c') p' rfl (hΓ.goto c') hB⟩
theorem Ly{body:List Stmt}{env:Env}(h:Of (model prog w) (A.deeper env) (.func body env) (execs body env) (fun f s'=>R (.ok (.ret (match f with|.ret v=>v|_=>.none))) s') FF s):Bc (model prog w) A (.func body env) R s:=by
 refine Np rfl ?_
 show Of _ (A.deeper env) _ (point>>=fun zA=>(execs body env).onRaise _>>=_) _ _ _
 refine A9 (E3 (Af (wpAny_point (A9 (Re (c6 h (fun f s' hf=>?_) fun zA zB e=>e))))))
 cases f<;>exact C9 hf
end
section
variable {prog:Program} {w:World} {A:Around} {s:Shared} {R:Result→Shared→Prop}
theorem Hr{a:Addr}{args:Args}{o:Obj}{fd:FuncData}{body:List Stmt}(hroom:A.depth<recursionLimit)(ho:s.heap.get? a=some o)
  (hd':o.data=.func fd) (hco:fd.scope.isCoroutine=false) (hgen:fd.scope.isGenerator=false) (hbody:fd.body=.stmts body) (hcd:s.heap.CodeRec fd.code fd.qualname)
  (h:wpAny (model prog w) A.in1 (bindArgs fd args) (fun binds s₁=>
   wpAny (model prog w) A.in1 (newFunctionEnv fd.scope fd.globals fd.closure binds (fd.qualname ++ ".<locals>.") (some a) fd.code none fd.builtins)
    (fun env s₂=>s₂.heap.NoLimit∧Bc (model prog w) A (.func body env) R s₂) (fun e s'=>R (.error e) s') s₁) (fun e s'=>R (.error e) s') s) :
  Bc (model prog w) A (.call (.ref a) args) R s:=by
 refine x44 hcd fun c oc vs tq hc hoc hdc hq=>?_
 obtain ⟨oc',od,odt,osl⟩:=o
 cases hd'
 refine codeN_of_tree rfl (Af ?_)
 show wpAny (model prog w) A.in1 (callAny (.ref a) args) _ _ s
 refine nd_load ho ?_
 show wpAny (model prog w) A.in1 (callFunction a fd args) _ _ s
 delta callFunction
 rw [hco,hgen,hbody,hc]
 rw [hc] at h
 refine wpAny_bind (m:=field (.ref c) 1) (wpAny_field hoc hdc hq (wpAny_bind (wpAny_pure ?_)))
 exact wpAny_bind (wpAny_mono h (fun binds s₁ h₁=>wpAny_bind (wpAny_mono h₁ (fun env s₂ h₂=>wpAny_bind (wpAny_enterFrame h₂.1 hroom
  (wpAny_pure (And.intro rfl h₂.2)))) fun zA zB h'=>h')) fun zA zB h'=>h')
end
theorem Lz:∀ (names:List (Str×NameKind)) (h:Heap) (acc:List (Str×Addr)) (x:Str) (a:Addr),(x,a)∈cellsFrom h.objs.size names acc→
  (x,a)∈acc∨((pushCells h names).IsCell a none∧h.objs.size≤a∧(x,NameKind.cell)∈names)
 | [],_,_,_,_,hm=>.inl hm
 | (name,kind)::r,h,acc,x,a,hm=>by
  have hm:(x,a)∈if kind==.cell then cellsFrom (h.objs.size+1) r ((name,h.objs.size)::acc) else cellsFrom h.objs.size r acc:=hm
  show (x,a)∈acc∨((if kind==.cell then pushCells (h.push {cls:=.type "cell",data:=.cell none}) r else pushCells h r).IsCell a none∧h.objs.size≤a∧(x,NameKind.cell)∈(name,kind)::r)
  by_cases hk:(kind==.cell)=true
  ·rw [if_pos hk] at hm ⊢
   have e:h.objs.size+1=(h.push {cls:=.type "cell",data:=.cell none}).objs.size:=(Heap.size_push ..).symm
   rw [e] at hm
   exact (Lz r _ _ x a hm).elim (fun q=>Aj q (fun q=>by
     cases q
     exact .inr ⟨⟨_,pushCells_keeps r _ _ _ (Heap.get?_push_size _ rfl),rfl⟩,Nat.le_refl _,beq_iff_eq.mp hk▸ms9⟩) .inl) fun q=>.inr ⟨q.1,Nat.le_trans (Nat.le_succ _) (Nat.le_trans (Nat.le_of_eq e) q.2.1),mm9 _ q.2.2⟩
  ·rw [if_neg hk] at hm ⊢
   exact (Lz r h acc x a hm).imp id fun q=>⟨q.1,q.2.1,mm9 _ q.2.2⟩
theorem G5:∀ (names:List (Str×NameKind)) (n:Nat) (acc:List (Str×Addr)),(acc.Pairwise fun x y=>x.2≠y.2)→(∀ p∈acc,p.2<n)→((cellsFrom n names acc).Pairwise fun x y=>x.2≠y.2)
 | [],_,_,h,_=>h
 | (name,kind)::r,n,acc,h,hlt=>by
  show List.Pairwise _ (if kind==.cell then cellsFrom (n+1) r ((name,n)::acc) else cellsFrom n r acc)
  by_cases hk:(kind==.cell)=true
  ·rw [if_pos hk]
   exact G5 r (n+1) _ (List.pairwise_cons.mpr ⟨fun y hy e=>Nat.lt_irrefl _ (Nat.lt_of_le_of_lt (Nat.le_of_eq e) (hlt y hy)),h⟩) fun p hp=>Aj hp (fun e=>e▸Nat.lt_succ_self _) fun hp=>Nat.lt_succ_of_lt (hlt p hp)
  ·rw [if_neg hk]
   exact G5 r n acc h hlt
theorem I4:∀ (names:List (Str×NameKind)) (n:Nat) (acc:List (Str×Addr)) (x:Str),((x,NameKind.cell)∈names∨∃ a,acc.lookup x=some a)→∃ a,(cellsFrom n names acc).lookup x=some a
 | [],_,_,_,h=>h.elim (fun h=>nomatch h) id
 | (name,kind)::r,n,acc,x,h=>by
  show ∃ a,(if kind==.cell then cellsFrom (n+1) r ((name,n)::acc) else cellsFrom n r acc).lookup x=some a
  by_cases hk:(kind==.cell)=true
  ·rw [if_pos hk]
   refine I4 r (n+1) _ x (h.elim (fun h=>Aj h (fun e=>.inr ?_) .inl) fun h=>.inr ?_)
   ·cases e
    exact ⟨n,by rw [List.lookup_cons,beq_self_eq_true]⟩
   ·rw [List.lookup_cons]
    cases x==name
    ·exact h
    ·exact ⟨_,rfl⟩
  ·rw [if_neg hk]
   exact I4 r n acc x (h.imp (fun h=>Aj h (fun e=>by cases e;exact absurd rfl hk) id) id)
theorem G6:∀ (names:List (Str×NameKind)) (n:Nat) (acc:List (Str×Addr)) (x:Str),(x,NameKind.cell)∉names→(cellsFrom n names acc).lookup x=acc.lookup x
 | [],_,_,_,_=>rfl
 | (name,kind)::r,n,acc,x,h=>by
  show (if kind==.cell then cellsFrom (n+1) r ((name,n)::acc) else cellsFrom n r acc).lookup x=acc.lookup x
  have h2:(x,NameKind.cell)∉r:=fun m=>h (mm9 _ m)
  by_cases hk:(kind==.cell)=true
  ·rw [if_pos hk,G6 r (n+1) _ x h2,List.lookup_cons,beq_eq_false_iff_ne.mpr fun e=>h (by rw [e,beq_iff_eq.mp hk];exact ms9)]
  ·rw [if_neg hk]
   exact G6 r n acc x h2
noncomputable def L4:Nu→Nat→List V→Nu
 | ν,_,[]=>ν
 | ν,i,v::vs=>L4 (ν.set i (some v)) (i+1) vs
theorem Og:∀ (vs:List V) (pre:Nu) (k:Nat),vs.length≤k→L4 (pre++List.replicate k none) pre.length vs=pre++(vs.map some++List.replicate (k-vs.length) none)
 | [],pre,k,_=>rfl
 | v::vs,pre,0,h=>absurd h (Nat.not_succ_le_zero _)
 | v::vs,pre,k+1,h=>by
  show L4 ((pre++List.replicate (k+1) none).set pre.length (some v)) (pre.length+1) vs=_
  have e:(pre++List.replicate (k+1) none).set pre.length (some v)=(pre++[some v])++List.replicate k none:=by
   rw [List.set_append_right _ _ (Nat.le_refl _),Nat.sub_self,List.replicate_succ,List.set_cons_zero,List.append_assoc];rfl
  rw [e]
  have:=Og vs (pre++[some v]) k (Nat.le_of_succ_le_succ h)
  rw [List.length_append,List.length_singleton] at this
  rw [this,List.append_assoc,List.length_cons,Nat.add_sub_add_right]
  rfl
section
variable {X:Xc} {f:Fm} {ν:Nu} {g:Sg}
theorem Rf(ok:Bj X.c){M:Model}{E:Value→Shared→Prop}(φ:Str×Value→PUnit→Sem (ForInStep PUnit))(hφ:∀ n v u,φ (n,v) u=(do storeName f.env n v;pure (.yield ⟨⟩))) :
  ∀ (ns:List Str) (xs:List Value) (vs:List V) (i:Nat) (ν:Nu) (g:Sg) {Q:PUnit→Shared→Prop},ns.length=xs.length→Si X f ν g→VRs g vs xs→
   (∀ (j:Nat) (n:Str),ns[j]?=some n→f.cx.slots.lookup n=some (i+j)∧(f.cx.names.lookup n=some .local∨f.cx.names.lookup n=some .cell)∧n≠("__class__" : Str))→
   (∀ s',Si X f (L4 ν i vs) (g.to s')→LeS X.c (Fy f.env) g (g.to s')→Q ⟨⟩ s')→wpAny M f.A (forIn (ns.zip xs) PUnit.unit φ) Q E g.s
 | [],xs,vs,i,ν,g,Q,hl,S,r,_,h=>by
  cases xs with
  | nil=>
   cases vs with
   | nil=>
    rw [List.zip_nil_left,List.forIn_nil]
    exact wpAny_pure (h g.s S Le.refl)
   | cons v vs=>exact nomatch r.length
  | cons x xs=>exact nomatch hl
 | n::ns,xs,vs,i,ν,g,Q,hl,S,r,hs,h=>by
  cases xs with
  | nil=>exact nomatch hl
  | cons x xs=>
   cases vs with
   | nil=>exact nomatch r.length
   | cons v vs=>
    refine r.inv (fun xs'=>xs'=x::xs→_) (fun y ys ra rb e=>?_) rfl
    cases e
    rw [List.zip_cons_cons,List.forIn_cons,hφ]
    refine x03 (hs 0 n rfl) fun h1 h2 h3=>?_
    refine wpAny_bind (wpAny_bind (Wb ok S h1 h2 h3 ra fun s' S' le'=>wpAny_pure ?_))
    refine Rf ok φ hφ ns xs vs (i+1) _ (g.to s') (Nat.succ.inj hl) S' (le'.rels S.st.stat.tab S.fr.quiet rb) (fun j m hj=>?_) fun s'' S'' le''=>h s'' S'' (le'.trans le'')
    have:=hs (j+1) m hj
    rwa [Nat.add_assoc,Nat.add_comm 1 j]
end
structure I5(c:Cfg)(f:Addr)(fn:Fn)(slots:List (Str×Nat))(fd:FuncData)(names:List Str)(stmts:List Stmt):Prop where
 at_:∃ oc od osl,c.K.lookup f=some ⟨oc,od,.func fd,osl⟩
 body:fd.body=.stmts stmts
 gen:fd.scope.isGenerator=false
 co:fd.scope.isCoroutine=false
 kind:fd.scope.kind=.function
 globals:fd.globals=mainGlobals
 builtins:fd.builtins=builtinsNs
 code:codeIn c.K fd.code fd.qualname=true
 pars:names.length=fn.pars
 par:∀ (j:Nat) (n:Str),names[j]?=some n→slots.lookup n=some j∧(fd.scope.names.lookup n=some .local∨fd.scope.names.lookup n=some .cell)∧n≠("__class__" : Str)
 closure:∀ x a,(x,a)∈fd.closure→x=("__class__" : Str)∧∃ oc,c.K.lookup a=some oc∧∃ v,oc.data=.cell v
 closure1:fd.closure.length≤1
 noClass:(("__class__" : Str),NameKind.cell)∉fd.scope.names
 slot:∀ x i,slots.lookup x=some i→i<fn.slots∧(fd.scope.names.lookup x=some .local∨fd.scope.names.lookup x=some .cell)
 inj:∀ x y i,slots.lookup x=some i→slots.lookup y=some i→x=y
 fit:fn.pars≤fn.slots
 binds:∀ xs:List Value,xs.length≤fn.pars→fn.pars≤xs.length+fn.dflt.length→∃ ds,(∀ X ρ T h,Ae X ρ T h (fn.dflt.drop (xs.length+fn.dflt.length-fn.pars)) ds)∧∀ S,peek c.K S (bindArgs fd ⟨xs,[]⟩)=some (names.zip (xs++ds))
section
variable {X:Xc} {A:Around} {g:Sg} {f:Addr} {fn:Fn} {slots:List (Str×Nat)} {fd:FuncData} {names:List Str} {stmts:List Stmt}
theorem c7(D:I5 X.c f fn slots fd names stmts)(ok:Bj X.c)(S:SO X.c g){h1:Heap}(hsz:h1.objs.size=g.s.heap.objs.size+1){x:Str}{a:Addr}(hm:(x,a)∈cellsFrom h1.objs.size fd.scope.names fd.closure){P:Prop}
  (k1:(x,a)∈fd.closure→x=("__class__" : Str)→X.c.old a→(∀ q∈X.c.T,a≠q.2)→(∃ v,g.s.heap.IsCell a v)→P) (k2:(pushCells h1 fd.scope.names).IsCell a none→g.s.heap.get? a=none→x≠("__class__" : Str)→P):P:=
 (Lz _ _ _ _ _ hm).elim (fun q=>by
  obtain ⟨e,oc,h1,v,h2⟩:=D.closure x a q
  exact k1 q e (ok.low a oc h1) (fun q hq z=>by rw [z,ok.offT q hq] at h1;cases h1) ⟨v,oc,S.stat.K _ _ h1,h2⟩) fun q=>k2 q.1 (Heap.get?_none_of_le (Nat.le_trans (Nat.le_succ _) (Nat.le_trans (Nat.le_of_eq hsz.symm) q.2.1))) fun e=>D.noClass (e▸q.2.2)
theorem Wu(ok:Bj X.c)(D:I5 X.c f fn slots fd names stmts)(R:Eb A (X.d+1))(S:SO X.c g){vs:List V}{xs:List Value}(hl:xs.length=fn.pars)(r:VRs g vs xs){M:Model}{E:Value→Shared→Prop}{Q:Env→Shared→Prop}
  (hQ:∀ env s',Si X ⟨⟨fd.scope.names,slots,fn.slots⟩,A,env⟩ (vs.map some++List.replicate (fn.slots-fn.pars) none) (g.to s')→Go X.c g (g.to s')→(∀ b,Fy env b→g.s.heap.get? b=none)→env.scope=fd.scope→env.func=some f→env.code=fd.code→env.cells.lookup ("__class__" : Str)=fd.closure.lookup ("__class__" : Str)→Q env s') :
  wpAny M A (newFunctionEnv fd.scope fd.globals fd.closure (names.zip xs) (fd.qualname ++ ".<locals>.") (some f) fd.code none fd.builtins) Q E g.s:=by
 delta newFunctionEnv
 first|rw [if_pos rfl]|rw [if_neg Bool.false_ne_true]|simp only [Option.isSome_none,Bool.false_eq_true,if_false]
 refine wpAny_bind (wpAny_alloc ?_)
 refine wpAny_bind (wpAny_layCells _ (fun name kind cells=>by cases hkc:kind==NameKind.cell<;>rfl) _ _ _ _ ?_)
 have hsz:(g.s.heap.push {cls:=.type "frame",data:=.dict #[]}).objs.size=g.s.heap.objs.size+1:=Heap.size_push ..
 have nc:=fun x a hm {P} k1 k2=>c7 D ok S hsz (x:=x) (a:=a) hm (P:=P) k1 k2
 generalize hcs:cellsFrom (g.s.heap.push {cls:=.type "frame",data:=.dict #[]}).objs.size fd.scope.names fd.closure=cs at nc ⊢
 generalize hh:pushCells (g.s.heap.push {cls:=.type "frame",data:=.dict #[]}) fd.scope.names=h2 at nc ⊢
 have keep1:∀ b o,g.s.heap.get? b=some o→h2.get? b=some o:=fun b o e=>by
  rw [←hh];exact pushCells_keeps _ _ _ _ (Heap.get?_push_of_some _ e)
 have gr:Au g.s {g.s with heap:=h2}:=⟨keep1,rfl,rfl,Nat.le_refl _⟩
 have t1:Go X.c g (g.to {g.s with heap:=h2}):=.grow ok S gr
 have hns:h2.Ns g.s.heap.objs.size fun zA=>none:=by
  rw [←hh];exact (Heap.Ns.new g.s.heap (.type "frame")).keeps (pushCells_keeps _ _)
 have notold:∀ b,g.s.heap.get? b=none→¬X.c.old b:=fun b e o=>(S.stat.ex b o).elim fun ob q=>by rw [e] at q;cases q
 have hnone0:g.s.heap.get? g.s.heap.objs.size=none:=Eg _
 let env:Env:={scope:=fd.scope,locals:=g.s.heap.objs.size,globals:=fd.globals,cells:=cs,qual:=fd.qualname ++ ".<locals>.",func:=some f,code:=fd.code,frame:=some g.s.heap.objs.size,builtins:=fd.builtins}
 have fyn:∀ b,Fy env b→g.s.heap.get? b=none:=fun b y=>y.elim (fun e=>e▸hnone0) fun ⟨x,hx,hm⟩=>nc x b hm (fun zA e zB zC zD=>absurd e hx) fun zA e zB=>e
 have hap:cs.Pairwise fun x y=>x.2≠y.2:=by
  rw [←hcs]
  refine G5 _ _ _ ?_ fun p hp=>?_
  ·have h1:=D.closure1
   cases hc:fd.closure with
   | nil=>exact List.Pairwise.nil
   | cons a l=>
    rw [hc] at h1
    cases l with
    | nil=>exact List.pairwise_singleton _ _
    | cons b l=>exact absurd (Nat.le_of_succ_le_succ h1) (Nat.not_succ_le_zero _)
  ·obtain ⟨_,oc,h1,_⟩:=D.closure p.1 p.2 hp
   rw [hsz];exact Nat.lt_succ_of_lt (Heap.lt_size (S.stat.K _ _ h1))
 have S0:Si X ⟨⟨fd.scope.names,slots,fn.slots⟩,A,env⟩ (List.replicate fn.slots none) (g.to {g.s with heap:=h2}):=by
  refine ⟨R,t1.st,⟨List.length_replicate ..,D.kind,rfl,D.globals,D.builtins,⟨_,hns,fun x i e1 e2=>⟨none,by rw [List.getElem?_replicate,if_pos (D.slot x i e1).1],trivial⟩⟩,fun x i e1 e2=>?_,fun x a hm=>nc x a hm (fun zA zB zC zD q=>q.imp fun v q=>q.keeps keep1) fun q zA zB=>⟨_,q⟩,hap,D.inj,⟨notold _ hnone0,fun x a hm hx=>notold a (fyn a (.inr ⟨x,hx,hm⟩))⟩,fun a hm=>nc _ a hm (fun zA zB q1 q2 zC=>⟨q1,q2⟩) fun zA zB e=>absurd rfl e⟩,fun b y m=>(S.mutEx m).elim fun o e=>by rw [fyn b y] at e;cases e⟩
  refine x02 (D.slot x i e1) fun q1 q2=>?_
  have hc:fd.scope.names.lookup x=some .cell:=by
   rcases q2 with q|q
   ·rcases e2 with e|e<;>rw [show (fd.scope.names.lookup x)=_ from e] at q<;>cases q
   ·exact q
  refine x11 (I4 fd.scope.names (g.s.heap.push {cls:=.type "frame",data:=.dict #[]}).objs.size fd.closure x (.inl (mem_of_lookup hc))) fun a ha=>?_
  rw [hcs] at ha
  exact ⟨a,none,none,ha,by rw [List.getElem?_replicate,if_pos q1],nc x a (mem_of_lookup ha) (fun zA e zB zC zD=>absurd (e▸mem_of_lookup hc) D.noClass) fun q zA zB=>q,trivial⟩
 have hv:vs.length=fn.pars:=r.length.trans hl
 have e:=Og vs [] fn.slots (by rw [hv];exact D.fit)
 rw [hv] at e
 refine wpAny_bind (Rf (f:=⟨⟨fd.scope.names,slots,fn.slots⟩,A,env⟩) ok _ (fun zA zB zC=>rfl) names xs vs 0 (List.replicate fn.slots none) (g.to {g.s with heap:=h2})
  (D.pars.trans hl.symm) S0 (gr.rels r) (fun j n hj=>by rw [Nat.zero_add];exact D.par j n hj) fun s' S' le'=>wpAny_pure ?_)
 have S':Si X ⟨⟨fd.scope.names,slots,fn.slots⟩,A,env⟩ (L4 ([]++List.replicate fn.slots none) ([]:Nu).length vs) (g.to s'):=S'
 rw [e] at S'
 refine hQ env s' S' ⟨S'.st,(t1.leS.trans le').weaken fun b o e y=>by rw [fyn b y] at e;cases e⟩ fyn rfl rfl rfl ?_
 show cs.lookup _=_
 rw [←hcs]
 exact G6 _ _ _ _ D.noClass
end
namespace SB
theorem slot_wd:Slot "wrapper_descriptor" "__get__" "wrapper_descriptor.__get__" :=.of (owner:= "wrapper_descriptor") (n:= "__get__") (by rw [typeLookup_type,builtinLookup_eq_fast];kernel_rfl) (by decide +kernel) (by decide +kernel) (by decide +kernel)
 (by first|exact .inl (by decide +kernel)|exact .inr (by decide +kernel)) (by rw [isSubtype_type];kernel_rfl)
theorem slot_md:Slot "method_descriptor" "__get__" "method_descriptor.__get__" :=.of (owner:= "method_descriptor") (n:= "__get__") (by rw [typeLookup_type,builtinLookup_eq_fast];kernel_rfl) (by decide +kernel) (by decide +kernel) (by decide +kernel)
 (by first|exact .inl (by decide +kernel)|exact .inr (by decide +kernel)) (by rw [isSubtype_type];kernel_rfl)
theorem entry_wd:entryFor table "wrapper_descriptor.__get__" = some Builtin.«wrapper_descriptor.__get__» :=entryFor_of_tree (by kernel_rfl)
theorem entry_md:entryFor table "method_descriptor.__get__" = some Builtin.«method_descriptor.__get__» :=entryFor_of_tree (by kernel_rfl)
theorem args_wd(a b c:Value):argsOk "wrapper_descriptor.__get__" ⟨[a,b,c],[]⟩:=by unfold argsOk;kernel_rfl
theorem args_md(a b c:Value):argsOk "method_descriptor.__get__" ⟨[a,b,c],[]⟩:=by unfold argsOk;kernel_rfl
theorem ty_init:typeOf (.builtin "list.__init__")=pure (.type "wrapper_descriptor"):=by kernel_rfl
theorem ty_len:typeOf (.builtin "list.__len__")=pure (.type "wrapper_descriptor"):=by kernel_rfl
theorem ty_pop:typeOf (.builtin "list.pop")=pure (.type "method_descriptor"):=by kernel_rfl
end SB
theorem mq : ".".intercalate ("list.__init__".cutAt '.').dropLast = "list" :=by decide +kernel
theorem wj : ".".intercalate ("list.__len__".cutAt '.').dropLast = "list" :=by decide +kernel
theorem wk : ".".intercalate ("list.pop".cutAt '.').dropLast = "list" :=by decide +kernel
theorem mr:Manifest.toldItsClass.contains "list.pop" = false:=by decide +kernel
noncomputable abbrev boundB(B i:String)(x:Addr):Obj:={cls:=.type B,data:=.fields #[.builtin i,.ref x]}
section
variable {prog:Program} {w:World} {A:Around} {E:Value→Shared→Prop} {h:Heap} {g:Array GenState} {d:Drawn} {t:Nat} {os:OsState} {x C:Addr} {K:Frag} {ox:Obj} {od:Option Obj}
theorem rg{i:String}{Q:PySem.Fin→Shared→Prop}(he : ".".intercalate (i.cutAt '.').dropLast = "list")(X:K.In h)(I:InstAt h x ox C od)(hm:mroIn K C (.type "list")=some true)
  (hq:Q (.done (.ret (.ref h.objs.size))) ⟨h.push (boundB "method-wrapper" i x),g,d,t,os⟩) :
  wpAny (model prog w) A (Builtin.«wrapper_descriptor.__get__» ⟨[.builtin i,.ref x,.ref C],[]⟩) Q E ⟨h,g,d,t,os⟩:=by
 unfold Builtin.«wrapper_descriptor.__get__»
 repeat lk
 rw [he]
 refine nd_load I.at_ (wpAny_pure ?_)
 rw [I.cls]
 refine wpAny_pure ((looks_mroIn X hm).at ?_)
 rw [if_neg (by decide)]
 refine wpAny_pure (wpAny_bind (wpAny_newObj_type (wpAny_pure hq) (by show (2:Nat)≤_;rw [sizeLine_eq];lia)))
theorem Ace{i:String}{Q:PySem.Fin→Shared→Prop}(he : ".".intercalate (i.cutAt '.').dropLast = "list")(ht:Manifest.toldItsClass.contains i=false)(X:K.In h)(I:InstAt h x ox C od)(hm:mroIn K C (.type "list")=some true)
  (hq:Q (.done (.ret (.ref h.objs.size))) ⟨h.push (boundB "builtin_function_or_method" i x),g,d,t,os⟩) :
  wpAny (model prog w) A (Builtin.«method_descriptor.__get__» ⟨[.builtin i,.ref x,.ref C],[]⟩) Q E ⟨h,g,d,t,os⟩:=by
 unfold Builtin.«method_descriptor.__get__»
 repeat (first|(rw [if_neg (by rw [ht];decide)])|lk)
 rw [he]
 refine nd_load I.at_ (wpAny_pure ?_)
 rw [I.cls]
 refine wpAny_pure ((looks_mroIn X hm).at ?_)
 rw [if_neg (by decide)]
 refine wpAny_pure (wpAny_bind (wpAny_newObj_type (wpAny_pure hq) (by show (2:Nat)≤_;rw [sizeLine_eq];lia)))
structure Yg(K:Frag)(T gid B i:String):Prop where
 ty:typeOf (.builtin i)=pure (.type T)
 slot:Slot T "__get__" gid
 entry:∃ b,entryFor table gid=some b∧(∀ a b c:Value,argsOk gid ⟨[a,b,c],[]⟩)∧∀ {prog:Program} {w:World} {A:Around} {E:Value→Shared→Prop} {h:Heap} {g:Array GenState} {d:Drawn} {t:Nat} {os:OsState} {x C:Addr} {ox:Obj} {od:Option Obj} {Q:PySem.Fin→Shared→Prop},
  K.In h→InstAt h x ox C od→mroIn K C (.type "list")=some true→Q (.done (.ret (.ref h.objs.size))) ⟨h.push (boundB B i x),g,d,t,os⟩→wpAny (model prog w) A (b ⟨[.builtin i,.ref x,.ref C],[]⟩) Q E ⟨h,g,d,t,os⟩
theorem Yh(K:Frag):Yg K "wrapper_descriptor" "wrapper_descriptor.__get__" "method-wrapper" "list.__init__" :=⟨SB.ty_init,SB.slot_wd,_,SB.entry_wd,SB.args_wd,fun X I m q=>rg mq X I m q⟩
theorem c8(K:Frag):Yg K "wrapper_descriptor" "wrapper_descriptor.__get__" "method-wrapper" "list.__len__" :=⟨SB.ty_len,SB.slot_wd,_,SB.entry_wd,SB.args_wd,fun X I m q=>rg wj X I m q⟩
theorem c9(K:Frag):Yg K "method_descriptor" "method_descriptor.__get__" "builtin_function_or_method" "list.pop" :=⟨SB.ty_pop,SB.slot_md,_,SB.entry_md,SB.args_md,fun X I m q=>Ace wk mr X I m q⟩
theorem ms{so D:Addr}{l₀ l:List Value}{name:Str}{tk:Tok}{T gid B i:String}{Q:PySem.Fin→Shared→Prop}(DB:Yg K T gid B i)
  (hso:h.get? so=some {cls:=.type "super",dict:=none,data:=.fields #[.ref D,.ref x,.ref C],slots:=#[]}) (hno:Looks (model prog w) h (opaqueClassAbove (.ref C)) none)
  (hC:Looks (model prog w) h (mroOf (.ref C)) l₀) (hl:(l₀.dropWhile (· != .ref D)).drop 1=l) (X:K.In h) (I:InstAt h x ox C od) (hm:mroIn K C (.type "list")=some true)
  (hf:alongIn K name l=some (some (.builtin i))) (hxC:x≠C) (hn:(name==("__class__" : Str))=false)
  (hq:Q (.done (.ret (.ref h.objs.size))) ⟨h.push (boundB B i x),g,d,t,os⟩) :
  wpAny (model prog w) A (Builtin.«super.__getattribute__» ⟨[.ref so,.str name tk],[]⟩) Q E ⟨h,g,d,t,os⟩:=by
 obtain ⟨hty,hslot,b,hent,hargs,hb⟩:=DB
 have hne:(Value.ref x==Value.ref C)=false:=by simp [hxC]
 have hdt:({cls:=.type "super",dict:=none,data:=.fields #[.ref D,.ref x,.ref C],slots:=#[]}:Obj).data=.fields #[.ref D,.ref x,.ref C]:=rfl
 have f0:(#[.ref D,.ref x,.ref C]:Array Value)[0]?=some (.ref D):=rfl
 have f1:(#[.ref D,.ref x,.ref C]:Array Value)[1]?=some (.ref x):=rfl
 have f2:(#[.ref D,.ref x,.ref C]:Array Value)[2]?=some (.ref C):=rfl
 have hT:(⟨h,g,d,t,os⟩:Shared).TypeIs (.builtin i) T:=hty
 have call:∀ {Q':Value→Shared→Prop},Q' (.ref h.objs.size) ⟨h.push (boundB B i x),g,d,t,os⟩→wpAny (model prog w) A (call (.builtin gid) [.builtin i,.ref x,.ref C]) Q' E ⟨h,g,d,t,os⟩:=fun hq'=>
  wpAny_call_entry hslot hT hent (hb X I hm ⟨_,rfl,hq'⟩) (hargs _ _ _)
 unfold Builtin.«super.__getattribute__»
 repeat (first
  | (with_reducible refine wpAny_field hso hdt f0 ?_)|(with_reducible refine wpAny_field hso hdt f1 ?_)|(with_reducible refine wpAny_field hso hdt f2 ?_)
  | (with_reducible refine ks_wpAny_notOpaque hno ?_)
  | (with_reducible refine Looks.at hC ?_;rw [hl])
  | (refine ks_forIn_along X (fun zA zB=>rfl) rfl ?_ hf)
  | (with_reducible refine wpAny_typeOf hT ?_)
  | (with_reducible refine wpAny_of_eq hslot.lookup ?_)
  | (with_reducible refine call ?_)
  | rw [hn]|rw [hne]|rw [Bool.or_false]|rw [if_neg Bool.false_ne_true]
  | wp_step
  | (simp only [hn,hne,Bool.or_false,Bool.false_eq_true,if_false])
  | dsimp only)
 all_goals exact hq
theorem Pk{so D:Addr}{l₀ l:List Value}{name:Str}{T gid B i:String}{pl:Sem Bool}{Q:Value×List Value→Shared→Prop}(DB:Yg K T gid B i)
  (hso:h.get? so=some {cls:=.type "super",dict:=none,data:=.fields #[.ref D,.ref x,.ref C],slots:=#[]}) (hno:Looks (model prog w) h (opaqueClassAbove (.ref C)) none)
  (hC:Looks (model prog w) h (mroOf (.ref C)) l₀) (hl:(l₀.dropWhile (· != .ref D)).drop 1=l) (X:K.In h) (I:InstAt h x ox C od) (hm:mroIn K C (.type "list")=some true)
  (hf:alongIn K name l=some (some (.builtin i))) (hxC:x≠C) (hn:(name==("__class__" : Str))=false)
  (hq:Q (.ref h.objs.size,[]) ⟨h.push (boundB B i x),g,d,t+1,os⟩) :
  wpAny (model prog w) A (getMethod (.ref so) name pl) Q E ⟨h,g,d,t,os⟩:=by
 have hlk:=PySem.F.ks_slot_super_ga.lookup
 have hcan:=PySem.F.ks_canon_super_ga
 have hT:∀ t',(⟨h,g,d,t',os⟩:Shared).TypeIs (.ref so) "super" :=fun zA=>⟨_,hso,rfl⟩
 unfold getMethod
 refine wpAny_bind (wpAny_specialOf (hT _) hlk ?_)
 show wpAny _ _ (if (Manifest.canonical "super.__getattribute__" != "object.__getattribute__")=true then _ else _) _ _ _
 rw [if_pos hcan]
 unfold getAttr getAttrBy
 refine wpAny_bind (wpAny_bind (wpAny_mkText (wpAny_holding (wpAny_bind (wpAny_typeOf (hT _) (wpAny_bind (wpAny_of_eq hlk ?_)))))))
 show wpAny _ _ (getAttrByItsOwn (.ref so) (.str name t) (.type "super") (.builtin "super.__getattribute__") true false) _ _ _
 unfold getAttrByItsOwn hookBefore callGetattribute boundAndCalled
 refine wpAny_bind (wpAny_of_eq (show (if onTheHeap (.type "super") then typeLookup (.type "super") "__getattr__" else pure none)=pure none from rfl) ?_)
 refine wpAny_bind (wpAny_attempt (wpAny_holding ?_))
 show wpAny _ _ (bindSpecial (.builtin "super.__getattribute__") (.ref so)>>=_) _ _ _
 refine wpAny_bind (wpAny_of_eq (PySem.F.ks_slot_super_ga.bind _) ?_)
 refine wpAny_mono (Q:=fun v s'=>v=.ref h.objs.size∧s'=⟨h.push (boundB B i x),g,d,t+1,os⟩) (E:=fun zA zB=>False)
  (wpAny_call_entry PySem.F.ks_slot_super_ga (hT _) PySem.F.ks_entry_super_ga (ms DB hso hno hC hl X I hm hf hxC hn ⟨_,rfl,rfl,rfl⟩) (PySem.F.ks_gaArgs_super _ _)) (fun v s' hv=>?_) fun zA zB z=>z.elim
 obtain ⟨rfl,rfl⟩:=hv
 exact wpAny_pure (wpAny_pure hq)
end
section
variable {prog:Program} {w:World} {A:Around} {E:Value→Shared→Prop} {s:Shared} {x C b:Addr} {K:Frag} {ox:Obj} {od:Option Obj} {R:Result→Shared→Prop}
theorem Yi{B i:String}(hb:s.heap.get? b=some (boundB B i x))(hB:B = "builtin_function_or_method" ∨B = "method-wrapper")(hpl:plainId i=true)
  (hc:∀ {Q':Unit→Shared→Prop},Q' () s→wpAny (model prog w) A.in1 (checkBoundCall i ⟨[.ref x],[]⟩) Q' (fun e s'=>R (.error e) s') s) (h:codeAny (model prog w) A (.builtin i ⟨[.ref x],[]⟩) R s) :
  codeAny (model prog w) A (.call (.ref b) ⟨[],[]⟩) R s:=by
 refine codeAny_of_tree ?_
 show wpAny _ A.in1 (callAny (.ref b) ⟨[],[]⟩) _ _ s
 unfold callAny
 refine wpAny_bind (wpAny_load hb ?_)
 have h1:(boundB B i x).cls=.type B:=rfl
 rcases hB with rfl|rfl
 ·exact wpAny_bind (hc (wpAny_pure ⟨plainId_quiet hpl _,h⟩))
 ·exact wpAny_bind (hc (wpAny_pure ⟨plainId_quiet hpl _,h⟩))
theorem L6{i:String}{Q:Unit→Shared→Prop}(hk:builtinKind i=some .slot)(ha:argsOk i ⟨[.ref x],[]⟩)(h:Q () s):wpAny (model prog w) A (checkBoundCall i ⟨[.ref x],[]⟩) Q E s:=by
 unfold checkBoundCall
 unfold argsOk at ha
 cases hs:Manifest.signature? i with
 | none=>exact wpAny_pure h
 | some sig=>
  rw [hs] at ha
  have h2:Bind.checkArgs i sig ⟨[.ref x],[]⟩=pure ():=ha
  simp only [hk]
  show wpAny _ _ (Bind.checkArgs i sig ⟨[.ref x],[]⟩) _ _ _
  rw [h2];exact wpAny_pure h
end
structure Up(c:Cfg)(tb:Tb)(D:Addr):Prop where
 isL:tb.isList D=true
 only:∀ C,tb.isList C=true→C=D
 typ:typeIn c.K (.ref D)=some (.type "type")
 self:mroIn c.K D (.ref D)=some true
 noMod:mroIn c.K D (.type "module")=some false
 opq:nsIn c.K cStatics "thirdparty.any" = some none
 s0:ks_superIn c.K D D "__init__" = some (some (.builtin "list.__init__"))
 s1:ks_superIn c.K D D "pop" = some (some (.builtin "list.pop"))
 s2:ks_superIn c.K D D "__len__" = some (some (.builtin "list.__len__"))
 top:(c.prog.main.scope.names.lookup ("super" : Str)).isSome=false
 mg:c.mg "super" = none
 pop:∀ (x:Addr) (cd:ClassData),clsIn c.K D=some cd→Bind.checkArgs "list.pop" {(⟨.positional,"list.pop","pop",.self,[⟨"index",.posOnly,false⟩]⟩:Manifest.Signature) with full:=s!"{cd.qualname.toString}.{Bind.lastOf "list.pop"}"} ⟨[.ref x],[]⟩=pure ()
namespace LP
theorem kind:builtinKind "list.pop" = some .method:=by decide +kernel
theorem sig:Manifest.signature? "list.pop" = some ⟨.positional,"list.pop","pop",.self,[⟨"index",.posOnly,false⟩]⟩:=by kernel_rfl
theorem va:Manifest.varargsMethods.contains "list.pop" = false:=by decide +kernel
theorem plain:plainId "list.pop" = true:=by decide +kernel
theorem entry:entryFor table "list.pop" = some Builtin.«list.pop» :=entryFor_of_tree (by kernel_rfl)
theorem kindI:builtinKind "list.__init__" = some .slot:=by decide +kernel
theorem plainI:plainId "list.__init__" = true:=by decide +kernel
theorem entryI:entryFor table "list.__init__" = some Builtin.«list.__init__» :=entryFor_of_tree (by kernel_rfl)
theorem argsI(a:Value):argsOk "list.__init__" ⟨[a],[]⟩:=by unfold argsOk;kernel_rfl
theorem kindL:builtinKind "list.__len__" = some .slot:=by decide +kernel
theorem plainL:plainId "list.__len__" = true:=by decide +kernel
theorem entryL:entryFor table "list.__len__" = some Builtin.«list.__len__» :=entryFor_of_tree (by kernel_rfl)
theorem argsL(a:Value):argsOk "list.__len__" ⟨[a],[]⟩:=by unfold argsOk;kernel_rfl
end LP
section
variable {prog:Program} {w:World} {A:Around} {E:Value→Shared→Prop} {s:Shared} {x C:Addr} {K:Frag} {ox:Obj} {od:Option Obj}
theorem Nq{cd:ClassData}{Q:Unit→Shared→Prop}(X:K.In s.heap)(I:InstAt s.heap x ox C od)(hcd:clsIn K C=some cd)(hty:typeIn K (.ref C)=some (.type "type"))(hm:mroIn K C (.type "module")=some false)
  (hp:Bind.checkArgs "list.pop" {(⟨.positional,"list.pop","pop",.self,[⟨"index",.posOnly,false⟩]⟩:Manifest.Signature) with full:=s!"{cd.qualname.toString}.{Bind.lastOf "list.pop"}"} ⟨[.ref x],[]⟩=pure ()) (h:Q () s) :
  wpAny (model prog w) A (checkBoundCall "list.pop" ⟨[.ref x],[]⟩) Q E s:=by
 unfold checkBoundCall
 simp only [LP.sig,LP.kind,LP.va]
 rw [if_neg (by decide)]
 refine wpAny_bind (m:=isInstance (.ref x) (.type "module")) (wpAny_bind (I.type.here ((looks_mroIn X hm).here ?_)))
 rw [if_neg (by decide)]
 have hnc:∀ c,ox.data≠.cls c:=fun c e=>by
  have:=I.no
  unfold notCls at this
  rw [e] at this
  cases this
 obtain ⟨hp',g,d,t,os⟩:=s
 refine wpAny_bind (ks_wpAny_isType_inst I.at_ hnc ?_)
 rw [if_neg (by decide)]
 refine wpAny_bind (I.type.here ?_)
 refine wpAny_bind ((looks_clsIn X hcd).here ?_)
 refine wpAny_bind ((looks_typeIn X hty).here ?_)
 rw [if_pos (by decide)]
 show wpAny _ _ (Bind.checkArgs _ _ _) _ _ _
 rw [hp]
 exact wpAny_pure h
theorem mt{xs:List Value}{n:Nat}{Q:PySem.Fin→Shared→Prop}(ho:s.heap.get? x=some ox)(hd:ox.data=.seq xs.toArray n)(h:Q (.done (.ret (.int xs.length s.toks))) {s with toks:=s.toks+1}) :
  wpAny (model prog w) A (Builtin.«list.__len__» ⟨[.ref x],[]⟩) Q E s:=by
 unfold Builtin.«list.__len__»
 refine wpAny_bind (m:=slotArgs _ _ _) (wpAny_pure ?_)
 show wpAny _ _ (seqSize x>>=_) _ _ _
 unfold seqSize
 refine wpAny_bind (wpAny_bind (wpAny_loadPart ho ?_))
 rw [hd]
 have:xs.toArray.size=xs.length:=List.size_toArray ..
 refine wpAny_pure ?_
 rw [this]
 exact wpAny_bind (wpAny_mkInt (wpAny_pure h))
theorem Oh{α:Type}(xs:List α)(h:0<xs.length):xs.toArray.eraseIdxIfInBounds (xs.length-1)=xs.dropLast.toArray:=by
 unfold Array.eraseIdxIfInBounds
 rw [dif_pos (by simp;lia)]
 rw [List.eraseIdx_toArray]
 congr 1
 exact List.eraseIdx_length_sub_one
theorem mv{xs:List Value}{z:Value}{n:Nat}{Q:PySem.Fin→Shared→Prop}(ho:s.heap.get? x=some ox)(hd:ox.data=.seq xs.toArray n)(hz:xs.getLast?=some z)(hl:xs.length≤1000)
  (h:∀ h' n',h'.get? x=some {ox with data:=.seq xs.dropLast.toArray n'}→Heap.SameBut x s.heap h'→Q (.done (.ret z)) {s with heap:=h'}) :
  wpAny (model prog w) A (Builtin.«list.pop» ⟨[.ref x],[]⟩) Q E s:=by
 have hne:xs≠[]:=by rintro rfl;cases hz
 have hpos:0<xs.length:=List.length_pos_iff.mpr hne
 unfold Builtin.«list.pop»
 refine wpAny_bind (m:=selfAndSome _ _ _ _ _) (wpAny_pure ?_)
 refine wpAny_bind (wpAny_pure ?_)
 dsimp only
 rw [if_neg (by decide)]
 refine wpAny_bind ?_
 unfold Builtin.List.listItems
 refine wpAny_bind (wpAny_seqItems ho hd (wpAny_pure ?_))
 rw [if_neg (by simp [hne])]
 have hidx:=seqIndex_neg (k:=(-1:Int)) (n:=xs.toArray.size) (by decide) (by simp;lia)
 have hk:((-1:Int)+(xs.toArray.size:Int)).toNat=xs.length-1:=Aan
 have hz':xs.toArray[xs.length-1]?=some z:=by
  rw [List.getLast?_eq_getElem?] at hz
  simpa using hz
 rw [hidx,hk]
 simp only [Option.bind_some,hz',Option.map_some]
 show wpAny _ _ (updateSeq x (·.eraseIdxIfInBounds (xs.length-1))>>=fun zA=>ret z) _ _ _
 refine wpAny_bind (wpAny_updateSeq ho hd (wpAny_pure ?_) (by simp [sizeLine_eq];lia) (by
  show (xs.toArray.eraseIdxIfInBounds (xs.length-1)).size≤_
  rw [Oh xs hpos]
  simp [sizeLine_eq];lia))
 refine x11 (E0 hd (·.eraseIdxIfInBounds (xs.length-1))) fun n' e=>?_
 refine h _ n' ?_ (Heap.SameBut.update ..)
 rw [Heap.get?_update_self _ ho (by rw [e];rfl),e]
 rw [Oh xs hpos]
theorem da{n:Nat}{Q:PySem.Fin→Shared→Prop}(ho:s.heap.get? x=some ox)(hd:ox.data=.seq #[] n)
  (h:∀ h' n',h'.get? x=some {ox with data:=.seq #[] n'}→Heap.SameBut x s.heap h'→Q (.done (.ret .none)) {s with heap:=h'}) :
  wpAny (model prog w) A (Builtin.«list.__init__» ⟨[.ref x],[]⟩) Q E s:=by
 unfold Builtin.«list.__init__»
 show wpAny _ _ (Builtin.List.listItems (.ref x)>>=_) _ _ _
 refine wpAny_bind ?_
 unfold Builtin.List.listItems
 refine wpAny_bind (wpAny_seqItems ho hd (wpAny_pure ?_))
 show wpAny _ _ (updateSeq x (fun zA=>#[])>>=_) _ _ _
 refine wpAny_bind (wpAny_updateSeq ho hd ?_)
 refine wpAny_bind (wpAny_letGo (wpAny_pure ?_))
 refine x11 (E0 hd (fun zA=>(#[]:Array Value))) fun n' e=>?_
 refine h _ n' ?_ (Heap.SameBut.update ..)
 rw [Heap.get?_update_self _ ho (by rw [e];rfl),e]
end
structure Jw(c:Cfg)(D:Addr)(fd:FuncData)(names:List Str):Prop where
 code:∃ cda oc vs tf file,fd.code=.ref cda∧c.K.lookup cda=some oc∧oc.data=.fields vs∧vs[2]?=some (.str file tf)∧((c.prog.main.file:Str)==file)=true
 ar:∃ ar,(fd.params.posonlyargs++fd.params.args).head?=some ar∧names[0]?=some ar.arg∧(ar.arg==("__classdict__" : Str))=false
 sup:fd.scope.names.lookup ("super" : Str)=some .globalImplicit
 cls:fd.scope.names.lookup ("__class__" : Str)=some .free
 clo:∃ cc oc,fd.closure.lookup ("__class__" : Str)=some cc∧c.K.lookup cc=some oc∧oc.data=.cell (some (.ref D))
noncomputable def Wv(m:Nat)(e:Expr):Prop:=∀ P:Expr→Prop,(∀ p0 p1 n q q',(Ae1[m]?==some n)=true→(q.endLine==q'.line)=true→P (.Call (.Attribute (.Call (.Name "super" p0) [] [] p1) n q) [] [] q'))→P e
structure Aes(X:Xc)(D:Addr)(m:Nat)(n:Str)(T gid B i:String):Prop where
 found:ks_superIn X.c.K D D n=some (some (.builtin i))
 bind:Yg X.c.K T gid B i
 hB:B = "builtin_function_or_method" ∨B = "method-wrapper"
 plain:plainId i=true
 nc:(n==("__class__" : Str))=false
 check:∀ {A:Around} {E:Value→Shared→Prop} {s:Shared} {x:Addr} {ox:Obj} {od:Option Obj} {cd:ClassData} {Q:Unit→Shared→Prop},X.c.K.In s.heap→InstAt s.heap x ox D od→clsIn X.c.K D=some cd→Q () s→wpAny X.c.M A (checkBoundCall i ⟨[.ref x],[]⟩) Q E s
 body:∀ {A:Around} {g:Sg} {x:Addr} {n0:Nat} {at_:List (Nat×V)} {l:List V} {K:KE} {Q:Value→Shared→Prop},SO X.c g→g.H[n0]?=some (.inst D at_ (some l))→l.length≤1000→VR g (.loc n0) (.ref x)→(match m with
   | 0=>gd l.isEmpty (K .none g.H)
   | 1=>opt l.getLast? fun x=>K x (g.H.set n0 (.inst D at_ (some l.dropLast)))
   | _=>K (.int l.length) g.H)→Hd X g K Q→codeAny X.c.M A (.builtin i ⟨[.ref x],[]⟩) (j4 Q) g.s
theorem L7{i:String}(hk:builtinKind i=some .slot)(ha:∀ a:Value,argsOk i ⟨[a],[]⟩){prog:Program}{w:World}{A:Around}{E:Value→Shared→Prop}{s:Shared}{x:Addr}{Q:Unit→Shared→Prop}(q:Q () s):wpAny (model prog w) A (checkBoundCall i ⟨[.ref x],[]⟩) Q E s:=
 L6 hk (ha _) q
theorem Ww{α:Type}:∀ (l:List α) (n:Nat) (x:α),l[n]?=some x→l.set n x=l
 | a::l,0,x,h=>by cases h;rfl
 | a::l,n+1,x,h=>by
  rw [List.set_cons_succ,Ww l n x (by rw [List.getElem?_cons_succ] at h;exact h)]
section
variable {X:Xc} {D:Addr}
theorem db(F:Fx X)(SO':Up X.c X.tb D):Aes X D 0 "__init__" "wrapper_descriptor" "wrapper_descriptor.__get__" "method-wrapper" "list.__init__" :=by
 refine ⟨SO'.s0,Yh _,.inr rfl,LP.plainI,by decide +kernel,fun zA zB zC q=>L7 LP.kindI LP.argsI q,fun {A g x n0 at_ l K Q} S hn hl r e hQ=>?_⟩
 have e:gd l.isEmpty (K .none g.H):=e
 refine x43 (S.ins hn r) fun p ox es k e1 hx I=>?_
 cases hx
 cases l with
 | cons v l=>exact Bool.noConfusion e.1
 | nil=>
  refine x22 I.shape fun xs n' hox hxs=>?_
  cases xs with
  | cons x xs=>exact nomatch hxs.length
  | nil=>
   have hd:ox.data=.seq ([]:List Value).toArray n':=by rw [hox]
   refine codeAny_builtin LP.entryI ?_
   rw [Around.under_plainId LP.plainI]
   refine da I.inst.at_ hd fun h' nn hh hb=>?_
   obtain ⟨st,le⟩:=Cv.put F.ok S (ob:=.inst D at_ (some [])) e1 hn (fun e=>nomatch e) (.inl rfl) (tk:=g.s.toks) hb ⟨_,hh⟩ (Nat.le_refl _) fun le=>
    ⟨I.ne,⟨es,k,(hb.2 _ I.ne).trans I.atd,I.attrs.map fun v x q=>le.rel S.stat.tab A6.none q⟩,[],nn,by rw [hh,hox],.nil⟩
   rw [Ww _ _ _ hn] at st le
   exact hQ .none .none (g.to {g.s with heap:=h'}) e.2 ⟨st,le⟩ .none
theorem mw(F:Fx X)(SO':Up X.c X.tb D):Aes X D 1 "pop" "method_descriptor" "method_descriptor.__get__" "builtin_function_or_method" "list.pop" :=by
 refine ⟨SO'.s1,c9 _,.inl rfl,LP.plain,by decide +kernel,fun hK I hcd q=>Nq hK I hcd SO'.typ SO'.noMod (SO'.pop _ _ hcd) q,fun {A g x n0 at_ l K Q} S hn hl r e hQ=>?_⟩
 refine B4 (k:=fun x=>K x (g.H.set n0 (.inst D at_ (some l.dropLast)))) e fun v hv e=>?_
 refine x43 (S.ins hn r) fun p ox es k e1 hx I=>?_
 cases hx
 refine x22 I.shape fun xs n' hox hxs=>?_
 have hd:ox.data=.seq xs.toArray n':=by rw [hox]
 have hlen:=hxs.length
 rw [List.getLast?_eq_getElem?] at hv
 refine x12 (hxs.get hv) fun z h1 h2=>?_
 refine codeAny_builtin LP.entry ?_
 rw [Around.under_plainId LP.plain]
 refine mv I.inst.at_ hd (by rw [List.getLast?_eq_getElem?,←hlen];exact h1) (hlen▸hl) fun h' nn hh hb=>?_
 obtain ⟨st,le⟩:=Cv.put F.ok S (ob:=.inst D at_ (some l.dropLast)) e1 hn (fun e=>nomatch e) (.inl rfl) (tk:=g.s.toks) hb ⟨_,hh⟩ (Nat.le_refl _) fun le=>
  ⟨I.ne,⟨es,k,(hb.2 _ I.ne).trans I.atd,I.attrs.map fun v x q=>le.rel S.stat.tab A6.none q⟩,xs.dropLast,nn,by rw [hh,hox],le.rels S.stat.tab A6.none (by rw [List.dropLast_eq_take,List.dropLast_eq_take,←hlen];exact hxs.take _)⟩
 exact hQ v z ⟨g.ρ,g.H.set n0 (.inst D at_ (some l.dropLast)),_⟩ e ⟨st,le⟩ (le.rel S.stat.tab A6.none h2)
theorem my(F:Fx X)(SO':Up X.c X.tb D):Aes X D 2 "__len__" "wrapper_descriptor" "wrapper_descriptor.__get__" "method-wrapper" "list.__len__" :=by
 refine ⟨SO'.s2,c8 _,.inr rfl,LP.plainL,by decide +kernel,fun zA zB zC q=>L7 LP.kindL LP.argsL q,fun {A g x n0 at_ l K Q} S hn hl r e hQ=>?_⟩
 have e:K (.int l.length) g.H:=e
 refine x43 (S.ins hn r) fun p ox es k e1 hx I=>?_
 cases hx
 refine x22 I.shape fun xs n' hox hxs=>?_
 have hd:ox.data=.seq xs.toArray n':=by rw [hox]
 refine codeAny_builtin LP.entryL ?_
 rw [Around.under_plainId LP.plainL]
 exact mt I.inst.at_ hd (hQ _ _ (g.to _) (hxs.length▸e) (.grow F.ok S (Au.succ _)) (.int _ _))
end
section
variable {X:Xc} {D:Addr}
theorem wm(F:Fx X)(SO':Up X.c X.tb D){m:Nat}{n:Str}(h:(Ae1[m]?==some n)=true):∃ T gid B i,Aes X D m n T gid B i:=by
 have h:=eq_of_beq h
 match m,h with
 | 0,h=>cases h;exact ⟨_,_,_,_,db F SO'⟩
 | 1,h=>cases h;exact ⟨_,_,_,_,mw F SO'⟩
 | 2,h=>cases h;exact ⟨_,_,_,_,my F SO'⟩
theorem dc{M:Model}{A:Around}{E:Value→Shared→Prop}{s:Shared}{b x:Addr}{B i:String}(hb:s.heap.get? b=some (boundB B i x))(hB:B = "builtin_function_or_method" ∨B = "method-wrapper"){Q:Keeper→Shared→Prop}(hq:∀ k,Q k s):wpAny M A (keeperOf (.ref b)) Q E s:=by
 unfold keeperOf
 refine wpAny_bind (wpAny_load hb ?_)
 rcases hB with rfl|rfl<;>exact wpAny_pure (hq _)
noncomputable def Agb(m:Nat)(H:Hp)(n0:Nat)(C:Addr)(at_:List (Nat×V))(l:List V)(K:KE):Prop:=match m with
 | 0=>gd l.isEmpty (K .none H)
 | 1=>opt l.getLast? fun x=>K x (H.set n0 (.inst C at_ (some l.dropLast)))
 | _=>K (.int l.length) H
theorem Acf{tb:Tb}{m:Nat}{v:V}{H:Hp}{K:KE}(h:Aez tb m v H K)(only:∀ C,tb.isList C=true→C=D){P:V→Prop}(f:∀ n0 at_ l,H[n0]?=some (.inst D at_ (some l))→l.length≤1000→Agb m H n0 D at_ l K→P (.loc n0)):P v:=by
 cases v<;>try exact False.elim h
 case loc n0=>
  have h:(match H[n0]? with
   | some (.inst C at_ (some l))=>gd (tb.isList C) (gd (decide (l.length≤1000)) (Agb m H n0 C at_ l K))
   | _=>False):=h
  cases hn:H[n0]? with
  | none=>rw [hn] at h;exact h.elim
  | some o=>
   rw [hn] at h
   cases o<;>try exact h.elim
   case inst C at_ it=>
   cases it with
   | none=>exact h.elim
   | some l=>
    have hC:=only C h.1
    subst hC
    exact f n0 at_ l hn (od9 h.2.1) h.2.2
theorem Acg{c:Cfg}{cd:ClassData}{s:Shared}(X:c.K.In s.heap)(h:clsIn c.K D=some cd):∃ oD,s.heap.get? D=some oD∧oD.data=.cls cd:=by
 unfold clsIn at h
 cases ho:c.K.lookup D with
 | none=>rw [ho] at h;cases h
 | some o=>
  rw [ho] at h
  obtain ⟨a,b,dt,e⟩:=o
  cases dt
  case cls cd'=>cases h;exact ⟨_,X _ _ ho,rfl⟩
  all_goals exact absurd (show (none:Option ClassData)=some cd from h) fun q=>nomatch q
theorem ri(F:Fx X)(SO':Up X.c X.tb D){f:Addr}{fn:Fn}{slots:List (Str×Nat)}{fd:FuncData}{names:List Str}{stmts:List Stmt}(DO:I5 X.c f fn slots fd names stmts)(TO:Jw X.c D fd names){A:Around}{env:Env}{ν:Nu}{g:Sg}{body:List Stmt}(S:Si X ⟨⟨fd.scope.names,slots,fn.slots⟩,A,env⟩ ν g)
  (hes:env.scope=fd.scope) (hef:env.func=some f) (hec:env.code=fd.code) (hel:env.cells.lookup ("__class__" : Str)=fd.closure.lookup ("__class__" : Str)) {m:Nat} {e:Expr} {K:KE} {Q:Value→Shared→Prop} (he:Iq ν 0 fun v=>Aez X.tb m v g.H K) (hsc:Wv m e) (hQ:Hd X g K Q):Of X.c.M A (.func body env) (eval e env) Q FF g.s:=
 hsc (fun e=>Of X.c.M A (.func body env) (eval e env) Q FF g.s) fun p0 p1 n q q' hn hline=>Wl he fun v hv he=>by
  refine x41 (wm F SO' hn) fun T gid B i SM=>?_
  refine Acf (P:=fun v=>ν[0]?=some (some v)→Of X.c.M A (.func body env) (eval (.Call (.Attribute (.Call (.Name "super" p0) [] [] p1) n q) [] [] q') env) Q FF g.s) he SO'.only (fun n0 at_ l hH hl he hv=>?_) hv
  obtain ⟨cda,occ,vs,tf,file,hcode,hcda,hocc,hvs,hfile⟩:=TO.code
  refine x13 TO.ar fun ar hp har hcdn=>?_
  refine x23 TO.clo fun cc oc hclo hcc hcell=>?_
  refine x31 DO.at_ fun oc0 od0 osl0 hK=>?_
  have XK:=S.st.stat.K
  have hkindn:∀ y:Str,env.kindOf y=fd.scope.names.lookup y:=fun y=>congrArg (fun sc:Scope=>sc.names.lookup y) hes
  refine x03 (DO.par 0 ar.arg har) fun ps1 ps2 ps3=>?_
  refine x02 (F.lists D SO'.isL) fun LD CD=>?_
  refine x12 (any_some CD.cd) fun cd hcd zA=>?_
  refine x12 (Acg XK hcd) fun oD hD1 hD2=>?_
  rw [arm_eval_Call]
  refine A9 (wi ?_)
  refine ks_wpAt_super_base (env:=env) (by rw [hkindn];exact TO.sup) (by rw [hkindn];exact TO.cls) SM.nc hef (XK _ _ hK) rfl hp (hec.trans hcode) (XK _ _ hcda) hocc hvs hfile SO'.top ?_
  have hmain:g.s.heap.Ns env.globals X.c.mg:=by rw [S.fr.globals];exact S.st.stat.main F.ok
  refine ks_loadName_global S.fr.kind (by rw [hkindn];exact TO.sup) (Calls.loadGlobal_builtin hmain SO'.mg (by rw [S.fr.builtins];exact S.st.stat.b) (by rw [F.ok.boot _ (by decide)];exact (by decide +kernel:bootBuiltins "super" = some (.type "super"))) ⟨rfl,?_⟩)
  refine wpAny_loadName_free S.fr.kind (by rw [hkindn];exact TO.cls) (hel.trans hclo) ⟨_,XK _ _ hcc,hcell⟩ ?_
  refine La S ps1 (ps2.elim (fun h=>by rw [h];rfl) fun h=>by rw [h];rfl) hcdn hv fun z rz=>?_
  refine x43 (S.st.ins hH rz) fun p ox es k hρ zz5 I=>?_;subst zz5
  have hx:p.1≠D:=fun e=>by
   have e2:=I.inst.at_
   rw [e,hD1] at e2
   cases e2
   have:=I.inst.no
   unfold notCls at this
   rw [hD2] at this
   exact Bool.noConfusion this
  have hnox:∀ c,ox.data≠.cls c:=fun c e=>by
   have:=I.inst.no
   unfold notCls at this
   rw [e] at this
   exact Bool.noConfusion this
  obtain ⟨ρ,H,sh,sg,sd,st,sos⟩:=g
  refine ks_wpAny_isType_cls hD1 hD2 ⟨rfl,?_⟩
  refine ks_wpAny_call_super hD1 hD2 I.inst.at_ I.inst.cls hnox (looks_mroIn XK SO'.self) fun h1 hso hk1=>?_
  have X1:X.c.K.In h1:=fun b o e=>hk1 b o (XK b o e)
  refine E3 ?_
  refine Ab (wpAny_standAt ?_)
  have hpos:methodCallPos true (.Call (.Name "super" p0) [] [] p1) env q q'=pure q':=by unfold methodCallPos;rw [hline];rfl
  unfold methodCall
  show wpN X.c.M A (holding [.ref sh.objs.size] (calleeOf true (.Call (.Name "super" p0) [] [] p1) env (.ref sh.objs.size) n)>>=fun p=>methodCallPos true (.Call (.Name "super" p0) [] [] p1) env q q'>>=fun cp=>callWith cp p.1 p.2 _ _) Q FF _
  refine Aa (Ad (Af ?_))
  show wpAny X.c.M A (getMethod (.ref sh.objs.size) n _) _ FF _
  have I1:InstAt h1 p.1 ox D (some (dictOf es k)):=⟨hk1 _ _ I.inst.at_,I.inst.cls,I.inst.no,by have:=I.inst.dict;rw [I.dict] at this ⊢;exact hk1 _ _ this⟩
  have hsup:=SM.found
  unfold ks_superIn at hsup
  rw [hcd] at hsup
  have hmro:Looks X.c.M h1 (mroOf (.ref D)) cd.mro:=fun A Q E s k q=>wpAny_bind ((looks_clsIn X1 hcd) A _ E s k (wpAny_pure q))
  refine Pk SM.bind hso (looks_opaque X1 SO'.opq) hmro rfl X1 I1 LD.list hsup hx SM.nc ?_
  rw [hpos]
  refine Aa (Ac ?_)
  have hb2:(h1.push (boundB B i p.1)).get? h1.objs.size=some (boundB B i p.1):=Heap.get?_push_size _ rfl
  have t2:Go X.c ⟨ρ,H,sh,sg,sd,st,sos⟩ ⟨ρ,H,h1.push (boundB B i p.1),sg,sd,st+1,sos⟩:=.grow F.ok S.st ⟨fun b o e=>Heap.get?_push_of_some _ (hk1 b o e),rfl,rfl,Nat.le_succ _⟩
  have I2:InstAt (h1.push (boundB B i p.1)) p.1 ox D (some (dictOf es k)):=⟨Heap.get?_push_of_some _ I1.at_,I1.cls,I1.no,by have:=I1.dict;rw [I.dict] at this ⊢;exact Heap.get?_push_of_some _ this⟩
  refine Hk (Lk rfl (Af (Calls.spliced_nil ?_)))
  refine ⟨fun Q' q=>dc hb2 SM.hB q,?_⟩
  exact Af (wpAny_call (Yi hb2 SM.hB SM.plain (fun {Q'} hq=>SM.check t2.st.stat.K I2 hcd hq) (SM.body (g:=⟨ρ,H,h1.push (boundB B i p.1),sg,sd,st+1,sos⟩) t2.st hH hl (t2.rel S.st rz) he (hQ.then t2))))
end
theorem Dk{α:Type}{l:List α}{n k:Nat}{x:α}(h:(l.take n)[k]?=some x):k<n∧l[k]?=some x:=by
 rw [List.getElem?_take] at h
 by_cases hk:k<n
 ·rw [if_pos hk] at h;exact ⟨hk,h⟩
 ·rw [if_neg hk] at h;cases h
theorem Rg{α:Type}{l:List α}{n k:Nat}{x:α}(hk:k<n)(h:l[k]?=some x):(l.take n)[k]?=some x:=by
 rw [List.getElem?_take,if_pos hk];exact h
theorem Pl{ρ:Rho}{H:Hp}{n:Nat}{b:Addr}(m:Mut (ρ.take n) (H.take n) b):Mut ρ H b:=by
 refine x34 m fun k p o e1 e2 h1 h2=>?_
 exact ⟨k,p,o,(Dk e1).2,(Dk e2).2,h1,h2⟩
section
variable {ρ:Rho} {H:Hp} {T n:Nat} {h:Heap}
theorem Ao.cut{v:V}{x:Value}(r:Ao (Mut ρ H) ρ T h v x):noLoc n v=true→Ao (Mut (ρ.take n) (H.take n)) (ρ.take n) T h v x:=
 Ao.rec (motive_1:=fun v x zA=>noLoc n v=true→Ao (Mut (ρ.take n) (H.take n)) (ρ.take n) T h v x) (motive_2:=fun v x zA=>Ci n v=true→Ae (Mut (ρ.take n) (H.take n)) (ρ.take n) T h v x)
  (fun zA=>.none) (fun b zA=>.bool b) (fun i t zA=>.int i t) (fun x zA a b zB=>.flt x a b) (fun x t zA=>.str x t) (fun x t zA=>.bytes x t) (fun h1 h2 zA ih hn=>.tup (fun m=>h1 (Pl m)) h2 (ih hn)) (fun h1 h2 zA ih hn=>.lst (fun m=>h1 (Pl m)) h2 (ih hn)) (fun e hn=>.loc (Rg (od9 hn) e)) (fun v zA=>.stat v) (fun zA=>.nil)
  (fun {v _ vs _} _ _ a b hn=>Ak (a:=noLoc n v) (b:=Ci n vs) hn fun h1 h2=>.cons (a h1) (b h2)) r
theorem Ae.cut:∀ {v:List V} {x:List Value},Ae (Mut ρ H) ρ T h v x→Ci n v=true→Ae (Mut (ρ.take n) (H.take n)) (ρ.take n) T h v x
 | [],x,r,_=>r.nil_E .nil
 | v::vs,x,r,hn=>Ak (a:=noLoc n v) (b:=Ci n vs) hn fun h1 h2=>r.cons_E fun y ys a b=>.cons (a.cut h1) (Ae.cut b h2)
theorem Av.cut{at_:List (Nat×V)}{es:List DictEntry}(r:Av (Mut ρ H) ρ T h at_ es)(hn:at_.all (fun p=>noLoc n p.2)=true):Av (Mut (ρ.take n) (H.take n)) (ρ.take n) T h at_ es:=by
 induction r with
 | nil=>exact .nil
 | cons t e1 e2 e3 e4 _ ih=>rw [List.all_cons] at hn;exact Ak hn fun h1 h2=>.cons t e1 e2 e3 (e4.cut h1) (ih h2)
theorem He.cut{p:Addr×Addr}{o:Ob}(r:He (Mut ρ H) ρ T h p o)(hn:Iu n o=true):He (Mut (ρ.take n) (H.take n)) (ρ.take n) T h p o:=by
 cases o with
 | dead=>trivial
 | lst l=>obtain ⟨e,xs,k,a,b⟩:=r;exact ⟨e,xs,k,a,b.cut hn⟩
 | barr b=>exact r
 | two=>exact r
 | inst C at_ items=>
  refine Ak (a:=at_.all fun p=>noLoc n p.2) hn fun h1 h2=>?_
  obtain ⟨e,⟨es,k,a,b⟩,cc⟩:=r
  refine ⟨e,⟨es,k,a,b.cut h1⟩,?_⟩
  cases items with
  | none=>exact cc
  | some l=>obtain ⟨xs,m,a,b⟩:=cc;exact ⟨xs,m,a,b.cut h2⟩
theorem Ao.noLoc{X:Addr→Prop}{v:V}{x:Value}(r:Ao X ρ T h v x):noLoc ρ.length v=true:=
 Ao.rec (motive_1:=fun v zA zB=>Mine.noLoc ρ.length v=true) (motive_2:=fun v zA zB=>Ci ρ.length v=true) rfl (fun zA=>rfl) (fun zA zB=>rfl) (fun zA zB zC zD=>rfl) (fun zA zB=>rfl) (fun zA zB=>rfl) (fun zA zB zC ih=>ih) (fun zA zB zC ih=>ih)
  (fun e=>dq9 (List.getElem?_eq_some_iff.mp e).1) (fun zA=>rfl) rfl (fun zA zB a b=>Bool.and_eq_true_iff.mpr ⟨a,b⟩) r
theorem Ae.noLoc{X:Addr→Prop}:∀ {v:List V} {x:List Value},Ae X ρ T h v x→Ci ρ.length v=true
 | [],x,r=>rfl
 | v::vs,x,r=>r.cons_E fun y ys a b=>Bool.and_eq_true_iff.mpr ⟨a.noLoc,Ae.noLoc b⟩
theorem Av.noLoc{X:Addr→Prop}{at_:List (Nat×V)}{es:List DictEntry}(r:Av X ρ T h at_ es):at_.all (fun p=>Mine.noLoc ρ.length p.2)=true:=by
 induction r with
 | nil=>rfl
 | cons t e1 e2 e3 e4 _ ih=>rw [List.all_cons];exact Bool.and_eq_true_iff.mpr ⟨e4.noLoc,ih⟩
theorem He.noLoc{X:Addr→Prop}{p:Addr×Addr}{o:Ob}(r:He X ρ T h p o):Iu ρ.length o=true:=by
 cases o with
 | dead=>rfl
 | lst l=>obtain ⟨e,xs,k,a,b⟩:=r;exact b.noLoc
 | barr b=>rfl
 | two=>rfl
 | inst C at_ items=>
  obtain ⟨e,⟨es,k,a,b⟩,cc⟩:=r
  refine Bool.and_eq_true_iff.mpr ⟨b.noLoc,?_⟩
  cases items with
  | none=>rfl
  | some l=>obtain ⟨xs,m,a,b⟩:=cc;exact b.noLoc
end
section
variable {c:Cfg} {g g':Sg}
theorem SO.noLoc(S:SO c g):g.H.all (Iu g.H.length)=true:=List.all_eq_true.mpr fun o ho=>by
 refine x11 (List.getElem?_of_mem ho) fun k hk=>?_
 have hl:k<g.ρ.length:=by rw [S.heap.len];exact (List.getElem?_eq_some_iff.mp hk).1
 rw [←S.heap.len]
 exact (S.heap.obj k _ o (List.getElem?_eq_getElem hl) hk).noLoc
theorem Go.cut(S:SO c g)(t:Go c g g')(hall:(g'.H.take g.H.length).all (Iu g.H.length)=true):Go c g ⟨g'.ρ.take g.H.length,g'.H.take g.H.length,g'.s⟩:=by
 have hr:=t.st.heap.len
 refine ⟨⟨t.st.stat,⟨by rw [List.length_take,List.length_take,hr],fun k p o e1 e2=>(t.st.heap.obj k p o (Dk e1).2 (Dk e2).2).cut (List.all_eq_true.mp hall o (List.mem_of_getElem? e2)),fun k m p q e1 e2 hne=>t.st.heap.apart k m p q (Dk e1).2 (Dk e2).2 hne,fun k p e=>t.st.heap.ex k p (Dk e).2⟩,t.st.pos,fun k p e=>t.st.high k p (Dk e).2⟩,
  ⟨fun k p e=>Rg (S.heap.len▸(List.getElem?_eq_some_iff.mp e).1) (t.le.pre k p e),fun b o e m=>t.le.mu b o e (Pl m),t.le.ex,t.le.keep,t.le.tab,t.le.os,t.le.gens,t.le.tk,fun k p e=>t.le.fresh k p (Dk e).2⟩⟩
theorem Ach(S:SO c g)(t:Go c g g'){v:V}{z:Value}{K:KE}(r:VR g' v z)(e:T8 g.H v g'.H K){P:Prop}(k:∀ g2,K v g2.H→Go c g g2→VR g2 v z→g2.s=g'.s→P):P:=
 e.elim (fun e=>k g' e t r rfl) fun e=>by
  have hall:(g'.H.take g.H.length).all (Iu g.H.length)=true:=e.2.1.elim (fun e=>by rw [e];exact SO.noLoc S) id
  exact k ⟨g'.ρ.take g.H.length,g'.H.take g.H.length,g'.s⟩ e.2.2 (t.cut S hall) (r.cut e.1) rfl
end
theorem Jx(b:List Stmt)(env:Env):∀ a:List Stmt,execs (a++b) env=(execs a env>>=fun f=>match f with|.next=>execs b env|f=>pure f)
 | []=>(pure_bind _ _).symm
 | x::r=>by
  rw [List.cons_append,arm_execs_cons,arm_execs_cons,bind_assoc]
  congr 1
  funext f
  cases f
  ·exact Jx b env r
  all_goals exact (pure_bind _ _).symm
noncomputable def Aag(nm:Nm)(fn:Fn)(cx:Cx)(stmts:List Stmt):Prop:=match fn.tail with
 | none=>Fi nm fn.body cx stmts
 | some t=>∀ P:List Stmt→Prop,(∀ pre e p,Fi nm fn.body cx pre→Wv t.2 e→P (pre++[bif t.1 then .Return (some e) p else .Expr e p]))→P stmts
theorem Yj{m:Nat}{e:Expr}(h:Wv m e):Dp e=true:=h (fun e=>Dp e=true) fun zA zB zC zD zE zF zG=>rfl
section
variable {X:Xc} {D:Addr}
theorem Ae7(F:Fx X)(SO':Up X.c X.tb D){f:Addr}{fn:Fn}{slots:List (Str×Nat)}{fd:FuncData}{names:List Str}{stmts:List Stmt}(DO:I5 X.c f fn slots fd names stmts)(hT:fn.tail.isSome=true→Jw X.c D fd names)(hB:Aag X.nm fn ⟨fd.scope.names,slots,fn.slots⟩ stmts)
  {vs:List V} {g:Sg} {K:KE} (he:uf X.tb X.Φ fn vs g.H K) {A:Around} {xs:List Value} (Rm:Eb A (X.d+2)) (S:SO X.c g) (r:VRs g vs xs) {Q:Value→Shared→Prop} (hQ:Hd X g K Q):Bc X.c.M A (.call (.ref f) ⟨xs,[]⟩) (j4 Q) g.s:=by
 refine x03 he fun c1 c2 he=>?_
 have c1:=od9 c1
 have c2:=od9 c2
 refine x31 DO.at_ fun oc od osl hK=>?_
 have XK:=S.stat.K
 have hxl:=r.length
 refine x12 (DO.binds xs (hxl▸c1) (hxl▸c2)) fun ds hds hb=>?_
 refine Hr (Rm.depth_lt) (XK _ _ hK) rfl DO.co DO.gen DO.body (codeRec_of XK DO.code) (kp_binds XK hb _ _ _ _ ?_)
 rw [←hxl] at hds
 have rr:VRs g (vs++fn.dflt.drop (vs.length+fn.dflt.length-fn.pars)) (xs++ds):=r.append (hds _ _ _ _)
 refine Wu F.ok DO (Rm.in1:Eb A.in1 (X.d+1)) S (by rw [←rr.length,List.length_append,List.length_drop];exact tu c1 c2) rr fun env s1 S1 t1 fyn hes hef hec hel=>⟨S1.st.stat.lim,?_⟩
 have S2:Si X ⟨⟨fd.scope.names,slots,fn.slots⟩,A.deeper env,env⟩ ((vs++fn.dflt.drop (vs.length+fn.dflt.length-fn.pars)).map some++List.replicate (fn.slots-fn.pars) none) (g.to s1):=⟨Rm.deeper,S1.st,S1.fr,S1.ap⟩
 have fin:∀ (v:V) (z:Value) (g3:Sg),T8 g.H v g3.H K→SO X.c g3→LeS X.c (Fy env) (g.to s1) g3→VR g3 v z→Q z g3.s:=fun v z g3 k st le rz=>
  Ach S (g':=g3) ⟨st,(t1.leS.trans le).weaken fun b o e y=>by rw [fyn b y] at e;cases e⟩ rz k fun g2 k2 t2 r2 e2=>e2▸hQ v z g2 k2 t2 r2
 have hXL:=c5 F fn.body
 let fm:Fm:=⟨⟨fd.scope.names,slots,fn.slots⟩,A.deeper env,env⟩
 refine Ly ?_
 cases ht:fn.tail with
 | none=>
  unfold Aag at hB
  rw [ht] at hB he
  refine E3 (hXL fm _ (g.to s1) stmts _ hB S2 he _ fun fl y ν' g3 k3 S3 t3 r3=>?_)
  cases fl with
  | next=>cases r3;exact fin _ _ g3 k3 S3.st t3 .none
  | brk=>exact False.elim k3
  | cont=>exact False.elim k3
  | ret v=>exact r3.elim fun z q=>by rw [q.1];exact fin _ _ g3 k3 S3.st t3 q.2
 | some t=>
  unfold Aag at hB
  rw [ht] at hB he
  have TO:=hT (by rw [ht];rfl)
  refine hB (fun st=>stmts=st→Of X.c.M (A.deeper env) (.func stmts env) (execs st env) (fun f s'=>Q (match f with|.ret v=>v|_=>.none) s') FF s1) (fun pre e p hpre hsc hst=>?_) rfl
  rw [Jx]
  refine A9 (E3 (hXL fm _ (g.to s1) pre _ hpre S2 he _ fun fl y ν' g3 k3 S3 t3 r3=>?_))
  cases fl with
  | brk=>exact False.elim k3
  | cont=>exact False.elim k3
  | ret v=>exact r3.elim fun z q=>by rw [q.1];exact C9 (fin _ _ g3 k3 S3.st t3 q.2)
  | next=>
   cases r3
   show Of X.c.M (A.deeper env) (.func stmts env) (execs [_] env) _ FF g3.s
   rw [arm_execs_cons]
   obtain ⟨bb,m⟩:=t
   cases bb with
   | true=>
    show Of X.c.M (A.deeper env) (.func stmts env) (exec (.Return (some e) p) env>>=_) _ FF g3.s
    rw [exec_Return_some]
    refine A9 (A9 (E3 (Af (wpAny_standAt (A9 (ri F SO' DO TO S3 hes hef hec hel (K:=fun x H'=>T8 g.H x H' K) k3 hsc fun v z g4 k4 t4 r4=>C9 (C9 ?_)))))))
    exact fin v z g4 k4 t4.st (t3.trans t4.leS) r4
   | false=>
    show Of X.c.M (A.deeper env) (.func stmts env) (exec (.Expr e p) env>>=_) _ FF g3.s
    rw [arm_exec_Expr,Gx S3,E2 (Yj hsc)]
    refine A9 (A9 (E3 (Af (wpAny_standAt (A9 (C9 (A9 (ri F SO' DO TO S3 hes hef hec hel (K:=fun x H'=>T8 g.H .none H' K) k3 hsc fun v z g4 k4 t4 r4=>?_))))))))
    exact E3 (Af (wpAny_dropValue (C9 (fin .none .none g4 k4 t4.st (t3.trans t4.leS) .none))))
end
noncomputable def SeqAt(h:Heap)(a:Addr)(items:Array Value):Prop:=∃ o n,h.get? a=some o∧o.data=.seq items n
theorem SeqAt.at'{h h':Heap}{a:Addr}{items:Array Value}(x:SeqAt h a items)(e:∀ o,h.get? a=some o→h'.get? a=some o):SeqAt h' a items:=
 let ⟨o,n,ho,hd⟩:=x;⟨o,n,e o ho,hd⟩
section
variable {prog:Program} {w:World} {A:Around} {E:Value→Shared→Prop} {s:Shared}
theorem df{it l:Addr}{i:Nat}{items:Array Value}{x:Value}{Q:Option Value→Shared→Prop}(hit:s.heap.IsListIter it l i)
  (hl:SeqAt s.heap l items) (hx:items[i]?=some x)
  (hQ:∀ h',h'.IsListIter it l (i+1)→Heap.SameBut it s.heap h'→Q (some x) {s with heap:=h'}) :
  wpAny (model prog w) A (pyNext (.ref it)) Q E s:=by
 refine x13 (id hit) fun o ho hc hd=>?_
 refine x22 hl fun ol nl hol hdl=>?_
 unfold pyNext
 refine wpAny_bind (wpAny_attempt (wpAny_callSpecial?_slot (name:=Str.ofString "__next__") hit.typeIs slot_listiter_next
  (wpAny_call_entry slot_listiter_next hit.typeIs entry_listiter_next ?_ (args_listiter_next _))))
 show wpAny _ _ (field (.ref it) 0>>=_) _ _ s
 refine wpAny_bind (wpAny_field ho hd (x:=.ref l) rfl ?_)
 show wpAny _ _ (if (Value.ref l==Value.none)=true then _ else _) _ _ s
 rw [if_neg (show ¬((Value.ref l==Value.none)=true) from Bool.false_ne_true)]
 show wpAny _ _ (field (.ref it) 1>>=_) _ _ s
 refine wpAny_bind (wpAny_field ho hd (x:=.int i 0) rfl ?_)
 show wpAny _ _ (seqItems? (.ref l)>>=_) _ _ s
 refine wpAny_bind (wpAny_seqItems hol hdl ?_)
 simp only [Int.toNat_natCast,hx]
 refine wpAny_bind (wpAny_setField ho hd (by simp) (wpAny_pure ⟨x,rfl,wpAny_pure (hQ _ ?_ (Heap.SameBut.update ..))⟩))
 exact ⟨_,Heap.get?_update_self _ ho (Obj.isFreed_of_fields (Obj.data_mapFields hd _)),(Obj.cls_mapFields ..).trans hc,by
  rw [Obj.data_mapFields hd];simp [rawInt]⟩
theorem mz{it l:Addr}{i:Nat}{items:Array Value}{Q:Option Value→Shared→Prop}(hh:A.handled=none)
  (hit:s.heap.IsListIter it l i) (hl:SeqAt s.heap l items) (hx:items[i]?=none)
  (hQ:∀ h',Heap.ExtBut it s.heap h'→Q none {s with heap:=h'}):wpAny (model prog w) A (pyNext (.ref it)) Q E s:=by
 refine x13 (id hit) fun o ho hc hd=>?_
 refine x22 hl fun ol nl hol hdl=>?_
 unfold pyNext
 refine wpAny_bind (wpAny_attempt (wpAny_callSpecial?_slot (name:=Str.ofString "__next__") hit.typeIs slot_listiter_next
  (wpAny_call_entry slot_listiter_next hit.typeIs entry_listiter_next ?_ (args_listiter_next _))))
 show wpAny _ _ (field (.ref it) 0>>=_) _ _ s
 refine wpAny_bind (wpAny_field ho hd (x:=.ref l) rfl ?_)
 show wpAny _ _ (if (Value.ref l==Value.none)=true then _ else _) _ _ s
 rw [if_neg (show ¬((Value.ref l==Value.none)=true) from Bool.false_ne_true)]
 show wpAny _ _ (field (.ref it) 1>>=_) _ _ s
 refine wpAny_bind (wpAny_field ho hd (x:=.int i 0) rfl ?_)
 show wpAny _ _ (seqItems? (.ref l)>>=_) _ _ s
 refine wpAny_bind (wpAny_seqItems hol hdl ?_)
 simp only [Int.toNat_natCast,hx]
 refine wpAny_bind (wpAny_rule (wpAny_bind (wpAny_setField ho hd (by simp) ?_)))
 show wpAny _ _ (newExc (.type "StopIteration") []>>=_) _ _ _
 refine wpAny_bind ?_
 delta newExc newTuple
 refine wpAny_bind (wpAny_newObj_type ?_ (by size_fits))
 refine wpAny_bind (m:=firstArgMember _ _) (wpAny_of_eq (a:=Value.none) (by first|rfl|(simp only [firstArgMember];rfl)) ?_)
 refine wpAny_newObj_type ?_ (by size_fits)
 delta raiseNew
 refine wpAny_bind (wpAny_handled ?_)
 rw [show A.in1.handled=none from hh]
 refine wpAny_bind (wpAny_pure (wpAny_throw ?_))
 refine wpAny_bind (wpAny_isInstance (T:= "StopIteration") (b:=true) ⟨_,Heap.get?_push_size _ rfl,rfl⟩ isSubtype_stop ?_)
 exact wpAny_pure (hQ _ (((Heap.SameBut.update ..).extBut.push _).push _))
theorem Yk(hh:A.handled=none)(I ax:Addr)(hne:ax≠I)(items:Array Value)(Ts:Nat→Addr)(vals:Nat→Array Value)
  (hit:∀ j,j<items.size→items[j]?=some (.ref (Ts j))) (hTI:∀ j,j<items.size→Ts j≠I) :
  WalksU prog w A I (I::ax::(List.range items.size).map Ts) [I] items.size (fun j v=>j<items.size∧v=vals j)
   (fun j h=>h.IsListIter I ax j∧SeqAt h ax items∧∀ k,k<items.size→h.IsTuple (Ts k) (vals k))
   (fun j T h=>(j<items.size∧T=Ts j)∧h.IsListIter I ax (j+1)∧SeqAt h ax items∧∀ k,k<items.size→h.IsTuple (Ts k) (vals k)) where
 sub:=fun b hb=>by simp at hb;simp [hb]
 frame:=fun zA zB zC st hk=>⟨st.1.at fun o e=>hk I (by simp) o e,st.2.1.at' fun o e=>hk ax (by simp) o e,
  fun k hk'=>(st.2.2 k hk').at fun o e=>hk (Ts k) (mm9 _ (mm9 _ (List.mem_map.mpr ⟨k,List.mem_range.mpr hk',rfl⟩))) o e⟩
 item:=fun i s Q E hi st hQ=>by
  refine df st.1 st.2.1 (x:=.ref (Ts i)) (hit i hi) fun h' hit' hs'=>?_
  have tup:∀ k,k<items.size→h'.IsTuple (Ts k) (vals k):=fun k hk'=>(st.2.2 k hk').extBut hs'.extBut (hTI k hk')
  exact hQ (Ts i) (vals i) h' s.toks ⟨hi,rfl⟩ (tup i hi) ⟨⟨hi,rfl⟩,hit',st.2.1.at' fun o e=>hs'.extBut _ _ hne e,tup⟩ fun b o hb e=>hs'.extBut b o (fun h=>hb (by simp [h])) e
 go:=fun zA zB zC zD zE s Q zF hm hQ=>wpAny_letOwnedTupleGo_listiter hm.2.1 (hQ s.heap hm.2 fun zA zB zC e=>e)
 apart:=fun j T zA hm hmem=>by
  rcases List.mem_cons.mp hmem with e|e
  ·exact hTI j hm.1.1 (hm.1.2▸e)
  ·cases e
 done:=fun s Q E st hQ=>mz hh st.1 st.2.1 (by simp) fun h' he'=>hQ h' s.toks fun b o hb e=>he' b o (fun h=>hb (by simp [h])) e
 self:=fun zA zB zC zD st hQ=>wpAny_pyIter_listiter st.1 hQ
end
section
variable {prog:Program} {w:World} {A:Around} {E:Value→Shared→Prop} {s:Shared} {K:Frag} {x C:Addr} {ox:Obj} {od:Option Obj}
theorem Nr:builtinKind "list.__iter__" = some .slot∨builtinKind "list.__iter__" = some .method:=by decide +kernel
theorem dg{Q:Value→Shared→Prop}(X:K.In s.heap)(I:InstAt s.heap x ox C od)(L:Ef K C)(hi:findIn K (.ref C) "__iter__" = some (some (.builtin "list.__iter__")))
  (hQ:Q (.ref s.heap.objs.size) {s with heap:=s.heap.push {cls:=.type "list_iterator",data:=.fields #[.ref x,.int 0 0]}}) :
  wpAny (model prog w) A (pyIter (.ref x)) Q E s:=by
 have fin:wpAny (model prog w) A (call (.builtin "list.__iter__") [.ref x]) (fun it s'=>it=.ref s.heap.objs.size∧s'={s with heap:=s.heap.push {cls:=.type "list_iterator",data:=.fields #[.ref x,.int 0 0]}}) E s:=by
  refine D0 (n:= "__iter__") Nr (by decide +kernel) slot_list_iter.plain entry_list_iter X I L.list (args_list_iter _) ?_
  show wpAny _ _ (do ret (←newFields "list_iterator" [.ref x,rawInt 0])) _ _ s
  exact wpAny_bind (wpAny_newObj_type (wpAny_pure ⟨_,rfl,rfl,rfl⟩))
 have look:∀ {α:Type} {k:Option Value→Sem α} {P:α→Shared→Prop},wpAny (model prog w) A (k (some (.builtin "list.__iter__"))) P E s→wpAny (model prog w) A (specialOf (.ref x) "__iter__" >>= k) P E s:=fun h=>
  wpAny_bind (wpAny_bind (I.type.here ((looks_findIn X hi).here h)))
 unfold pyIter
 refine look ?_
 show wpAny _ _ (callSpecialIfBoundUnlessNone? (.ref x) "__iter__" _>>=_) _ _ s
 have hT:∀ (s':Shared),s'={s with heap:=s.heap.push {cls:=.type "list_iterator",data:=.fields #[.ref x,.int 0 0]}}→s'.TypeIs (.ref s.heap.objs.size) "list_iterator" :=fun s' e=>by
  subst e;exact ⟨_,Heap.get?_push_size _ rfl,rfl⟩
 refine wpAny_bind ?_
 delta callSpecialIfBoundUnlessNone? bindSpecialIfBound?
 refine wpAny_holding (wpAny_bind (look ?_))
 simp only [slot_list_iter.bind]
 have fin2:∀ refuse:Sem Value,wpAny (model prog w) A (if (Value.builtin "list.__iter__" == Value.none)=true then (refuse>>=fun v=>pure (some v)) else (call (.builtin "list.__iter__") [.ref x]>>=fun v=>pure (some v)))
   (fun (r:Option Value) s'=>r=some (.ref s.heap.objs.size)∧s'={s with heap:=s.heap.push {cls:=.type "list_iterator",data:=.fields #[.ref x,.int 0 0]}}) E s:=fun refuse=>by
  simp only [builtin_beq_none,Bool.false_eq_true,if_false]
  exact wpAny_bind (wpAny_mono fin (fun v s' h'=>wpAny_pure ⟨by rw [h'.1],h'.2⟩) fun zA zB h'=>h')
 have after:∀ (r:Option Value) (s':Shared),(r=some (.ref s.heap.objs.size)∧s'={s with heap:=s.heap.push {cls:=.type "list_iterator",data:=.fields #[.ref x,.int 0 0]}})→
   wpAny (model prog w) A (match r with
    | some it=>(specialOf it "__next__" >>= fun r=>match r with
     | none=>(do rule "iter.non-iterator";raiseError "TypeError" s!"iter() returned non-iterator of type '{← typeNameOf it}'" : Sem Value)
     | some _=>pure it)
    | none=>(do match ←bindSpecialIfBound? (.ref x) "__getitem__" with
      | none=>rule "iter.not-iterable";raiseError "TypeError" s!"'{← typeNameOf (.ref x)}' object is not iterable"
      | some _=>rule "iter.getitem-fallback";newFields "iterator" [.ref x,←mkInt 0])) Q E s':=fun r s' h=>by
  refine x02 h fun zz0 h2=>?_;subst zz0
  refine wpAny_bind (wpAny_specialOf (hT _ h2) slot_listiter_next.lookup (wpAny_pure ?_))
  rw [h2];exact hQ
 refine wpAny_bind (wpAny_askSetting (wpAny_ite ?_))
 split
 ·exact wpAny_bind (wpAny_pure (wpAny_pure (wpAny_mono (fin2 _) (fun r s' h=>after r s' h) fun zA zB h=>h)))
 ·exact wpAny_tryCatch (wpAny_bind (wpAny_pure (wpAny_pure (wpAny_mono (fin2 _) (fun r s' h=>after r s' h) fun zA zB h=>h))))
end
noncomputable def Cm(k:Int)(val:Nat→Int):Nat→Int
 | 0=>k
 | i+1=>Cm k val i+val i
section
variable {prog:Program} {w:World} {A:Around} {R:Result→Shared→Prop} {I:Addr} {fp wr:List Addr} {G:Array GenState→Array GenState→Prop} {n:Nat} {P:Nat→Value→Prop} {St:Nat→Shared→Prop}
theorem m6(W:WalksS prog w A.in1 I fp wr G n P St)(k0:Int)(val:Nat→Int)(hval:∀ i v,P i v→∃ t,v=.int (val i) t)(S:Addr)(hSf:S∉fp) :
  ∀ (k i:Nat) (s:Shared) (tA:Tok) (c:Nat) (st:Int),(st=0∨st=2)→n-i=k→i≤n→St i s→s.heap.get? S=some {cls:=.type "list",dict:=none,data:=.seq #[.int (Cm k0 val i) tA] c,slots:=#[]}→
  (∀ s' t',Moved (S::wr) G s s'→R (.ok (.ret (.int (Cm k0 val n) t'))) s')→codeAny (model prog w) A (.builtin "sum.loop" ⟨[.ref I,.ref S,rawInt st,rawInt 0],[]⟩) R s:=by
 have hSw:S∉wr:=fun h=>hSf (W.sub _ h)
 have hsub:∀ b∈wr,b∈S::wr:=fun b hb=>mm9 _ hb
 intro k
 induction k with
 | zero=>
  intro i s tA c st hst2 hk hi hst hS hR
  have hin:i=n:=by lia
  subst hin
  refine codeAny_builtin F.entry_sum_loop ?_
  rw [Around.under_plainId F.plain_sum_loop _]
  show wpAny _ A.in1 (seqItems? (.ref S)>>=_) _ _ s
  refine wpAny_bind (wpAny_seqItems hS rfl ?_)
  show wpAny _ A.in1 (tryCatch (pyNext (.ref I)) _>>=_) _ _ s
  refine wpAny_bind (wpAny_tryCatch (W.done s _ _ hst fun s' hm=>?_))
  exact wpAny_pure (hR s' tA (hm.mono hsub))
 | succ k ih=>
  intro i s tA c st hst2 hk hi hst hS hR
  have hlt:i<n:=by lia
  refine codeAny_builtin F.entry_sum_loop ?_
  rw [Around.under_plainId F.plain_sum_loop _]
  show wpAny _ A.in1 (seqItems? (.ref S)>>=_) _ _ s
  refine wpAny_bind (wpAny_seqItems hS rfl ?_)
  show wpAny _ A.in1 (tryCatch (pyNext (.ref I)) _>>=_) _ _ s
  refine wpAny_bind (wpAny_tryCatch (W.item i s _ _ hlt hst fun v s' hP hst' hm=>?_))
  refine x11 (hval i v hP) fun t zz1=>?_;subst zz1
  have hS':=hm.heap S _ hSw hS
  have next:∀ (c':Nat) (st':Int) (h2:Heap),(st'=0∨st'=2)→h2.get? S=some {cls:=.type "list",dict:=none,data:=.seq #[.int (Cm k0 val i+val i) s'.toks] c',slots:=#[]}→(∀ b o,b≠S→s'.heap.get? b=some o→h2.get? b=some o)→
    codeAny (model prog w) A (.builtin "sum.loop" ⟨[.ref I,.ref S,rawInt st',rawInt 0],[]⟩) R {s' with heap:=h2,toks:=s'.toks+1}:=fun c' st' h2 hst2 hS2 hk2=>
   ih (i+1) _ s'.toks c' st' hst2 (t7 hk) hlt (W.frame _ s' h2 _ hst' (Nat.le_succ _) fun b hb o e=>hk2 b o (fun h=>hSf (h▸hb)) e) hS2 fun s'' t'' hm''=>
    hR s'' t'' (Moved.trans W.gtrans ((hm.mono hsub).then_heap (Nat.le_succ _) fun b o hb e=>hk2 b o (fun h=>hb (by rw [h];exact ms9)) e) hm'')
  rcases hst2 with rfl|rfl
  ·show wpAny _ A.in1 (if (_:Bool)=true then (mkInt (Cm k0 val i+val i)>>=_) else _) _ _ _
   split
   ·refine wpAny_bind (wpAny_mkInt ?_)
    show wpAny _ A.in1 (updateSeq S (fun zA=>#[.int (Cm k0 val i+val i) s'.toks])>>=_) _ _ _
    exact wpAny_bind (wpAny_updateSeq hS' rfl (wpAny_pure ⟨plainId_quiet F.plain_sum_loop _,next _ 0 _ (.inl rfl) (Heap.get?_update_self _ hS' rfl) fun b o hb e=>(Heap.get?_update_other _ _ (fun h:S=b=>hb h.symm)).trans e⟩))
   ·refine wpAny_bind (wpAny_rule ?_)
    refine wpAny_bind (wpAny_attempt (wpAny_holding (wpAny_add_int ?_)))
    show wpAny _ A.in1 (updateSeq S (fun zA=>#[.int (Cm k0 val i+val i) s'.toks])>>=_) _ _ _
    have hS₂:=Heap.get?_update_self (Obj.mapSeq fun zA=>#[Value.int (Cm k0 val i+val i) s'.toks]) hS' rfl
    exact wpAny_bind (wpAny_updateSeq hS' rfl (wpAny_bind (wpAny_letGo (wpAny_bind (wpAny_updateSeq hS₂ rfl (wpAny_pure ⟨plainId_quiet F.plain_sum_loop _,next _ 2 _ (.inr rfl) (Heap.get?_update_self _ hS₂ rfl) fun b o hb e=>(Heap.get?_update_other _ _ (fun h:S=b=>hb h.symm)).trans ((Heap.get?_update_other _ _ (fun h:S=b=>hb h.symm)).trans e)⟩))))))
  ·show wpAny _ A.in1 ((holding [Value.int (val i) t] (binaryOp .Add (.int (Cm k0 val i) tA) (.int (val i) t))).attempt>>=_) _ _ _
   refine wpAny_bind (wpAny_attempt (wpAny_holding (wpAny_add_int ?_)))
   show wpAny _ A.in1 (updateSeq S (fun zA=>#[.int (Cm k0 val i+val i) s'.toks])>>=_) _ _ _
   have hS₂:=Heap.get?_update_self (Obj.mapSeq fun zA=>#[Value.int (Cm k0 val i+val i) s'.toks]) hS' rfl
   exact wpAny_bind (wpAny_updateSeq hS' rfl (wpAny_bind (wpAny_letGo (wpAny_bind (wpAny_updateSeq hS₂ rfl (wpAny_pure ⟨plainId_quiet F.plain_sum_loop _,next _ 2 _ (.inr rfl) (Heap.get?_update_self _ hS₂ rfl) fun b o hb e=>(Heap.get?_update_other _ _ (fun h:S=b=>hb h.symm)).trans ((Heap.get?_update_other _ _ (fun h:S=b=>hb h.symm)).trans e)⟩))))))
end
theorem dh(a b:Value):argsOk "sum" ⟨[a,b],[]⟩:=by unfold argsOk;kernel_rfl
section
variable {prog:Program} {w:World} {A:Around} {E:Value→Shared→Prop} {s:Shared}
theorem m7{x:Value}{k0:Int}{tk0:Tok}{Q:Value→Shared→Prop}
  (h:wpAny (model prog w) A.in1 (pyIter x) (fun it s₂=>∃ I fp wr G n P St val,it=.ref I∧WalksS prog w A.in1 I fp wr G n P St∧St 0 s₂∧(∀ b∈fp,b<s₂.heap.objs.size)∧
   (∀ i v,P i v→∃ t,v=.int (val i) t)∧
   ∀ s' t',Moved wr G s₂ s'→Q (.int (Cm k0 val n) t') s') E s) :
  wpAny (model prog w) A (call (.builtin "sum") [x,.int k0 tk0]) Q E s:=by
 refine call_function_tree F.kind_sum F.plain_sum F.entry_sum (dh _ _) ?_
 unfold Builtin.«sum»
 simp only [List.length_cons,List.length_nil]
 rw [if_neg (by decide)]
 refine wpAny_bind (wpAny_of_eq (show Builtin.Builtins.bindParams "sum" ["start"] 0 ⟨[.int k0 tk0],[]⟩=pure [some (.int k0 tk0)] from rfl) ?_)
 refine wpAny_bind (wpAny_mono h (fun it s₂ h₂=>?_) fun zA zB e=>e)
 obtain ⟨I,fp,wr,G,n,P,St,val,rfl,W,hst,hfp,hval,hQ⟩:=h₂
 have tail:∀ (tA:Tok) (tk:Nat) (st:Int),(st=0∨st=2)→s₂.toks≤tk→wpAny (model prog w) A.in1 (do
   for (ty,what,hint) in [("str","strings","''"),("bytes","bytes","b''"),("bytearray","bytearray","b''")] do
    if ←isInstance (.int k0 tA) (.type ty) then
     rule "sum.start-refused";raiseError "TypeError" s!"sum() can't sum {what} [use {hint}.join(seq) instead]"
   again (.builtin "sum.loop" ⟨[.ref I,←newList [.int k0 tA],rawInt st,rawInt 0],[]⟩))
   (fun fin s'=>match fin with|.done f=>(match Except.ok (ε:=Value) f with|.ok (.ret v)=>Q v s'|.ok _=>False|.error e=>E e s')|.again c'=>c'.quiet=true∧codeAny (model prog w) A c' (fun r s'=>match r with|.ok (.ret v)=>Q v s'|.ok _=>False|.error e=>E e s') s') E {s₂ with toks:=tk}:=by
  intro tA tk st hst2 htk
  simp only [List.forIn_cons,List.forIn_nil]
  refine wpAny_bind (wpAny_bind (wpAny_bind (wpAny_isInstance (T:= "int") (b:=false) (typeIs_int _ _ _) PySem.sub_int_str ?_)))
  first|rw [if_pos rfl]|rw [if_neg Bool.false_ne_true]|simp only [Bool.false_eq_true,if_false]
  refine wpAny_pure (wpAny_bind (wpAny_bind (wpAny_isInstance (T:= "int") (b:=false) (typeIs_int _ _ _) PySem.sub_int_bytes ?_)))
  first|rw [if_pos rfl]|rw [if_neg Bool.false_ne_true]|simp only [Bool.false_eq_true,if_false]
  refine wpAny_pure (wpAny_bind (wpAny_bind (wpAny_isInstance (T:= "int") (b:=false) (typeIs_int _ _ _) PySem.sub_int_bytearray ?_)))
  first|rw [if_pos rfl]|rw [if_neg Bool.false_ne_true]|simp only [Bool.false_eq_true,if_false]
  refine wpAny_pure (wpAny_pure ?_)
  refine wpAny_bind (wpAny_newObj_type ?_)
  have hSf:s₂.heap.objs.size∉fp:=fun hm=>Nat.lt_irrefl _ (hfp _ hm)
  refine wpAny_pure ⟨plainId_quiet F.plain_sum_loop _,m6 W k0 val hval s₂.heap.objs.size hSf n 0 _ tA 0 st hst2 rfl (Nat.zero_le _)
   (W.frame 0 s₂ _ _ hst htk fun b zA o e=>Heap.get?_push_of_some _ e) (Heap.get?_push_size _ rfl) fun s' t' hm=>?_⟩
  exact hQ s' t' (hm.drop_new htk)
 dsimp only
 split
 ·refine wpAny_bind (wpAny_rule ?_)
  refine wpAny_bind (wpAny_mkInt ?_)
  exact wpAny_bind (wpAny_pure (tail _ _ 0 (.inl rfl) (Nat.le_succ _)))
 ·exact wpAny_bind (wpAny_pure (tail _ _ 2 (.inr rfl) (Nat.le_refl _)))
end
structure Nt(q:Addr×Addr)(s s':Shared):Prop where
 keep:∀ b o,b≠q.2→s.heap.get? b=some o→s'.heap.get? b=some o
 tab:O2 q s'.heap
 os:s'.os=s.os
 gens:AllBare s.gens→AllBare s'.gens
 tk:s.toks≤s'.toks
theorem O2.parts{q:Addr×Addr}{h:Heap}(t:O2 q h):∃ o ps,h.get? q.1=some o∧o.cls=.type "code" ∧h.get? q.2=some {cls:=.none,data:=.fields ps}:=
 t.elim fun ps t=>t.1.1.elim fun o w=>w.elim fun vs w=>⟨o,ps,w.1,w.2.1,t.1.2⟩
section
variable {c:Cfg} {g:Sg} {s':Shared}
theorem Nt.go(ok:Bj c)(S:SO c g){q:Addr×Addr}(hq:q∈c.T)(t:Nt q g.s s'):Go c g (g.to s'):=by
 refine x23 ((S.stat.tab q hq).parts) fun oq pq zA zB q2=>?_
 have ne1:∀ r∈c.T,r.1≠q.2:=fun r hr z=>by
  refine x23 ((S.stat.tab r hr).parts) fun o ps h1 h2 zA=>?_
  rw [z,q2] at h1
  cases h1
  cases h2
 have le:LeS c (fun zA=>False) g (g.to s'):=by
  refine ⟨fun zA zB e=>e,fun zA zB zC e=>e,fun x o e=>?_,fun x o e zA zB h3=>t.keep x o (h3 q hq) e,fun r hr e=>?_,t.os,t.gens,t.tk,fun zA zB e=>.inl e⟩
  ·by_cases hx:x=q.2
   ·subst hx
    refine x23 t.tab.parts fun zA ps zB zC t=>?_
    exact ⟨_,t⟩
   ·exact ⟨o,t.keep x o hx e⟩
  ·obtain ⟨ps,⟨⟨o,vs,h1,r1⟩,h3⟩,tr⟩:=e
   by_cases hx:r.2=q.2
   ·obtain ⟨ps',⟨_,t'⟩,tr'⟩:=t.tab
    exact ⟨ps',⟨⟨o,vs,t.keep _ _ (ne1 r hr) h1,r1⟩,by rw [hx];exact t'⟩,tr'⟩
   ·exact ⟨ps,⟨⟨o,vs,t.keep _ _ (ne1 r hr) h1,r1⟩,t.keep _ _ hx h3⟩,tr⟩
 have hold:=(ok.tabLow q hq).1
 refine ⟨⟨S.stat.le ok (fun zA m=>S.mutHigh m) (fun zA y=>y.elim) le,⟨S.heap.len,fun n p o e1 e2=>?_,S.heap.apart,fun n p e=>(S.heap.ex n p e).imp (fun w=>w.elim fun o e=>le.ex _ _ e) fun w=>w.elim fun o e=>le.ex _ _ e⟩,Nat.lt_of_lt_of_le S.pos t.tk,S.high⟩,le⟩
 have hi:=S.high n p e1
 exact (S.heap.obj n p o e1 e2).move (fun zA zB r=>le.rel S.stat.tab A6.none r) (fun zA zB r=>le.rels S.stat.tab A6.none r) (fun o e=>t.keep _ _ (fun z=>hi.1 (z▸hold)) e) fun o e=>t.keep _ _ (fun z=>hi.2 (z▸hold)) e
end
theorem L8(n:Nat):passing (fun zA=>true) n 0=List.range n:=by
 unfold passing
 rw [List.drop_zero,List.filter_eq_self]
 intro a _;rfl
noncomputable def di(v:Value):Bool:=match v with|.str _ _=>true|_=>false
noncomputable def dj(v:Value):Bool:=match v with|.int _ _=>true|_=>false
noncomputable def dk(v:Value):Bool:=match v with|.bool _=>true|_=>false
theorem Wx{v:Value}(h:di v=true):∃ s t,v=.str s t:=by cases v<;>first|exact ⟨_,_,rfl⟩|exact Bool.noConfusion h
theorem Wy{v:Value}(h:dj v=true):∃ s t,v=.int s t:=by cases v<;>first|exact ⟨_,_,rfl⟩|exact Bool.noConfusion h
theorem dl{v:Value}(h:dk v=true):∃ b,v=.bool b:=by cases v<;>first|exact ⟨_,rfl⟩|exact Bool.noConfusion h
structure L9(K:Frag)(a p:Addr)(dd:Option Addr)(vs:Array Value)(sl:Array (Option Value)):Prop where
 at_:K.lookup a=some ⟨.type "code",dd,.fields vs,sl⟩
 p11:vs[11]?=some (.ref p)
 rest:(di (vs.getD 18 .none)&&(dj (vs.getD 7 .none)&&(dk (vs.getD 9 .none)&&dj (vs.getD 10 .none))))=true
section
variable {M:Model} {A:Around} {E:Value→Shared→Prop} {s:Shared}
theorem wn{env:Env}{cA pA:Addr}{K:Frag}{dd:Option Addr}{vs:Array Value}{sl:Array (Option Value)}{pos:Pos}{qn:Str}{scope:Scope}{Q:Value→Shared→Prop}(X:K.In s.heap)(hp:L9 K cA pA dd vs sl)(hne:cA≠pA)(hc:env.code=.ref cA)(ht:O2 (cA,pA) s.heap)
  (hQ:∀ code h' tk,Heap.ExtBut pA s.heap h'→O2 (cA,pA) h'→s.toks≤tk→Q code {s with heap:=h',toks:=tk}):wpAny M A (genexprCode env pos qn scope) Q E s:=Ak hp.rest fun e18 e=>Ak e fun e7 e=>Ak e fun e9 e10=>by
 refine x12 ht fun ps T tr=>?_
 have ho:=X _ _ hp.at_
 have h11':vs.getD 11 .none=.ref pA:=by
  rw [Array.getD_eq_getD_getElem?,hp.p11];rfl
 cases hnf:codeAmong pos ps.toList with
 | some cv=>
  unfold genexprCode codeAt
  rw [hc,if_neg (show ¬((Value.ref cA==Value.none)=true) from Bool.false_ne_true)]
  refine wpAny_bind (wpAny_fieldsOf ho rfl ?_)
  rw [h11']
  refine wpAny_bind (wpAny_fieldsOf T.2 rfl ?_)
  rw [hnf]
  exact wpAny_pure (hQ cv s.heap s.toks (Heap.ExtBut.refl _ _) ⟨ps,T,tr⟩ (Nat.le_refl _))
 | none=>
  refine x21 (Wx e18) fun file tf e18=>?_
  refine x21 (Wy e7) fun flags tg e7=>?_
  refine x11 (dl e9) fun inF e9=>?_
  refine x21 (Wy e10) fun text tt e10=>?_
  have isC:s.heap.IsCode cA pA ps:=⟨_,vs,file,tf,flags,tg,inF,text,tt,_,ho,rfl,h11',e18,e7,e9,e10,T.2,rfl,tr,hne⟩
  refine wpAny_with_toks (Nat.le_refl s.toks) (wpAny_genexprCodeX hc isC T hnf fun c' h' tk hk zA zB hcd zC hT zD=>?_)
  intro htk
  refine hQ _ h' tk hk ⟨_,hT,?_⟩ htk
  obtain ⟨_,_,_,_,_,_,_,_,_,_,_,_,_,_,_,_,_,_,hpd,htr,_⟩:=hcd
  exact htr
end
noncomputable def Rh:MSs:=(.cons (.assign 3 (.bcall .max (.cons (.var 0) (.cons (.var 1) (.cons (.var 2) .nil)))))
 (.cons (.assign 4 (.bcall .min (.cons (.var 0) (.cons (.var 1) (.cons (.var 2) .nil)))))
 (.cons (.assign 5 (.bin .Add (.var 3) (.var 4)))
 (.cons (.assign 6 (.bin .Sub (.var 3) (.var 4)))
 (.cons (.assign 7 (.bin .Div (.var 5) (.flt 4611686018427387904)))
 (.cons (.cond (.cmp .Eq (.var 4) (.var 3)) (.cons (.ret (.tup (.cons (.flt 0) (.cons (.var 7) (.cons (.flt 0) .nil)))))
 .nil) .nil)
 (.cons (.cond (.cmp .LtE (.var 7) (.flt 4602678819172646912)) (.cons (.assign 8 (.bin .Div (.var 6) (.var 5)))
 .nil) (.cons (.assign 8 (.bin .Div (.var 6) (.bin .Sub (.bin .Sub (.flt 4611686018427387904) (.var 3)) (.var 4))))
 .nil))
 (.cons (.assign 9 (.bin .Div (.bin .Sub (.var 3) (.var 0)) (.var 6)))
 (.cons (.assign 10 (.bin .Div (.bin .Sub (.var 3) (.var 1)) (.var 6)))
 (.cons (.assign 11 (.bin .Div (.bin .Sub (.var 3) (.var 2)) (.var 6)))
 (.cons (.cond (.cmp .Eq (.var 0) (.var 3)) (.cons (.assign 12 (.bin .Sub (.var 11) (.var 10)))
 .nil) (.cons (.cond (.cmp .Eq (.var 1) (.var 3)) (.cons (.assign 12 (.bin .Sub (.bin .Add (.flt 4611686018427387904) (.var 9)) (.var 11)))
 .nil) (.cons (.assign 12 (.bin .Sub (.bin .Add (.flt 4616189618054758400) (.var 10)) (.var 9)))
 .nil))
 .nil))
 (.cons (.assign 12 (.bin .Mod (.bin .Div (.var 12) (.flt 4618441417868443648)) (.flt 4607182418800017408)))
 (.cons (.ret (.tup (.cons (.var 12) (.cons (.var 7) (.cons (.var 8) .nil)))))
 .nil)))))))))))))
noncomputable def Dm:Fn:=⟨3,[],13,Rh,none⟩
noncomputable def Jy:List (Str×Nat):=[("r",0),("g",1),("b",2),("maxc",3),("minc",4),("sumc",5),("rangec",6),("l",7),("s",8),("rc",9),("gc",10),("bc",11),("h",12)]
noncomputable def Ri:MSs:=(.cons (.assign 3 (.bcall .max (.cons (.var 0) (.cons (.var 1) (.cons (.var 2) .nil)))))
 (.cons (.assign 4 (.bcall .min (.cons (.var 0) (.cons (.var 1) (.cons (.var 2) .nil)))))
 (.cons (.assign 5 (.bin .Sub (.var 3) (.var 4)))
 (.cons (.assign 6 (.var 3))
 (.cons (.cond (.cmp .Eq (.var 4) (.var 3)) (.cons (.ret (.tup (.cons (.flt 0) (.cons (.flt 0) (.cons (.var 6) .nil)))))
 .nil) .nil)
 (.cons (.assign 7 (.bin .Div (.var 5) (.var 3)))
 (.cons (.assign 8 (.bin .Div (.bin .Sub (.var 3) (.var 0)) (.var 5)))
 (.cons (.assign 9 (.bin .Div (.bin .Sub (.var 3) (.var 1)) (.var 5)))
 (.cons (.assign 10 (.bin .Div (.bin .Sub (.var 3) (.var 2)) (.var 5)))
 (.cons (.cond (.cmp .Eq (.var 0) (.var 3)) (.cons (.assign 11 (.bin .Sub (.var 10) (.var 9)))
 .nil) (.cons (.cond (.cmp .Eq (.var 1) (.var 3)) (.cons (.assign 11 (.bin .Sub (.bin .Add (.flt 4611686018427387904) (.var 8)) (.var 10)))
 .nil) (.cons (.assign 11 (.bin .Sub (.bin .Add (.flt 4616189618054758400) (.var 9)) (.var 8)))
 .nil))
 .nil))
 (.cons (.assign 11 (.bin .Mod (.bin .Div (.var 11) (.flt 4618441417868443648)) (.flt 4607182418800017408)))
 (.cons (.ret (.tup (.cons (.var 11) (.cons (.var 7) (.cons (.var 6) .nil)))))
 .nil))))))))))))
noncomputable def Ej:Fn:=⟨3,[],12,Ri,none⟩
noncomputable def Jz:List (Str×Nat):=[("r",0),("g",1),("b",2),("maxc",3),("minc",4),("rangec",5),("v",6),("s",7),("rc",8),("gc",9),("bc",10),("h",11)]
noncomputable def dm:MSs:=(.cons (.aattr (.var 0) 0 (.var 2))
 (.cons (.aattr (.var 0) 1 (.var 3))
 (.cons (.aattr (.var 0) 2 (.bcall .len (.cons (.var 3) .nil)))
 (.cons (.aattr (.var 0) 3 (.var 4))
 (.cons (.aattr (.var 0) 4 (.mlst .nil))
 (.cons (.aattr (.var 0) 5 (.new 192 (.cons (.var 1) .nil)))
 .nil))))))
noncomputable def Ma:Fn:=⟨5,[],5,dm,none⟩
noncomputable def Rj:List (Str×Nat):=[("self",0),("headerlen",1),("maxlen",2),("continuation_ws",3),("splitchars",4)]
noncomputable def m8:MSs:=(.cons (.expr (.meth 6 (.var 0) .nil))
 (.cons (.ret (.scall .join (.var 1) (.cons (.attr (.var 0) 4) .nil)))
 .nil))
noncomputable def Rk:Fn:=⟨2,[],2,m8,none⟩
noncomputable def Wz:List (Str×Nat):=[("self",0),("linesep",1)]
noncomputable def Rl:MSs:=(.cons (.assign 1 (.meth 2 (.attr (.var 0) 5) .nil))
 (.cons (.cond (.cmp .NotEq (.var 1) (.tup (.cons (.str " ") (.cons (.str "") .nil)))) (.cons (.expr (.methS 0 (.attr (.var 0) 5) (.var 1)))
 .nil) .nil)
 (.cons (.cond (.cmp .Gt (.bcall .len (.cons (.attr (.var 0) 5) .nil)) (.int 0)) (.cons (.cond (.bop .And (.cons (.meth 4 (.attr (.var 0) 5) .nil) (.cons (.attr (.var 0) 4) .nil))) (.cons (.augsub (.attr (.var 0) 4) (.neg (.int 1)) .Add (.bcall .str (.cons (.attr (.var 0) 5) .nil)))
 .nil) (.cons (.expr (.scall .append (.attr (.var 0) 4) (.cons (.bcall .str (.cons (.attr (.var 0) 5) .nil)) .nil)))
 .nil))
 .nil) .nil)
 (.cons (.expr (.meth 3 (.attr (.var 0) 5) .nil))
 .nil))))
noncomputable def Ek:Fn:=⟨1,[],2,Rl,none⟩
noncomputable def J0:List (Str×Nat):=[("self",0),("end_of_line",1)]
noncomputable def Hs:MSs:=(.cons (.cond (.scall .isspace (.var 3) .nil) (.cons (.assign 1 (.sub (.sub (.attr (.var 0) 5) (.var 4)) (.int 0)))
 (.cons (.cond (.bop .And (.cons (.var 1) (.cons (.cmp .Eq (.sub (.var 1) (.int 0)) (.var 3)) .nil))) (.cons .brk
 .nil) .nil)
 .nil)) .nil)
 (.cons (.assign 5 (.sub (.sub (.attr (.var 0) 5) (.bin .Sub (.var 4) (.int 1))) (.int 1)))
 (.cons (.cond (.bop .And (.cons (.var 5) (.cons (.cmp .Eq (.sub (.var 5) (.neg (.int 1))) (.var 3)) .nil))) (.cons .brk
 .nil) .nil)
 .nil)))
noncomputable def Ht:MSs:=(.cons (.each 4 (.rng (.cons (.bin .Sub (.meth 5 (.attr (.var 0) 5) .nil) (.int 1)) (.cons (.int 0) (.cons (.neg (.int 1)) .nil)))) Hs (.cons .cont
 .nil))
 (.cons .brk
 .nil))
noncomputable def I6:MSs:=(.cons (.expr (.meth 0 (.attr (.var 0) 5) (.cons (.var 1) (.cons (.var 2) .nil))))
 (.cons (.cond (.cmp .Gt (.bcall .len (.cons (.attr (.var 0) 5) .nil)) (.attr (.var 0) 0)) (.cons (.each 3 (.val (.attr (.var 0) 3)) Ht (.cons .bad (.cons .bad (.cons .bad (.cons .bad .nil)))))
 (.cons (.assign 7 (.meth 1 (.attr (.var 0) 5) (.cons (.var 4) .nil)))
 (.cons (.expr (.scall .append (.attr (.var 0) 4) (.cons (.bcall .str (.cons (.attr (.var 0) 5) .nil)) .nil)))
 (.cons (.expr (.meth 3 (.attr (.var 0) 5) (.cons (.var 7) .nil)))
 .nil)))) .nil)
 .nil))
noncomputable def Bh:Fn:=⟨3,[],8,I6,none⟩
noncomputable def El:List (Str×Nat):=[("self",0),("fws",1),("string",2),("ch",3),("i",4),("prevpart",5),("part",6),("remainder",7)]
noncomputable def dn:MSs:=(.cons (.aattr (.var 0) 6 (.var 1))
 .nil)
noncomputable def I7:Fn:=⟨2,[.int 0],2,dn,some (false,0)⟩
noncomputable def Rn:List (Str×Nat):=[("self",0),("initial_size",1)]
noncomputable def dp:MSs:=(.cons (.expr (.scall .append (.var 0) (.cons (.tup (.cons (.var 1) (.cons (.var 2) .nil))) .nil)))
 .nil)
noncomputable def Mb:Fn:=⟨3,[],3,dp,none⟩
noncomputable def Ro:List (Str×Nat):=[("self",0),("fws",1),("string",2)]
noncomputable def Pm:MSs:=(.cons (.assign 2 (.slc (.var 0) (.var 1) .none false))
 (.cons (.aslc (.var 0) (.var 1) (.lst .nil))
 (.cons (.ret (.var 2))
 .nil)))
noncomputable def Dq:Fn:=⟨2,[.int 0],3,Pm,none⟩
noncomputable def Hu:List (Str×Nat):=[("self",0),("i",1),("popped",2)]
noncomputable def m9:MSs:=(.cons (.cond (.cmp .Eq (.meth 5 (.var 0) .nil) (.int 0)) (.cons (.ret (.tup (.cons (.str "") (.cons (.str "") .nil))))
 .nil) .nil)
 .nil)
noncomputable def Rp:Fn:=⟨1,[],1,m9,some (true,1)⟩
noncomputable def W0:List (Str×Nat):=[("self",0)]
noncomputable def Yl:MSs:=(.cons (.cond (.cmp .Is (.var 1) .none) (.cons (.assign 1 (.lst .nil))
 .nil) .nil)
 (.cons (.aslc (.var 0) .none (.var 1))
 (.cons (.aattr (.var 0) 6 (.int 0))
 .nil)))
noncomputable def Gh:Fn:=⟨2,[.none],2,Yl,none⟩
noncomputable def Oi:List (Str×Nat):=[("self",0),("startval",1)]
noncomputable def Nv:MSs:=(.cons (.ret (.bop .And (.cons (.cmp .Eq (.attr (.var 0) 6) (.int 0)) (.cons (.bop .Or (.cons (.not (.var 0)) (.cons (.scall .isspace (.bcall .str (.cons (.var 0) .nil)) .nil) .nil))) .nil))))
 .nil)
noncomputable def Da:Fn:=⟨1,[],1,Nv,none⟩
noncomputable def Gy:List (Str×Nat):=[("self",0)]
noncomputable def Mc:MSs:=.nil
noncomputable def Cn:Fn:=⟨1,[],1,Mc,some (true,2)⟩
noncomputable def Ft:List (Str×Nat):=[("self",0)]
noncomputable def Md:MSs:=(.cons (.asub (.var 2) (.bin .Sub (.bin .Sub (.bin .Add (.var 3) (.var 1)) (.int 1)) (.var 4)) (.sub (.var 0) (.bin .Add (.var 3) (.var 4))))
 .nil)
noncomputable def Uq:MSs:=(.cons (.each 4 (.rng (.cons (.var 1) .nil)) Md .nil)
 .nil)
noncomputable def Ym:MSs:=(.cons (.assign 2 (.bcall .bytearray (.cons (.bcall .len (.cons (.var 0) .nil)) .nil)))
 (.cons (.each 3 (.rng (.cons (.int 0) (.cons (.bcall .len (.cons (.var 0) .nil)) (.cons (.var 1) .nil)))) Uq .nil)
 (.cons (.ret (.bcall .bytes (.cons (.var 2) .nil)))
 .nil)))
noncomputable def Hv:Fn:=⟨2,[],5,Ym,none⟩
noncomputable def Oj:List (Str×Nat):=[("data",0),("width",1),("swapped_data",2),("i",3),("j",4)]
noncomputable def Fu:MSs:=(.cons (.try_ (.cons (.esc 0 "&" "&amp;")
 (.cons (.esc 0 "<" "&lt;")
 (.cons (.esc 0 ">" "&gt;")
 (.cons (.esc 0 "\"" "&quot;")
 (.cons (.esc 0 "\r" "&#13;")
 (.cons (.esc 0 "\n" "&#10;")
 (.cons (.esc 0 "\t" "&#09;")
 (.cons (.ret (.var 0))
 .nil)))))))))
 .nil)
noncomputable def Co:Fn:=⟨1,[],1,Fu,none⟩
noncomputable def Fw:List (Str×Nat):=[("text",0)]
noncomputable def Df:MSs:=(.cons (.try_ (.cons (.esc 0 "&" "&amp;")
 (.cons (.esc 0 ">" "&gt;")
 (.cons (.esc 0 "\"" "&quot;")
 (.cons (.ret (.var 0))
 .nil)))))
 .nil)
noncomputable def Ba:Fn:=⟨1,[],1,Df,none⟩
noncomputable def Dg:List (Str×Nat):=[("text",0)]
noncomputable def Dh:MSs:=(.cons (.try_ (.cons (.esc 0 "&" "&amp;")
 (.cons (.esc 0 "<" "&lt;")
 (.cons (.esc 0 "\"" "&quot;")
 (.cons (.esc 0 "\t" "&#x9;")
 (.cons (.esc 0 "\n" "&#xA;")
 (.cons (.esc 0 "\r" "&#xD;")
 (.cons (.ret (.var 0))
 .nil))))))))
 .nil)
noncomputable def Bb:Fn:=⟨1,[],1,Dh,none⟩
noncomputable def Di:List (Str×Nat):=[("text",0)]
noncomputable def J1:MSs:=(.cons (.augsub (.var 1) (.bin .Mod (.var 2) (.int 13)) .Add (.bin .Mod (.sub (.var 0) (.var 2)) (.int 5040)))
 .nil)
noncomputable def Ur:MSs:=(.cons (.assign 1 (.mlst (.cons (.int 0) (.cons (.int 1) (.cons (.int 2) (.cons (.int 5) (.cons (.int 3) (.cons (.int 6) (.cons (.int 4) (.cons (.int 9) (.cons (.int 8) (.cons (.int 7) (.cons (.int 11) (.cons (.int 22) (.cons (.int 27) .nil)))))))))))))))
 (.cons (.each 2 (.rng (.cons (.bcall .min (.cons (.bcall .len (.cons (.var 0) .nil)) (.cons (.int 63) .nil))) .nil)) J1 .nil)
 (.cons (.ret (.frz (.var 1)))
 .nil)))
noncomputable def Fz:Fn:=⟨1,[],3,Ur,none⟩
noncomputable def Me:List (Str×Nat):=[("script",0),("cells",1),("place",2)]
noncomputable def Yn:MSs:=(.cons (.cond (.cmp .Eq (.var 0) (.int 0)) (.cons (.ret (.sub (.str "\"<&\"<\r\">\n\">\t") (.bin .Mod (.var 1) (.int 12))))
 .nil) .nil)
 (.cons (.cond (.cmp .Eq (.var 0) (.int 1)) (.cons (.ret (.sub (.str "\"<&\"<\r\"<\n\"<\t") (.bin .Mod (.var 1) (.int 12))))
 .nil) .nil)
 (.cons (.ret (.sub (.str "\">&") (.bin .Mod (.var 1) (.int 3))))
 .nil)))
noncomputable def Hw:Fn:=⟨2,[],2,Yn,none⟩
noncomputable def Ok:List (Str×Nat):=[("which",0),("number",1)]
noncomputable def Mf:MSs:=(.cons (.cond (.bop .And (.cons (.cmp .Eq (.var 0) (.int 1)) (.cons (.cmp .In (.var 1) (.str "\t\n\r")) .nil))) (.cons (.ret (.bin .Add (.bin .Add (.str "&#x") (.dget [("\t","9"),("\n","A"),("\r","D")] (.var 1))) (.str ";")))
 .nil) .nil)
 (.cons (.ret (.bin .Add (.bin .Add (.str "&") (.dget [("\"","quot"),("<","lt"),(">","gt"),("&","amp"),("\t","#09"),("\n","#10"),("\r","#13")] (.var 1))) (.str ";")))
 .nil))
noncomputable def Cp:Fn:=⟨2,[],2,Mf,none⟩
noncomputable def F0:List (Str×Nat):=[("which",0),("sign",1)]
noncomputable def Us:MSs:=(.cons (.cond (.cmp .Eq (.var 0) (.int 0)) (.cons (.ret (.call 217 (.cons (.var 1) .nil)))
 .nil) .nil)
 (.cons (.cond (.cmp .Eq (.var 0) (.int 1)) (.cons (.ret (.call 231 (.cons (.var 1) .nil)))
 .nil) .nil)
 (.cons (.ret (.call 224 (.cons (.var 1) .nil)))
 .nil)))
noncomputable def F1:Fn:=⟨2,[],2,Us,none⟩
noncomputable def Mg:List (Str×Nat):=[("which",0),("text",1)]
noncomputable def Hx:MSs:=(.cons (.expr (.meth 7 (.var 3) (.cons (.str " ") (.cons (.var 4) .nil))))
 .nil)
noncomputable def Rq:MSs:=(.cons (.assign 3 (.new 108 (.cons (.var 2) (.cons (.var 1) (.cons (.str " ") (.cons (.str " ") .nil))))))
 (.cons (.each 4 (.val (.var 0)) Hx .nil)
 (.cons (.ret (.meth 8 (.var 3) (.cons (.str "\n") .nil)))
 .nil)))
noncomputable def Em:Fn:=⟨3,[],5,Rq,none⟩
noncomputable def J2:List (Str×Nat):=[("words",0),("width",1),("room",2),("formatter",3),("word",4)]
noncomputable def Fb:MSs:=(.cons (.cond (.cmp .Gt (.bin .Add (.bin .Add (.var 4) (.int 1)) (.bcall .len (.cons (.var 5) .nil))) (.var 1)) (.cons (.expr (.scall .append (.var 3) (.cons (.str "") .nil)))
 (.cons (.assign 4 (.int 0))
 .nil)) .nil)
 (.cons (.augsub (.var 3) (.neg (.int 1)) .Add (.bin .Add (.str " ") (.var 5)))
 (.cons (.augv 4 .Add (.bin .Add (.int 1) (.bcall .len (.cons (.var 5) .nil))))
 .nil)))
noncomputable def Mh:MSs:=(.cons (.assign 3 (.mlst (.cons (.str "") .nil)))
 (.cons (.assign 4 (.var 2))
 (.cons (.each 5 (.val (.var 0)) Fb .nil)
 (.cons (.ret (.scall .join (.str "\n") (.cons (.var 3) .nil)))
 .nil))))
noncomputable def Cq:Fn:=⟨3,[],6,Mh,none⟩
noncomputable def F2:List (Str×Nat):=[("words",0),("width",1),("room",2),("rows",3),("filled",4),("word",5)]
noncomputable def Hy:MSs:=(.cons (.expr (.scall .append (.var 2) (.cons (.slc (.var 0) (.var 3) (.bin .Add (.var 3) (.var 4)) false) .nil)))
 (.cons (.augv 3 .Add (.var 4))
 .nil))
noncomputable def Rr:MSs:=(.cons (.assign 2 (.mlst .nil))
 (.cons (.assign 3 (.int 0))
 (.cons (.each 4 (.val (.var 1)) Hy .nil)
 (.cons (.ret (.frz (.var 2)))
 .nil))))
noncomputable def En:Fn:=⟨2,[],5,Rr,none⟩
noncomputable def J3:List (Str×Nat):=[("kinds",0),("sizes",1),("rows",2),("place",3),("size",4)]
noncomputable def Pn:ME:=(.sub (.var 3) (.neg (.int 1)))
noncomputable def Po:ME:=(.sub (.var 3) (.int 0))
noncomputable def Rs:MSs:=(.cons (.assign 1 (.comp 1 Pn (.cons 3 (.val (.slc (.var 0) (.int 1) .none false)) .nil)))
 (.cons (.assign 2 (.comp 1 Po (.cons 3 (.val (.slc (.var 0) .none (.neg (.int 1)) false)) .nil)))
 (.cons (.ret (.bin .Add (.bin .Add (.bin .Add (.sub (.var 0) (.int 0)) (.var 1)) (.slc (.slc (.sub (.var 0) (.neg (.int 1))) .none .none true) (.int 1) .none false)) (.slc (.var 2) .none .none true)))
 .nil)))
noncomputable def Eo:Fn:=⟨1,[],3,Rs,none⟩
noncomputable def J4:List (Str×Nat):=[("rows",0),("right",1),("left",2)]
noncomputable def Ut:MSs:=(.cons (.ret (.tup (.cons (.bin .Add (.int 1) (.bin .Mod (.var 0) (.int 8))) (.cons (.bin .Mod (.bin .FloorDiv (.var 0) (.int 8)) (.int 41)) .nil))))
 .nil)
noncomputable def Hz:Fn:=⟨1,[],1,Ut,none⟩
noncomputable def Mi:List (Str×Nat):=[("number",0)]
noncomputable def Yo:ME:=(.bin .Div (.bin .Add (.var 3) (.bin .Mult (.var 2) (.scall .count (.var 0) (.cons (.var 4) .nil)))) (.flt 4634204016564240384))
noncomputable def du:MSs:=(.cons (.unpack [2,3] (.call 292 (.cons (.var 1) .nil)))
 (.cons (.ret (.comp 1 Yo (.cons 4 (.rng (.cons (.int 3) .nil)) .nil)))
 .nil))
noncomputable def Mj:Fn:=⟨2,[],4,du,none⟩
noncomputable def Rt:List (Str×Nat):=[("kinds",0),("number",1),("paint",2),("white",3)]
noncomputable def dw:MSs:=(.cons (.ret (.bin .Sub (.bin .Mod (.bin .Add (.bin .Sub (.var 1) (.var 0)) (.int 1)) (.int 3)) (.int 1)))
 .nil)
noncomputable def Pp:Fn:=⟨2,[],2,dw,none⟩
noncomputable def Ru:List (Str×Nat):=[("here",0),("there",1)]
noncomputable def Yp:MSs:=(.cons (.unpack [3,4] (.call 292 (.cons (.var 2) .nil)))
 (.cons (.unpack [5,6,7] (.call 297 (.cons (.lst (.cons (.var 0) (.cons (.var 1) .nil))) (.cons (.var 2) .nil))))
 (.cons (.unpack [8,9,10] (.call 35 (.cons (.var 5) (.cons (.var 6) (.cons (.var 7) .nil)))))
 (.cons (.assign 11 (.bin .Mult (.var 3) (.scall .count (.lst (.cons (.var 0) (.cons (.var 1) .nil))) (.cons (.var 0) .nil))))
 (.cons (.assign 12 (.bin .Add (.var 4) (.var 11)))
 (.cons (.cond (.bop .Or (.cons (.cmp .NotEq (.var 10) (.bin .Div (.var 12) (.flt 4634204016564240384))) (.cons (.cmp .NotEq (.bcall .round (.cons (.bin .Mult (.bin .Mult (.var 9) (.var 12)) (.int 1000000)) .nil)) (.bin .Mult (.var 11) (.int 1000000))) .nil))) (.cons (.ret .none)
 .nil) .nil)
 (.cons (.cond (.bop .Or (.cons (.cmp .Lt (.var 8) (.flt 0)) (.cons (.cmp .GtE (.var 8) (.flt 4607182418800017408)) .nil))) (.cons (.ret .none)
 .nil) .nil)
 (.cons (.ret (.bin .Sub (.bin .Mod (.bin .Add (.bin .Sub (.bcall .round (.cons (.bin .Mult (.var 8) (.int 12000000)) .nil)) (.bin .Mult (.int 4000000) (.var 0))) (.int 6000000)) (.int 12000000)) (.int 6000000)))
 .nil))))))))
noncomputable def Ia:Fn:=⟨3,[],13,Yp,none⟩
noncomputable def Ol:List (Str×Nat):=[("here",0),("there",1),("number",2),("paint",3),("white",4),("red",5),("green",6),("blue",7),("hue",8),("share",9),("value",10),("spread",11),("most",12)]
noncomputable def I8:ME:=(.scall .count (.var 0) (.cons (.var 16) .nil))
noncomputable def Ep:ME:=(.call 304 (.cons (.var 13) (.cons (.var 16) .nil)))
noncomputable def Kj:MSs:=(.cons (.unpack [2,3] (.call 292 (.cons (.var 1) .nil)))
 (.cons (.unpack [4,5,6] (.call 297 (.cons (.var 0) (.cons (.var 1) .nil))))
 (.cons (.unpack [7,8,9] (.call 28 (.cons (.var 4) (.cons (.var 5) (.cons (.var 6) .nil)))))
 (.cons (.assign 10 (.comp 1 I8 (.cons 16 (.rng (.cons (.int 3) .nil)) .nil)))
 (.cons (.assign 11 (.bin .Mult (.var 2) (.bin .Sub (.bcall .max (.cons (.var 10) .nil)) (.bcall .min (.cons (.var 10) .nil)))))
 (.cons (.assign 12 (.bin .Add (.bin .Mult (.int 2) (.var 3)) (.bin .Mult (.var 2) (.bin .Add (.bcall .max (.cons (.var 10) .nil)) (.bcall .min (.cons (.var 10) .nil))))))
 (.cons (.cond (.cmp .Eq (.var 11) (.int 0)) (.cons (.ret (.ite (.cmpD (.tup (.cons (.var 7) (.cons (.var 8) (.cons (.var 9) .nil)))) true (.cons (.flt 0) (.cons (.bin .Div (.var 12) (.flt 4638707616191610880)) (.cons (.flt 0) .nil)))) (.var 9) .none))
 .nil) .nil)
 (.cons (.assign 13 (.sub (.bcall .sorted (.cons (.var 0) .nil)) (.int 1)))
 (.cons (.assign 14 (.bin .Mod (.bin .Add (.bin .Mult (.int 4) (.var 13)) (.bcall .sum (.cons (.comp 1 Ep (.cons 16 (.val (.var 0)) .nil)) .nil))) (.int 12)))
 (.cons (.assign 15 (.lst (.cons (.bcall .round (.cons (.bin .Mult (.var 7) (.int 12000000)) .nil)) (.cons (.var 8) (.cons (.bcall .round (.cons (.bin .Mult (.bin .Mult (.var 9) (.bcall .min (.cons (.var 12) (.cons (.bin .Sub (.int 128) (.var 12)) .nil)))) (.int 1000000)) .nil)) .nil)))))
 (.cons (.ret (.ite (.cmpD (.var 15) false (.cons (.bin .Mult (.var 14) (.int 1000000)) (.cons (.bin .Div (.var 12) (.flt 4638707616191610880)) (.cons (.bin .Mult (.var 11) (.int 1000000)) .nil)))) (.var 9) .none))
 .nil)))))))))))
noncomputable def B6:Fn:=⟨2,[],16,Kj,none⟩
noncomputable def Fc:List (Str×Nat):=[("corners",0),("number",1),("paint",2),("white",3),("red",4),("green",5),("blue",6),("hue",7),("lightness",8),("share",9),("counts",10),("spread",11),("both",12),("most",13),("twelfths",14),("told",15)]
noncomputable def Cd:MSs:=(.cons (.cond (.bop .Or (.cons (.cmp .Eq (.bin .Add (.var 7) (.int 1)) (.bcall .len (.cons (.var 5) .nil))) (.cons (.bop .And (.cons (.cmp .Lt (.bin .Add (.var 6) (.int 1)) (.bcall .len (.cons (.var 4) .nil))) (.cons (.cmp .Eq (.bin .Mod (.var 1) (.int 2)) (.int 1)) .nil))) .nil))) (.cons (.assign 8 (.lst (.cons (.sub (.var 4) (.var 6)) (.cons (.sub (.var 4) (.bin .Add (.var 6) (.int 1))) (.cons (.sub (.var 5) (.var 7)) .nil)))))
 (.cons (.augv 6 .Add (.int 1))
 .nil)) (.cons (.assign 8 (.lst (.cons (.sub (.var 4) (.var 6)) (.cons (.sub (.var 5) (.bin .Add (.var 7) (.int 1))) (.cons (.sub (.var 5) (.var 7)) .nil)))))
 (.cons (.augv 7 .Add (.int 1))
 .nil)))
 (.cons (.augv 1 .FloorDiv (.int 2))
 (.cons (.assign 9 (.call 316 (.cons (.var 8) (.cons (.var 3) .nil))))
 (.cons (.augv 3 .Add (.int 37))
 (.cons (.cond (.cmp .Is (.var 9) .none) (.cons (.ret .none)
 .nil) .nil)
 (.cons (.cond (.cmp .Eq (.var 9) (.flt 0)) (.cons (.augv 2 .Add (.call 304 (.cons (.sub (.var 8) (.int 0)) (.cons (.sub (.var 8) (.int 1)) .nil))))
 .nil) .nil)
 .nil))))))
noncomputable def F3:MSs:=(.cons (.assign 6 (.int 0))
 (.cons (.assign 7 (.int 0))
 (.cons (.loop (.bop .Or (.cons (.cmp .Lt (.bin .Add (.var 6) (.int 1)) (.bcall .len (.cons (.var 4) .nil))) (.cons (.cmp .Lt (.bin .Add (.var 7) (.int 1)) (.bcall .len (.cons (.var 5) .nil))) .nil))) Cd)
 .nil)))
noncomputable def Uu:MSs:=(.cons (.assign 2 (.int 0))
 (.cons (.assign 3 (.var 1))
 (.cons (.zips 4 5 (.var 0) (.slc (.var 0) (.int 1) .none false) F3)
 (.cons (.ret (.var 2))
 .nil))))
noncomputable def F4:Fn:=⟨2,[],10,Uu,none⟩
noncomputable def Mk:List (Str×Nat):=[("rows",0),("cuts",1),("greys",2),("number",3),("upper",4),("lower",5),("i",6),("j",7),("corners",8),("share",9)]
noncomputable def E4:MSs:=(.cons (.assign 3 (.meth 5 (.var 1) .nil))
 (.cons (.cond (.bop .And (.cons (.cmp .Gt (.var 3) (.int 0)) (.cons (.cmp .Eq (.bcall .len (.cons (.sub (.sub (.var 1) (.bin .Sub (.var 3) (.int 1))) (.int 1)) .nil)) (.bcall .len (.cons (.var 2) .nil))) .nil))) (.cons .cont
 .nil) .nil)
 (.cons (.cond (.bop .And (.cons (.cmp .Gt (.var 3) (.int 1)) (.cons (.cmp .Eq (.bcall .len (.cons (.sub (.sub (.var 1) (.bin .Sub (.var 3) (.int 2))) (.int 1)) .nil)) (.bcall .len (.cons (.var 2) .nil))) .nil))) (.cons (.expr (.meth 2 (.var 1) .nil))
 .nil) (.cons (.expr (.meth 0 (.var 1) (.cons (.str "") (.cons (.var 2) .nil))))
 .nil))
 .nil)))
noncomputable def Yq:MSs:=(.cons (.assign 1 (.new 192 .nil))
 (.cons (.each 2 (.val (.var 0)) E4 .nil)
 (.cons (.ret (.var 1))
 .nil)))
noncomputable def Ib:Fn:=⟨1,[],4,Yq,none⟩
noncomputable def Om:List (Str×Nat):=[("words",0),("pile",1),("word",2),("high",3)]
noncomputable def Rv:MSs:=(.cons (.assign 1 (.bin .FloorDiv (.bin .Sub (.meth 5 (.var 0) .nil) (.int 1)) (.int 3)))
 (.cons (.cond (.bop .And (.cons (.cmp .Gt (.var 1) (.int 0)) (.cons (.cmp .Eq (.bin .Mod (.bin .Sub (.bcall .len (.cons (.sub (.sub (.var 0) (.int 1)) (.int 1)) .nil)) (.bcall .len (.cons (.sub (.sub (.var 0) (.int 0)) (.int 1)) .nil))) (.int 3)) (.int 2)) .nil))) (.cons (.ret (.neg (.var 1)))
 .nil) .nil)
 (.cons (.ret (.var 1))
 .nil)))
noncomputable def Er:Fn:=⟨1,[],2,Rv,none⟩
noncomputable def J5:List (Str×Nat):=[("pile",0),("around",1)]
noncomputable def rj:ME:=(.call 245 (.cons (.var 3) (.cons (.var 20) .nil)))
noncomputable def rm:ME:=(.call 252 (.cons (.var 3) (.cons (.var 20) .nil)))
noncomputable def rn:ME:=(.slc (.scall .split (.var 20) (.cons (.str " ") .nil)) (.int 1) .none false)
noncomputable def Aci:ME:=(.bin .Mod (.bcall .len (.cons (.var 21) .nil)) (.int 3))
noncomputable def rp:ME:=(.comp 1 Aci (.cons 21 (.val (.var 20)) .nil))
noncomputable def rq:ME:=(.bcall .list (.cons (.call 203 (.cons (.bcall .bytes (.cons (.var 20) .nil)) (.cons (.bcall .len (.cons (.var 20) .nil)) .nil))) .nil))
noncomputable def rt:ME:=(.var 21)
noncomputable def ru:ME:=(.slc (.var 20) .none .none true)
noncomputable def W2:ME:=(.bcall .len (.cons (.var 20) .nil))
noncomputable def dy:ME:=(.call 311 (.cons (.sub (.var 17) (.var 20)) (.cons (.sub (.var 17) (.bin .Add (.var 20) (.int 1))) (.cons (.bin .Add (.bin .FloorDiv (.var 2) (.int 180)) (.bin .Mult (.int 37) (.var 20))) .nil))))
noncomputable def Ae8:MSs:=(.cons (.assign 1 (.call 238 (.cons (.var 0) .nil)))
 (.cons (.assign 2 (.bcall .sum (.cons (.var 1) .nil)))
 (.cons (.assign 3 (.bin .Mod (.var 2) (.int 3)))
 (.cons (.assign 4 (.bin .Add (.int 12) (.bin .Mod (.bin .FloorDiv (.var 2) (.int 3)) (.int 12))))
 (.cons (.assign 5 (.bin .Mod (.bin .FloorDiv (.var 2) (.int 36)) (.int 5)))
 (.cons (.assign 6 (.comp 1 rj (.cons 20 (.val (.slc (.var 1) .none (.int 10) false)) .nil)))
 (.cons (.assign 7 (.scall .split (.call 259 (.cons (.var 3) (.cons (.scall .join (.str " ") (.cons (.var 6) .nil)) .nil))) (.cons (.str " ") .nil)))
 (.cons (.cond (.cmp .NotEq (.var 7) (.comp 1 rm (.cons 20 (.val (.var 6)) .nil))) (.cons (.ret (.bool false))
 .nil) .nil)
 (.cons (.assign 8 (.call 266 (.cons (.var 7) (.cons (.var 4) (.cons (.var 5) .nil)))))
 (.cons (.cond (.cmp .NotEq (.var 8) (.call 273 (.cons (.var 7) (.cons (.var 4) (.cons (.var 5) .nil))))) (.cons (.ret (.bool false))
 .nil) .nil)
 (.cons (.assign 9 (.comp 1 rn (.cons 20 (.val (.scall .split (.var 8) (.cons (.str "\n") .nil))) .nil)))
 (.cons (.assign 10 (.comp 1 rp (.cons 20 (.val (.var 9)) .nil)))
 (.cons (.assign 11 (.comp 1 rq (.cons 20 (.val (.var 10)) .nil)))
 (.cons (.assign 12 (.bcall .bytes (.cons (.comp 2 rt (.cons 20 (.val (.var 10)) (.cons 21 (.val (.var 20)) .nil))) .nil)))
 (.cons (.assign 13 (.call 203 (.cons (.var 12) (.cons (.bcall .len (.cons (.var 12) .nil)) .nil))))
 (.cons (.cond (.bop .Or (.cons (.cmp .NotEq (.var 11) (.comp 1 ru (.cons 20 (.val (.var 10)) .nil))) (.cons (.cmp .NotEq (.var 13) (.slc (.var 12) .none .none true)) (.cons (.not (.bcall .isinst (.cons (.var 13) (.cons (.glob 0) .nil)))) .nil)))) (.cons (.ret (.bool false))
 .nil) .nil)
 (.cons (.assign 14 (.call 280 (.cons (.bcall .list (.cons (.var 13) .nil)) (.cons (.slc (.comp 1 W2 (.cons 20 (.val (.var 10)) .nil)) .none .none true) .nil))))
 (.cons (.assign 15 (.call 330 (.cons (.call 285 (.cons (.var 9) .nil)) .nil)))
 (.cons (.assign 16 (.call 337 (.cons (.var 15) .nil)))
 (.cons (.cond (.cmp .NotEq (.bcall .len (.cons (.var 15) .nil)) (.bin .Add (.bin .Mult (.int 15) (.bcall .abs (.cons (.var 16) .nil))) (.bcall .len (.cons (.sub (.var 7) (.int 0)) .nil)))) (.cons (.ret (.bool false))
 .nil) .nil)
 (.cons (.assign 17 (.call 285 (.cons (.var 10) .nil)))
 (.cons (.assign 18 (.comp 1 dy (.cons 20 (.rng (.cons (.bin .Sub (.bcall .len (.cons (.var 17) .nil)) (.int 1)) .nil)) .nil)))
 (.cons (.cond (.bop .Or (.cons (.cmp .In .none (.var 18)) (.cons (.cmp .NotEq (.bcall .sum (.cons (.var 18) .nil)) (.bin .Mult (.int 6000000) (.var 16))) .nil))) (.cons (.ret (.bool false))
 .nil) .nil)
 (.cons (.assign 19 (.lst (.cons (.call 323 (.cons (.var 10) (.cons (.sub (.var 1) (.int 10)) .nil))) (.cons (.call 323 (.cons (.var 11) (.cons (.sub (.var 1) (.int 11)) .nil))) (.cons (.call 323 (.cons (.var 14) (.cons (.sub (.var 1) (.int 12)) .nil))) .nil)))))
 (.cons (.ret (.cmp .Eq (.var 19) (.lst (.cons (.var 16) (.cons (.neg (.var 16)) (.cons (.var 16) .nil))))))
 .nil)))))))))))))))))))))))))
noncomputable def law:Fn:=⟨1,[],20,Ae8,none⟩
noncomputable def Acj:List (Str×Nat):=[("script",0),("cells",1),("total",2),("which",3),("width",4),("room",5),("signs",6),("words",7),("text",8),("lines",9),("picture",10),("mirrored",11),("flat",12),("swapped",13),("turned",14),("pile",15),("around",16),("walk",17),("steps",18),("greys",19)]
noncomputable def fns:List (Addr×Fn):=[(28,Dm),(35,Ej),(49,Ma),(56,Rk),(70,Ek),(105,Bh),(129,I7),(136,Mb),(144,Dq),(152,Rp),(174,Gh),(181,Da),(189,Cn),(203,Hv),(217,Co),(224,Ba),(231,Bb),(238,Fz),(245,Hw),(252,Cp),(259,F1),(266,Em),(273,Cq),(280,En),(285,Eo),(292,Hz),(297,Mj),(304,Pp),(311,Ia),(316,B6),(323,F4),(330,Ib),(337,Er),(342,law)]
noncomputable def tb:Tb where
 globs:=[("bytes",.stat (.type "bytes"))]
 meths:=fun C m=>if C=108 then ([(6,70),(7,105),(8,56)]:List (Nat×Addr)).lookup m else if C=192 then ([(0,136),(1,144),(2,152),(3,174),(4,181),(5,189)]:List (Nat×Addr)).lookup m else none
 lenOf:=fun C=>if C=192 then some 159 else none
 strOf:=fun C=>if C=192 then some 166 else none
 initOf:=fun C=>if C=108 then some 49 else if C=192 then some 129 else none
 isList:=fun C=>C==192
 isCls:=fun C=>C==108||C==192
noncomputable def B8:V→Option (Str×Str)
 | .tup [.str a,.str b]=>if a.length≤1000∧b.length≤1000 then some (a,b) else none
 | _=>none
noncomputable def Ic(v:V):Int:=match B8 v with|some (a,b)=>(a.length:Int)+b.length|none=>0
noncomputable def F5(v:V):Str:=match B8 v with|some (a,b)=>Ce "" [a,b]|none=> ""
noncomputable def wo(vs:List V)(H:Hp)(K:KE):Prop:=one vs fun v=>Ni v fun n=>Nk H n fun C at_ items=>gd (C==192) (opt items fun l=>gd (l.all fun v=>(B8 v).isSome) (gd (decide (l.length≤1000)) (opt (at_.lookup 6) fun x=>Gw x fun k=>K (.int (k+(l.map Ic).sum)) H)))
noncomputable def wq(vs:List V)(H:Hp)(K:KE):Prop:=one vs fun v=>Ni v fun n=>Nk H n fun C zA items=>gd (C==192) (opt items fun l=>gd (l.all fun v=>(B8 v).isSome) (gd (decide (l.length≤1000))
 (gd (decide (((l.map F5).map (·.length)).sum+l.length≤1048576)) (K (.str (Ce "" (l.map F5))) H))))
noncomputable def Ph:Nat→Orc
 | 0=>fun zA zB zC zD=>False
 | k+1=>fun f vs H K=>(opt (fns.lookup f) fun fn=>uf tb (Ph k) fn vs H K)∨(f=159∧wo vs H K)∨(f=166∧wq vs H K)
theorem rx(k:Nat)(a b:Int)(H:Hp)(K:KE)(h:K (.int ((b-a+1) % 3-1)) H):Ph (k+1) 304 [.int a,.int b] H K:=
 .inl ⟨rfl,rfl,rfl,.inl h⟩
theorem Pq(k:Nat)(n:Int)(H:Hp)(K:KE)(h:K (.tup [.int (1+n % 8),.int (n / 8 % 41)]) H):Ph (k+1) 292 [.int n] H K:=
 .inl ⟨rfl,rfl,rfl,rfl,rfl,rfl,rfl,.inl h⟩
noncomputable def Ack(c:Cfg):Prop:=c.mg "__builtins__" = none∨∃ b o,c.mg "__builtins__" = some (.ref b)∧b≠builtinsNs∧c.K.lookup b=some o∧o.cls=.type "module" ∧o.dict=some builtinsNs∧o.data=.plain
theorem Agp{c:Cfg}{M:Model}{A:Around}{E:Value→Shared→Prop}{s:Shared}(ok:Bj c)(B:Ack c)(S:j7 c s.heap){Q:Addr→Shared→Prop}(h:Q builtinsNs s):wpAny M A (builtinsFor mainGlobals builtinsNs) Q E s:=by
 rcases B with e|⟨b,o,e1,e2,e3,e4,e5,e6⟩
 ·unfold builtinsFor
  refine wpAny_bind (wpAny_nsGet (S.main ok) ?_)
  rw [e]
  exact wpAny_pure h
 ·exact wpAny_builtinsFor (S.main ok) e1 e2 (S.K _ _ e3) e4 e5 e6 h
structure wt(c:Cfg)(scope:Scope)(cenv:Env)(s:Shared):Prop where
 scope:cenv.scope=scope
 globals:cenv.globals=mainGlobals
 builtins:cenv.builtins=builtinsNs
 K:c.K.In s.heap
 b:s.heap.Ns builtinsNs c.mb
noncomputable def wu(c:Cfg)(scope:Scope)(xa xb:Str)(elt:Expr)(Fv:Str→Str→Value→Prop):Prop:=
 ∀ {A:Around} {E:Value→Shared→Prop} {cenv:Env} {a b:Str} {ta tb:Tok} {s:Shared} {m:Str→Option Value},A.handled=none→a.length≤1000→b.length≤1000→wt c scope cenv s→s.heap.Ns cenv.locals m→m xa=some (.str a ta)→m xb=some (.str b tb)→
  wpAny c.M A (eval elt cenv) (fun y s'=>Fv a b y∧Keeps s s') E s
structure E5(scope:Scope)(xa xb:Str):Prop where
 co:scope.isCoroutine=false
 clos:∀ env:Env,closureFor scope env=pure []
 cell:∀ y∈scope.names,y.2≠.cell
 dot:scope.names.lookup (".0" : Str)=some NameKind.local
 a:scope.names.lookup xa=some .local
 b:scope.names.lookup xb=some .local
 ab:xa≠xb
 kind:scope.kind=.function
theorem ww{a b:Str}{r:Str×Str}(e:(if a.length≤1000∧b.length≤1000 then some (a,b) else none)=some r):r=(a,b)∧a.length≤1000∧b.length≤1000:=by
 by_cases h:a.length≤1000∧b.length≤1000
 ·rw [if_pos h] at e;exact ⟨(Option.some.inj e).symm,h⟩
 ·rw [if_neg h] at e;cases e
theorem wx{v:V}(e:(B8 v).isSome=true){P:V→Prop}(k:∀ a b,a.length≤1000→b.length≤1000→B8 (.tup [.str a,.str b])=some (a,b)→P (.tup [.str a,.str b])):P v:=by
 cases v<;>try exact Bool.noConfusion e
 case tup l=>
  cases l with
  | nil=>exact Bool.noConfusion e
  | cons x l=>
   cases x<;>try exact Bool.noConfusion e
   case str a=>
    cases l with
    | nil=>exact Bool.noConfusion e
    | cons y l=>
     cases y<;>try exact Bool.noConfusion e
     case str b=>
      cases l with
      | cons z l=>exact Bool.noConfusion e
      | nil=>
       refine x11 (Option.isSome_iff_exists.mp e) fun r hr=>?_
       refine x03 (ww (a:=a) (b:=b) hr) fun h1 h2 h3=>?_
       exact k a b h2 h3 (h1▸hr)
noncomputable abbrev J6(h:Heap)(l:List V)(xs:List Value)(j:Nat)(q:Addr)(vals:Array Value):Prop:=∃ a b ta tb,B8 (l.getD j .none)=some (a,b)∧xs[j]?=some (.ref q)∧h.IsTuple q vals∧vals=#[.str a ta,.str b tb]∧a.length≤1000∧b.length≤1000
theorem na{X:Addr→Prop}{ρ:Rho}{T:Nat}{h:Heap}{a b:Str}{ys:List Value}(r:Ae X ρ T h [.str a,.str b] ys):∃ ta tb,ys=[.str a ta,.str b tb]:=
 r.cons_E (P:=fun ys=>∃ ta tb,ys=[.str a ta,.str b tb]) fun y ys p q=>q.cons_E (P:=fun ys=>∃ ta tb,y::ys=[.str a ta,.str b tb]) fun z zs p2 q2=>q2.nil_E (P:=fun zs=>∃ ta tb,y::z::zs=[.str a ta,.str b tb]) (p.str_E (P:=fun y=>∃ ta tb,y::z::[]=[.str a ta,.str b tb]) fun ta=>p2.str_E (P:=fun z=>∃ ta' tb,Value.str a ta::z::[]=[.str a ta',.str b tb]) fun tb=>⟨ta,tb,rfl⟩)
theorem wy{X:Addr→Prop}{ρ:Rho}{T:Nat}{h:Heap}{l:List V}{xs:List Value}(r:Ae X ρ T h l xs)(hl:l.all (fun v=>(B8 v).isSome)=true):∃ (Ts:Nat→Addr) (vals:Nat→Array Value),∀ j,j<l.length→J6 h l xs j (Ts j) (vals j):=by
 have ex:∀ j,∃ q:Addr×Array Value,j<l.length→J6 h l xs j q.1 q.2:=fun j=>by
  by_cases hj:j<l.length
  ·refine x12 (r.get (List.getElem?_eq_getElem hj)) fun x e2 r2=>?_
   have hd:l.getD j .none=l[j]:=by rw [List.getD_eq_getElem?_getD,List.getElem?_eq_getElem hj];rfl
   refine wx (P:=fun v=>l.getD j .none=v→Ao X ρ T h v x→_) (List.all_eq_true.mp hl _ (List.getElem_mem hj)) (fun a b h1 h2 hp hd r2=>?_) hd r2
   refine r2.inv (fun x'=>x'=x→_) (fun q ys zA w2 w3 e=>?_) rfl
   refine x21 (na w3) fun ta tb e'=>?_
   subst e'
   exact ⟨(q,#[.str a ta,.str b tb]),fun zA=>⟨a,b,ta,tb,hd▸hp,e▸e2,⟨_,w2,rfl,_,rfl⟩,rfl,h1,h2⟩⟩
  ·exact ⟨(0,#[]),fun h=>absurd h hj⟩
 exact ⟨fun j=>(Classical.choose (ex j)).1,fun j=>(Classical.choose (ex j)).2,fun j hj=>Classical.choose_spec (ex j) hj⟩
section
variable {h:Heap} {l:List V} {xs:List Value} {j:Nat} {T:Addr} {vals:Array Value}
theorem J6.get(q:J6 h l xs j T vals):xs[j]?=some (.ref T):=by obtain ⟨a,b,ta,tb,_,e,_⟩:=q;exact e
theorem J6.tup(q:J6 h l xs j T vals):h.IsTuple T vals:=by obtain ⟨a,b,ta,tb,_,_,e,_⟩:=q;exact e
theorem J6.two(q:J6 h l xs j T vals):∃ x y,vals=#[x,y]:=by obtain ⟨a,b,ta,tb,_,_,_,e,_⟩:=q;exact ⟨_,_,e⟩
end
theorem Ae9{c:Cfg}{M:Model}{A:Around}{E:Value→Shared→Prop}{s:Shared}{a b:Addr}(h1:a=mainGlobals)(h2:b=builtinsNs)(ok:Bj c)(B:Ack c)(S:j7 c s.heap){Q:Addr→Shared→Prop}(h:Q builtinsNs s):wpAny M A (builtinsFor a b) Q E s:=by
 subst h1 h2;exact Agp ok B S h
structure Afa(c:Cfg)(A:Around)(q:Addr×Addr)(l:List V)(Fv:Str→Str→Value→Prop)(s s':Shared)(a:Addr)(fp wr:List Addr)(G':Array GenState→Array GenState→Prop)(P:Nat→Value→Prop)(St:Nat→Shared→Prop):Prop where
 grow:Nt q s s'
 new:∀ b∈wr,s.heap.get? b=none
 fpl:∀ b∈fp,b<s'.heap.objs.size
 mem:a∈fp
 bare:∀ x y,G' x y→AllBare x→AllBare y
 W:WalksS c.prog c.w A.in4 a fp wr G' l.length P St
 item:∀ j y,P j y→∃ a b,B8 (l.getD j .none)=some (a,b)∧Fv a b y
 st:St 0 s'
 ty:∀ i s,St i s→s.TypeIs (.ref a) "generator"
noncomputable def wz(l:List V)(Fv:Str→Str→Value→Prop)(j:Nat)(y:Value):Prop:=∃ a b,B8 (l.getD j .none)=some (a,b)∧Fv a b y
section
variable {X:Xc} {f:Fm} {ν:Nu} {g:Sg} {E:Value→Shared→Prop}
theorem ry(F:Fx X)(B:Ack X.c){q:Addr×Addr}(hq:q∈X.c.T){dd:Option Addr}{cvs:Array Value}{sl:Array (Option Value)}(hcp:L9 X.c.K q.1 q.2 dd cvs sl)(S:Si X f ν g)(hcode:f.env.code=.ref q.1){n:Nat}{C:Addr}{at_:List (Nat×V)}{l:List V}
  (hn:g.H[n]?=some (.inst C at_ (some l))) (L:Ef X.c.K C) (hit:findIn X.c.K (.ref C) "__iter__" = some (some (.builtin "list.__iter__"))) {x:Str} {i:Nat} (hx:K6 f.cx x i=true)
  (hv:ν[i]?=some (some (.loc n))) {scope:Scope} {xa xb:Str} (G:E5 scope xa xb) {elt:Expr} {Fv:Str→Str→Value→Prop} (he:wu X.c scope xa xb elt Fv) (hl:l.all (fun v=>(B8 v).isSome)=true) {pa pb pt px pos:Pos} {kt:Nat}
  {Q:Value→Shared→Prop} (hQ:∀ a s' fp wr G' P St,Afa X.c f.A q l Fv g.s s' a fp wr G' P St→Q (.ref a) s') :
  wpAny X.c.M f.A (eval (.GeneratorExp elt [⟨.Tuple [.Name xa pa,.Name xb pb] kt pt,.Name x px,[],0⟩] scope pos) f.env) Q E g.s:=Ak hx fun hx1 hx=>Ak hx fun hx2 hx=>Ak hx fun hx3 hx4=>by
 have hh:=S.room.handled
 refine wpAny_with_toks (Nat.le_refl g.s.toks) ?_
 refine wpAny_GeneratorExp_walksQT hh G.co (G.clos f.env) G.cell G.dot G.a G.b G.ab G.kind S.room.depth_lt ?_ (fun zA=>rfl)
 refine wpAny_Name (La S (eq_of_beq hx1) hx2 (Dw hx4) hv fun z r=>?_) (Dw hx3)
 refine x43 (S.st.ins hn r) fun p ox es k e1 zz5 I=>?_;subst zz5
 refine x22 I.shape fun xs m hox hxs=>?_
 refine dg S.st.stat.K I.inst L hit ⟨S.st.stat.lim.push _,?_⟩
 refine x21 (wy hxs hl) fun Ts vals hT=>?_
 have hsz:xs.toArray.size=l.length:=hxs.length.symm
 refine x23 ((S.st.stat.tab q hq).parts) fun oq psq t1 t2 t3=>?_
 have w0:∀ {b o},g.s.heap.get? b=some o→b≠g.s.heap.objs.size:=fun e=>Nat.ne_of_lt (Heap.lt_size e)
 have nq:∀ {b o},g.s.heap.get? b=some o→o.cls≠.none→b≠q.2:=fun e hc z=>by
  rw [z,t3] at e;cases e;exact hc rfl
 have S1:SO X.c (g.to {g.s with heap:=g.s.heap.push {cls:=.type "list_iterator",data:=.fields #[.ref p.1,.int 0 0]}}):=Cv.grow F.ok S.st (Au.push g.s _)
 refine wn S1.stat.K hcp (fun z=>by rw [z,t3] at t1;cases t1;cases t2) hcode (S1.stat.tab q hq) fun code h4 tk4 hk4 ht4 hle4=>?_
 have g4:Nt q g.s {g.s with heap:=h4,toks:=tk4}:=⟨fun b o hb e=>hk4 b o hb (Heap.get?_push_of_some _ e),ht4,rfl,id,hle4⟩
 have S4:=(g4.go F.ok S.st hq).st
 refine Ae9 S.fr.globals S.fr.builtins F.ok B S4.stat ?_
 have hI4:h4.get? g.s.heap.objs.size=some {cls:=.type "list_iterator",data:=.fields #[.ref p.1,.int 0 0]}:=hk4 _ _ (w0 t3).symm (Heap.get?_push_size _ rfl)
 have hax:p.1≠g.s.heap.objs.size:=w0 I.inst.at_
 have tup4:∀ k,k<xs.toArray.size→Ts k≠g.s.heap.objs.size∧h4.IsTuple (Ts k) (vals k):=fun k hk=>by
  exact (hT k (hsz▸hk)).tup.elim fun o q=>⟨w0 q.1,o,g4.keep _ _ (nq q.1 fun z=>nomatch q.2.1.symm.trans z) q.1,q.2⟩
 have sq4:SeqAt h4 p.1 xs.toArray:=⟨ox,m,g4.keep _ _ (nq I.inst.at_ fun z=>by rw [hox] at z;cases z) I.inst.at_,by rw [hox]⟩
 refine ⟨g.s.heap.objs.size,_,[g.s.heap.objs.size],xs.toArray.size,_,_,_,fun zA=>true,wz l Fv,rfl,
  fun A' hA=>Yk hA g.s.heap.objs.size p.1 hax xs.toArray Ts vals (fun j hj=>?_) (fun j hj=>(tup4 j hj).1),fun j v hv=>?_,⟨⟨_,hI4,rfl,rfl⟩,sq4,fun k hk=>(tup4 k hk).2⟩,fun b hb=>?_,S4.stat.lim,fun hm=>?_,fun href hkr=>⟨?_,?_⟩,fun a h5 tk gs hgs ha h5s hk5 W gat=>?_⟩
 ·rw [List.getElem?_toArray];exact (hT j (hsz▸hj)).get
 ·exact (hT j (hsz▸hv.1)).two.elim fun x q=>q.elim fun y q=>⟨x,y,hv.2.trans q⟩
 ·refine Aj hb (fun e=>e▸Heap.lt_size hI4) fun hb=>Aj hb (fun e=>?_) fun hb=>?_
  ·refine x22 sq4 fun o n e' zA=>?_
   exact e▸Heap.lt_size e'
  ·refine x12 (List.mem_map.mp hb) fun k hk zz2=>?_;subst zz2
   refine x12 ((tup4 k (List.mem_range.mp hk)).2) fun o e zA=>?_
   exact Heap.lt_size e
 ·exact (S.st.stat.ex _ F.ok.two.2).elim fun o e=>w0 e (List.mem_singleton.mp hm)
 ·intro A' E' i va vb s2 m2 _ _ _ _ _ _
  exact wpAny_pure ⟨rfl,s2.heap,s2.toks,rfl,fun zA zB e=>e⟩
 ·intro A' E' j va vb s2 m2 hA hP _ hm2 hma hmb hk2
  refine x02 hP fun hj hvals=>?_
  obtain ⟨a,b,ta,tb,hp,_,_,e,hza,hzb⟩:=hT j (hsz▸hj)
  rw [e] at hvals
  cases hvals
  have keep2:∀ b o,g.s.heap.get? b=some o→b≠q.2→s2.heap.get? b=some o:=fun b o e h=>
   hk2 b (List.mem_range.mpr (Heap.lt_size (g4.keep b o h e))) (fun hm=>w0 e (List.mem_singleton.mp hm)) o (hkr b o (g4.keep b o h e))
  refine wpAny_mono (he hA hza hzb ⟨rfl,S.fr.globals,rfl,fun b o e=>?_,?_⟩ hm2 hma hmb) (fun y s' hy=>⟨⟨a,b,hp,hy.1⟩,hy.2⟩) (fun zA zB e=>e)
  ·exact keep2 b o (S.st.stat.K b o e) (fun z=>by rw [z,F.ok.offT q hq] at e;cases e)
  ·refine x32 S.st.stat.b fun o es ep e r=>?_
   exact ⟨o,es,ep,keep2 _ _ e (fun z=>(F.ok.tabLow q hq).2.1 z.symm),r⟩
 ·have e:(passing (fun zA=>true) xs.toArray.size 0).length=l.length:=by rw [L8,List.length_range,hsz]
  rw [e] at W
  intro htk
  refine hQ a _ _ _ _ _ _ ⟨⟨fun b o hb e=>hk5 b o (g4.keep b o hb e),?_,rfl,fun g=>g.push hgs,htk⟩,fun b hb=>Heap.get?_none_of_le ?_,fun b hb=>?_,ms9 ..,fun x y g hx=>g.bare hx,W,?_,gat,?_⟩
  ·refine x12 ht4 fun ps t tr=>?_
   exact ⟨ps,t.keeps hk5,tr⟩
  ·exact Aj hb (fun e=>e▸Nat.le_of_lt (Heap.lt_size hI4)) fun hb=>Nat.le_of_eq (List.mem_singleton.mp hb).symm
  ·show b<h5.objs.size
   rw [h5s]
   exact Aj hb (fun e=>e▸Nat.lt_succ_self _) fun hb=>Nat.lt_succ_of_lt (Aj hb (fun e=>e▸ha) fun hb=>Nat.lt_trans (List.mem_range.mp hb) ha)
  ·rintro j y ⟨i',hi',h⟩
   rw [L8] at hi'
   refine x11 (List.getElem?_eq_some_iff.mp hi') fun zA e'=>?_
   rw [List.getElem_range] at e'
   exact e'▸h
  ·rintro i' s'' ⟨⟨o,_,_,ho,hc,_⟩,_⟩
   exact ⟨o,ho,hc⟩
end
section
variable {c:Cfg} {scope:Scope} {A:Around} {E:Value→Shared→Prop} {cenv:Env} {s:Shared}
theorem Acl(ok:Bj c)(G:wt c scope cenv s)(hk:scope.kind=.function){x:Str}(hx:scope.names.lookup x=some .globalImplicit)(hd:(x==("__debug__" : Str))=false){y:Value}(hy:c.mg x=some y∨(c.mg x=none∧c.mb x=some y)){p:Pos}{Q:Value→Shared→Prop}(hQ:Q y s) :
  wpAny c.M A (eval (.Name x p) cenv) Q E s:=by
 have hk':cenv.kindOf x=some .globalImplicit:=by show cenv.scope.names.lookup x=_;rw [G.scope];exact hx
 have hm:s.heap.Ns cenv.globals c.mg:=by rw [G.globals];exact ok.main _ G.K
 refine Calls.Name_function_global (by rw [G.scope];exact hk) hk' ?_ hd
 rcases hy with hy|⟨hy,hy'⟩
 ·exact Calls.loadGlobal_global hm hy hQ
 ·exact Calls.loadGlobal_builtin hm hy (by rw [G.builtins];exact G.b) hy' hQ
theorem w5(G:wt c scope cenv s)(hk:scope.kind=.function){x:Str}(hx:scope.names.lookup x=some .local)(hd:(x==("__debug__" : Str))=false){m:Str→Option Value}(hn:s.heap.Ns cenv.locals m){y:Value}(hy:m x=some y){p:Pos}{Q:Value→Shared→Prop}(hQ:Q y s) :
  wpAny c.M A (eval (.Name x p) cenv) Q E s:=
 wpAny_Name (wpAny_loadName_local (by rw [G.scope];exact hk) (by show cenv.scope.names.lookup x=_;rw [G.scope];exact hx) hn hy hQ) hd
theorem wt.keeps{s':Shared}(G:wt c scope cenv s)(k:Keeps s s'):wt c scope cenv s':=by
 obtain ⟨h',tk,rfl,k⟩:=k
 exact ⟨G.scope,G.globals,G.builtins,fun b o e=>k b o (G.K b o e),G.b.keeps k⟩
theorem Keeps.tok(s:Shared)(t:Nat):Keeps s {s with toks:=t}:=⟨s.heap,t,rfl,fun zA zB e=>e⟩
theorem W3(ok:Bj c){x:Str}(h0:c.mg x=none)(hn:x≠ "__name__"){v:Value}(hb:bootBuiltins x=some v):c.mg x=some v∨(c.mg x=none∧c.mb x=some v):=.inr ⟨h0,by rw [ok.boot _ hn];exact hb⟩
theorem w7(ok:Bj c)(h0:c.mg "len" = none){xa xb:Str}(G:E5 scope xa xb)(hl:scope.names.lookup ("len" : Str)=some .globalImplicit)(ha:(xa==("__debug__" : Str))=false)(hb:(xb==("__debug__" : Str))=false)
  {p1 p2 p3 p4 p5 p6 p7:Pos}:wu c scope xa xb (.BinOp (.Call (.Name "len" p1) [.Name xa p2] [] p3) .Add (.Call (.Name "len" p4) [.Name xb p5] [] p6) p7) (fun a b y=>∃ t,y=.int ((a.length:Int)+b.length) t):=by
 intro A E cenv a b ta tb s m hh la lb GE hn hma hmb
 have one:∀ {x:Str} {y:Str} {t:Tok} {s:Shared} {p p' p'':Pos} {Q:Value→Shared→Prop},wt c scope cenv s→s.heap.Ns cenv.locals m→scope.names.lookup x=some .local→(x==("__debug__" : Str))=false→m x=some (.str y t)→y.length≤1000→
   (∀ u k,Q (.int y.length u) {s with toks:=k})→wpAny c.M A (eval (.Call (.Name "len" p) [.Name x p'] [] p'') cenv) Q E s:=fun {x y t s p p' p'' Q} GE hn hx hd hm hy hQ=>by
  refine Call_name1 rfl (Acl ok GE G.kind hl (by decide) (W3 ok h0 (by decide) (by decide +kernel:bootBuiltins "len" = some (.builtin "len"))) ?_)
  exact callWith_builtin1 (w5 GE G.kind hx hd hn hm (P.len_str (by lia) (hQ _ _)))
 refine wpAny_BinOp (one GE hn G.a ha hma la fun u k=>?_)
 refine one (GE.keeps (Keeps.tok s k)) hn G.b hb hmb lb fun u' k'=>?_
 refine wpAny_add_int ?_
 exact ⟨⟨_,rfl⟩,Keeps.tok s _⟩
theorem w8(ok:Bj c){xe e:Str}{te:Tok}(h0:c.mg xe=some (.str e te))(hel:e.length≤16){xa xb:Str}(G:E5 scope xa xb)(hl:scope.names.lookup xe=some .globalImplicit)(he:(xe==("__debug__" : Str))=false)(ha:(xa==("__debug__" : Str))=false)(hb:(xb==("__debug__" : Str))=false)
  {p1 p2 p3 p4 p5 p6:Pos} (hline:(p2.endLine==p6.line)=true):wu c scope xa xb (.Call (.Attribute (.Name xe p1) "join" p2) [.Tuple [.Name xa p3,.Name xb p4] 0 p5] [] p6) (fun a b y=>∃ t,y=.str (Txt.join e [a,b]) t):=by
 intro A E cenv a b ta tb s m hh la lb GE hn hma hmb
 refine Call_method1 rfl rfl hline (Acl ok GE G.kind hl he (.inl h0) ?_)
 refine ⟨"str","str.join",F.plainAttrs_str,F.slot_str_join,F.type_str_join,typeIs_str _ _ _,(fun a e=>nomatch e),?_⟩
 refine Calls.callWith_builtin rfl (Calls.evalArgs_plain (Calls.spliced_cons ?_))
 refine wpAny_Tuple (wpAny_items_cons (w5 GE G.kind G.a ha hn hma (wpAny_items_cons (w5 GE G.kind G.b hb hn hmb ?_))))
 refine wpAny_pure ⟨by rw [sizeLine_eq];show 2≤16777216;lia,?_⟩
 refine Calls.spliced_nil ?_
 refine join_tupleW (D:=s.heap.objs.size) (items:=#[.str a ta,.str b tb]) (ys:=[a,b]) ⟨_,Heap.get?_push_size _ rfl,rfl,_,rfl⟩ (.cons _ _ (.cons _ _ .nil)) hel ?_ fun t k=>⟨⟨_,rfl⟩,?_⟩
 ·simp only [List.map_cons,List.map_nil,List.sum_cons,List.sum_nil,List.length_cons,List.length_nil];lia
 ·exact ⟨_,_,rfl,fun zA zB e=>Heap.get?_push_of_some _ e⟩
end
section
variable {X:Xc} {g:Sg} {A:Around}
theorem r7(F:Fx X){f:Addr}{fn:Fn}{slots:List (Str×Nat)}{fd:FuncData}{names:List Str}{e:Expr}{p:Pos}(DO:I5 X.c f fn slots fd names [.Return (some e) p])(h1:fn.pars=1)(h2:fn.slots=1)(hdf:fn.dflt=[])(Rm:Eb A (X.d+2))(S:SO X.c g){v0:V}{x:Value}(r:VR g v0 x){Q:Value→Shared→Prop}
  (hE:∀ {A':Around} {env:Env} {s1:Shared},Si X ⟨⟨fd.scope.names,slots,1⟩,A',env⟩ [some v0] (g.to s1)→Go X.c g (g.to s1)→env.code=fd.code→wpN X.c.M A' (eval e env) Q FF s1):Bc X.c.M A (.call (.ref f) ⟨[x],[]⟩) (j4 Q) g.s:=by
 refine x31 DO.at_ fun oc od osl hK=>?_
 have XK:=S.stat.K
 obtain ⟨ds,hds,hb⟩:=DO.binds [x] (by rw [h1];exact Nat.le_refl _) (by rw [h1];exact Nat.le_add_right _ _)
 refine Hr (Rm.depth_lt) (XK _ _ hK) rfl DO.co DO.gen DO.body (codeRec_of XK DO.code) (kp_binds XK hb _ _ _ _ ?_)
 have hd:=hds (fun zA=>False) [] 0 g.s.heap
 rw [hdf,List.drop_nil] at hd
 have hd0:ds=[]:=hd.nil_E (P:=fun ds=>ds=[]) rfl
 subst hd0
 refine Wu F.ok DO (Rm.in1:Eb A.in1 (X.d+1)) S (vs:=[v0]) (by rw [h1];rfl) (.cons r .nil) fun env s1 S1 t1 fyn hes hef hec hel=>⟨S1.st.stat.lim,?_⟩
 have S2:Si X ⟨⟨fd.scope.names,slots,fn.slots⟩,A.deeper env,env⟩ ([v0].map some++List.replicate (fn.slots-fn.pars) none) (g.to s1):=⟨Rm.deeper,S1.st,S1.fr,S1.ap⟩
 rw [h1,h2] at S2
 refine Ly ?_
 rw [arm_execs_cons]
 refine A9 ?_
 rw [exec_Return_some]
 exact A9 (E3 (Af (wpAny_standAt (A9 (E3 (Bk (hE S2 t1 hec) fun z s' q=>C9 (C9 q)))))))
theorem dz{a:Expr}{n:Str}{env:Env}{m:Sem Value}{M:Model}{E:Value→Shared→Prop}{s:Shared}{Q:Value→Shared→Prop}(hns:Cj a=true)(h:wpAny M A m Q E s):wpAny M A (attributeBase a n env m) Q E s:=by rw [Lp hns];exact h
end
theorem Nt.moved{s s1 s3:Shared}{q:Addr×Addr}{t:Nat}{wr:List Addr}{G:Array GenState→Array GenState→Prop}(ht:O2 q s.heap)(g:Nt q s s1)(hw:∀ b∈wr,s.heap.get? b=none)(hG:∀ x y,G x y→AllBare x→AllBare y)(k2:s1.toks≤t)(m:Moved wr G {s1 with toks:=t} s3):Nt q s s3:=by
 have nw:∀ b o,s.heap.get? b=some o→b∉wr:=fun b o e hm=>by rw [hw b hm] at e;cases e
 refine x23 ht.parts fun o1 p1 t1 zA t3=>?_
 refine ⟨fun b o hb e=>m.heap b o (nw b o e) (g.keep b o hb e),?_,m.os.trans g.os,fun a=>hG _ _ m.gens (g.gens a),Nat.le_trans g.tk (Nat.le_trans k2 m.toks)⟩
 obtain ⟨ps,⟨⟨o,vs,a1,a2⟩,a3⟩,tr⟩:=g.tab
 exact ⟨ps,⟨⟨o,vs,m.heap _ _ (nw _ _ t1) a1,a2⟩,m.heap _ _ (nw _ _ t3) a3⟩,tr⟩
theorem On(k:Int)(l:List V):∀ n,n≤l.length→Cm k (fun j=>Ic (l.getD j .none)) n=k+((l.take n).map Ic).sum
 | 0,_=>(Int.add_zero k).symm
 | n+1,hn=>by
  have h2:l.take (n+1)=l.take n++[l.getD n .none]:=by
   rw [List.take_succ_eq_append_getElem hn,List.getD_eq_getElem?_getD,List.getElem?_eq_getElem hn];rfl
  rw [Cm,On k l n (Nat.le_of_succ_le hn),h2,List.map_append,List.sum_append,Int.add_assoc]
  show k+(_+_)=k+(_+(Ic (l.getD n .none)+0))
  rw [Int.add_zero]
structure nb(X:Xc)(q:Addr×Addr)(dd:Option Addr)(cvs:Array Value)(sl:Array (Option Value)):Prop where
 b:Ack X.c
 tab:q∈X.c.T
 parts:L9 X.c.K q.1 q.2 dd cvs sl
 it:findIn X.c.K (.ref 192) "__iter__" = some (some (.builtin "list.__iter__"))
 lst:X.tb.isList 192=true
section
variable {X:Xc} {g:Sg} {A:Around} {q:Addr×Addr} {dd:Option Addr} {cvs:Array Value} {sl:Array (Option Value)} {vs:List V} {xs:List Value} {Kk:KE} {Q:Value→Shared→Prop} {scope:Scope} {xa xb x:Str} {f:Addr} {fn:Fn} {slots:List (Str×Nat)} {fd:FuncData} {names:List Str}
theorem nf(F:Fx X)(K:nb X q dd cvs sl)(G:E5 scope xa xb)(hl:scope.names.lookup ("len" : Str)=some .globalImplicit)(ha:(xa==("__debug__" : Str))=false)(hb:(xb==("__debug__" : Str))=false){p p1 p2 p3 p4 p5 p6 p7 p8 pa pb pt px pos p10 p11 p12:Pos}
  (DO:I5 X.c f fn slots fd names [.Return (some (.Call (.Name "sum" p8) [.GeneratorExp (.BinOp (.Call (.Name "len" p1) [.Name xa p2] [] p3) .Add (.Call (.Name "len" p4) [.Name xb p5] [] p6) p7) [⟨.Tuple [.Name xa pa,.Name xb pb] 0 pt,.Name x px,[],0⟩] scope pos,.Attribute (.Name x p10) "_initial_size" p11] [] p12)) p])
  (h1:fn.pars=1) (h2:fn.slots=1) (hdf:fn.dflt=[]) (hx:K6 ⟨fd.scope.names,slots,1⟩ x 0=true) (hsum:Ay ⟨fd.scope.names,slots,1⟩ "sum" = true) (hcode:fd.code=.ref q.1) (Rm:Eb A (X.d+2)) (S:SO X.c g) (r:VRs g vs xs) (he:wo vs g.H Kk) (hQ:Hd X g Kk Q):Bc X.c.M A (.call (.ref f) ⟨xs,[]⟩) (j4 Q) g.s:=
 one_E (C:=fun vs=>VRs g vs xs→_) he (fun v he r=>r.one_E fun z r=>Fk (C:=fun v=>VR g v z→_) he (fun n he r=>Iy he fun C at_ it hn he=>B4 he.2 fun l hit he2=>B4 he2.2.2 fun w hk he3=>by
  have hC:=eq_of_beq he.1
  subst hC hit
  refine A7 (C:=fun w=>at_.lookup 6=some w→_) he3 (fun k he3 hk=>?_) hk
  refine r7 F DO h1 h2 hdf Rm S r fun {A' env s1} S1 t1 hec=>?_
  refine Af (wpAny_Call_NameR (Qu F (f:=⟨⟨fd.scope.names,slots,1⟩,A',env⟩) hsum (W3 F.ok (F.bis .sum) (br .sum) (bq .sum)) S1 ?_))
  refine Calls.callWith_builtin rfl (Calls.evalArgs_plain (Calls.spliced_cons ?_))
  refine ry (f:=⟨⟨fd.scope.names,slots,1⟩,A',env⟩) F K.b K.tab K.parts S1 (hec.trans hcode) hn (F.lists 192 K.lst).1 K.it hx rfl G (w7 F.ok (F.bis .len) G hl ha hb) he2.1 fun a s2 fp wr G' P St M=>?_
  have go2:=M.grow.go F.ok S1.st K.tab
  have S2:=go2.sit F.ok S1
  refine Calls.spliced_cons ?_
  show wpAny X.c.M A' (eval (.Attribute (.Name x p10) "_initial_size" p11) env) _ _ s2
  rw [arm_eval_Attribute]
  refine Ak hx fun x1 hx'=>Ak hx' fun x2 hx'=>Ak hx' fun x3 x4=>?_
  refine wpAny_bind (dz rfl (wpAny_Name (La S2 (eq_of_beq x1) x2 (Dw x4) rfl fun z rz=>?_) (Dw x3)))
  refine wpAny_bind (wpAny_standAt (wpAny_bind (wpAny_holding ?_)))
  refine aw (g:=g.to s2) (F.lists 192 K.lst).2 S2.st hn (k:=6) rfl hk rz fun zk rk=>?_
  refine wpAny_bind (wpAny_letTemporaryGo (wpAny_pure (Calls.spliced_nil ?_)))
  refine rk.int_E fun tk=>?_
  have W1:=M.W.of_in1.of_in1.of_in1
  have st1:St 0 {s2 with toks:=s2.toks+1}:=M.W.frame 0 s2 s2.heap (s2.toks+1) M.st (Nat.le_succ _) fun zA zB zC e=>e
  refine m7 (W1.self 0 _ _ _ st1 ⟨a,fp,wr,G',l.length,P,St,fun j=>Ic (l.getD j .none),rfl,W1,st1,M.fpl,fun j y hy=>?_,fun s3 t3 m=>?_⟩)
  ·obtain ⟨a',b',e1,t,rfl⟩:=M.item j y hy
   refine ⟨t,?_⟩
   show _=Value.int (match B8 (l.getD j .none) with|some (a,b)=>(a.length:Int)+b.length|none=>0) t
   rw [e1]
  ·have g3:=Nt.moved (t:=s2.toks+1) (S1.st.stat.tab q K.tab) M.grow M.new M.bare (Nat.le_succ _) m
   rw [On k l _ (Nat.le_refl _),List.take_length]
   exact hQ _ _ ((g.to s1).to _) he3 (t1.trans (g3.go F.ok S1.st K.tab)) (.int _ _)) r) r
theorem W4:∀ (l3:List (Str×Tok)) (l:List V),(strValues l3).length=l.length→(∀ j v,(strValues l3)[j]?=some v→∃ a b,B8 (l.getD j .none)=some (a,b)∧∃ t,v=.str (Txt.join "" [a,b]) t)→l3.map (·.1)=l.map F5
 | [],[],_,_=>rfl
 | [],_::_,h,_=>nomatch h
 | _::_,[],h,_=>nomatch h
 | p::r,v::l,h,k=>by
  obtain ⟨a,b,e1,t,e2⟩:=k 0 _ rfl
  have e1:B8 v=some (a,b):=e1
  have hp:F5 v=Txt.join "" [a,b]:=by
   show (match B8 v with|some (a,b)=>Ce "" [a,b]|none=> "")=_
   rw [e1];exact Lq "" [a,b]
  rw [List.map_cons,List.map_cons,hp,W4 r l (Nat.succ.inj h) fun j v hv=>k (j+1) v hv]
  exact congrArg (· :: _) (Value.str.inj e2).1
theorem ng(F:Fx X)(K:nb X q dd cvs sl){xe:Str}{te:Tok}(h0:X.c.mg xe=some (.str "" te))(G:E5 scope xa xb)(hl:scope.names.lookup xe=some .globalImplicit)(hxe:(xe==("__debug__" : Str))=false)(ha:(xa==("__debug__" : Str))=false)(hb:(xb==("__debug__" : Str))=false){p p1 p2 p3 p4 p5 p6 p8 p9 pa pb pt px pos p12:Pos}(hl1:(p2.endLine==p6.line)=true)(hl2:(p9.endLine==p12.line)=true)
  (DO:I5 X.c f fn slots fd names [.Return (some (.Call (.Attribute (.Name xe p8) "join" p9) [.GeneratorExp (.Call (.Attribute (.Name xe p1) "join" p2) [.Tuple [.Name xa p3,.Name xb p4] 0 p5] [] p6) [⟨.Tuple [.Name xa pa,.Name xb pb] 0 pt,.Name x px,[],0⟩] scope pos] [] p12)) p])
  (h1:fn.pars=1) (h2:fn.slots=1) (hdf:fn.dflt=[]) (hx:K6 ⟨fd.scope.names,slots,1⟩ x 0=true) (hxg:Ay ⟨fd.scope.names,slots,1⟩ xe=true) (hcode:fd.code=.ref q.1) (Rm:Eb A (X.d+2)) (S:SO X.c g) (r:VRs g vs xs) (he:wq vs g.H Kk) (hQ:Hd X g Kk Q):Bc X.c.M A (.call (.ref f) ⟨xs,[]⟩) (j4 Q) g.s:=
 one_E (C:=fun vs=>VRs g vs xs→_) he (fun v he r=>r.one_E fun z r=>Fk (C:=fun v=>VR g v z→_) he (fun n he r=>Iy he fun C at_ it hn he=>B4 he.2 fun l hit he2=>by
  have hC:=eq_of_beq he.1
  subst hC hit
  refine r7 F DO h1 h2 hdf Rm S r fun {A' env s1} S1 t1 hec=>?_
  refine Af (Call_method1 rfl rfl hl2 (Qu F (f:=⟨⟨fd.scope.names,slots,1⟩,A',env⟩) hxg (.inl h0) S1 ?_))
  refine ⟨"str","str.join",PySem.F.plainAttrs_str,PySem.F.slot_str_join,PySem.F.type_str_join,typeIs_str _ _ _,(fun a e=>nomatch e),?_⟩
  refine Calls.callWith_builtin rfl (Calls.evalArgs_plain (Calls.spliced_cons ?_))
  refine ry (f:=⟨⟨fd.scope.names,slots,1⟩,A',env⟩) F K.b K.tab K.parts S1 (hec.trans hcode) hn (F.lists 192 K.lst).1 K.it hx rfl G (w8 F.ok h0 (Nat.zero_le _) G hl hxe ha hb hl1) he2.1 fun a s2 fp wr G' P St M=>?_
  refine Calls.spliced_nil ?_
  refine wpAny_with_toks (Nat.le_refl s2.toks) ?_
  refine SC.joinGen M.W.of_in1.of_in1 M.ty M.st M.fpl M.mem (fun j y hy=>?_) (fun s3 l3 m hit=>?_) (Nat.le_trans (od9 he2.2.1) (by rw [sizeLine_eq];decide))
  ·obtain ⟨a',b',e1,t,rfl⟩:=M.item j y hy
   exact ⟨_,_,rfl⟩
  ·have texts:l3.map (·.1)=l.map F5:=by
    exact W4 l3 l (by have h:=hit.1;rw [List.size_toArray] at h;exact h) fun j v hv=>M.item j v (hit.2 j v (by rw [List.getElem?_toArray];exact hv))
   rw [texts]
   refine ⟨joinOk_of_weight (by rw [List.length_map];exact od9 he2.2.2.1) (Nat.zero_le _),fun t' k htk=>?_⟩
   have g3:=Nt.moved (t:=s2.toks) (S1.st.stat.tab q K.tab) M.grow M.new M.bare (Nat.le_refl _) m
   have g4:Nt q s1 {s3 with toks:=k}:=⟨g3.keep,g3.tab,g3.os,g3.gens,Nat.le_trans M.grow.tk htk⟩
   exact hQ _ _ ((g.to s1).to _) (Lq "" _▸he2.2.2.2) (t1.trans (g4.go F.ok S1.st K.tab)) (.str _ _)) r) r
end
noncomputable def B9{α:Type}[DecidableEq α](a b:α):May (a=b):=if h:a=b then .yes h else .no
section
variable {R:Expr→Prop}
noncomputable def Ml(x:Expr)(f:∀ c k p,May (R (.Constant c k p))):May (R x):=match x with|.Constant c k p=>f c k p|_=>.no
noncomputable def F6(x:Expr)(f:∀ n p,May (R (.Name n p))):May (R x):=match x with|.Name n p=>f n p|_=>.no
noncomputable def Afb(x:Expr)(f:∀ a o b p,May (R (.BinOp a o b p))):May (R x):=match x with|.BinOp a o b p=>f a o b p|_=>.no
noncomputable def Agc(x:Expr)(f:∀ o a p,May (R (.UnaryOp o a p))):May (R x):=match x with|.UnaryOp o a p=>f o a p|_=>.no
noncomputable def Acm(x:Expr)(f:∀ a o b p,May (R (.Compare a [o] [b] p))):May (R x):=match x with|.Compare a [o] [b] p=>f a o b p|_=>.no
noncomputable def Acn(x:Expr)(f:∀ o l p,May (R (.BoolOp o l p))):May (R x):=match x with|.BoolOp o l p=>f o l p|_=>.no
noncomputable def Agq(x:Expr)(f:∀ a b c p,May (R (.IfExp a b c p))):May (R x):=match x with|.IfExp a b c p=>f a b c p|_=>.no
noncomputable def w9(x:Expr)(f:∀ l k p,May (R (.Tuple l k p))):May (R x):=match x with|.Tuple l k p=>f l k p|_=>.no
noncomputable def d0(x:Expr)(f:∀ l p,May (R (.List l p))):May (R x):=match x with|.List l p=>f l p|_=>.no
noncomputable def Yr(x:Expr)(f:∀ a b p,May (R (.Subscript a b p))):May (R x):=match x with|.Subscript a b p=>f a b p|_=>.no
noncomputable def Aco(x:Expr)(f:∀ a b p,May (R (.Dict a b p))):May (R x):=match x with|.Dict a b p=>f a b p|_=>.no
noncomputable def d3(x:Expr)(f:∀ a b c p,May (R (.Slice a b c p))):May (R x):=match x with|.Slice a b c p=>f a b c p|_=>.no
noncomputable def Rw(x:Expr)(f:∀ a n p,May (R (.Attribute a n p))):May (R x):=match x with|.Attribute a n p=>f a n p|_=>.no
noncomputable def J7(x:Expr)(f:∀ a l p,May (R (.Call a l [] p))):May (R x):=match x with|.Call a l [] p=>f a l p|_=>.no
noncomputable def Acp(x:Expr)(f:∀ a g s p,May (R (.ListComp a g s p))):May (R x):=match x with|.ListComp a g s p=>f a g s p|_=>.no
noncomputable def Acq(x:Expr)(f:∀ a p,May (R (.Starred a p))):May (R x):=match x with|.Starred a p=>f a p|_=>.no
end
section
variable {R:List Expr→Prop}
noncomputable def Afc(x:List Expr)(f:∀ a,May (R [a])):May (R x):=match x with|[a]=>f a|_=>.no
noncomputable def d4(x:List Expr)(f:∀ a l,May (R (a::l))):May (R x):=match x with|a::l=>f a l|_=>.no
noncomputable def xc(x:List Expr)(f:May (R [])):May (R x):=match x with|[]=>f|_=>.no
end
noncomputable def Acr{R:List Comprehension→Prop}(x:List Comprehension)(f:∀ n p it l,May (R (⟨.Name n p,it,[],0⟩::l))):May (R x):=match x with|⟨.Name n p,it,[],0⟩::l=>f n p it l|_=>.no
noncomputable def Agd:(ks:List (Str×Str))→(keys:List (Option Expr))→(vals:List Expr)→May (Aer ks keys vals)
 | [],keys,vals=>match keys,vals with
  | [],[]=>.yes fun P k=>k
  | _,_=>.no
 | p::r,keys,vals=>match keys,vals with
  | some (.Constant c1 k1 p1)::ks,.Constant c2 k2 p2::vs=>(B9 c1 (.str p.1)).bind fun h1=>(B9 c2 (.str p.2)).bind fun h2=>(Agd r ks vs).bind fun h=>.yes fun P k=>by
    subst h1 h2
    exact k k1 p1 k2 p2 ks vs h
  | _,_=>.no
section
variable (nm:Nm)
noncomputable def Afd(e:ME)(cx:Cx)(f:∀ x,May (Az nm e cx x))(l:Option Expr):May (Aar e (fun x=>Az nm e cx x) l):=match l with
 | some x=>(f x).bind fun h=>.yes fun P k1 k2=>k2 x h
 | none=>match e with
  | .none=>.yes fun P k1 k2=>k1 rfl
  | _=>.no
noncomputable abbrev C1(e:ME):Type:=∀ (cx:Cx) (x:Expr),May (Az nm e cx x)
noncomputable abbrev C2(es:MEs):Type:=∀ (cx:Cx) (xs:List Expr),May (Dv nm es cx xs)
noncomputable abbrev C3(gs:MGs):Type:=∀ (cx:Cx) (l:List Comprehension),May (ql nm gs cx l)
noncomputable abbrev C4(it:MI):Type:=∀ (cx:Cx) (x:Expr),May (Z6 nm it cx x)
noncomputable def Oo(e:ME):C1 nm e:=
 @ME.rec (fun e=>C1 nm e) (fun es=>C2 nm es) (fun gs=>C3 nm gs × ∀ k el,C1 nm el→C1 nm (.comp k el gs)) (fun it=>C4 nm it)
  (fun cx x=>Ml x fun c k p=>(B9 c .none).bind fun h=>.yes (by subst h;exact fun P f=>f k p))
  (fun b cx x=>Ml x fun c k p=>(B9 c (.bool b)).bind fun h=>.yes (by subst h;exact fun P f=>f k p))
  (fun i cx x=>Ml x fun c k p=>(B9 c (.int i)).bind fun h=>.yes (by subst h;exact fun P f=>f k p))
  (fun i cx x=>Ml x fun c k p=>(B9 c (.float i)).bind fun h=>.yes (by subst h;exact fun P f=>f k p))
  (fun i cx x=>Ml x fun c k p=>(B9 c (.str i)).bind fun h=>.yes (by subst h;exact fun P f=>f k p))
  (fun i cx x=>F6 x fun n p=>(May.of (K6 cx n i)).bind fun h=>.yes fun P f=>f n p h)
  (fun k cx x=>F6 x fun n p=>(May.of (nm.globs[k]?==some n)).bind fun h1=>(May.of (Ay cx n)).bind fun h2=>.yes fun P f=>f n p h1 h2)
  (fun op l r h1 h2 cx x=>Afb x fun a o b p=>(B9 o op).bind fun h=>(h1 cx a).bind fun q1=>(h2 cx b).bind fun q2=>.yes (by subst h;exact fun P f=>f a b p q1 q2))
  (fun e h1 cx x=>Agc x fun o a p=>(B9 o .USub).bind fun h=>(h1 cx a).bind fun q=>.yes (by subst h;exact fun P f=>f a p q))
  (fun e h1 cx x=>Agc x fun o a p=>(B9 o .Not).bind fun h=>(h1 cx a).bind fun q=>.yes (by subst h;exact fun P f=>f a p q))
  (fun op l r h1 h2 cx x=>Acm x fun a o b p=>(B9 o op).bind fun h=>(h1 cx a).bind fun q1=>(h2 cx b).bind fun q2=>(B9 (behindInMarks op b) false).bind fun q3=>.yes (by subst h;exact fun P f=>f a b p q1 q2 q3))
  (fun l tp es h1 h2 cx x=>Acm x fun a o b p=>(B9 o .Eq).bind fun h=>(h1 cx a).bind fun q1=>match (motive:=∀ tp,May (Az nm (.cmpD l tp es) cx (.Compare a [o] [b] p))) tp with
   | true=>w9 (R:=fun b=>Az nm (.cmpD l true es) cx (.Compare a [o] [b] p)) b fun xs k q=>(h2 cx xs).bind fun q2=>.yes (by subst h;exact fun P f=>f a xs k q p q1 q2)
   | false=>d0 (R:=fun b=>Az nm (.cmpD l false es) cx (.Compare a [o] [b] p)) b fun xs q=>(h2 cx xs).bind fun q2=>.yes (by subst h;exact fun P f=>f a xs 0 q p q1 q2))
  (fun op es h1 cx x=>Acn x fun o l p=>(B9 o op).bind fun h=>(h1 cx l).bind fun q=>.yes (by subst h;exact fun P f=>f l p q))
  (fun c a b h1 h2 h3 cx x=>Agq x fun t y z p=>(h1 cx t).bind fun q1=>(h2 cx y).bind fun q2=>(h3 cx z).bind fun q3=>.yes fun P f=>f t y z p q1 q2 q3)
  (fun es h1 cx x=>w9 x fun l k p=>(h1 cx l).bind fun q=>.yes fun P f=>f l k p q)
  (fun es h1 cx x=>d0 x fun l p=>(h1 cx l).bind fun q=>.yes fun P f=>f l p q)
  (fun es h1 cx x=>d0 x fun l p=>(h1 cx l).bind fun q=>.yes fun P f=>f l p q)
  (fun ks e h1 cx x=>Yr x fun a i p=>Aco (R:=fun a=>Az nm (.dget ks e) cx (.Subscript a i p)) a fun keys vals q=>(Agd ks keys vals).bind fun q1=>(May.of _).bind fun q2=>(h1 cx i).bind fun q3=>.yes fun P f=>f keys vals q i p q1 q2 q3)
  (fun o i h1 h2 cx x=>Yr x fun a b p=>(h1 cx a).bind fun q1=>(h2 cx b).bind fun q2=>.yes fun P f=>f a b p q1 q2)
  (fun o lo hi back h1 h2 h3 cx x=>Yr x fun a b p=>d3 (R:=fun b=>Az nm (.slc o lo hi back) cx (.Subscript a b p)) b fun l u s q=>(h1 cx a).bind fun q1=>(Afd nm lo cx (h2 cx) l).bind fun q2=>(Afd nm hi cx (h3 cx) u).bind fun q3=>
   (show May (∀ R:Option Expr→Prop,(back=false→R none)→(∀ k q1 q2,back=true→R (some (.UnaryOp .USub (.Constant (.int 1) k q1) q2)))→R s) from match back,s with
    | false,none=>.yes fun R k1 k2=>k1 rfl
    | true,some (.UnaryOp .USub (.Constant c k p1) p2)=>(B9 c (.int 1)).bind fun h=>.yes (by subst h;exact fun R k1 k2=>k2 k p1 p2 rfl)
    | _,_=>.no).bind fun q4=>.yes fun P f=>f a l u s q p q1 q2 q3 q4)
  (fun o k h1 cx x=>Rw x fun a n p=>(May.of _).bind fun q1=>(May.of _).bind fun q2=>(h1 cx a).bind fun q3=>.yes fun P f=>f a n p q1 q2 q3)
  (fun b es h1 cx x=>J7 x fun g xs p=>F6 (R:=fun g=>Az nm (.bcall b es) cx (.Call g xs [] p)) g fun n q=>(B9 n (biN b)).bind fun h=>(May.of (Ay cx (biN b))).bind fun q1=>(h1 cx xs).bind fun q2=>.yes (by subst h;exact fun P f=>f q xs p q1 q2))
  (fun m o es h1 h2 cx x=>J7 x fun g xs p=>Rw (R:=fun g=>Az nm (.scall m o es) cx (.Call g xs [] p)) g fun a n q=>(B9 n (smN m)).bind fun h=>(May.of (decide (xs.length<20)&&q.endLine==p.line)).bind fun q1=>(May.of (Cj a)).bind fun q2=>(h1 cx a).bind fun q3=>(h2 cx xs).bind fun q4=>.yes (by subst h;exact fun P f=>f a q xs p q1 q2 q3 q4))
  (fun fn es h1 cx x=>J7 x fun g xs p=>F6 (R:=fun g=>Az nm (.call fn es) cx (.Call g xs [] p)) g fun n q=>(May.of (nm.fns.lookup n==some fn)).bind fun q1=>(May.of (Ay cx n)).bind fun q2=>(h1 cx xs).bind fun q3=>.yes fun P f=>f n q xs p q1 q2 q3)
  (fun m o es h1 h2 cx x=>J7 x fun g xs p=>Rw (R:=fun g=>Az nm (.meth m o es) cx (.Call g xs [] p)) g fun a n q=>(May.of (Iv[m]?==some n)).bind fun q1=>(May.of (decide (xs.length<20)&&q.endLine==p.line)).bind fun q2=>(May.of (Cj a)).bind fun q3=>(h1 cx a).bind fun q4=>(h2 cx xs).bind fun q5=>.yes fun P f=>f a n q xs p q1 q2 q3 q4 q5)
  (fun m o e h1 h2 cx x=>J7 x fun g xs p=>Rw (R:=fun g=>Az nm (.methS m o e) cx (.Call g xs [] p)) g fun a n q=>Afc (R:=fun xs=>Az nm (.methS m o e) cx (.Call (.Attribute a n q) xs [] p)) xs fun s=>Acq (R:=fun s=>Az nm (.methS m o e) cx (.Call (.Attribute a n q) [s] [] p)) s fun s sp=>
   (May.of (Iv[m]?==some n)).bind fun q1=>(May.of (Cj a)).bind fun q2=>(h1 cx a).bind fun q3=>(h2 cx s).bind fun q4=>.yes fun P f=>f a n q s sp p q1 q2 q3 q4)
  (fun C es h1 cx x=>J7 x fun g xs p=>F6 (R:=fun g=>Az nm (.new C es) cx (.Call g xs [] p)) g fun n q=>(May.of (nm.clss.lookup n==some C)).bind fun q1=>(May.of (Ay cx n)).bind fun q2=>(h1 cx xs).bind fun q3=>.yes fun P f=>f n q xs p q1 q2 q3)
  (fun k el gs h1 h2=>h2.2 k el h1)
  (fun e h=>h)
  (fun cx x=>.yes trivial)
  (fun cx xs=>xc xs (.yes fun P k=>k))
  (fun e es h1 h2 cx xs=>d4 xs fun a l=>(May.of (O6 a)).bind fun q=>(h1 cx a).bind fun q1=>(h2 cx l).bind fun q2=>.yes fun P f=>f a l q q1 q2)
  ⟨fun cx l=>match l with|[]=>.yes fun P k=>k|_=>.no,fun k el h cx x=>.no⟩
  (fun i it gs h1 h2=>⟨fun cx l=>Acr l fun n p it' l'=>(May.of _).bind fun q1=>(h1 cx it').bind fun q2=>(h2.1 cx l').bind fun q3=>.yes fun P f=>f n p it' l' q1 q2 q3,
   fun k el h cx x=>Acp x fun a g s p=>Acr (R:=fun g=>Az nm (.comp k el (.cons i it gs)) cx (.ListComp a g s p)) g fun n pn it' l'=>(May.of _).bind fun q1=>(May.of _).bind fun q2=>(h1 cx it').bind fun q3=>(h2.1 (Bu cx s) l').bind fun q4=>(h (Bu cx s) a).bind fun q5=>.yes fun P f=>f a n pn it' l' s p q1 q2 q3 q4 q5⟩)
  (fun e h cx x=>(May.of (V8 x)).bind fun q1=>(h cx x).bind fun q2=>.yes ⟨q1,q2⟩)
  (fun es h cx x=>J7 (R:=fun x=>Z6 nm (.rng es) cx x) x fun g xs p=>F6 (R:=fun g=>Z6 nm (.rng es) cx (.Call g xs [] p)) g fun n q=>(B9 n "range").bind fun hn=>(May.of (Ay cx "range")).bind fun q1=>(h cx xs).bind fun q2=>.yes (by subst hn;exact fun P f=>f q xs p q1 q2)) e
end
section
variable {R:Stmt→Prop}
noncomputable def d5(x:Stmt)(f:∀ t v p,May (R (.Assign [t] v p))):May (R x):=match x with|.Assign [t] v p=>f t v p|_=>.no
noncomputable def Acs(x:Stmt)(f:∀ t o v p,May (R (.AugAssign t o v p))):May (R x):=match x with|.AugAssign t o v p=>f t o v p|_=>.no
noncomputable def Act(x:Stmt)(f:∀ v p,May (R (.Expr v p))):May (R x):=match x with|.Expr v p=>f v p|_=>.no
noncomputable def Afe(x:Stmt)(f:∀ a b c p,May (R (.If a b c p))):May (R x):=match x with|.If a b c p=>f a b c p|_=>.no
noncomputable def xd(x:Stmt)(f:∀ a b p,May (R (.While a b [] p))):May (R x):=match x with|.While a b [] p=>f a b p|_=>.no
noncomputable def Aff(x:Stmt)(f:∀ t e b o p,May (R (.For t e b o p))):May (R x):=match x with|.For t e b o p=>f t e b o p|_=>.no
noncomputable def Afg(x:Stmt)(f:∀ p,May (R (.Break p))):May (R x):=match x with|.Break p=>f p|_=>.no
noncomputable def Acu(x:Stmt)(f:∀ p,May (R (.Continue p))):May (R x):=match x with|.Continue p=>f p|_=>.no
noncomputable def Afh(x:Stmt)(f:∀ v p,May (R (.Return v p))):May (R x):=match x with|.Return v p=>f v p|_=>.no
noncomputable def Afi(x:Stmt)(f:∀ b h p,May (R (.Try b h [] [] p))):May (R x):=match x with|.Try b h [] [] p=>f b h p|_=>.no
end
section
variable (nm:Nm)
noncomputable def xf:(es:MEs)→C2 nm es
 | .nil,_,xs=>xc xs (.yes fun P k=>k)
 | .cons e es,cx,xs=>d4 xs fun a l=>(May.of (O6 a)).bind fun q=>(Oo nm e cx a).bind fun q1=>(xf es cx l).bind fun q2=>.yes fun P f=>f a l q q1 q2
noncomputable def Agr:(it:MI)→C4 nm it
 | .val e,cx,x=>(May.of (V8 x)).bind fun q1=>(Oo nm e cx x).bind fun q2=>.yes ⟨q1,q2⟩
 | .rng es,cx,x=>J7 (R:=fun x=>Z6 nm (.rng es) cx x) x fun g xs p=>F6 (R:=fun g=>Z6 nm (.rng es) cx (.Call g xs [] p)) g fun n q=>(B9 n "range").bind fun hn=>(May.of (Ay cx "range")).bind fun q1=>(xf nm es cx xs).bind fun q2=>.yes (by subst hn;exact fun P f=>f q xs p q1 q2)
noncomputable def Age:(is:List Nat)→(cx:Cx)→(ts:List Expr)→May (ug is cx ts)
 | [],_,ts=>xc ts (.yes fun P k=>k)
 | i::is,cx,ts=>d4 ts fun a l=>F6 (R:=fun a=>ug (i::is) cx (a::l)) a fun n p=>(May.of (Ap cx n i)).bind fun q1=>(Age is cx l).bind fun q2=>.yes fun P f=>f n p l q1 q2
noncomputable def r8(x:Option Expr):May (x=none):=match x with|none=>.yes rfl|some _=>.no
noncomputable def xg(e:ME):May (e=.none):=match e with|.none=>.yes rfl|_=>.no
noncomputable abbrev D1(s:MS):Type:=∀ (cx:Cx) (x:Stmt),May (T9 nm s cx x)
noncomputable abbrev D2(ss:MSs):Type:=∀ (cx:Cx) (l:List Stmt),May (Fi nm ss cx l)
noncomputable def Acv(i:Nat)(c r:Str)(cx:Cx)(x:Stmt):May (T9 nm (.esc i c r) cx x):=match x with
 | .If (.Compare (.Constant c1 k1 p1) [.In] [.Name x1 p2] p3) [.Assign [.Name x2 p4] (.Call (.Attribute (.Name x3 p5) n q) [.Constant c2 k2 p6,.Constant c3 k3 p7] [] q') p8] [] p9=>
  (B9 c1 (.str c)).bind fun h1=>(B9 c2 (.str c)).bind fun h2=>(B9 c3 (.str r)).bind fun h3=>(B9 x2 x1).bind fun h4=>(B9 x3 x1).bind fun h5=>(B9 n "replace").bind fun h6=>(May.of (q.endLine==q'.line)).bind fun q1=>(May.of (Ap cx x1 i)).bind fun q2=>(May.of (K6 cx x1 i)).bind fun q3=>
   .yes (by subst h1 h2 h3 h4 h5 h6;exact fun P f=>f _ k1 p1 p2 p3 p4 p5 q q' k2 p6 k3 p7 p8 p9 q1 q2 q3)
 | _=>.no
noncomputable def Ags(s:MS):D1 nm s:=
 @MS.rec (fun s=>D1 nm s) (fun ss=>D2 nm ss)
  (fun i e cx x=>d5 x fun t v p=>F6 (R:=fun t=>T9 nm (.assign i e) cx (.Assign [t] v p)) t fun n q=>(May.of (Ap cx n i)).bind fun q1=>(Oo nm e cx v).bind fun q2=>(May.of (Dp v||qm e)).bind fun q3=>.yes fun P f=>f n q v p q1 q2 q3)
  (fun is e cx x=>d5 x fun t v p=>w9 (R:=fun t=>T9 nm (.unpack is e) cx (.Assign [t] v p)) t fun ts k q=>(Age is cx ts).bind fun q1=>(Oo nm e cx v).bind fun q2=>(May.of (Dp v)).bind fun q3=>(May.of (O7 v)).bind fun q4=>.yes fun P f=>f ts k q v p q1 q2 q3 q4)
  (fun o i e cx x=>d5 x fun t v p=>Yr (R:=fun t=>T9 nm (.asub o i e) cx (.Assign [t] v p)) t fun a b q=>(Oo nm o cx a).bind fun q1=>(Oo nm i cx b).bind fun q2=>(Oo nm e cx v).bind fun q3=>(May.of (Dp v)).bind fun q4=>(May.of (Hg b)).bind fun q5=>.yes fun P f=>f a b q v p q1 q2 q3 q4 q5)
  (fun o lo e cx x=>d5 x fun t v p=>Yr (R:=fun t=>T9 nm (.aslc o lo e) cx (.Assign [t] v p)) t fun a b q=>d3 (R:=fun b=>T9 nm (.aslc o lo e) cx (.Assign [.Subscript a b q] v p)) b fun l u s ps=>(r8 u).bind fun hu=>(r8 s).bind fun hs=>(Oo nm o cx a).bind fun q1=>(Afd nm lo cx (Oo nm lo cx) l).bind fun q2=>(Oo nm e cx v).bind fun q3=>(May.of (Dp v)).bind fun q4=>.yes (by subst hu hs;exact fun P f=>f a l ps q v p q1 q2 q3 q4))
  (fun o k e cx x=>d5 x fun t v p=>Rw (R:=fun t=>T9 nm (.aattr o k e) cx (.Assign [t] v p)) t fun a n q=>(May.of (Ec[k]?==some n)).bind fun q1=>(Oo nm o cx a).bind fun q2=>(Oo nm e cx v).bind fun q3=>(May.of (Dp v)).bind fun q4=>.yes fun P f=>f a n q v p q1 q2 q3 q4)
  (fun i op e cx x=>Acs x fun t o v p=>F6 (R:=fun t=>T9 nm (.augv i op e) cx (.AugAssign t o v p)) t fun n q=>(B9 o op).bind fun h=>(May.of (Ap cx n i)).bind fun q1=>(Oo nm e cx v).bind fun q2=>.yes (by subst h;exact fun P f=>f n q v p q1 q2))
  (fun o i op e cx x=>Acs x fun t o' v p=>Yr (R:=fun t=>T9 nm (.augsub o i op e) cx (.AugAssign t o' v p)) t fun a b q=>(B9 o' op).bind fun h=>(Oo nm o cx a).bind fun q1=>(Oo nm i cx b).bind fun q2=>(Oo nm e cx v).bind fun q3=>(May.of (Hg b)).bind fun q4=>.yes (by subst h;exact fun P f=>f a b q v p q1 q2 q3 q4))
  (fun e cx x=>Act x fun v p=>(Oo nm e cx v).bind fun q1=>(May.of (Dp v)).bind fun q2=>.yes fun P f=>f v p q1 q2)
  (fun c b o h1 h2 cx x=>Afe x fun t y z p=>(Oo nm c cx t).bind fun q1=>(h1 cx y).bind fun q2=>(h2 cx z).bind fun q3=>.yes fun P f=>f t y z p q1 q2 q3)
  (fun c b h1 cx x=>xd x fun t y p=>(Oo nm c cx t).bind fun q1=>(h1 cx y).bind fun q2=>.yes fun P f=>f t y p q1 q2)
  (fun i it b o h1 h2 cx x=>Aff x fun t e y z p=>F6 (R:=fun t=>T9 nm (.each i it b o) cx (.For t e y z p)) t fun n q=>(May.of (Ap cx n i)).bind fun q1=>(Agr nm it cx e).bind fun q2=>(h1 cx y).bind fun q3=>(h2 cx z).bind fun q4=>.yes fun P f=>f n q e y z p q1 q2 q3 q4)
  (fun i j x y b h1 cx st=>(show May (T9 nm (.zips i j x y b) cx st) from match st with
   | .For (.Tuple [.Name n1 p1,.Name n2 p2] k p3) (.Call (.Name z p4) [l,r] [] p5) body [] p=>(B9 z "zip").bind fun h=>(May.of (Ay cx "zip")).bind fun q1=>(May.of (Ap cx n1 i)).bind fun q2=>(May.of (Ap cx n2 j)).bind fun q3=>(xf nm (.cons x (.cons y .nil)) cx [l,r]).bind fun q4=>(h1 cx body).bind fun q5=>.yes (by subst h;exact fun P f=>f n1 p1 n2 p2 k p3 p4 l r p5 body p q1 q2 q3 q4 q5)
   | _=>.no))
  (fun cx x=>Afg x fun p=>.yes fun P f=>f p)
  (fun cx x=>Acu x fun p=>.yes fun P f=>f p)
  (fun e cx x=>Afh x fun v p=>(show May (T9 nm (.ret e) cx (.Return v p)) from match v with
   | none=>(xg e).bind fun h=>.yes fun P f1 f2=>f1 p h
   | some v=>(Oo nm e cx v).bind fun q=>.yes fun P f1 f2=>f2 v p q))
  (fun b h1 cx x=>Afi x fun y hs p=>(h1 cx y).bind fun q=>.yes fun P f=>f y hs p q)
  (fun i c r cx x=>Acv nm i c r cx x)
  (fun cx x=>.yes trivial)
  (fun cx l=>match l with|[]=>.yes fun P k=>k|_=>.no)
  (fun s ss h1 h2 cx l=>(show May (Fi nm (.cons s ss) cx l) from match l with|x::r=>(h1 cx x).bind fun q1=>(h2 cx r).bind fun q2=>.yes fun P f=>f x r q1 q2|[]=>.no)) s
noncomputable def nh:(ss:MSs)→D2 nm ss
 | .nil,_,l=>match l with|[]=>.yes fun P k=>k|_=>.no
 | .cons s ss,cx,l=>match l with|x::r=>(Ags nm s cx x).bind fun q1=>(nh ss cx r).bind fun q2=>.yes fun P f=>f x r q1 q2|[]=>.no
end
noncomputable def nmP:Nm:=⟨["bytes"],[("rgb_to_hls",28),("rgb_to_hsv",35),("_byteswap",203),("_escape_attrib",217),("_escape_attrib_html",224),("_escape_attrib_c14n",231),("_law_cells",238),("_law_sign",245),("_law_reference",252),("_law_write",259),("_law_folded",266),("_law_full_rows",273),("_law_parted",280),("_law_border",285),("_law_light",292),("_law_mix",297),("_law_way",304),("_law_step",311),("_law_told_share",316),("_law_greys",323),("_law_pile",330),("_law_around",337)],[("_ValueFormatter",108),("_Accumulator",192)]⟩
section
variable (P:Params)
noncomputable def r9:List DictEntry:=match (K P).lookup 3 with|some ⟨_,_,.dict es _,_⟩=>es.toList|_=>[]
end
noncomputable def xh(P:Params)(f:Addr):Option FuncData:=match (K P).lookup f with|some ⟨_,_,.func fd,_⟩=>some fd|_=>none
noncomputable def Mm:List Stmt→List Stmt×Option Stmt
 | []=>([],none)
 | x::r=>match r with
  | []=>([],some x)
  | _::_=>(x::(Mm r).1,(Mm r).2)
theorem Mn:∀ {l pre:List Stmt} {x:Stmt},Mm l=(pre,some x)→l=pre++[x]
 | [],_,_,h=>by cases h
 | [y],pre,x,h=>by cases h;rfl
 | y::z::r,pre,x,h=>by
  have h:(y::(Mm (z::r)).1,(Mm (z::r)).2)=(pre,some x):=h
  refine x02 (Prod.mk.inj h) fun h1 h2=>?_
  have:=Mn (l:=z::r) (pre:=(Mm (z::r)).1) (x:=x) (Prod.ext rfl h2)
  rw [this,←h1];rfl
noncomputable def sb(m:Nat)(e:Expr):May (Wv m e):=match e with
 | .Call (.Attribute (.Call (.Name x p0) [] [] p1) n q) [] [] q'=>(B9 x "super").bind fun h=>(May.of (Ae1[m]?==some n)).bind fun q1=>(May.of (q.endLine==q'.line)).bind fun q2=>.yes (by subst h;exact fun P f=>f p0 p1 n q q' q1 q2)
 | _=>.no
noncomputable def Agt(nm:Nm)(fn:Fn)(cx:Cx)(l:List Stmt):May (Aag nm fn cx l):=by
 unfold Aag
 exact match fn.tail with
 | none=>nh nm fn.body cx l
 | some (b,m)=>match hl:Mm l with
  | (pre,some (.Return (some e) p))=>(B9 b true).bind fun hb=>(nh nm fn.body cx pre).bind fun q1=>(sb m e).bind fun q2=>.yes fun P f=>by
    subst hb
    exact Mn hl▸f pre e p q1 q2
  | (pre,some (.Expr e p))=>(B9 b false).bind fun hb=>(nh nm fn.body cx pre).bind fun q1=>(sb m e).bind fun q2=>.yes fun P f=>by
    subst hb
    exact Mn hl▸f pre e p q1 q2
  | _=>.no
noncomputable def Aet(cx:Cx):Nat→List Str→Bool
 | _,[]=>true
 | j,n::r=>Ap cx n j&&Aet cx (j+1) r
theorem d6{cx:Cx}:∀ {l:List Str} {j k:Nat} {n:Str},Aet cx j l=true→l[k]?=some n→Ap cx n (j+k)=true
 | [],_,_,_,_,h=>nomatch h
 | m::r,j,0,n,h,e=>Ak (b:=Aet cx (j+1) r) h fun h1 zA=>by cases e;exact h1
 | m::r,j,k+1,n,h,e=>Ak (a:=Ap cx m j) h fun zA h2=>by
  have:=d6 h2 e
  rwa [Nat.add_assoc,Nat.add_comm 1 k] at this
noncomputable def Pr(K:Frag)(a:Addr):Bool:=match K.lookup a with
 | some ⟨_,_,.cell _,_⟩=>true
 | _=>false
theorem Ys{K:Frag}{a:Addr}(h:Pr K a=true):∃ oc,K.lookup a=some oc∧∃ v,oc.data=.cell v:=by
 unfold Pr at h
 cases ho:K.lookup a with
 | none=>rw [ho] at h;exact Bool.noConfusion h
 | some o=>
  rw [ho] at h
  obtain ⟨c,d,dt,s⟩:=o
  cases dt<;>first|exact ⟨_,rfl,_,rfl⟩|exact Bool.noConfusion h
noncomputable def Acw(K:Frag)(fd:FuncData)(fn:Fn)(slots:List (Str×Nat))(names:List Str):Bool:=
 fd.scope.isGenerator==false&&(fd.scope.isCoroutine==false&&(fd.scope.kind==.function&&(fd.globals==mainGlobals&&(fd.builtins==builtinsNs&&(codeIn K fd.code fd.qualname&&(names.length==fn.pars&&(Aet ⟨fd.scope.names,slots,fn.slots⟩ 0 names &&
  (fd.closure.all (fun p=>p.1==("__class__" : Str)&&Pr K p.2)&&(decide (fd.closure.length≤1)&&(fd.scope.names.all (fun p=>!(p==(("__class__" : Str),NameKind.cell)))&&(slots.all (fun p=>decide (p.2<fn.slots)&&(fd.scope.names.lookup p.1==some .local||fd.scope.names.lookup p.1==some .cell)) &&
   (Hf (slots.map (·.2))&&decide (fn.pars≤fn.slots)))))))))))))
theorem I5.of{c:Cfg}{f:Addr}{fn:Fn}{slots:List (Str×Nat)}{fd:FuncData}{names:List Str}{stmts:List Stmt}(h:Acw c.K fd fn slots names=true)(hat:∃ oc od osl,c.K.lookup f=some ⟨oc,od,.func fd,osl⟩)(hbody:fd.body=.stmts stmts)
  (hb:∀ xs:List Value,xs.length≤fn.pars→fn.pars≤xs.length+fn.dflt.length→∃ ds,(∀ X ρ T h,Ae X ρ T h (fn.dflt.drop (xs.length+fn.dflt.length-fn.pars)) ds)∧∀ S,peek c.K S (bindArgs fd ⟨xs,[]⟩)=some (names.zip (xs++ds))):I5 c f fn slots fd names stmts:=
 Ak h fun h1 h=>Ak h fun h2 h=>Ak h fun h3 h=>Ak h fun h4 h=>Ak h fun h5 h=>Ak h fun h6 h=>Ak h fun h7 h=>Ak h fun h8 h=>Ak h fun h9 h=>Ak h fun h10 h=>Ak h fun h11 h=>Ak h fun h12 h=>Ak h fun h13 h14=>
 ⟨hat,hbody,eq_of_beq h1,eq_of_beq h2,eq_of_beq h3,eq_of_beq h4,eq_of_beq h5,h6,eq_of_beq h7,fun j n e=>Ak (d6 h8 e) fun a b=>Ak b fun b d=>Ak d fun d zA=>⟨by rw [Nat.zero_add] at a;exact eq_of_beq a,X3 b (fun e=>.inl (eq_of_beq e)) fun e=>.inr (eq_of_beq e),fun z=>Bool.noConfusion ((beq_iff_eq.mpr z).symm.trans (Dw d))⟩,
  fun x a m=>Ak (List.all_eq_true.mp h9 _ m) fun e1 e2=>⟨eq_of_beq e1,Ys e2⟩,od9 h10,fun m=>Bool.noConfusion ((beq_self_eq_true _).symm.trans (Dw (List.all_eq_true.mp h11 _ m))),
  fun x i e=>Ak (List.all_eq_true.mp h12 _ (mem_of_lookup e)) fun e1 e2=>⟨od9 e1,X3 e2 (fun e=>.inl (eq_of_beq e)) fun e=>.inr (eq_of_beq e)⟩,fun x y i e1 e2=>congrArg Prod.fst (Ae4 (f:=fun p:Str×Nat=>p.2) (Lu h13) (mem_of_lookup e1) (mem_of_lookup e2) rfl),od9 h14,hb⟩
noncomputable def Dx:Nat→(List Value→Prop)→Prop
 | 0,P=>P []
 | n+1,P=>∀ a,Dx n fun l=>P (a::l)
theorem Dx.at:∀ {n:Nat} {P:List Value→Prop},Dx n P→∀ xs:List Value,xs.length=n→P xs
 | 0,_,h,xs,e=>by cases xs with|nil=>exact h|cons a l=>exact nomatch e
 | n+1,P,h,xs,e=>by cases xs with|nil=>exact nomatch e|cons a l=>exact Dx.at (h a) l (Nat.succ.inj e)
theorem A3{K:Frag}{fd:FuncData}{fn:Fn}{names:List Str}(hd:fn.dflt=[])(h:Dx fn.pars fun xs=>∀ S,peek K S (bindArgs fd ⟨xs,[]⟩)=some (names.zip xs))(xs:List Value)(h1:xs.length≤fn.pars)(h2:fn.pars≤xs.length+fn.dflt.length) :
  ∃ ds,(∀ X ρ T h,Ae X ρ T h (fn.dflt.drop (xs.length+fn.dflt.length-fn.pars)) ds)∧∀ S,peek K S (bindArgs fd ⟨xs,[]⟩)=some (names.zip (xs++ds)):=by
 rw [hd] at h2 ⊢
 refine ⟨[],fun X ρ T h=>by rw [List.drop_nil];exact .nil,?_⟩
 rw [List.append_nil]
 exact h.at xs (Nat.le_antisymm h1 h2)
theorem d7{K:Frag}{fd:FuncData}{fn:Fn}{names:List Str}{v:V}{z:Value}{n:Nat}(hd:fn.dflt=[v])(hn:fn.pars=n+1)(hv:∀ X ρ T h,Ao X ρ T h v z)(h:Dx (n+1) fun xs=>∀ S,peek K S (bindArgs fd ⟨xs,[]⟩)=some (names.zip xs))(h':Dx n fun xs=>∀ S,peek K S (bindArgs fd ⟨xs,[]⟩)=some (names.zip (xs++[z])))
  (xs:List Value) (h1:xs.length≤fn.pars) (h2:fn.pars≤xs.length+fn.dflt.length):∃ ds,(∀ X ρ T h,Ae X ρ T h (fn.dflt.drop (xs.length+fn.dflt.length-fn.pars)) ds)∧∀ S,peek K S (bindArgs fd ⟨xs,[]⟩)=some (names.zip (xs++ds)):=by
 rw [hd,hn] at *
 by_cases e:xs.length=n+1
 ·refine ⟨[],fun X ρ T h=>?_,?_⟩
  ·rw [e,show n+1+[v].length-(n+1)=1 from Nat.add_sub_cancel_left ..];exact .nil
  ·rw [List.append_nil];exact h.at xs e
 ·have e:xs.length=n:=Nat.le_antisymm (Nat.le_of_lt_succ (Nat.lt_of_le_of_ne h1 e)) (Nat.le_of_succ_le_succ h2)
  refine ⟨[z],fun X ρ T h=>?_,h'.at xs e⟩
  rw [e,show n+[v].length-(n+1)=0 from Nat.sub_self _];exact .cons (hv X ρ T h) .nil
noncomputable def Agu:FuncData:={name:= "",qualname:= "",params:=⟨[],[],none,[],[],none,[]⟩,body:=.stmts [],scope:=⟨.function,[],false,false,[]⟩,globals:=0,closure:=[],defaults:=.none,kwdefaults:=.none}
noncomputable def fdOf(P:Params)(f:Addr):FuncData:=match xh P f with|some fd=>fd|none=>Agu
noncomputable def Zy(fd:FuncData):List Stmt:=match fd.body with|.stmts b=>b|_=>[]
noncomputable def Yt(fd:FuncData):Bool:=match fd.body with|.stmts _=>true|_=>false
theorem d8{fd:FuncData}(h:Yt fd=true):fd.body=.stmts (Zy fd):=by
 unfold Yt at h
 unfold Zy
 cases hb:fd.body with
 | stmts b=>rfl
 | expr e=>rw [hb] at h;exact Bool.noConfusion h
theorem se{P:Params}{f:Addr}(h:(xh P f).isSome=true):∃ oc od osl,(K P).lookup f=some ⟨oc,od,.func (fdOf P f),osl⟩:=by
 unfold fdOf
 unfold xh at h ⊢
 cases ho:(K P).lookup f with
 | none=>rw [ho] at h;exact Bool.noConfusion h
 | some o=>
  rw [ho] at h
  obtain ⟨c,d,dt,s⟩:=o
  cases dt<;>first|exact ⟨_,_,_,rfl⟩|exact Bool.noConfusion h
noncomputable def Agv(P:Params)(f:Addr)(fn:Fn)(slots:List (Str×Nat)):Cx:=⟨(fdOf P f).scope.names,slots,fn.slots⟩
noncomputable def F7(P:Params)(f:Addr)(fn:Fn)(slots:List (Str×Nat))(names:List Str):Bool:=
 (xh P f).isSome&&(Yt (fdOf P f)&&(Acw (K P) (fdOf P f) fn slots names&&(Agt nmP fn (Agv P f fn slots) (Zy (fdOf P f))).isYes))
noncomputable abbrev Bq(c:Cfg)(P:Params)(f:Addr)(fn:Fn)(slots:List (Str×Nat))(names:List Str):Prop:=I5 c f fn slots (fdOf P f) names (Zy (fdOf P f))∧Aag nmP fn ⟨(fdOf P f).scope.names,slots,fn.slots⟩ (Zy (fdOf P f))
theorem Aw{c:Cfg}{P:Params}(hK:c.K=K P){f:Addr}{fn:Fn}{slots:List (Str×Nat)}{names:List Str}(h:F7 P f fn slots names=true)(hb:∀ xs:List Value,xs.length≤fn.pars→fn.pars≤xs.length+fn.dflt.length→∃ ds,(∀ X ρ T h,Ae X ρ T h (fn.dflt.drop (xs.length+fn.dflt.length-fn.pars)) ds)∧∀ S,peek (K P) S (bindArgs (fdOf P f) ⟨xs,[]⟩)=some (names.zip (xs++ds))):Bq c P f fn slots names:=
 Ak h fun h1 h=>Ak h fun h2 h=>Ak h fun h3 h4=>⟨.of (hK▸h3) (hK▸se h1) (d8 h2) (hK▸hb),May.get h4⟩
theorem Rx(P:Params):F7 P 28 Dm Jy ["r","g","b"]=true:=by kernel_rfl
theorem Ry{c:Cfg}{P:Params}(hK:c.K=K P):Bq c P 28 Dm Jy ["r","g","b"]:=Aw hK (Rx P) (A3 rfl (show Dx 3 _ from fun a b c S=>by kernel_rfl))
theorem Rz(P:Params):F7 P 35 Ej Jz ["r","g","b"]=true:=by kernel_rfl
theorem R0{c:Cfg}{P:Params}(hK:c.K=K P):Bq c P 35 Ej Jz ["r","g","b"]:=Aw hK (Rz P) (A3 rfl (show Dx 3 _ from fun a b c S=>by kernel_rfl))
theorem d9(P:Params):F7 P 49 Ma Rj ["self","headerlen","maxlen","continuation_ws","splitchars"]=true:=by kernel_rfl
theorem ea{c:Cfg}{P:Params}(hK:c.K=K P):Bq c P 49 Ma Rj ["self","headerlen","maxlen","continuation_ws","splitchars"]:=Aw hK (d9 P) (A3 rfl (show Dx 5 _ from fun a b c d e S=>by kernel_rfl))
theorem ni(P:Params):F7 P 56 Rk Wz ["self","linesep"]=true:=by kernel_rfl
theorem nj{c:Cfg}{P:Params}(hK:c.K=K P):Bq c P 56 Rk Wz ["self","linesep"]:=Aw hK (ni P) (A3 rfl (show Dx 2 _ from fun a b S=>by kernel_rfl))
theorem R1(P:Params):F7 P 70 Ek J0 ["self"]=true:=by kernel_rfl
theorem R2{c:Cfg}{P:Params}(hK:c.K=K P):Bq c P 70 Ek J0 ["self"]:=Aw hK (R1 P) (A3 rfl (show Dx 1 _ from fun a S=>by kernel_rfl))
theorem I9(P:Params):F7 P 105 Bh El ["self","fws","string"]=true:=by kernel_rfl
theorem Ja{c:Cfg}{P:Params}(hK:c.K=K P):Bq c P 105 Bh El ["self","fws","string"]:=Aw hK (I9 P) (A3 rfl (show Dx 3 _ from fun a b c S=>by kernel_rfl))
theorem eb(P:Params):F7 P 129 I7 Rn ["self","initial_size"]=true:=by kernel_rfl
theorem ec{c:Cfg}{P:Params}(hK:c.K=K P):Bq c P 129 I7 Rn ["self","initial_size"]:=Aw hK (eb P) (d7 (n:=1) (z:=.int 0 359) rfl rfl (fun zA zB zC zD=>.int _ _) (show Dx 2 _ from fun a b S=>by kernel_rfl) (show Dx 1 _ from fun a S=>by kernel_rfl))
theorem ed(P:Params):F7 P 136 Mb Ro ["self","fws","string"]=true:=by kernel_rfl
theorem ee{c:Cfg}{P:Params}(hK:c.K=K P):Bq c P 136 Mb Ro ["self","fws","string"]:=Aw hK (ed P) (A3 rfl (show Dx 3 _ from fun a b c S=>by kernel_rfl))
theorem Ps(P:Params):F7 P 144 Dq Hu ["self","i"]=true:=by kernel_rfl
theorem Pt{c:Cfg}{P:Params}(hK:c.K=K P):Bq c P 144 Dq Hu ["self","i"]:=Aw hK (Ps P) (d7 (n:=1) (z:=.int 0 378) rfl rfl (fun zA zB zC zD=>.int _ _) (show Dx 2 _ from fun a b S=>by kernel_rfl) (show Dx 1 _ from fun a S=>by kernel_rfl))
theorem nk(P:Params):F7 P 152 Rp W0 ["self"]=true:=by kernel_rfl
theorem np{c:Cfg}{P:Params}(hK:c.K=K P):Bq c P 152 Rp W0 ["self"]:=Aw hK (nk P) (A3 rfl (show Dx 1 _ from fun a S=>by kernel_rfl))
theorem Yu(P:Params):F7 P 174 Gh Oi ["self","startval"]=true:=by kernel_rfl
theorem Yv{c:Cfg}{P:Params}(hK:c.K=K P):Bq c P 174 Gh Oi ["self","startval"]:=Aw hK (Yu P) (d7 (n:=1) (z:=.none) rfl rfl (fun zA zB zC zD=>.none) (show Dx 2 _ from fun a b S=>by kernel_rfl) (show Dx 1 _ from fun a S=>by kernel_rfl))
theorem Nw(P:Params):F7 P 181 Da Gy ["self"]=true:=by kernel_rfl
theorem Nx{c:Cfg}{P:Params}(hK:c.K=K P):Bq c P 181 Da Gy ["self"]:=Aw hK (Nw P) (A3 rfl (show Dx 1 _ from fun a S=>by kernel_rfl))
theorem Mo(P:Params):F7 P 189 Cn Ft ["self"]=true:=by kernel_rfl
theorem Mp{c:Cfg}{P:Params}(hK:c.K=K P):Bq c P 189 Cn Ft ["self"]:=Aw hK (Mo P) (A3 rfl (show Dx 1 _ from fun a S=>by kernel_rfl))
theorem Yw(P:Params):F7 P 203 Hv Oj ["data","width"]=true:=by kernel_rfl
theorem Yx{c:Cfg}{P:Params}(hK:c.K=K P):Bq c P 203 Hv Oj ["data","width"]:=Aw hK (Yw P) (A3 rfl (show Dx 2 _ from fun a b S=>by kernel_rfl))
theorem Mq(P:Params):F7 P 217 Co Fw ["text"]=true:=by kernel_rfl
theorem Mr{c:Cfg}{P:Params}(hK:c.K=K P):Bq c P 217 Co Fw ["text"]:=Aw hK (Mq P) (A3 rfl (show Dx 1 _ from fun a S=>by kernel_rfl))
theorem Gp(P:Params):F7 P 224 Ba Dg ["text"]=true:=by kernel_rfl
theorem Gq{c:Cfg}{P:Params}(hK:c.K=K P):Bq c P 224 Ba Dg ["text"]:=Aw hK (Gp P) (A3 rfl (show Dx 1 _ from fun a S=>by kernel_rfl))
theorem Gr(P:Params):F7 P 231 Bb Di ["text"]=true:=by kernel_rfl
theorem Gs{c:Cfg}{P:Params}(hK:c.K=K P):Bq c P 231 Bb Di ["text"]:=Aw hK (Gr P) (A3 rfl (show Dx 1 _ from fun a S=>by kernel_rfl))
theorem Uv(P:Params):F7 P 238 Fz Me ["script"]=true:=by kernel_rfl
theorem Uw{c:Cfg}{P:Params}(hK:c.K=K P):Bq c P 238 Fz Me ["script"]:=Aw hK (Uv P) (A3 rfl (show Dx 1 _ from fun a S=>by kernel_rfl))
theorem Yy(P:Params):F7 P 245 Hw Ok ["which","number"]=true:=by kernel_rfl
theorem Yz{c:Cfg}{P:Params}(hK:c.K=K P):Bq c P 245 Hw Ok ["which","number"]:=Aw hK (Yy P) (A3 rfl (show Dx 2 _ from fun a b S=>by kernel_rfl))
theorem Ms(P:Params):F7 P 252 Cp F0 ["which","sign"]=true:=by kernel_rfl
theorem Mt{c:Cfg}{P:Params}(hK:c.K=K P):Bq c P 252 Cp F0 ["which","sign"]:=Aw hK (Ms P) (A3 rfl (show Dx 2 _ from fun a b S=>by kernel_rfl))
theorem Ux(P:Params):F7 P 259 F1 Mg ["which","text"]=true:=by kernel_rfl
theorem Uy{c:Cfg}{P:Params}(hK:c.K=K P):Bq c P 259 F1 Mg ["which","text"]:=Aw hK (Ux P) (A3 rfl (show Dx 2 _ from fun a b S=>by kernel_rfl))
theorem R3(P:Params):F7 P 266 Em J2 ["words","width","room"]=true:=by kernel_rfl
theorem R4{c:Cfg}{P:Params}(hK:c.K=K P):Bq c P 266 Em J2 ["words","width","room"]:=Aw hK (R3 P) (A3 rfl (show Dx 3 _ from fun a b c S=>by kernel_rfl))
theorem Mu(P:Params):F7 P 273 Cq F2 ["words","width","room"]=true:=by kernel_rfl
theorem Mv{c:Cfg}{P:Params}(hK:c.K=K P):Bq c P 273 Cq F2 ["words","width","room"]:=Aw hK (Mu P) (A3 rfl (show Dx 3 _ from fun a b c S=>by kernel_rfl))
theorem R5(P:Params):F7 P 280 En J3 ["kinds","sizes"]=true:=by kernel_rfl
theorem R6{c:Cfg}{P:Params}(hK:c.K=K P):Bq c P 280 En J3 ["kinds","sizes"]:=Aw hK (R5 P) (A3 rfl (show Dx 2 _ from fun a b S=>by kernel_rfl))
theorem R7(P:Params):F7 P 285 Eo J4 ["rows"]=true:=by kernel_rfl
theorem R8{c:Cfg}{P:Params}(hK:c.K=K P):Bq c P 285 Eo J4 ["rows"]:=Aw hK (R7 P) (A3 rfl (show Dx 1 _ from fun a S=>by kernel_rfl))
theorem Uz(P:Params):F7 P 292 Hz Mi ["number"]=true:=by kernel_rfl
theorem U0{c:Cfg}{P:Params}(hK:c.K=K P):Bq c P 292 Hz Mi ["number"]:=Aw hK (Uz P) (A3 rfl (show Dx 1 _ from fun a S=>by kernel_rfl))
theorem ef(P:Params):F7 P 297 Mj Rt ["kinds","number"]=true:=by kernel_rfl
theorem eg{c:Cfg}{P:Params}(hK:c.K=K P):Bq c P 297 Mj Rt ["kinds","number"]:=Aw hK (ef P) (A3 rfl (show Dx 2 _ from fun a b S=>by kernel_rfl))
theorem eh(P:Params):F7 P 304 Pp Ru ["here","there"]=true:=by kernel_rfl
theorem ei{c:Cfg}{P:Params}(hK:c.K=K P):Bq c P 304 Pp Ru ["here","there"]:=Aw hK (eh P) (A3 rfl (show Dx 2 _ from fun a b S=>by kernel_rfl))
theorem Y0(P:Params):F7 P 311 Ia Ol ["here","there","number"]=true:=by kernel_rfl
theorem Y1{c:Cfg}{P:Params}(hK:c.K=K P):Bq c P 311 Ia Ol ["here","there","number"]:=Aw hK (Y0 P) (A3 rfl (show Dx 3 _ from fun a b c S=>by kernel_rfl))
theorem Kl(P:Params):F7 P 316 B6 Fc ["corners","number"]=true:=by kernel_rfl
theorem Km{c:Cfg}{P:Params}(hK:c.K=K P):Bq c P 316 B6 Fc ["corners","number"]:=Aw hK (Kl P) (A3 rfl (show Dx 2 _ from fun a b S=>by kernel_rfl))
theorem U1(P:Params):F7 P 323 F4 Mk ["rows","cuts"]=true:=by kernel_rfl
theorem U2{c:Cfg}{P:Params}(hK:c.K=K P):Bq c P 323 F4 Mk ["rows","cuts"]:=Aw hK (U1 P) (A3 rfl (show Dx 2 _ from fun a b S=>by kernel_rfl))
theorem Y2(P:Params):F7 P 330 Ib Om ["words"]=true:=by kernel_rfl
theorem Y3{c:Cfg}{P:Params}(hK:c.K=K P):Bq c P 330 Ib Om ["words"]:=Aw hK (Y2 P) (A3 rfl (show Dx 1 _ from fun a S=>by kernel_rfl))
theorem R9(P:Params):F7 P 337 Er J5 ["pile"]=true:=by kernel_rfl
theorem Sa{c:Cfg}{P:Params}(hK:c.K=K P):Bq c P 337 Er J5 ["pile"]:=Aw hK (R9 P) (A3 rfl (show Dx 1 _ from fun a S=>by kernel_rfl))
theorem Afj(P:Params):F7 P 342 law Acj ["script"]=true:=by kernel_rfl
theorem Afk{c:Cfg}{P:Params}(hK:c.K=K P):Bq c P 342 law Acj ["script"]:=Aw hK (Afj P) (A3 rfl (show Dx 1 _ from fun a S=>by kernel_rfl))
noncomputable def Aah(P:Params)(x:Str):Option Value:=nsFind (r9 P).toArray x
noncomputable def sf(K:Frag)(a:Addr):Bool:=match K.lookup a with
 | some ⟨_,_,.dict es _,_⟩=>es.toList.all fun e=>di e.key
 | _=>false
theorem ej(P:Params)(h:Heap)(X:(K P).In h):h.Ns mainGlobals (Aah P):=by
 have hb:sf (K P) 3=true:=by kernel_rfl
 unfold sf at hb
 unfold Aah r9
 cases ho:(K P).lookup 3 with
 | none=>rw [ho] at hb;exact Bool.noConfusion hb
 | some o=>
  rw [ho] at hb
  obtain ⟨c,d,dt,s⟩:=o
  cases dt<;>try exact Bool.noConfusion hb
  case dict es ep=>exact ⟨_,es,ep,X _ _ ho,rfl,fun e he=>Wx (List.all_eq_true.mp hb e (Array.mem_toList_iff.mpr he)),fun name=>by rw [Array.toArray_toList]⟩
noncomputable abbrev j5:Obj:={cls:=.none,data:=.fields #[]}
noncomputable def Bo(w:World)(mb:Str→Option Value)(h:Heap):Cfg:=⟨Ai,w,K w.params,mb,Aah w.params,[(158,154),(165,161)],fun a=>∃ o,h.get? a=some o⟩
theorem ek{P:Params}{h:Heap}(X:(K P).In h){a:Addr}(e:((K P).lookup a).isSome=true):∃ o,h.get? a=some o:=(Option.isSome_iff_exists.mp e).elim fun o e=>⟨o,X a o e⟩
theorem W5{C:Addr×Addr→Prop}(h1:C (158,154))(h2:C (165,161)):∀ q∈[((158:Addr),(154:Addr)),(165,161)],C q:=fun q hq=>Aj hq (fun e=>e▸h1) fun hq=>List.mem_singleton.mp hq▸h2
theorem Acx{w:World}{mb:Str→Option Value}{h:Heap}(X:(K w.params).In h)(h1:h.get? 154=some j5)(h2:h.get? 161=some j5)(hb:∃ o,h.get? builtinsNs=some o)(boot:∀ x:Str,x≠ "__name__" →mb x=bootBuiltins x):Bj (Bo w mb h):=
 ⟨fun a o e=>⟨o,X a o e⟩,W5 (C:=fun q=>(K w.params).lookup q.2=none) (by kernel_rfl) (by kernel_rfl),W5 (C:=fun q=>(∃ o,h.get? q.2=some o)∧q.2≠builtinsNs∧q.2≠cStatics) ⟨⟨_,h1⟩,by decide,by decide⟩ ⟨⟨_,h2⟩,by decide,by decide⟩,
  W5 (C:=fun q=>∃ o,h.get? q.1=some o) (ek X (by kernel_rfl)) (ek X (by kernel_rfl)),⟨hb,ek X (by kernel_rfl)⟩,boot,fun h' X'=>ej w.params h' X'⟩
theorem xi{w:World}{mb:Str→Option Value}{h:Heap}:Up (Bo w mb h) tb 192:=by
 refine ⟨rfl,fun C e=>eq_of_beq e,by kernel_rfl,by kernel_rfl,by kernel_rfl,by kernel_rfl,by kernel_rfl,by kernel_rfl,by kernel_rfl,by kernel_rfl,by kernel_rfl,fun x cd hcd=>?_⟩
 have e:clsIn (K w.params) 192=some {name:= "_Accumulator",bases:=[.type "list"],mro:=[.ref 192,.type "list",.type "object"],ns:=191,qualname:= "_Accumulator"}:=by kernel_rfl
 rw [show clsIn (Bo w mb h).K 192=_ from e] at hcd
 cases hcd
 kernel_rfl
noncomputable def Afl(K:Frag)(C:Addr):Bool:=Ec.all fun n=>findIn K (.ref C) n==some none
noncomputable def Afm(K:Frag)(C:Addr):Bool:=(List.range Iv.length).all fun m=>match tb.meths C m,Iv[m]? with
 | some f,some n=>findIn K (.ref C) n==some (some (.ref f))&&typeIn K (.ref f)==some (.type "function")
 | _,_=>true
theorem em{K:Frag}{C:Addr}(h:Afl K C=true)(k:Nat)(name:Str)(e:Ec[k]?=some name):findIn K (.ref C) name=some none:=eq_of_beq (List.all_eq_true.mp h name (List.mem_of_getElem? e))
theorem eo{K:Frag}{C:Addr}(h:Afm K C=true)(m:Nat)(name:Str)(f:Addr)(e1:tb.meths C m=some f)(e2:Iv[m]?=some name):findIn K (.ref C) name=some (some (.ref f))∧typeIn K (.ref f)=some (.type "function"):=by
 have:=List.all_eq_true.mp h m (List.mem_range.mpr (List.getElem?_eq_some_iff.mp e2).1)
 rw [e1,e2] at this
 exact Ak this fun a b=>⟨eq_of_beq a,eq_of_beq b⟩
theorem Sb(P:Params):Fp (K P) tb 192:=
 ⟨.inr ⟨by kernel_rfl,by kernel_rfl⟩,by kernel_rfl,by kernel_rfl,by kernel_rfl,by kernel_rfl,em (by kernel_rfl),eo (by kernel_rfl),fun f e=>by cases e;exact ⟨by kernel_rfl,by kernel_rfl,by kernel_rfl⟩,fun f e=>by cases e;exact ⟨by kernel_rfl,by kernel_rfl⟩⟩
theorem si(P:Params):Fp (K P) tb 108:=
 ⟨.inl (by kernel_rfl),by kernel_rfl,by kernel_rfl,by kernel_rfl,by kernel_rfl,em (by kernel_rfl),eo (by kernel_rfl),fun f e=>(nomatch e),fun f e=>(nomatch e)⟩
theorem Acy(P:Params):Ef (K P) 192:=⟨by kernel_rfl,by kernel_rfl,by kernel_rfl,by kernel_rfl,by kernel_rfl⟩
noncomputable def eu(K:Frag)(f:Addr):Bool:=match K.lookup f with|some ⟨_,_,.func _,_⟩=>true|_=>false
theorem U3{c:Cfg}{f:Addr}(h:eu c.K f=true):uu c f:=by
 unfold eu at h
 unfold uu
 cases ho:c.K.lookup f with
 | none=>rw [ho] at h;exact Bool.noConfusion h
 | some o=>
  rw [ho] at h
  obtain ⟨cl,d,dt,s⟩:=o
  cases dt<;>first|exact ⟨_,_,rfl,rfl⟩|exact Bool.noConfusion h
noncomputable def Acz(P:Params)(l:List (Str×Addr))(p:Addr→Bool):Bool:=l.all fun q=>Aah P q.1==some (.ref q.2)&&p q.2
theorem W6{P:Params}{l:List (Str×Addr)}{p:Addr→Bool}(h:Acz P l p=true){x:Str}{f:Addr}(e:l.lookup x=some f):Aah P x=some (.ref f)∧p f=true:=
 Ak (List.all_eq_true.mp h _ (mem_of_lookup e)) fun a b=>⟨eq_of_beq a,b⟩
theorem Ac0{C:Addr→Addr→Prop}(h1:C 108 49)(h2:C 192 129)(a f:Addr)(e:tb.initOf a=some f):C a f:=by
 have e:(if a=108 then some 49 else if a=192 then some 129 else none)=some f:=e
 by_cases c1:a=108
 ·rw [if_pos c1] at e;cases e;cases c1;exact h1
 ·rw [if_neg c1] at e
  by_cases c2:a=192
  ·rw [if_pos c2] at e;cases e;cases c2;exact h2
  ·rw [if_neg c2] at e;cases e
theorem Ac1{C:Addr→Prop}(h:C 192){n f:Addr}(a:Addr)(e:(if a=192 then some n else none)=some f):C a:=by
 by_cases c2:a=192
 ·cases c2;exact h
 ·rw [if_neg c2] at e;cases e
theorem Jb{m f:Nat}:∀ {l:List (Nat×Nat)},l.lookup m=some f→(m,f)∈l
 | (a,b)::r,h=>by
  by_cases c:m=a
  ·subst c
   have h:(match m==m with|true=>some b|false=>r.lookup m)=some f:=h
   rw [beq_self_eq_true] at h
   cases h;exact ms9
  ·have h:(match m==a with|true=>some b|false=>r.lookup m)=some f:=h
   rw [beq_false_of_ne c] at h
   exact mm9 _ (Jb h)
theorem xj{C:Addr→Addr→Prop}(a f:Addr)(m:Nat)(e:tb.meths a m=some f)(k1:∀ p∈([(6,70),(7,105),(8,56)]:List (Nat×Addr)),C 108 p.2)(k2:∀ p∈([(0,136),(1,144),(2,152),(3,174),(4,181),(5,189)]:List (Nat×Addr)),C 192 p.2):C a f:=by
 have e:(if a=108 then ([(6,70),(7,105),(8,56)]:List (Nat×Addr)).lookup m else if a=192 then ([(0,136),(1,144),(2,152),(3,174),(4,181),(5,189)]:List (Nat×Addr)).lookup m else none)=some f:=e
 by_cases c1:a=108
 ·rw [if_pos c1] at e;cases c1;have e:List.lookup m [(6,70),(7,105),(8,56)]=some f:=e;exact k1 (m,f) (Jb e)
 ·rw [if_neg c1] at e
  by_cases c2:a=192
  ·rw [if_pos c2] at e;cases c2;have e:List.lookup m [(0,136),(1,144),(2,152),(3,174),(4,181),(5,189)]=some f:=e;exact k2 (m,f) (Jb e)
  ·rw [if_neg c2] at e;cases e
theorem fx{w:World}{mb:Str→Option Value}{h:Heap}{Φ:Orc}{d:Nat}(ok:Bj (Bo w mb h))(S:am ⟨Bo w mb h,nmP,tb,Φ,d⟩):Fx ⟨Bo w mb h,nmP,tb,Φ,d⟩ where
 ok:=ok
 globs:=fun k x e=>by
  cases k with
  | zero=>cases e;exact ⟨_,rfl,(by kernel_rfl),(ok.boot "bytes" (by decide)).trans (by decide +kernel)⟩
  | succ k=>cases e
 fns:=fun x f e=>by
  refine x02 (W6 (P:=w.params) (l:=nmP.fns) (p:=eu (K w.params)) (by kernel_rfl) e) fun a b=>?_
  exact ⟨a,U3 b⟩
 clss:=fun x C e=>W6 (P:=w.params) (l:=nmP.clss) (p:=fun C=>(tb.initOf C).isSome) (by kernel_rfl) e
 bis:=fun b=>by cases b<;>kernel_rfl
 rng:=⟨by kernel_rfl,by kernel_rfl,by kernel_rfl⟩
 news:=Ac0 (C:=fun C f=>Wg (K w.params) C (if tb.isList C then "list.__new__" else "object.__new__")=true∧keepIn (K w.params) (.ref C)=true∧findIn (K w.params) (.ref C) "__init__" = some (some (.ref f))∧typeIn (K w.params) (.ref f)=some (.type "function"))
  ⟨by kernel_rfl,by kernel_rfl,by kernel_rfl,by kernel_rfl⟩ ⟨by kernel_rfl,by kernel_rfl,by kernel_rfl,by kernel_rfl⟩
 lists:=fun C e=>by cases eq_of_beq e;exact ⟨Acy _,Sb _⟩
 cls:=fun C e=>X3 e (fun e=>by cases eq_of_beq e;exact si _) fun e=>by cases eq_of_beq e;exact Sb _
 lens:=fun C f e=>Ac1 (C:=Fp (K w.params) tb) (Sb _) C e
 texts:=fun C f e=>Ac1 (C:=Fp (K w.params) tb) (Sb _) C e
 meths:=fun C m f e=>xj (C:=fun C f=>Fp (K w.params) tb C∧uu (Bo w mb h) f) C f m e
  (fun p hp=>⟨si _,U3 (List.all_eq_true.mp (by kernel_rfl:([(6,70),(7,105),(8,56)]:List (Nat×Addr)).all (fun p=>eu (K w.params) p.2)=true) p hp)⟩)
  fun p hp=>⟨Sb _,U3 (List.all_eq_true.mp (by kernel_rfl:([(0,136),(1,144),(2,152),(3,174),(4,181),(5,189)]:List (Nat×Addr)).all (fun p=>eu (K w.params) p.2)=true) p hp)⟩
 snd:=S
theorem Agf(w:World)(mb:Str→Option Value)(h:Heap):Ack (Bo w mb h):=.inr ⟨4,_,by kernel_rfl,by decide,(by kernel_rfl:(K w.params).lookup 4=some {cls:=.type "module",dict:=some builtinsNs,data:=.plain}),rfl,rfl,rfl⟩
noncomputable def xk(P:Params)(cd:Value):Bool:=match cd with
 | .ref a=>match (K P).lookup a with
  | some ⟨_,_,.fields vs,_⟩=>match (vs[2]?:Option Value) with
   | some (Value.str file _)=>(Ai.main.file:Str)==file
   | _=>false
  | _=>false
 | _=>false
theorem xm{P:Params}{cd:Value}(h:xk P cd=true):∃ cda oc vs tf file,cd=.ref cda∧(K P).lookup cda=some oc∧oc.data=.fields vs∧vs[2]?=some (.str file tf)∧((Ai.main.file:Str)==file)=true:=by
 unfold xk at h
 cases cd<;>try exact Bool.noConfusion h
 case ref a=>
  cases ho:(K P).lookup a with
  | none=>dsimp only at h;rw [ho] at h;exact Bool.noConfusion h
  | some o=>
   dsimp only at h;rw [ho] at h
   obtain ⟨cl,d,dt,s⟩:=o
   cases dt<;>try exact Bool.noConfusion h
   case fields vs=>
    dsimp only at h
    cases hv:vs[2]? with
    | none=>rw [hv] at h;exact Bool.noConfusion h
    | some v=>
     rw [hv] at h
     cases v<;>try exact Bool.noConfusion h
     case str f t=>exact ⟨a,_,vs,t,f,rfl,ho,rfl,hv,h⟩
theorem U4{w:World}{mb:Str→Option Value}{h:Heap}{f:Addr}{names:List Str}(h1:xk w.params (fdOf w.params f).code=true)(h2:∃ ar,((fdOf w.params f).params.posonlyargs++(fdOf w.params f).params.args).head?=some ar∧names[0]?=some ar.arg∧(ar.arg==("__classdict__" : Str))=false)
  (h3:(fdOf w.params f).scope.names.lookup ("super" : Str)=some .globalImplicit) (h4:(fdOf w.params f).scope.names.lookup ("__class__" : Str)=some .free) (h5:(fdOf w.params f).closure.lookup ("__class__" : Str)=some 116):Jw (Bo w mb h) 192 (fdOf w.params f) names:=
 ⟨xm h1,h2,h3,h4,116,_,h5,(by kernel_rfl:(K w.params).lookup 116=some {cls:=.type "cell",data:=.cell (some (.ref 192))}),rfl⟩
theorem xn(w:World)(mb:Str→Option Value)(h:Heap):Jw (Bo w mb h) 192 (fdOf w.params 129) ["self","initial_size"]:=U4 (by kernel_rfl) ⟨_,rfl,by kernel_rfl,by kernel_rfl⟩ (by kernel_rfl) (by kernel_rfl) (by kernel_rfl)
theorem xo(w:World)(mb:Str→Option Value)(h:Heap):Jw (Bo w mb h) 192 (fdOf w.params 152) ["self"]:=U4 (by kernel_rfl) ⟨_,rfl,by kernel_rfl,by kernel_rfl⟩ (by kernel_rfl) (by kernel_rfl) (by kernel_rfl)
theorem xp(w:World)(mb:Str→Option Value)(h:Heap):Jw (Bo w mb h) 192 (fdOf w.params 189) ["self"]:=U4 (by kernel_rfl) ⟨_,rfl,by kernel_rfl,by kernel_rfl⟩ (by kernel_rfl) (by kernel_rfl) (by kernel_rfl)
noncomputable def Op:Fn:=⟨1,[],1,.nil,none⟩
noncomputable def Y4:List (Str×Nat):=[("self",0)]
theorem Ac2{w:World}{mb:Str→Option Value}{h:Heap}{Φ:Orc}{d:Nat}:∃ dd cvs sl,nb ⟨Bo w mb h,nmP,tb,Φ,d⟩ (158,154) dd cvs sl:=
 ⟨_,_,_,Agf w mb h,ms9,⟨(by kernel_rfl:(K w.params).lookup 158=some (cob "__len__" "_Accumulator.__len__" 396 135 1 400 3 181 (.ref 153) (.ref 154) .none (.ref 155) (.ref 156) (.ref 157))),by kernel_rfl,by kernel_rfl⟩,by kernel_rfl,rfl⟩
theorem Ac3{w:World}{mb:Str→Option Value}{h:Heap}{Φ:Orc}{d:Nat}:∃ dd cvs sl,nb ⟨Bo w mb h,nmP,tb,Φ,d⟩ (165,161) dd cvs sl:=
 ⟨_,_,_,Agf w mb h,mm9 _ ms9,⟨(by kernel_rfl:(K w.params).lookup 165=some (cob "__str__" "_Accumulator.__str__" 403 138 1 407 3 181 (.ref 160) (.ref 161) .none (.ref 162) (.ref 163) (.ref 164))),by kernel_rfl,by kernel_rfl⟩,by kernel_rfl,rfl⟩
theorem Agw(P:Params):((xh P 159).isSome&&(Yt (fdOf P 159)&&Acw (K P) (fdOf P 159) Op Y4 ["self"]))=true:=by kernel_rfl
theorem Agx(P:Params):((xh P 166).isSome&&(Yt (fdOf P 166)&&Acw (K P) (fdOf P 166) Op Y4 ["self"]))=true:=by kernel_rfl
theorem W7{c:Cfg}{P:Params}(hK:c.K=K P){f:Addr}(h:((xh P f).isSome&&(Yt (fdOf P f)&&Acw (K P) (fdOf P f) Op Y4 ["self"]))=true)(hb:∀ a S,peek (K P) S (bindArgs (fdOf P f) ⟨[a],[]⟩)=some (([("self" : Str)]:List Str).zip [a])):I5 c f Op Y4 (fdOf P f) ["self"] (Zy (fdOf P f)):=
 Ak h fun h1 h=>Ak h fun h3 h4=>.of (hK▸h4) (hK▸se h1) (d8 h3) (hK▸A3 rfl (show Dx 1 _ from hb))
noncomputable def nr(l:List Stmt):Prop:=∀ C:List Stmt→Prop,(∀ xa xb x scope p p1 p2 p3 p4 p5 p6 p7 p8 pa pb pt px pos p10 p11 p12,E5 scope xa xb→scope.names.lookup ("len" : Str)=some .globalImplicit→(xa==("__debug__" : Str))=false→(xb==("__debug__" : Str))=false→x=("self" : Str)→
 C [.Return (some (.Call (.Name "sum" p8) [.GeneratorExp (.BinOp (.Call (.Name "len" p1) [.Name xa p2] [] p3) .Add (.Call (.Name "len" p4) [.Name xb p5] [] p6) p7) [⟨.Tuple [.Name xa pa,.Name xb pb] 0 pt,.Name x px,[],0⟩] scope pos,.Attribute (.Name x p10) "_initial_size" p11] [] p12)) p])→C l
theorem ey(P:Params):nr (Zy (fdOf P 159)):=fun C f=>f _ _ _ _ _ _ _ _ _ _ _ _ _ _ _ _ _ _ _ _ _ ⟨rfl,fun zA=>by kernel_rfl,by decide,by kernel_rfl,by kernel_rfl,by kernel_rfl,by decide,rfl⟩ (by kernel_rfl) (by kernel_rfl) (by kernel_rfl) rfl
noncomputable def nt(l:List Stmt):Prop:=∀ C:List Stmt→Prop,(∀ xe xa xb x scope p p1 p2 p3 p4 p5 p6 p8 p9 pa pb pt px pos p12,xe=("EMPTYSTRING" : Str)→E5 scope xa xb→scope.names.lookup xe=some .globalImplicit→(xe==("__debug__" : Str))=false→(xa==("__debug__" : Str))=false→(xb==("__debug__" : Str))=false→x=("self" : Str)→(p2.endLine==p6.line)=true→(p9.endLine==p12.line)=true→
 C [.Return (some (.Call (.Attribute (.Name xe p8) "join" p9) [.GeneratorExp (.Call (.Attribute (.Name xe p1) "join" p2) [.Tuple [.Name xa p3,.Name xb p4] 0 p5] [] p6) [⟨.Tuple [.Name xa pa,.Name xb pb] 0 pt,.Name x px,[],0⟩] scope pos] [] p12)) p])→C l
theorem ez(P:Params):nt (Zy (fdOf P 166)):=fun C f=>f _ _ _ _ _ _ _ _ _ _ _ _ _ _ _ _ _ _ _ _ rfl ⟨rfl,fun zA=>by kernel_rfl,by decide,by kernel_rfl,by kernel_rfl,by kernel_rfl,by decide,rfl⟩ (by kernel_rfl) (by kernel_rfl) (by kernel_rfl) (by kernel_rfl) rfl (by kernel_rfl) (by kernel_rfl)
section
variable {w:World} {mb:Str→Option Value} {h:Heap} {Φ:Orc} {d:Nat} {A:Around} {g:Sg} {vs:List V} {xs:List Value} {Kk:KE} {Q:Value→Shared→Prop}
theorem xq(F:Fx ⟨Bo w mb h,nmP,tb,Φ,d⟩)(Rm:Eb A (d+2))(S:SO (Bo w mb h) g)(r:VRs g vs xs)(he:wo vs g.H Kk)(hQ:Hd ⟨Bo w mb h,nmP,tb,Φ,d⟩ g Kk Q):Bc (Bo w mb h).M A (.call (.ref 159) ⟨xs,[]⟩) (j4 Q) g.s:=by
 refine x31 (Ac2 (w:=w) (mb:=mb) (h:=h) (Φ:=Φ) (d:=d)) fun dd cvs sl acc=>?_
 have D:I5 (Bo w mb h) 159 Op Y4 (fdOf w.params 159) ["self"] (Zy (fdOf w.params 159)):=W7 rfl (Agw w.params) fun a S=>by kernel_rfl
 refine ey w.params (fun l=>Zy (fdOf w.params 159)=l→_) (fun xa xb x scope p p1 p2 p3 p4 p5 p6 p7 p8 pa pb pt px pos p10 p11 p12 G hl ha hb hx e=>?_) rfl
 rw [e] at D
 subst hx
 exact nf F acc G hl ha hb D rfl rfl rfl (by kernel_rfl) (by kernel_rfl) (by kernel_rfl) Rm S r he hQ
theorem xr(F:Fx ⟨Bo w mb h,nmP,tb,Φ,d⟩)(Rm:Eb A (d+2))(S:SO (Bo w mb h) g)(r:VRs g vs xs)(he:wq vs g.H Kk)(hQ:Hd ⟨Bo w mb h,nmP,tb,Φ,d⟩ g Kk Q):Bc (Bo w mb h).M A (.call (.ref 166) ⟨xs,[]⟩) (j4 Q) g.s:=by
 refine x31 (Ac3 (w:=w) (mb:=mb) (h:=h) (Φ:=Φ) (d:=d)) fun dd cvs sl acc=>?_
 have D:I5 (Bo w mb h) 166 Op Y4 (fdOf w.params 166) ["self"] (Zy (fdOf w.params 166)):=W7 rfl (Agx w.params) fun a S=>by kernel_rfl
 refine ez w.params (fun l=>Zy (fdOf w.params 166)=l→_) (fun xe xa xb x scope p p1 p2 p3 p4 p5 p6 p8 p9 pa pb pt px pos p12 hxe G hl hd ha hb hx l1 l2 e=>?_) rfl
 rw [e] at D
 subst hx hxe
 have h0:(Bo w mb h).mg ("EMPTYSTRING" : Str)=some (.str "" 237):=(by kernel_rfl:Aah w.params "EMPTYSTRING" = some (.str "" 237))
 exact ng F acc h0 G hl hd ha hb l1 l2 D rfl rfl rfl (by kernel_rfl) (by kernel_rfl) (by kernel_rfl) Rm S r he hQ
theorem nu(F:Fx ⟨Bo w mb h,nmP,tb,Φ,d⟩){f:Addr}{fn:Fn}{slots:List (Str×Nat)}{names:List Str}(D:Bq (Bo w mb h) w.params f fn slots names)(hT:fn.tail.isSome=true→Jw (Bo w mb h) 192 (fdOf w.params f) names)(Rm:Eb A (d+2))(S:SO (Bo w mb h) g)(r:VRs g vs xs)(he:uf tb Φ fn vs g.H Kk)(hQ:Hd ⟨Bo w mb h,nmP,tb,Φ,d⟩ g Kk Q):Bc (Bo w mb h).M A (.call (.ref f) ⟨xs,[]⟩) (j4 Q) g.s:=
 Ae7 F (xi (w:=w) (mb:=mb) (h:=h)) D.1 hT D.2 he Rm S r hQ
end
noncomputable def F8(w:World)(mb:Str→Option Value)(h:Heap)(f:Addr)(fn:Fn):Prop:=∃ slots names,Bq (Bo w mb h) w.params f fn slots names∧(fn.tail.isSome=true→Jw (Bo w mb h) 192 (fdOf w.params f) names)
noncomputable def Ac4(C:Addr→Fn→Prop):List (Addr×Fn)→Prop
 | []=>True
 | p::r=>C p.1 p.2∧Ac4 C r
theorem Ac4.at{C:Addr→Fn→Prop}{f:Addr}{fn:Fn}:∀ {l:List (Addr×Fn)},Ac4 C l→l.lookup f=some fn→C f fn
 | (a,b)::r,H,h=>by
  by_cases c:f=a
  ·subst c
   have h:(match f==f with|true=>some b|false=>r.lookup f)=some fn:=h
   rw [beq_self_eq_true] at h
   cases h;exact H.1
  ·have h:(match f==a with|true=>some b|false=>r.lookup f)=some fn:=h
   rw [beq_false_of_ne c] at h
   exact Ac4.at H.2 h
section
variable (w:World) (mb:Str→Option Value) (h:Heap)
theorem Sc:F8 w mb h 28 Dm:=⟨_,_,Ry rfl,nofun⟩
theorem Sd:F8 w mb h 35 Ej:=⟨_,_,R0 rfl,nofun⟩
theorem fb:F8 w mb h 49 Ma:=⟨_,_,ea rfl,nofun⟩
theorem nv:F8 w mb h 56 Rk:=⟨_,_,nj rfl,nofun⟩
theorem Se:F8 w mb h 70 Ek:=⟨_,_,R2 rfl,nofun⟩
theorem Jc:F8 w mb h 105 Bh:=⟨_,_,Ja rfl,nofun⟩
theorem fc:F8 w mb h 129 I7:=⟨_,_,ec rfl,fun zA=>xn w mb h⟩
theorem fe:F8 w mb h 136 Mb:=⟨_,_,ee rfl,nofun⟩
theorem Pu:F8 w mb h 144 Dq:=⟨_,_,Pt rfl,nofun⟩
theorem nx:F8 w mb h 152 Rp:=⟨_,_,np rfl,fun zA=>xo w mb h⟩
theorem Y5:F8 w mb h 174 Gh:=⟨_,_,Yv rfl,nofun⟩
theorem Ny:F8 w mb h 181 Da:=⟨_,_,Nx rfl,nofun⟩
theorem Mw:F8 w mb h 189 Cn:=⟨_,_,Mp rfl,fun zA=>xp w mb h⟩
theorem Y6:F8 w mb h 203 Hv:=⟨_,_,Yx rfl,nofun⟩
theorem Mx:F8 w mb h 217 Co:=⟨_,_,Mr rfl,nofun⟩
theorem Gu:F8 w mb h 224 Ba:=⟨_,_,Gq rfl,nofun⟩
theorem Gv:F8 w mb h 231 Bb:=⟨_,_,Gs rfl,nofun⟩
theorem U5:F8 w mb h 238 Fz:=⟨_,_,Uw rfl,nofun⟩
theorem Y7:F8 w mb h 245 Hw:=⟨_,_,Yz rfl,nofun⟩
theorem My:F8 w mb h 252 Cp:=⟨_,_,Mt rfl,nofun⟩
theorem U6:F8 w mb h 259 F1:=⟨_,_,Uy rfl,nofun⟩
theorem Sf:F8 w mb h 266 Em:=⟨_,_,R4 rfl,nofun⟩
theorem Mz:F8 w mb h 273 Cq:=⟨_,_,Mv rfl,nofun⟩
theorem Sh:F8 w mb h 280 En:=⟨_,_,R6 rfl,nofun⟩
theorem Sj:F8 w mb h 285 Eo:=⟨_,_,R8 rfl,nofun⟩
theorem U7:F8 w mb h 292 Hz:=⟨_,_,U0 rfl,nofun⟩
theorem ff:F8 w mb h 297 Mj:=⟨_,_,eg rfl,nofun⟩
theorem fg:F8 w mb h 304 Pp:=⟨_,_,ei rfl,nofun⟩
theorem Y8:F8 w mb h 311 Ia:=⟨_,_,Y1 rfl,nofun⟩
theorem Kn:F8 w mb h 316 B6:=⟨_,_,Km rfl,nofun⟩
theorem U8:F8 w mb h 323 F4:=⟨_,_,U2 rfl,nofun⟩
theorem Y9:F8 w mb h 330 Ib:=⟨_,_,Y3 rfl,nofun⟩
theorem Sk:F8 w mb h 337 Er:=⟨_,_,Sa rfl,nofun⟩
theorem Afn:F8 w mb h 342 law:=⟨_,_,Afk rfl,nofun⟩
theorem Agy:Ac4 (F8 w mb h) fns:=
 ⟨Sc w mb h,Sd w mb h,fb w mb h,nv w mb h,Se w mb h,Jc w mb h,fc w mb h,fe w mb h,Pu w mb h,nx w mb h,Y5 w mb h,Ny w mb h,Mw w mb h,Y6 w mb h,Mx w mb h,Gu w mb h,Gv w mb h,U5 w mb h,Y7 w mb h,My w mb h,U6 w mb h,Sf w mb h,Mz w mb h,Sh w mb h,Sj w mb h,U7 w mb h,ff w mb h,fg w mb h,Y8 w mb h,Kn w mb h,U8 w mb h,Y9 w mb h,Sk w mb h,Afn w mb h,trivial⟩
end
theorem Sl{w:World}{mb:Str→Option Value}{h:Heap}(ok:Bj (Bo w mb h)):∀ k,am ⟨Bo w mb h,nmP,tb,Ph k,2*k⟩
 | 0=>fun zA zB zC zD e=>e.elim
 | k+1=>fun f vs g Kk e A xs Rm S r Q hQ=>by
  have F:=fx ok (Sl ok k)
  have hQ':Hd ⟨Bo w mb h,nmP,tb,Ph k,2*k⟩ g Kk Q:=hQ
  refine e.elim (fun e=>B4 e fun fn hf e=>?_) fun e=>e.elim (fun e1=>?_) fun e2=>?_
  ·refine x22 ((Agy w mb h).at hf) fun slots names D hT=>?_
   exact nu F D hT Rm S r e hQ'
  ·exact e1.1▸xq F Rm S r e1.2 hQ'
  ·exact e2.1▸xr F Rm S r e2.2 hQ'
section
variable {Φ:Orc} {i:Nat} {e c:ME} {b o ss:MSs} {ν:Nu} {H H1:Hp} {K:KS} {v:V}
theorem Aq(h1:∀ k:KE,k v H1→ev tb Φ e ν H k)(h2:exs tb Φ ss (ν.set i (some v)) H1 K):exs tb Φ (.cons (.assign i e) ss) ν H K:=h1 _ h2
theorem fi{is:List Nat}{l:List V}(h1:∀ k:KE,k (.tup l) H1→ev tb Φ e ν H k)(hl:(l.length==is.length)=true)(h2:exs tb Φ ss (Am ν is l) H1 K):exs tb Φ (.cons (.unpack is e) ss) ν H K:=h1 _ ⟨hl,h2⟩
theorem Ac5{is:List Nat}{l:List V}(h1:∀ k:KE,k (.lst l) H1→ev tb Φ e ν H k)(hl:(l.length==is.length)=true)(h2:exs tb Φ ss (Am ν is l) H1 K):exs tb Φ (.cons (.unpack is e) ss) ν H K:=h1 _ ⟨hl,h2⟩
noncomputable abbrev sqK(Φ:Orc)(ss:MSs)(K:KS):KS:=fun fl ν' H'=>match fl with|.next=>exs tb Φ ss ν' H' K|fl=>K fl ν' H'
theorem C6{T:Bool}(t:Bool)(he:T=t)(h1:∀ k:KE,k (.bool T) H→ev tb Φ c ν H k)(h2:exs tb Φ (bif t then b else o) ν H (sqK Φ ss K)):exs tb Φ (.cons (.cond c b o) ss) ν H K:=by
 refine h1 _ ?_
 subst he
 cases T<;>exact h2
theorem Dd(h1:∀ k:KE,k v H1→ev tb Φ e ν H k)(h2:K (.ret v) ν H1):exs tb Φ (.cons (.ret e) ss) ν H K:=h1 _ h2
theorem Ff{fn:Fn}{f:Addr}{k:Nat}{vs:List V}{K:KE}(hf:fns.lookup f=some fn)(h1:decide (vs.length≤fn.pars)=true)(h2:decide (fn.pars≤vs.length+fn.dflt.length)=true)(ν:Nu)(hν:((vs++fn.dflt.drop (vs.length+fn.dflt.length-fn.pars)).map some++List.replicate (fn.slots-fn.pars) none)=ν)
  (h:exs tb (Ph k) fn.body ν H fun fl ν H1=>Aae tb fn.tail fl ν H1 fun v H'=>T8 H v H' K):Ph (k+1) f vs H K:=by
 refine .inl ?_
 rw [hf];subst hν;exact ⟨h1,h2,h⟩
end
noncomputable def Aeu(r g b mx d:UInt64):UInt64:=
 let rc:=Bp (Cs mx r) d
 let gc:=Bp (Cs mx g) d
 let bc:=Bp (Cs mx b) d
 (Aao (Bp (bif At r mx==some Ordering.eq then Cs bc gc else bif At g mx==some Ordering.eq then Cs (Kz 4611686018427387904 rc) bc else Cs (Kz 4616189618054758400 gc) rc) 4618441417868443648) 4607182418800017408)
noncomputable def xu(l:UInt64):Bool:=At l 4602678819172646912==some Ordering.lt||At l 4602678819172646912==some Ordering.eq
noncomputable def Afo(mx mn l:UInt64):UInt64:=bif xu l then Bp (Cs mx mn) (Kz mx mn) else Bp (Cs mx mn) (Cs (Cs 4611686018427387904 mx) mn)
theorem z2:(!Ed 4611686018427387904)=true:=by decide +kernel
theorem z6:(!Ed 4618441417868443648)=true:=by decide +kernel
theorem z1:(!Ed 4607182418800017408)=true:=by decide +kernel
theorem ny(k:Nat)(r g b:UInt64)(H:Hp)(K:KE)(he:(At (Kf r g b) (Ke r g b)==some Ordering.eq)=true)
  (h:K (.tup [.flt 0,.flt (Bp (Kz (Ke r g b) (Kf r g b)) 4611686018427387904),.flt 0]) H):Ph (k+1) 28 [.flt r,.flt g,.flt b] H K:=by
 refine Ff (fn:=Dm) rfl rfl rfl [some (.flt r),some (.flt g),some (.flt b),none,none,none,none,none,none,none,none,none,none] rfl ?_
 refine Aq (fun zA h=>h) ?_
 dsimp only [List.set,Am]
 refine Aq (fun zA h=>h) ?_
 dsimp only [List.set,Am]
 refine Aq (fun zA h=>h) ?_
 dsimp only [List.set,Am]
 refine Aq (fun zA h=>h) ?_
 dsimp only [List.set,Am]
 refine Aq (fun zA h=>⟨z2,h⟩) ?_
 dsimp only [List.set,Am]
 refine C6 true he (fun zA h=>h) ?_
 refine Dd (fun zA h=>⟨rfl,h⟩) ?_
 exact .inl h
section
variable {Φ:Orc} {i:Nat} {c c2 e1 e2 e3:ME} {ss:MSs} {ν:Nu} {H:Hp} {K:KS}
theorem Afp{T:Bool}{a b:UInt64}(h1:∀ k:KE,k (.bool T) H→ev tb Φ c ν H k)(ha:T=true→∀ k:KE,k (.flt a) H→ev tb Φ e1 ν H k)(hb:T=false→∀ k:KE,k (.flt b) H→ev tb Φ e2 ν H k)
  (h2:exs tb Φ ss (ν.set i (some (.flt (bif T then a else b)))) H K):exs tb Φ (.cons (.cond c (.cons (.assign i e1) .nil) (.cons (.assign i e2) .nil)) ss) ν H K:=by
 refine h1 _ ?_
 cases T
 ·exact hb rfl _ h2
 ·exact ha rfl _ h2
theorem sj{T U:Bool}{a b d:UInt64}(h1:∀ k:KE,k (.bool T) H→ev tb Φ c ν H k)(h1':∀ k:KE,k (.bool U) H→ev tb Φ c2 ν H k)(ha:∀ k:KE,k (.flt a) H→ev tb Φ e1 ν H k)(hb:∀ k:KE,k (.flt b) H→ev tb Φ e2 ν H k)(hd:∀ k:KE,k (.flt d) H→ev tb Φ e3 ν H k)
  (h2:exs tb Φ ss (ν.set i (some (.flt (bif T then a else bif U then b else d)))) H K):exs tb Φ (.cons (.cond c (.cons (.assign i e1) .nil) (.cons (.cond c2 (.cons (.assign i e2) .nil) (.cons (.assign i e3) .nil)) .nil)) ss) ν H K:=by
 refine h1 _ ?_
 cases T
 ·refine h1' _ ?_
  cases U
  ·exact hd _ h2
  ·exact hb _ h2
 ·exact ha _ h2
end
theorem xw(k:Nat)(r g b mx mn:UInt64)(H:Hp)(K:KE)(hx:Ke r g b=mx)(hn:Kf r g b=mn)(he:(At mn mx==some Ordering.eq)=false)
  (n1:(!Ed (Cs mx mn))=true) (n2:xu (Bp (Kz mx mn) 4611686018427387904)=true→(!Ed (Kz mx mn))=true)
  (n3:xu (Bp (Kz mx mn) 4611686018427387904)=false→(!Ed (Cs (Cs 4611686018427387904 mx) mn))=true)
  (h:K (.tup [.flt (Aeu r g b mx (Cs mx mn)),.flt (Bp (Kz mx mn) 4611686018427387904),.flt (Afo mx mn (Bp (Kz mx mn) 4611686018427387904))]) H):Ph (k+1) 28 [.flt r,.flt g,.flt b] H K:=by
 refine Ff (fn:=Dm) rfl rfl rfl [some (.flt r),some (.flt g),some (.flt b),none,none,none,none,none,none,none,none,none,none] rfl ?_
 refine Aq (v:=.flt mx) (fun k h=>by subst hx;exact h) ?_
 dsimp only [List.set,Am]
 refine Aq (v:=.flt mn) (fun k h=>by subst hn;exact h) ?_
 dsimp only [List.set,Am]
 refine Aq (fun zA h=>h) ?_
 dsimp only [List.set,Am]
 refine Aq (fun zA h=>h) ?_
 dsimp only [List.set,Am]
 refine Aq (fun zA h=>⟨z2,h⟩) ?_
 dsimp only [List.set,Am]
 refine C6 false he (fun zA h=>h) ?_
 refine Afp (T:=xu (Bp (Kz mx mn) 4611686018427387904)) (fun zA h=>h) (fun t zA h=>⟨n2 t,h⟩) (fun t zA h=>⟨n3 t,h⟩) ?_
 dsimp only [List.set,Am]
 refine Aq (fun zA h=>⟨n1,h⟩) ?_
 dsimp only [List.set,Am]
 refine Aq (fun zA h=>⟨n1,h⟩) ?_
 dsimp only [List.set,Am]
 refine Aq (fun zA h=>⟨n1,h⟩) ?_
 dsimp only [List.set,Am]
 refine sj (fun zA h=>h) (fun zA h=>h) (fun zA h=>h) (fun zA h=>h) (fun zA h=>h) ?_
 dsimp only [List.set,Am]
 refine Aq (fun zA h=>⟨z6,z1,h⟩) ?_
 dsimp only [List.set,Am]
 refine Dd (fun zA h=>⟨rfl,h⟩) ?_
 exact .inl h
theorem xx(k:Nat)(r g b mx mn:UInt64)(H:Hp)(K:KE)(hx:Ke r g b=mx)(hn:Kf r g b=mn)(he:(At mn mx==some Ordering.eq)=false)
  (n1:(!Ed (Cs mx mn))=true) (n2:(!Ed mx)=true)
  (h:K (.tup [.flt (Aeu r g b mx (Cs mx mn)),.flt (Bp (Cs mx mn) mx),.flt mx]) H):Ph (k+1) 35 [.flt r,.flt g,.flt b] H K:=by
 refine Ff (fn:=Ej) rfl rfl rfl [some (.flt r),some (.flt g),some (.flt b),none,none,none,none,none,none,none,none,none] rfl ?_
 refine Aq (v:=.flt mx) (fun k h=>by subst hx;exact h) ?_
 dsimp only [List.set,Am]
 refine Aq (v:=.flt mn) (fun k h=>by subst hn;exact h) ?_
 dsimp only [List.set,Am]
 refine Aq (fun zA h=>h) ?_
 dsimp only [List.set,Am]
 refine Aq (fun zA h=>h) ?_
 dsimp only [List.set,Am]
 refine C6 false he (fun zA h=>h) ?_
 refine Aq (fun zA h=>⟨n2,h⟩) ?_
 dsimp only [List.set,Am]
 refine Aq (fun zA h=>⟨n1,h⟩) ?_
 dsimp only [List.set,Am]
 refine Aq (fun zA h=>⟨n1,h⟩) ?_
 dsimp only [List.set,Am]
 refine Aq (fun zA h=>⟨n1,h⟩) ?_
 dsimp only [List.set,Am]
 refine sj (fun zA h=>h) (fun zA h=>h) (fun zA h=>h) (fun zA h=>h) (fun zA h=>h) ?_
 dsimp only [List.set,Am]
 refine Aq (fun zA h=>⟨z6,z1,h⟩) ?_
 dsimp only [List.set,Am]
 refine Dd (fun zA h=>⟨rfl,h⟩) ?_
 exact .inl h
noncomputable def Ext(H H':Hp):Prop:=∃ E,H'=H++E
theorem Ext.rfl{H:Hp}:Ext H H:=⟨[],(List.append_nil H).symm⟩
theorem Ext.trans{H H' H'':Hp}(a:Ext H H')(b:Ext H' H''):Ext H H'':=by
 obtain ⟨E,rfl⟩:=a;obtain ⟨F,rfl⟩:=b
 exact ⟨E++F,List.append_assoc ..⟩
theorem Ext.one{H:Hp}{o:Ob}:Ext H (H++[o]):=⟨_,Eq.refl _⟩
theorem Ext.get{H H':Hp}(a:Ext H H'){n:Nat}{o:Ob}(h:H[n]?=some o):H'[n]?=some o:=by
 refine x11 a fun E zz1=>?_;subst zz1
 rw [List.getElem?_append_left (List.getElem?_eq_some_iff.mp h).1];exact h
theorem Ext.cut{H H':Hp}{v:V}{K:KE}(a:Ext H H')(hv:noLoc H.length v=true)(h:K v H):T8 H v H' K:=by
 refine x11 a fun E zz1=>?_;subst zz1
 have e:(H++E).take H.length=H:=List.take_left' (Eq.refl _)
 exact .inr ⟨hv,.inl e,by rw [e];exact h⟩
theorem A0(H:Hp)(o:Ob):(H++[o])[H.length]?=some o:=List.getElem?_concat_length ..
theorem Bx(H:Hp)(o p:Ob):(H++[o]).set H.length p=H++[p]:=by simp
theorem D5{H:Hp}{n:Nat}{l:List V}{k:List V→Prop}(e:H[n]?=some (.lst l))(h:k l):Nj H n k:=by unfold Nj;rw [e];exact h
noncomputable def Ch(H:Hp)(acc:List V)(H':Hp):Prop:=∃ E,H'=(H++[.lst acc])++E
theorem Ch.get{H H':Hp}{acc:List V}(c:Ch H acc H'):H'[H.length]?=some (.lst acc):=by
 refine x11 c fun E zz1=>?_;subst zz1
 rw [List.getElem?_append_left (by simp)];exact A0 ..
theorem Ch.set{H H':Hp}{acc acc':List V}(c:Ch H acc H'):Ch H acc' (H'.set H.length (.lst acc')):=by
 refine x11 c fun E zz1=>?_;subst zz1
 refine ⟨E,?_⟩
 rw [List.set_append_left _ _ (by simp),Bx]
theorem Ch.ext{H H' H'':Hp}{acc:List V}(c:Ch H acc H')(x:Ext H' H''):Ch H acc H'':=by
 obtain ⟨E,rfl⟩:=c;obtain ⟨F,rfl⟩:=x
 exact ⟨E++F,List.append_assoc ..⟩
theorem Ch.dead{H H':Hp}{acc:List V}(c:Ch H acc H'):Ext H (H'.set H.length .dead):=by
 refine x11 c fun E zz1=>?_;subst zz1
 refine ⟨[.dead]++E,?_⟩
 rw [List.set_append_left _ _ (by simp),Bx,List.append_assoc]
section
variable {Φ:Orc} {ν:Nu} {H:Hp}
theorem M0{f:V→Hp→(Hp→Prop)→Prop}{g:V→V}:∀ (l acc:List V) (H':Hp) (k:Hp→Prop),acc.length+l.length≤1000→Ch H acc H'→
  (∀ v∈l,∀ (acc:List V) (H':Hp) (k:Hp→Prop),acc.length<1000→Ch H acc H'→(∀ H'',Ch H (acc++[g v]) H''→k H'')→f v H' k)→(∀ H'',Ch H (acc++l.map g) H''→k H'')→T7 f l H' k
 | [],acc,H',k,_,c,_,hk=>hk H' (by simpa using c)
 | v::l,acc,H',k,hl,c,hf,hk=>hf v ms9 acc H' _ (by simp at hl;omega) c fun H'' c'=>
   M0 l (acc++[g v]) H'' k (by simp at hl ⊢;omega) c' (fun w hw=>hf w (mm9 _ hw)) fun H3 c3=>hk H3 (by simpa using c3)
theorem D6{n i:Nat}{elt:ME}{it:MI}{l:List V}(g:V→V)(hI:∀ k:KL,k l H→evI tb Φ it ν H k)(hl:l.length≤1000)
  (hE:∀ v∈l,∀ (H':Hp) (k:KE),(∀ H'',Ext H' H''→k (g v) H'')→ev tb Φ elt ((ν++List.replicate n none).set i (some v)) H' k) {K:KE} (h:∀ H',Ext H H'→K (.lst (l.map g)) H'):ev tb Φ (.comp n elt (.cons i it .nil)) ν H K:=by
 refine hI _ ?_
 refine M0 (g:=g) l [] _ _ (by simpa using hl) ⟨[],(List.append_nil _).symm⟩ (fun v hv acc H' k ha c hk=>?_) fun H2 c=>?_
 ·refine hE v hv H' _ fun H'' x=>?_
  have c':=c.ext x
  exact D5 c'.get ⟨dq9 (by omega),hk _ c'.set⟩
 ·exact D5 c.get (h _ c.dead)
end
section
variable {Φ:Orc} {i:Nat} {e:ME} {ss:MSs} {ν:Nu} {H:Hp} {K:KS} {v:V}
theorem F9(h1:∀ k:KE,(∀ H',Ext H H'→k v H')→ev tb Φ e ν H k)(h2:∀ H',Ext H H'→exs tb Φ ss (ν.set i (some v)) H' K):exs tb Φ (.cons (.assign i e) ss) ν H K:=h1 _ h2
theorem Ac6(h1:∀ k:KE,(∀ H',Ext H H'→k v H')→ev tb Φ e ν H k)(h2:∀ H',Ext H H'→K (.ret v) ν H'):exs tb Φ (.cons (.ret e) ss) ν H K:=h1 _ h2
end
theorem Oq(n:Nat){α:Type}(f:α→V)(hf:∀ a,noLoc n (f a)=true):∀ l:List α,Ci n (l.map f)=true
 | []=>rfl
 | a::l=>by show (noLoc n (f a)&&Ci n (l.map f))=true;rw [hf a,Oq n f hf l];rfl
theorem Es:∀ l:List Int,Ct (l.map .int)=some l
 | []=>rfl
 | a::l=>by show ((Ct (l.map .int)).map (a :: ·))=_;rw [Es l];rfl
noncomputable def Qh(is:List Int)(p w:Int)(j:Int):UInt64:=Bp (B7 (w+p*(is.count j:Nat))) 4634204016564240384
theorem z64:(!Ed 4634204016564240384)=true:=by decide +kernel
theorem sk(k:Nat)(is:List Int)(n:Int)(H:Hp)(K:KE)(hl:is.length≤1000)(hn:∀ j:Int,(!Xv (B7 (n / 8 % 41+(1+n % 8)*(is.count j:Nat))))=true)(hb:∀ j:Int,((is.count j:Nat):Int).natAbs<1152921504606846976)
  (h:K (.lst ([0,1,2].map fun j=>.flt (Qh is (1+n % 8) (n / 8 % 41) j))) H):Ph (k+2) 297 [.lst (is.map .int),.int n] H K:=by
 refine Ff (fn:=Mj) rfl rfl rfl [some (.lst (is.map .int)),some (.int n),none,none] rfl ?_
 refine fi (fun zA h=>Pq k n _ _ h) rfl ?_
 dsimp only [List.set,Am]
 refine Ac6 (fun k h=>?_) fun H' x=>x.cut rfl h
 apply D6 (l:=[.int 0,.int 1,.int 2]) (g:=fun v=>match v with|.int j=>.flt (Qh is (1+n % 8) (n / 8 % 41) j)|v=>v) (h:=h)
 ·exact fun zA h=>⟨rfl,rfl,rfl,rfl,rfl,h⟩
 ·exact Nat.le_of_ble_eq_true rfl
 intro v hv H' k' hk
 have hp:(decide ((1+n % 8).natAbs<1152921504606846976))=true:=dq9 (by omega)
 have e1:∃ j,v=.int j:=by
  rcases List.mem_cons.mp hv with rfl|hv
  ·exact ⟨_,rfl⟩
  ·rcases List.mem_cons.mp hv with rfl|hv
   ·exact ⟨_,rfl⟩
   ·rcases List.mem_cons.mp hv with rfl|hv
    ·exact ⟨_,rfl⟩
    ·cases hv
 refine x11 e1 fun j zz1=>?_;subst zz1
 dsimp only [List.set,List.append,List.replicate]
 refine ⟨rfl,dq9 (by simpa using hl),?_⟩
 show opt (Ct (is.map .int)) _
 rw [Es]
 exact ⟨hp,dq9 (hb j),z64,hn j,hk _ .rfl⟩
noncomputable def dT:List UInt64:=[0,4580160821035794432,4584664420663164928,4586916220476850176,4589168020290535424,4590293920197378048,4591419820104220672,4592545720011063296,4593671619917905920,4594234569871327232,4594797519824748544,4595360469778169856,4595923419731591168,4596486369685012480,4597049319638433792,4597612269591855104,4598175219545276416,4598456694521987072,4598738169498697728,4599019644475408384,4599301119452119040,4599582594428829696,4599864069405540352,4600145544382251008,4600427019358961664,4600708494335672320,4600989969312382976,4601271444289093632,4601552919265804288,4601834394242514944,4602115869219225600,4602397344195936256,4602678819172646912,4602819556661002240,4602960294149357568,4603101031637712896,4603241769126068224,4603382506614423552,4603523244102778880,4603663981591134208,4603804719079489536,4603945456567844864,4604086194056200192,4604226931544555520,4604367669032910848,4604508406521266176,4604649144009621504,4604789881497976832,4604930618986332160,4605071356474687488,4605212093963042816,4605352831451398144,4605493568939753472,4605634306428108800,4605775043916464128,4605915781404819456,4606056518893174784,4606197256381530112,4606337993869885440,4606478731358240768,4606619468846596096,4606760206334951424,4606900943823306752,4607041681311662080,4607182418800017408,4607252787544195072,4607323156288372736,4607393525032550400,4607463893776728064,4607534262520905728,4607604631265083392,4607675000009261056,4607745368753438720,4607815737497616384,4607886106241794048,4607956474985971712,4608026843730149376,4608097212474327040,4608167581218504704,4608237949962682368,4608308318706860032,4608378687451037696,4608449056195215360,4608519424939393024,4608589793683570688,4608660162427748352,4608730531171926016,4608800899916103680,4608871268660281344,4608941637404459008,4609012006148636672,4609082374892814336,4609152743636992000,4609223112381169664,4609293481125347328,4609363849869524992,4609434218613702656,4609504587357880320,4609574956102057984,4609645324846235648,4609715693590413312,4609786062334590976,4609856431078768640,4609926799822946304,4609997168567123968,4610067537311301632,4610137906055479296,4610208274799656960,4610278643543834624,4610349012288012288,4610419381032189952,4610489749776367616,4610560118520545280,4610630487264722944,4610700856008900608,4610771224753078272,4610841593497255936,4610911962241433600,4610982330985611264,4611052699729788928,4611123068473966592,4611193437218144256,4611263805962321920,4611334174706499584,4611404543450677248,4611474912194854912,4611545280939032576,4611615649683210240,4611686018427387904]
noncomputable def dd(i:Nat):UInt64:=dT.getD i 0
noncomputable def eqO(x:Option Ordering)(o:Ordering):Bool:=match x,o with
 | some .lt,.lt=>true
 | some .eq,.eq=>true
 | some .gt,.gt=>true
 | _,_=>false
theorem Et{x:Option Ordering}{o:Ordering}(h:eqO x o=true):x=some o:=by
 cases x with
 | none=>cases o<;>cases h
 | some a=>cases a<;>cases o<;>first|rfl|cases h
noncomputable def Os(n:Nat)(f:Nat→Bool):Bool:=match n with|0=>true|n+1=>f n&&Os n f
theorem Ax{f:Nat→Bool}:∀ {n:Nat},Os n f=true→∀ {i:Nat},i<n→f i=true
 | 0,_,_,h=>absurd h (Nat.not_lt_zero _)
 | n+1,h,i,hi=>by
  have h':=Bool.and_eq_true_iff.mp h
  rcases Nat.lt_or_ge i n with q|q
  ·exact Ax h'.2 q
  ·have:i=n:=by lia
   subst this;exact h'.1
theorem Agz:Os 129 (fun i=>Bp (B7 (i:Int)) 4634204016564240384==dd i&&!Xv (B7 (i:Int))&&Bp (dd i) 4611686018427387904==Bp (B7 (i:Int)) 4638707616191610880&&eqO (At (Bp (B7 (i:Int)) 4638707616191610880) (Bp (B7 (i:Int)) 4638707616191610880)) .eq
   && (xu (Bp (dd i) 4611686018427387904)==decide (i≤64))&&(Ed (dd i)==decide (i=0)))=true:=by decide +kernel
noncomputable def pwL(p w:Nat):List Bool:=
 [eqO (At (dd w) (dd w)) .eq,eqO (At (dd (w+p)) (dd (w+p))) .eq,eqO (At (dd (w+2*p)) (dd (w+2*p))) .eq,eqO (At (dd (w+3*p)) (dd (w+3*p))) .eq,
 eqO (At (dd w) (dd (w+p))) .lt,eqO (At (dd w) (dd (w+2*p))) .lt,eqO (At (dd w) (dd (w+3*p))) .lt,eqO (At (dd (w+p)) (dd (w+2*p))) .lt,
 eqO (At (dd (w+p)) (dd w)) .gt,eqO (At (dd (w+2*p)) (dd w)) .gt,eqO (At (dd (w+3*p)) (dd w)) .gt,eqO (At (dd (w+2*p)) (dd (w+p))) .gt,
 Cs (dd (w+p)) (dd w)==dd p,Cs (dd (w+2*p)) (dd w)==dd (2*p),Cs (dd (w+3*p)) (dd w)==dd (3*p),Cs (dd (w+2*p)) (dd (w+p))==dd p,
 Cs (dd (w+p)) (dd (w+p))==dd 0,Cs (dd (w+2*p)) (dd (w+2*p))==dd 0,Cs (dd (w+3*p)) (dd (w+3*p))==dd 0,
 Kz (dd (w+p)) (dd (w+p))==dd (2*w+2*p),Kz (dd (w+2*p)) (dd w)==dd (2*w+2*p),Kz (dd (w+3*p)) (dd w)==dd (2*w+3*p),
 Cs (Cs 4611686018427387904 (dd (w+2*p))) (dd w)==dd (128-(2*w+2*p)),Cs (Cs 4611686018427387904 (dd (w+3*p))) (dd w)==dd (128-(2*w+3*p))]
theorem Ag0:Os 41 (fun w=>Os 8 fun p=>(pwL (p+1) w).all id)=true:=by decide +kernel
theorem xy{l:List Bool}(h:l.all id=true)(i:Nat):l.getD i true=true:=by
 rw [List.getD_eq_getElem?_getD]
 cases e:l[i]? with
 | none=>rfl
 | some b=>exact List.all_eq_true.mp h b (List.mem_of_getElem? e)
theorem pf{p w:Nat}(hp:p<8)(hw:w<41)(i:Nat):(pwL (p+1) w).getD i true=true:=xy (Ax (Ax Ag0 hw) hp) i
noncomputable def shr(a m:Nat):Bool:=match Bt (Ip (Ip (Bp (dd a) (dd m)) (B7 (m:Int))) (B7 1000000)) with
 | some i=>i==(a:Int)*1000000&&!(At (Bp (dd a) (dd m)) 0==some .eq)
 | none=>false
theorem Afq:Os 41 (fun w=>Os 8 fun p=>shr (p+1) (w+(p+1))&&shr (2*(p+1)) (w+2*(p+1))&&shr (2*(p+1)) (min (2*w+2*(p+1)) (128-(2*w+2*(p+1))))&&shr (3*(p+1)) (min (2*w+3*(p+1)) (128-(2*w+3*(p+1)))))=true:=by decide +kernel
theorem Afr:Os 25 (fun j=>decide (j=0)||(Bp (dd 0) (dd j)==0&&Bp (dd j) (dd j)==4607182418800017408))=true:=by decide +kernel
theorem Ac7:Os 8 (fun p=>Bp (dd (p+1)) (dd (2*(p+1)))==4602678819172646912)=true:=by decide +kernel
section
variable {p w:Nat} (hp:p<8) (hw:w<41)
include hp hw
theorem c00:At (dd w) (dd w)=some .eq:=Et (pf hp hw 0)
theorem c11:At (dd (w+(p+1))) (dd (w+(p+1)))=some .eq:=Et (pf hp hw 1)
theorem c22:At (dd (w+2*(p+1))) (dd (w+2*(p+1)))=some .eq:=Et (pf hp hw 2)
theorem c33:At (dd (w+3*(p+1))) (dd (w+3*(p+1)))=some .eq:=Et (pf hp hw 3)
theorem c01:At (dd w) (dd (w+(p+1)))=some .lt:=Et (pf hp hw 4)
theorem c02:At (dd w) (dd (w+2*(p+1)))=some .lt:=Et (pf hp hw 5)
theorem c03:At (dd w) (dd (w+3*(p+1)))=some .lt:=Et (pf hp hw 6)
theorem c12:At (dd (w+(p+1))) (dd (w+2*(p+1)))=some .lt:=Et (pf hp hw 7)
theorem c10:At (dd (w+(p+1))) (dd w)=some .gt:=Et (pf hp hw 8)
theorem c20:At (dd (w+2*(p+1))) (dd w)=some .gt:=Et (pf hp hw 9)
theorem c30:At (dd (w+3*(p+1))) (dd w)=some .gt:=Et (pf hp hw 10)
theorem c21:At (dd (w+2*(p+1))) (dd (w+(p+1)))=some .gt:=Et (pf hp hw 11)
theorem s10:Cs (dd (w+(p+1))) (dd w)=dd (p+1):=eq_of_beq (pf hp hw 12)
theorem s20:Cs (dd (w+2*(p+1))) (dd w)=dd (2*(p+1)):=eq_of_beq (pf hp hw 13)
theorem s30:Cs (dd (w+3*(p+1))) (dd w)=dd (3*(p+1)):=eq_of_beq (pf hp hw 14)
theorem s21:Cs (dd (w+2*(p+1))) (dd (w+(p+1)))=dd (p+1):=eq_of_beq (pf hp hw 15)
theorem s11:Cs (dd (w+(p+1))) (dd (w+(p+1)))=dd 0:=eq_of_beq (pf hp hw 16)
theorem s22:Cs (dd (w+2*(p+1))) (dd (w+2*(p+1)))=dd 0:=eq_of_beq (pf hp hw 17)
theorem s33:Cs (dd (w+3*(p+1))) (dd (w+3*(p+1)))=dd 0:=eq_of_beq (pf hp hw 18)
theorem a11:Kz (dd (w+(p+1))) (dd (w+(p+1)))=dd (2*w+2*(p+1)):=eq_of_beq (pf hp hw 19)
theorem a20:Kz (dd (w+2*(p+1))) (dd w)=dd (2*w+2*(p+1)):=eq_of_beq (pf hp hw 20)
theorem a30:Kz (dd (w+3*(p+1))) (dd w)=dd (2*w+3*(p+1)):=eq_of_beq (pf hp hw 21)
theorem m20:Cs (Cs 4611686018427387904 (dd (w+2*(p+1)))) (dd w)=dd (128-(2*w+2*(p+1))):=eq_of_beq (pf hp hw 22)
theorem m30:Cs (Cs 4611686018427387904 (dd (w+3*(p+1)))) (dd w)=dd (128-(2*w+3*(p+1))):=eq_of_beq (pf hp hw 23)
end
section
variable {i:Nat} (h:i<129)
include h
theorem dq(i':Nat)(hi:i'<129):(Bp (B7 (i':Int)) 4634204016564240384=dd i'∧(!Xv (B7 (i':Int)))=true)∧Bp (dd i') 4611686018427387904=Bp (B7 (i':Int)) 4638707616191610880∧At (Bp (B7 (i':Int)) 4638707616191610880) (Bp (B7 (i':Int)) 4638707616191610880)=some .eq∧xu (Bp (dd i') 4611686018427387904)=decide (i'≤64)∧Ed (dd i')=decide (i'=0):=by
 have q:=Ax Agz hi
 simp only [Bool.and_eq_true,beq_iff_eq] at q
 exact ⟨⟨q.1.1.1.1.1,q.1.1.1.1.2⟩,q.1.1.1.2,Et q.1.1.2,q.1.2,q.2⟩
theorem Ac8:Bp (B7 (i:Int)) 4634204016564240384=dd i:=(dq h i h).1.1
theorem U9:(!Xv (B7 (i:Int)))=true:=(dq h i h).1.2
theorem sn:Bp (dd i) 4611686018427387904=Bp (B7 (i:Int)) 4638707616191610880:=(dq h i h).2.1
theorem Agg:At (Bp (B7 (i:Int)) 4638707616191610880) (Bp (B7 (i:Int)) 4638707616191610880)=some .eq:=(dq h i h).2.2.1
theorem Afs:xu (Bp (dd i) 4611686018427387904)=decide (i≤64):=(dq h i h).2.2.2.1
theorem sq:Ed (dd i)=decide (i=0):=(dq h i h).2.2.2.2
end
noncomputable def Dc(r g:Bool)(rc gc bc:UInt64):UInt64:=
 Aao (Bp (bif r then Cs bc gc else bif g then Cs (Kz 4611686018427387904 rc) bc else Cs (Kz 4616189618054758400 gc) rc) 4618441417868443648) 4607182418800017408
theorem fj{r g b mx d rc gc bc:UInt64}{t u:Bool}(e1:Bp (Cs mx r) d=rc)(e2:Bp (Cs mx g) d=gc)(e3:Bp (Cs mx b) d=bc)(e4:(At r mx==some Ordering.eq)=t)(e5:(At g mx==some Ordering.eq)=u):Aeu r g b mx d=Dc t u rc gc bc:=by
 unfold Aeu Dc;subst e1 e2 e3 e4 e5;rfl
theorem Al{j:Nat}(h0:0<j)(h:j<25):Bp (dd 0) (dd j)=0∧Bp (dd j) (dd j)=4607182418800017408:=by
 have q:=Ax Afr h
 have e:decide (j=0)=false:=decide_eq_false (by lia)
 rw [e,Bool.false_or,Bool.and_eq_true] at q
 exact ⟨eq_of_beq q.1,eq_of_beq q.2⟩
theorem Gi{p:Nat}(h:p<8):Bp (dd (p+1)) (dd (2*(p+1)))=4602678819172646912:=eq_of_beq (Ax Ac7 h)
theorem B2{x y z:UInt64}{a b:Ordering}(h1:At y x=some a)(h2:At z (bif a==.gt then y else x)=some b):Ke x y z=bif b==.gt then z else bif a==.gt then y else x:=by
 unfold Ke
 rw [h1]
 show (bif At z (bif a==.gt then y else x)==some Ordering.gt then z else bif a==.gt then y else x)=_
 rw [h2];rfl
theorem B3{x y z:UInt64}{a b:Ordering}(h1:At y x=some a)(h2:At z (bif a==.lt then y else x)=some b):Kf x y z=bif b==.lt then z else bif a==.lt then y else x:=by
 unfold Kf
 rw [h1]
 show (bif At z (bif a==.lt then y else x)==some Ordering.lt then z else bif a==.lt then y else x)=_
 rw [h2];rfl
theorem Cf{x y:UInt64}{a:Ordering}(h:At x y=some a):(At x y==some Ordering.eq)=(a==.eq):=by rw [h];rfl
structure M1(r g b h:UInt64)(both spread:Nat):Prop where
 run:∀ (k:Nat) (H:Hp) (K:KE),K (.tup [.flt h,.flt (Bp (B7 (both:Int)) 4638707616191610880),.flt (Bp (dd spread) (dd (min both (128-both))))]) H→Ph (k+1) 28 [.flt r,.flt g,.flt b] H K
theorem Pv{p w:Nat}{r g b mx mn h rc gc bc:UInt64}{both spread:Nat}{t u:Bool}(hx:Ke r g b=mx)(hn:Kf r g b=mn)(he:At mn mx=some .lt)(hs:Cs mx mn=dd spread)(ha:Kz mx mn=dd both)(hm:Cs (Cs 4611686018427387904 mx) mn=dd (128-both))
  (s0:0<spread) (s1:spread<129) (b0:0<both) (b1:both<128) (e1:Bp (Cs mx r) (dd spread)=rc) (e2:Bp (Cs mx g) (dd spread)=gc) (e3:Bp (Cs mx b) (dd spread)=bc) (e4:(At r mx==some Ordering.eq)=t) (e5:(At g mx==some Ordering.eq)=u)
  (hh:Dc t u rc gc bc=h):M1 r g b h both spread:=⟨fun k H K hK=>by
 have z (j:Nat) (h0:0<j) (h1:j<129):(!Ed (dd j))=true:=by rw [sq h1,decide_eq_false (by lia)];rfl
 have hl:Bp (dd both) 4611686018427387904=Bp (B7 (both:Int)) 4638707616191610880:=sn (by lia)
 have low:=Afs (i:=both) (by lia)
 refine xw k r g b mx mn H K hx hn (by rw [he];rfl) (by rw [hs];exact z _ s0 s1) (fun zA=>by rw [ha];exact z _ b0 (by lia)) (fun zA=>by rw [hm];exact z _ (by lia) (by lia)) ?_
 have eS:Afo mx mn (Bp (Kz mx mn) 4611686018427387904)=Bp (dd spread) (dd (min both (128-both))):=by
  unfold Afo
  rw [ha,low,hs,hm]
  by_cases hb:both≤64
  ·rw [dq9 hb,Nat.min_eq_left (by lia)];rfl
  ·rw [decide_eq_false hb,Nat.min_eq_right (by lia)];rfl
 rw [eS,ha,hl,hs,fj e1 e2 e3 e4 e5,hh]
 exact hK⟩
noncomputable abbrev f0:UInt64:=0
noncomputable abbrev f1:UInt64:=4607182418800017408
noncomputable abbrev fh:UInt64:=4602678819172646912
section
variable {p w:Nat} (hp:p<8) (hw:w<41)
include hp hw
theorem Ac9:M1 (dd (w+3*(p+1))) (dd w) (dd w) (Dc true false f0 f1 f1) (2*w+3*(p+1)) (3*(p+1)):=
 Pv (p:=p) (w:=w) (mx:=dd (w+3*(p+1))) (mn:=dd w) (B2 (c03 hp hw) (c03 hp hw)) (B3 (c03 hp hw) (c00 hp hw)) (c03 hp hw) (s30 hp hw) (a30 hp hw) (m30 hp hw) (by lia) (by lia) (by lia) (by lia)
  (by rw [s33 hp hw];exact (Al (by lia) (by lia)).1) (by rw [s30 hp hw];exact (Al (by lia) (by lia)).2) (by rw [s30 hp hw];exact (Al (by lia) (by lia)).2) (Cf (c33 hp hw)) (Cf (c03 hp hw)) rfl
theorem Ada:M1 (dd w) (dd (w+3*(p+1))) (dd w) (Dc false true f1 f0 f1) (2*w+3*(p+1)) (3*(p+1)):=
 Pv (p:=p) (w:=w) (mx:=dd (w+3*(p+1))) (mn:=dd w) (B2 (c30 hp hw) (c03 hp hw)) (B3 (c30 hp hw) (c00 hp hw)) (c03 hp hw) (s30 hp hw) (a30 hp hw) (m30 hp hw) (by lia) (by lia) (by lia) (by lia)
  (by rw [s30 hp hw];exact (Al (by lia) (by lia)).2) (by rw [s33 hp hw];exact (Al (by lia) (by lia)).1) (by rw [s30 hp hw];exact (Al (by lia) (by lia)).2) (Cf (c03 hp hw)) (Cf (c33 hp hw)) rfl
theorem Adb:M1 (dd w) (dd w) (dd (w+3*(p+1))) (Dc false false f1 f1 f0) (2*w+3*(p+1)) (3*(p+1)):=
 Pv (p:=p) (w:=w) (mx:=dd (w+3*(p+1))) (mn:=dd w) (B2 (c00 hp hw) (c30 hp hw)) (B3 (c00 hp hw) (c30 hp hw)) (c03 hp hw) (s30 hp hw) (a30 hp hw) (m30 hp hw) (by lia) (by lia) (by lia) (by lia)
  (by rw [s30 hp hw];exact (Al (by lia) (by lia)).2) (by rw [s30 hp hw];exact (Al (by lia) (by lia)).2) (by rw [s33 hp hw];exact (Al (by lia) (by lia)).1) (Cf (c03 hp hw)) (Cf (c03 hp hw)) rfl
theorem Adc:M1 (dd (w+2*(p+1))) (dd (w+(p+1))) (dd w) (Dc true false f0 fh f1) (2*w+2*(p+1)) (2*(p+1)):=
 Pv (p:=p) (w:=w) (mx:=dd (w+2*(p+1))) (mn:=dd w) (B2 (c12 hp hw) (c02 hp hw)) (B3 (c12 hp hw) (c01 hp hw)) (c02 hp hw) (s20 hp hw) (a20 hp hw) (m20 hp hw) (by lia) (by lia) (by lia) (by lia)
  (by rw [s22 hp hw];exact (Al (by lia) (by lia)).1) (by rw [s21 hp hw];exact Gi hp) (by rw [s20 hp hw];exact (Al (by lia) (by lia)).2) (Cf (c22 hp hw)) (Cf (c12 hp hw)) rfl
theorem Ade:M1 (dd (w+2*(p+1))) (dd w) (dd (w+(p+1))) (Dc true false f0 f1 fh) (2*w+2*(p+1)) (2*(p+1)):=
 Pv (p:=p) (w:=w) (mx:=dd (w+2*(p+1))) (mn:=dd w) (B2 (c02 hp hw) (c12 hp hw)) (B3 (c02 hp hw) (c10 hp hw)) (c02 hp hw) (s20 hp hw) (a20 hp hw) (m20 hp hw) (by lia) (by lia) (by lia) (by lia)
  (by rw [s22 hp hw];exact (Al (by lia) (by lia)).1) (by rw [s20 hp hw];exact (Al (by lia) (by lia)).2) (by rw [s21 hp hw];exact Gi hp) (Cf (c22 hp hw)) (Cf (c02 hp hw)) rfl
theorem Adf:M1 (dd (w+(p+1))) (dd (w+2*(p+1))) (dd w) (Dc false true fh f0 f1) (2*w+2*(p+1)) (2*(p+1)):=
 Pv (p:=p) (w:=w) (mx:=dd (w+2*(p+1))) (mn:=dd w) (B2 (c21 hp hw) (c02 hp hw)) (B3 (c21 hp hw) (c01 hp hw)) (c02 hp hw) (s20 hp hw) (a20 hp hw) (m20 hp hw) (by lia) (by lia) (by lia) (by lia)
  (by rw [s21 hp hw];exact Gi hp) (by rw [s22 hp hw];exact (Al (by lia) (by lia)).1) (by rw [s20 hp hw];exact (Al (by lia) (by lia)).2) (Cf (c12 hp hw)) (Cf (c22 hp hw)) rfl
theorem Adg:M1 (dd w) (dd (w+2*(p+1))) (dd (w+(p+1))) (Dc false true f1 f0 fh) (2*w+2*(p+1)) (2*(p+1)):=
 Pv (p:=p) (w:=w) (mx:=dd (w+2*(p+1))) (mn:=dd w) (B2 (c20 hp hw) (c12 hp hw)) (B3 (c20 hp hw) (c10 hp hw)) (c02 hp hw) (s20 hp hw) (a20 hp hw) (m20 hp hw) (by lia) (by lia) (by lia) (by lia)
  (by rw [s20 hp hw];exact (Al (by lia) (by lia)).2) (by rw [s22 hp hw];exact (Al (by lia) (by lia)).1) (by rw [s21 hp hw];exact Gi hp) (Cf (c02 hp hw)) (Cf (c22 hp hw)) rfl
theorem Adh:M1 (dd (w+(p+1))) (dd w) (dd (w+2*(p+1))) (Dc false false fh f1 f0) (2*w+2*(p+1)) (2*(p+1)):=
 Pv (p:=p) (w:=w) (mx:=dd (w+2*(p+1))) (mn:=dd w) (B2 (c01 hp hw) (c21 hp hw)) (B3 (c01 hp hw) (c20 hp hw)) (c02 hp hw) (s20 hp hw) (a20 hp hw) (m20 hp hw) (by lia) (by lia) (by lia) (by lia)
  (by rw [s21 hp hw];exact Gi hp) (by rw [s20 hp hw];exact (Al (by lia) (by lia)).2) (by rw [s22 hp hw];exact (Al (by lia) (by lia)).1) (Cf (c12 hp hw)) (Cf (c02 hp hw)) rfl
theorem Adi:M1 (dd w) (dd (w+(p+1))) (dd (w+2*(p+1))) (Dc false false f1 fh f0) (2*w+2*(p+1)) (2*(p+1)):=
 Pv (p:=p) (w:=w) (mx:=dd (w+2*(p+1))) (mn:=dd w) (B2 (c10 hp hw) (c21 hp hw)) (B3 (c10 hp hw) (c20 hp hw)) (c02 hp hw) (s20 hp hw) (a20 hp hw) (m20 hp hw) (by lia) (by lia) (by lia) (by lia)
  (by rw [s20 hp hw];exact (Al (by lia) (by lia)).2) (by rw [s21 hp hw];exact Gi hp) (by rw [s22 hp hw];exact (Al (by lia) (by lia)).1) (Cf (c02 hp hw)) (Cf (c12 hp hw)) rfl
end
section
variable {Φ:Orc} {c a b:ME} {ν:Nu} {H:Hp} {v:V}
theorem Adj{T:Bool}(t:Bool)(he:T=t)(h1:∀ k:KE,k (.bool T) H→ev tb Φ c ν H k)(h2:∀ k:KE,k v H→ev tb Φ (bif t then a else b) ν H k){k:KE}(h:k v H):ev tb Φ (.ite c a b) ν H k:=by
 refine h1 _ ?_
 subst he
 cases T<;>exact h2 _ h
end
theorem Ot(is:List Int)(n a:Nat)(j:Int)(ha:is.count j=a)(h3:a≤3):Qh is (1+(n:Int) % 8) ((n:Int) / 8 % 41) j=dd (n / 8 % 41+a*(n % 8+1)):=by
 unfold Qh
 rw [ha]
 have h1:n % 8<8:=Nat.mod_lt _ (by decide)
 have h2:n / 8 % 41<41:=Nat.mod_lt _ (by decide)
 have e:(n:Int) / 8 % 41+(1+(n:Int) % 8)*((a:Nat):Int)=((n / 8 % 41+a*(n % 8+1):Nat):Int):=by
  rw [Int.natCast_add,Int.natCast_mul,Int.mul_comm,Int.add_comm 1];rfl
 rw [e]
 refine Ac8 ?_
 have:a*(n % 8+1)≤3*8:=Nat.mul_le_mul h3 (by lia)
 lia
theorem f12:(!Xv (B7 12000000))=true:=by decide +kernel
theorem f6:(!Xv (B7 1000000))=true:=by decide +kernel
theorem Agh:(!Ed 4638707616191610880)=true:=by decide +kernel
theorem Agi:At 0 0=some .eq:=by decide +kernel
noncomputable def fk:MSs:=(.cons (.cond (.cmp .Eq (.var 11) (.int 0)) (.cons (.ret (.ite (.cmpD (.tup (.cons (.var 7) (.cons (.var 8) (.cons (.var 9) .nil)))) true (.cons (.flt 0) (.cons (.bin .Div (.var 12) (.flt 4638707616191610880)) (.cons (.flt 0) .nil)))) (.var 9) .none))
    .nil) .nil)
   (.cons (.assign 13 (.sub (.bcall .sorted (.cons (.var 0) .nil)) (.int 1)))
   (.cons (.assign 14 (.bin .Mod (.bin .Add (.bin .Mult (.int 4) (.var 13)) (.bcall .sum (.cons (.comp 1 Ep (.cons 16 (.val (.var 0)) .nil)) .nil))) (.int 12)))
   (.cons (.assign 15 (.lst (.cons (.bcall .round (.cons (.bin .Mult (.var 7) (.int 12000000)) .nil)) (.cons (.var 8) (.cons (.bcall .round (.cons (.bin .Mult (.bin .Mult (.var 9) (.bcall .min (.cons (.var 12) (.cons (.bin .Sub (.int 128) (.var 12)) .nil)))) (.int 1000000)) .nil)) .nil)))))
   (.cons (.ret (.ite (.cmpD (.var 15) false (.cons (.bin .Mult (.var 14) (.int 1000000)) (.cons (.bin .Div (.var 12) (.flt 4638707616191610880)) (.cons (.bin .Mult (.var 11) (.int 1000000)) .nil)))) (.var 9) .none))
   .nil)))))
theorem Sn(k n:Nat)(c0 c1 c2 mx mn:Int)(r g b h s:UInt64)(both:Nat)(H:Hp)(K:KE)
  (hr:Qh [c0,c1,c2] (1+(n:Int) % 8) ((n:Int) / 8 % 41) 0=r) (hg:Qh [c0,c1,c2] (1+(n:Int) % 8) ((n:Int) / 8 % 41) 1=g) (hb:Qh [c0,c1,c2] (1+(n:Int) % 8) ((n:Int) / 8 % 41) 2=b)
  (run:∀ (k:Nat) (H:Hp) (K:KE),K (.tup [.flt h,.flt (Bp (B7 (both:Int)) 4638707616191610880),.flt s]) H→Ph (k+1) 28 [.flt r,.flt g,.flt b] H K)
  (hx:V3 [(([c0,c1,c2].count 0:Nat):Int),(([c0,c1,c2].count 1:Nat):Int),(([c0,c1,c2].count 2:Nat):Int)]=some mx)
  (hn:V4 [(([c0,c1,c2].count 0:Nat):Int),(([c0,c1,c2].count 1:Nat):Int),(([c0,c1,c2].count 2:Nat):Int)]=some mn)
  (q0:0≤mn) (q1:mn≤mx) (q2:mx≤3) (hbo:2*((n:Int) / 8 % 41)+(1+(n:Int) % 8)*(mx+mn)=(both:Int)) (hb2:both<129)
  (next:∀ H',Ext H H'→exs tb (Ph (k+2)) fk
   [some (.lst [.int c0,.int c1,.int c2]),some (.int n),some (.int (1+(n:Int) % 8)),some (.int ((n:Int) / 8 % 41)),some (.flt r),some (.flt g),some (.flt b),some (.flt h),some (.flt (Bp (B7 (both:Int)) 4638707616191610880)),some (.flt s),
    some (.lst [.int (([c0,c1,c2].count 0:Nat):Int),.int (([c0,c1,c2].count 1:Nat):Int),.int (([c0,c1,c2].count 2:Nat):Int)]),some (.int ((1+(n:Int) % 8)*(mx-mn))),some (.int (both:Int)),none,none,none] H'
   fun fl ν H1=>Aae tb none fl ν H1 fun v H'=>T8 H v H' K) :
  Ph (k+3) 316 [.lst [.int c0,.int c1,.int c2],.int n] H K:=by
 have hcnt:∀ j:Int,[c0,c1,c2].count j≤3:=fun j=>List.count_le_length
 refine Ff (fn:=B6) rfl rfl rfl [some (.lst [.int c0,.int c1,.int c2]),some (.int n),none,none,none,none,none,none,none,none,none,none,none,none,none,none] rfl ?_
 refine fi (fun zA h=>Pq (k+1) n _ _ h) rfl ?_
 dsimp only [List.set,Am]
 refine Ac5 (l:=[.flt r,.flt g,.flt b]) (H1:=H) (fun k' h'=>sk k [c0,c1,c2] n _ _ (by show 3≤1000;lia) (fun j=>?_) (fun j=>?_) ?_) rfl ?_
 ·have e:=Ot [c0,c1,c2] n ([c0,c1,c2].count j) j rfl (hcnt j)
  have e2:(n:Int) / 8 % 41+(1+(n:Int) % 8)*(([c0,c1,c2].count j:Nat):Int)=((n / 8 % 41+[c0,c1,c2].count j*(n % 8+1):Nat):Int):=by
   rw [Int.natCast_add,Int.natCast_mul,Int.mul_comm,Int.add_comm 1];rfl
  rw [e2]
  refine U9 ?_
  have h1:n % 8<8:=Nat.mod_lt _ (by decide)
  have h2:n / 8 % 41<41:=Nat.mod_lt _ (by decide)
  have:=Nat.mul_le_mul (hcnt j) (show n % 8+1≤8 by lia)
  lia
 ·have:=hcnt j;lia
 ·rw [List.map_cons,List.map_cons,List.map_cons,List.map_nil,hr,hg,hb];exact h'
 dsimp only [List.set,Am]
 refine fi (fun zA h=>run (k+1) _ _ h) rfl ?_
 dsimp only [List.set,Am]
 refine F9 (v:=.lst [.int (([c0,c1,c2].count 0:Nat):Int),.int (([c0,c1,c2].count 1:Nat):Int),.int (([c0,c1,c2].count 2:Nat):Int)]) (fun k' h'=>?_) fun H1 x1=>?_
 ·apply D6 (l:=[.int 0,.int 1,.int 2]) (g:=fun v=>match v with|.int j=>.int (([c0,c1,c2].count j:Nat):Int)|v=>v) (h:=h')
  ·exact fun zA h=>⟨rfl,rfl,rfl,rfl,rfl,h⟩
  ·exact Nat.le_of_ble_eq_true rfl
  intro v hv H' k'' hk
  have e1:∃ j,v=.int j:=by
   rcases List.mem_cons.mp hv with rfl|hv
   ·exact ⟨_,rfl⟩
   ·rcases List.mem_cons.mp hv with rfl|hv
    ·exact ⟨_,rfl⟩
    ·rcases List.mem_cons.mp hv with rfl|hv
     ·exact ⟨_,rfl⟩
     ·cases hv
  refine x11 e1 fun j zz1=>?_;subst zz1
  dsimp only [List.set,List.append,List.replicate]
  exact ⟨rfl,rfl,hk _ .rfl⟩
 dsimp only [List.set,Am]
 have sm:∀ z:Int,-100≤z→z≤100→decide (z.natAbs<1152921504606846976)=true:=fun z h1 h2=>dq9 (by lia)
 have p1:0≤(n:Int) % 8:=Int.emod_nonneg _ (by decide)
 have p2:(n:Int) % 8<8:=Int.emod_lt_of_pos _ (by decide)
 have w1:0≤(n:Int) / 8 % 41:=Int.emod_nonneg _ (by decide)
 have w2:(n:Int) / 8 % 41<41:=Int.emod_lt_of_pos _ (by decide)
 have oX:∀ P:Int→Prop,P mx→opt (V3 [(([c0,c1,c2].count 0:Nat):Int),(([c0,c1,c2].count 1:Nat):Int),(([c0,c1,c2].count 2:Nat):Int)]) P:=fun P hp=>by rw [hx];exact hp
 have oN:∀ P:Int→Prop,P mn→opt (V4 [(([c0,c1,c2].count 0:Nat):Int),(([c0,c1,c2].count 1:Nat):Int),(([c0,c1,c2].count 2:Nat):Int)]) P:=fun P hp=>by rw [hn];exact hp
 refine Aq (v:=.int ((1+(n:Int) % 8)*(mx-mn))) (H1:=H1) (fun k' h'=>⟨rfl,oX _ ⟨rfl,oN _ ⟨sm _ (by lia) (by lia),sm _ (by lia) (by lia),h'⟩⟩⟩) ?_
 dsimp only [List.set,Am]
 refine Aq (v:=.int (both:Int)) (H1:=H1) (fun k' h'=>⟨sm _ (by decide) (by decide),sm _ (by lia) (by lia),rfl,oX _ ⟨rfl,oN _ ⟨sm _ (by lia) (by lia),sm _ (by lia) (by lia),?_⟩⟩⟩) ?_
 ·show k' (.int (2*((n:Int) / 8 % 41)+(1+(n:Int) % 8)*(mx+mn))) H1
  rw [hbo];exact h'
 dsimp only [List.set,Am]
 exact next H1 x1
theorem xz:V3 [1,1,1]=some 1:=by decide
theorem ya:V4 [1,1,1]=some 1:=by decide
theorem Ou(k n:Nat)(c0 c1 c2:Int)(e0:[c0,c1,c2].count 0=1)(e1:[c0,c1,c2].count 1=1)(e2:[c0,c1,c2].count 2=1)(H:Hp)(K:KE)(hK:K (.flt 0) H) :
  Ph (k+3) 316 [.lst [.int c0,.int c1,.int c2],.int n] H K:=by
 have hp:n % 8<8:=Nat.mod_lt _ (by decide)
 have hw:n / 8 % 41<41:=Nat.mod_lt _ (by decide)
 have hb:2*(n / 8 % 41)+2*(n % 8+1)<129:=by lia
 have x:∀ j:Int,[c0,c1,c2].count j=1→Qh [c0,c1,c2] (1+(n:Int) % 8) ((n:Int) / 8 % 41) j=dd (n / 8 % 41+(n % 8+1)):=fun j h=>by
  rw [Ot _ n 1 j h (by decide),Nat.one_mul]
 have cc:=c11 hp hw
 have mx:Ke (dd (n / 8 % 41+(n % 8+1))) (dd (n / 8 % 41+(n % 8+1))) (dd (n / 8 % 41+(n % 8+1)))=dd (n / 8 % 41+(n % 8+1)):=B2 (a:=.eq) (b:=.eq) cc cc
 have mn:Kf (dd (n / 8 % 41+(n % 8+1))) (dd (n / 8 % 41+(n % 8+1))) (dd (n / 8 % 41+(n % 8+1)))=dd (n / 8 % 41+(n % 8+1)):=B3 (a:=.eq) (b:=.eq) cc cc
 refine Sn k n c0 c1 c2 1 1 _ _ _ 0 0 (2*(n / 8 % 41)+2*(n % 8+1)) H K (x 0 e0) (x 1 e1) (x 2 e2) (fun k H K h=>ny k _ _ _ H K (by rw [mx,mn,cc];rfl) ?_) (by rw [e0,e1,e2];exact xz) (by rw [e0,e1,e2];exact ya) (by decide) (by decide) (by decide) (by lia) hb fun H' xt=>?_
 ·rw [mx,mn,a11 hp hw,sn hb];exact h
 ·refine C6 true (T:=((1+(n:Int) % 8)*(1-1)==0)) (by rw [Int.sub_self,Int.mul_zero];rfl) (fun zA h=>h) ?_
  refine Dd (v:=.flt 0) (H1:=H') (fun k' h'=>?_) (xt.cut rfl hK)
  have hT:((At 0 0==some Ordering.eq)&&((At (Bp (B7 ((2*(n / 8 % 41)+2*(n % 8+1):Nat):Int)) 4638707616191610880) (Bp (B7 ((2*(n / 8 % 41)+2*(n % 8+1):Nat):Int)) 4638707616191610880)==some Ordering.eq)&&((At 0 0==some Ordering.eq)&&true)))=true:=by rw [Agi,Agg hb];rfl
  refine Adj (T:=true) true rfl ?_ ?_ h'
  ·exact fun zA h=>⟨rfl,Agh,U9 hb,rfl,rfl,hT,h⟩
  ·exact fun zA h=>h
theorem sr{Φ:Orc}{b:Bi}{e:ME}{ν:Nu}{H:Hp}{K:KE}(h:ev tb Φ e ν H fun v H1=>V5 tb Φ b [v] H1 K):ev tb Φ (.bcall b (.cons e .nil)) ν H K:=h
theorem Ar{α:Type}{o:Option α}{a:α}{k:α→Prop}(e:o=some a)(h:k a):opt o k:=by rw [e];exact h
theorem J8(a:Int):(a==a)=true:=by simp
noncomputable def As(a b:Int):Int:=(b-a+1) % 3-1
theorem Adk{a m:Nat}(h:shr a m=true):Bt (Ip (Ip (Bp (dd a) (dd m)) (B7 (m:Int))) (B7 1000000))=some ((a:Int)*1000000)∧(At (Bp (dd a) (dd m)) 0==some Ordering.eq)=false:=by
 unfold shr at h
 cases e:Bt (Ip (Ip (Bp (dd a) (dd m)) (B7 (m:Int))) (B7 1000000)) with
 | none=>rw [e] at h;exact Bool.noConfusion h
 | some i=>
  rw [e] at h
  exact ⟨congrArg some (eq_of_beq (Bool.and_eq_true_iff.mp h).1),(Bool.not_eq_true' _).mp (Bool.and_eq_true_iff.mp h).2⟩
theorem Id(k n:Nat)(c0 c1 c2 mx mn m s0 s2 tw:Int)(r g b h:UInt64)(both spread:Nat)(H:Hp)(K:KE)
  (hr:Qh [c0,c1,c2] (1+(n:Int) % 8) ((n:Int) / 8 % 41) 0=r) (hg:Qh [c0,c1,c2] (1+(n:Int) % 8) ((n:Int) / 8 % 41) 1=g) (hb:Qh [c0,c1,c2] (1+(n:Int) % 8) ((n:Int) / 8 % 41) 2=b)
  (T:M1 r g b h both spread)
  (hx:V3 [(([c0,c1,c2].count 0:Nat):Int),(([c0,c1,c2].count 1:Nat):Int),(([c0,c1,c2].count 2:Nat):Int)]=some mx)
  (hn:V4 [(([c0,c1,c2].count 0:Nat):Int),(([c0,c1,c2].count 1:Nat):Int),(([c0,c1,c2].count 2:Nat):Int)]=some mn)
  (q0:0≤mn) (q1:mn≤mx) (q2:mx≤3) (hbo:2*((n:Int) / 8 % 41)+(1+(n:Int) % 8)*(mx+mn)=(both:Int)) (hsp:(1+(n:Int) % 8)*(mx-mn)=(spread:Int)) (hb2:both<128) (hs0:0<spread) (hs2:spread<129)
  (hso:Gn [c0,c1,c2]=[s0,m,s2]) (hm:0≤m∧m≤2) (htw:(4*m+(As m c0+(As m c1+(As m c2+0)))) % 12=tw) (htw2 : -100≤tw∧tw≤100)
  (hh:Bt (Ip h (B7 12000000))=some (tw*1000000)) (hS:shr spread (min both (128-both))=true)
  (hK:∀ s:UInt64,(At s 0==some Ordering.eq)=false→K (.flt s) H) :
  Ph (k+3) 316 [.lst [.int c0,.int c1,.int c2],.int n] H K:=by
 have sm:∀ z:Int,-1000000000≤z→z≤1000000000→decide (z.natAbs<1152921504606846976)=true:=fun z h1 h2=>dq9 (by lia)
 have hS':=Adk hS
 refine Sn k n c0 c1 c2 mx mn r g b h _ both H K hr hg hb T.run hx hn q0 q1 q2 hbo (by lia) fun H' xt=>?_
 refine C6 false (T:=((1+(n:Int) % 8)*(mx-mn)==0)) (by rw [hsp];exact beq_eq_false_iff_ne.mpr (by lia)) (fun zA h=>h) ?_
 refine Aq (v:=.int m) (H1:=H') (fun k' h'=>?_) ?_
 ·refine ⟨rfl,?_⟩
  rw [hso];exact ⟨rfl,h'⟩
 dsimp only [List.set,Am]
 refine F9 (v:=.int tw) (fun k' h'=>?_) fun H1 x1=>?_
 ·refine ⟨rfl,sm _ (by lia) (by lia),?_⟩
  refine sr ?_
  apply D6 (l:=[.int c0,.int c1,.int c2]) (g:=fun v=>match v with|.int j=>.int (As m j)|v=>v)
  ·exact fun zA h=>⟨rfl,h⟩
  ·exact Nat.le_of_ble_eq_true rfl
  ·intro v hv H2 k'' hk
   have e1:∃ j,v=.int j:=by
    rcases List.mem_cons.mp hv with rfl|hv
    ·exact ⟨_,rfl⟩
    ·rcases List.mem_cons.mp hv with rfl|hv
     ·exact ⟨_,rfl⟩
     ·rcases List.mem_cons.mp hv with rfl|hv
      ·exact ⟨_,rfl⟩
      ·cases hv
   refine x11 e1 fun j zz1=>?_;subst zz1
   dsimp only [List.set,List.append,List.replicate]
   exact rx (k+1) m j H2 _ (hk _ .rfl)
  ·intro H2 x2
   have wb:∀ j:Int,decide ((As m j).natAbs<1099511627776)=true:=fun j=>dq9 (by
    unfold As
    exact Aal (Int.emod_nonneg (j-m+1) (show (3:Int)≠0 by decide)) (Int.emod_lt_of_pos (j-m+1) (show (0:Int)<3 by decide)))
   have ab:([As m c0,As m c1,As m c2].all fun i=>decide (i.natAbs<1099511627776))=true:=by
    simp only [List.all_cons,List.all_nil,wb,Bool.and_self]
   refine ⟨rfl,ab,rfl,?_⟩
   have e:(4*m+[As m c0,As m c1,As m c2].sum) % 12=tw:=by rw [←htw];rfl
   show k' (.int ((4*m+[As m c0,As m c1,As m c2].sum) % 12)) H2
   rw [e];exact h' _ x2
 dsimp only [List.set,Am]
 have emin:(if (128-(both:Int))<(both:Int) then (128-(both:Int)) else (both:Int))=((min both (128-both):Nat):Int):=by
  by_cases hq:both≤64
  ·rw [if_neg (by lia),Nat.min_eq_left (by lia)]
  ·rw [if_pos (by lia),Nat.min_eq_right (by lia)];lia
 have fm:(!Xv (B7 ((min both (128-both):Nat):Int)))=true:=U9 (by lia)
 have fm':(!Xv (B7 (if (128-(both:Int))<(both:Int) then (128-(both:Int)) else (both:Int))))=true:=by rw [emin];exact fm
 have hS2:Bt (Ip (Ip (Bp (dd spread) (dd (min both (128-both)))) (B7 (if (128-(both:Int))<(both:Int) then (128-(both:Int)) else (both:Int)))) (B7 1000000))=some ((spread:Int)*1000000):=by rw [emin];exact hS'.1
 refine Aq (v:=.lst [.int (tw*1000000),.flt (Bp (B7 (both:Int)) 4638707616191610880),.int ((spread:Int)*1000000)]) (H1:=H1) (fun k' h'=>⟨f12,Ar hh ⟨fm',f6,Ar hS2 ⟨rfl,h'⟩⟩⟩) ?_
 dsimp only [List.set,Am]
 refine Dd (v:=.flt (Bp (dd spread) (dd (min both (128-both))))) (H1:=H1) (fun k' h'=>?_) ((xt.trans x1).cut rfl (hK _ hS'.2))
 have hT:((tw*1000000==tw*1000000)&&((At (Bp (B7 (both:Int)) 4638707616191610880) (Bp (B7 (both:Int)) 4638707616191610880)==some Ordering.eq)&&(((spread:Int)*1000000==(1+(n:Int) % 8)*(mx-mn)*1000000)&&true)))=true:=by
  rw [Agg (by lia),hsp,J8,J8];rfl
 refine Adj (T:=true) true rfl ?_ ?_ h'
 ·exact fun zA h=>⟨sm _ (by lia) (by lia),rfl,Agh,U9 (by lia),sm _ (by rw [hsp];lia) (by rw [hsp];lia),rfl,rfl,rfl,hT,h⟩
 ·exact fun zA h=>h
theorem Dr{p w:Nat}(hp:p<8)(hw:w<41):shr (p+1) (w+(p+1))=true∧shr (2*(p+1)) (w+2*(p+1))=true∧shr (2*(p+1)) (min (2*w+2*(p+1)) (128-(2*w+2*(p+1))))=true∧shr (3*(p+1)) (min (2*w+3*(p+1)) (128-(2*w+3*(p+1))))=true:=by
 have q:=Ax (Ax Afq hw) hp
 simp only [Bool.and_eq_true] at q
 exact ⟨q.1.1.1,q.1.1.2,q.1.2,q.2⟩
theorem Bd{l l':List Int}(hp:l.isPerm l'=true)(hs:l'.Pairwise (fun a b=>decide (a≤b)=true)):Gn l=l':=by
 unfold Gn
 refine List.Perm.eq_of_pairwise (le:=fun a b=>decide (a≤b)=true) (fun a b zA zB h1 h2=>?_) (List.pairwise_mergeSort (fun a b c h1 h2=>?_) (fun a b=>?_) l) hs ((List.mergeSort_perm l _).trans (List.isPerm_iff.mp hp))
 ·have:=od9 h1;have:=od9 h2;lia
 ·exact dq9 (Int.le_trans (od9 h1) (od9 h2))
 ·rw [Bool.or_eq_true,decide_eq_true_eq,decide_eq_true_eq];lia
theorem Ea(is:List Int)(n:Nat)(j:Int)(ha:is.count j=0):Qh is (1+(n:Int) % 8) ((n:Int) / 8 % 41) j=dd (n / 8 % 41):=by rw [Ot is n 0 j ha (by decide),Nat.zero_mul];rfl
theorem Ko(is:List Int)(n:Nat)(j:Int)(ha:is.count j=1):Qh is (1+(n:Int) % 8) ((n:Int) / 8 % 41) j=dd (n / 8 % 41+(n % 8+1)):=by rw [Ot is n 1 j ha (by decide),Nat.one_mul]
theorem Pw(is:List Int)(n:Nat)(j:Int)(ha:is.count j=2):Qh is (1+(n:Int) % 8) ((n:Int) / 8 % 41) j=dd (n / 8 % 41+2*(n % 8+1)):=Ot is n 2 j ha (by decide)
theorem yb(is:List Int)(n:Nat)(j:Int)(ha:is.count j=3):Qh is (1+(n:Int) % 8) ((n:Int) / 8 % 41) j=dd (n / 8 % 41+3*(n % 8+1)):=Ot is n 3 j ha (by decide)
theorem Adl:Bt (Ip (Dc true false f0 f1 f1) (B7 12000000))=some (0*1000000):=by decide +kernel
theorem fo:V3 [3,0,0]=some 3∧V4 [3,0,0]=some 0:=by decide
theorem yc(k n:Nat)(c0 c1 c2:Int)(e0:[c0,c1,c2].count 0=3)(e1:[c0,c1,c2].count 1=0)(e2:[c0,c1,c2].count 2=0)(hso:Gn [c0,c1,c2]=[0,0,0])(htw:(4*0+(As 0 c0+(As 0 c1+(As 0 c2+0)))) % 12=0)(H:Hp)(K:KE)
  (hK:∀ s:UInt64,(At s 0==some Ordering.eq)=false→K (.flt s) H):Ph (k+3) 316 [.lst [.int c0,.int c1,.int c2],.int n] H K:=by
 have hp:n % 8<8:=Nat.mod_lt _ (by decide)
 have hw:n / 8 % 41<41:=Nat.mod_lt _ (by decide)
 exact Id k n c0 c1 c2 3 0 0 0 0 0 _ _ _ _ (2*(n / 8 % 41)+3*(n % 8+1)) (3*(n % 8+1)) H K (yb _ n 0 e0) (Ea _ n 1 e1) (Ea _ n 2 e2) (Ac9 hp hw)
  (by rw [e0,e1,e2];exact fo.1) (by rw [e0,e1,e2];exact fo.2) (by decide) (by decide) (by decide) (by lia) (by lia) (by lia) (by lia) (by lia) hso (by decide) htw (by decide) Adl (Dr hp hw).2.2.2 hK
theorem Adm:Bt (Ip (Dc false true f1 f0 f1) (B7 12000000))=some (4*1000000):=by decide +kernel
theorem fq:V3 [0,3,0]=some 3∧V4 [0,3,0]=some 0:=by decide
theorem yd(k n:Nat)(c0 c1 c2:Int)(e0:[c0,c1,c2].count 0=0)(e1:[c0,c1,c2].count 1=3)(e2:[c0,c1,c2].count 2=0)(hso:Gn [c0,c1,c2]=[1,1,1])(htw:(4*1+(As 1 c0+(As 1 c1+(As 1 c2+0)))) % 12=4)(H:Hp)(K:KE)
  (hK:∀ s:UInt64,(At s 0==some Ordering.eq)=false→K (.flt s) H):Ph (k+3) 316 [.lst [.int c0,.int c1,.int c2],.int n] H K:=by
 have hp:n % 8<8:=Nat.mod_lt _ (by decide)
 have hw:n / 8 % 41<41:=Nat.mod_lt _ (by decide)
 exact Id k n c0 c1 c2 3 0 1 1 1 4 _ _ _ _ (2*(n / 8 % 41)+3*(n % 8+1)) (3*(n % 8+1)) H K (Ea _ n 0 e0) (yb _ n 1 e1) (Ea _ n 2 e2) (Ada hp hw)
  (by rw [e0,e1,e2];exact fq.1) (by rw [e0,e1,e2];exact fq.2) (by decide) (by decide) (by decide) (by lia) (by lia) (by lia) (by lia) (by lia) hso (by decide) htw (by decide) Adm (Dr hp hw).2.2.2 hK
theorem Adn:Bt (Ip (Dc false false f1 f1 f0) (B7 12000000))=some (8*1000000):=by decide +kernel
theorem fu:V3 [0,0,3]=some 3∧V4 [0,0,3]=some 0:=by decide
theorem ye(k n:Nat)(c0 c1 c2:Int)(e0:[c0,c1,c2].count 0=0)(e1:[c0,c1,c2].count 1=0)(e2:[c0,c1,c2].count 2=3)(hso:Gn [c0,c1,c2]=[2,2,2])(htw:(4*2+(As 2 c0+(As 2 c1+(As 2 c2+0)))) % 12=8)(H:Hp)(K:KE)
  (hK:∀ s:UInt64,(At s 0==some Ordering.eq)=false→K (.flt s) H):Ph (k+3) 316 [.lst [.int c0,.int c1,.int c2],.int n] H K:=by
 have hp:n % 8<8:=Nat.mod_lt _ (by decide)
 have hw:n / 8 % 41<41:=Nat.mod_lt _ (by decide)
 exact Id k n c0 c1 c2 3 0 2 2 2 8 _ _ _ _ (2*(n / 8 % 41)+3*(n % 8+1)) (3*(n % 8+1)) H K (Ea _ n 0 e0) (Ea _ n 1 e1) (yb _ n 2 e2) (Adb hp hw)
  (by rw [e0,e1,e2];exact fu.1) (by rw [e0,e1,e2];exact fu.2) (by decide) (by decide) (by decide) (by lia) (by lia) (by lia) (by lia) (by lia) hso (by decide) htw (by decide) Adn (Dr hp hw).2.2.2 hK
theorem Ado:Bt (Ip (Dc true false f0 fh f1) (B7 12000000))=some (1*1000000):=by decide +kernel
theorem fw:V3 [2,1,0]=some 2∧V4 [2,1,0]=some 0:=by decide
theorem Va(k n:Nat)(c0 c1 c2:Int)(e0:[c0,c1,c2].count 0=2)(e1:[c0,c1,c2].count 1=1)(e2:[c0,c1,c2].count 2=0)(hso:Gn [c0,c1,c2]=[0,0,1])(htw:(4*0+(As 0 c0+(As 0 c1+(As 0 c2+0)))) % 12=1)(H:Hp)(K:KE)
  (hK:∀ s:UInt64,(At s 0==some Ordering.eq)=false→K (.flt s) H):Ph (k+3) 316 [.lst [.int c0,.int c1,.int c2],.int n] H K:=by
 have hp:n % 8<8:=Nat.mod_lt _ (by decide)
 have hw:n / 8 % 41<41:=Nat.mod_lt _ (by decide)
 exact Id k n c0 c1 c2 2 0 0 0 1 1 _ _ _ _ (2*(n / 8 % 41)+2*(n % 8+1)) (2*(n % 8+1)) H K (Pw _ n 0 e0) (Ko _ n 1 e1) (Ea _ n 2 e2) (Adc hp hw)
  (by rw [e0,e1,e2];exact fw.1) (by rw [e0,e1,e2];exact fw.2) (by decide) (by decide) (by decide) (by lia) (by lia) (by lia) (by lia) (by lia) hso (by decide) htw (by decide) Ado (Dr hp hw).2.2.1 hK
theorem Adp:Bt (Ip (Dc true false f0 f1 fh) (B7 12000000))=some (11*1000000):=by decide +kernel
theorem fz:V3 [2,0,1]=some 2∧V4 [2,0,1]=some 0:=by decide
theorem Vb(k n:Nat)(c0 c1 c2:Int)(e0:[c0,c1,c2].count 0=2)(e1:[c0,c1,c2].count 1=0)(e2:[c0,c1,c2].count 2=1)(hso:Gn [c0,c1,c2]=[0,0,2])(htw:(4*0+(As 0 c0+(As 0 c1+(As 0 c2+0)))) % 12=11)(H:Hp)(K:KE)
  (hK:∀ s:UInt64,(At s 0==some Ordering.eq)=false→K (.flt s) H):Ph (k+3) 316 [.lst [.int c0,.int c1,.int c2],.int n] H K:=by
 have hp:n % 8<8:=Nat.mod_lt _ (by decide)
 have hw:n / 8 % 41<41:=Nat.mod_lt _ (by decide)
 exact Id k n c0 c1 c2 2 0 0 0 2 11 _ _ _ _ (2*(n / 8 % 41)+2*(n % 8+1)) (2*(n % 8+1)) H K (Pw _ n 0 e0) (Ea _ n 1 e1) (Ko _ n 2 e2) (Ade hp hw)
  (by rw [e0,e1,e2];exact fz.1) (by rw [e0,e1,e2];exact fz.2) (by decide) (by decide) (by decide) (by lia) (by lia) (by lia) (by lia) (by lia) hso (by decide) htw (by decide) Adp (Dr hp hw).2.2.1 hK
theorem Adq:Bt (Ip (Dc false true fh f0 f1) (B7 12000000))=some (3*1000000):=by decide +kernel
theorem f5:V3 [1,2,0]=some 2∧V4 [1,2,0]=some 0:=by decide
theorem Vc(k n:Nat)(c0 c1 c2:Int)(e0:[c0,c1,c2].count 0=1)(e1:[c0,c1,c2].count 1=2)(e2:[c0,c1,c2].count 2=0)(hso:Gn [c0,c1,c2]=[0,1,1])(htw:(4*1+(As 1 c0+(As 1 c1+(As 1 c2+0)))) % 12=3)(H:Hp)(K:KE)
  (hK:∀ s:UInt64,(At s 0==some Ordering.eq)=false→K (.flt s) H):Ph (k+3) 316 [.lst [.int c0,.int c1,.int c2],.int n] H K:=by
 have hp:n % 8<8:=Nat.mod_lt _ (by decide)
 have hw:n / 8 % 41<41:=Nat.mod_lt _ (by decide)
 exact Id k n c0 c1 c2 2 0 1 0 1 3 _ _ _ _ (2*(n / 8 % 41)+2*(n % 8+1)) (2*(n % 8+1)) H K (Ko _ n 0 e0) (Pw _ n 1 e1) (Ea _ n 2 e2) (Adf hp hw)
  (by rw [e0,e1,e2];exact f5.1) (by rw [e0,e1,e2];exact f5.2) (by decide) (by decide) (by decide) (by lia) (by lia) (by lia) (by lia) (by lia) hso (by decide) htw (by decide) Adq (Dr hp hw).2.2.1 hK
theorem Adr:Bt (Ip (Dc false true f1 f0 fh) (B7 12000000))=some (5*1000000):=by decide +kernel
theorem f7:V3 [0,2,1]=some 2∧V4 [0,2,1]=some 0:=by decide
theorem Vd(k n:Nat)(c0 c1 c2:Int)(e0:[c0,c1,c2].count 0=0)(e1:[c0,c1,c2].count 1=2)(e2:[c0,c1,c2].count 2=1)(hso:Gn [c0,c1,c2]=[1,1,2])(htw:(4*1+(As 1 c0+(As 1 c1+(As 1 c2+0)))) % 12=5)(H:Hp)(K:KE)
  (hK:∀ s:UInt64,(At s 0==some Ordering.eq)=false→K (.flt s) H):Ph (k+3) 316 [.lst [.int c0,.int c1,.int c2],.int n] H K:=by
 have hp:n % 8<8:=Nat.mod_lt _ (by decide)
 have hw:n / 8 % 41<41:=Nat.mod_lt _ (by decide)
 exact Id k n c0 c1 c2 2 0 1 1 2 5 _ _ _ _ (2*(n / 8 % 41)+2*(n % 8+1)) (2*(n % 8+1)) H K (Ea _ n 0 e0) (Pw _ n 1 e1) (Ko _ n 2 e2) (Adg hp hw)
  (by rw [e0,e1,e2];exact f7.1) (by rw [e0,e1,e2];exact f7.2) (by decide) (by decide) (by decide) (by lia) (by lia) (by lia) (by lia) (by lia) hso (by decide) htw (by decide) Adr (Dr hp hw).2.2.1 hK
theorem Ads:Bt (Ip (Dc false false fh f1 f0) (B7 12000000))=some (9*1000000):=by decide +kernel
theorem f8:V3 [1,0,2]=some 2∧V4 [1,0,2]=some 0:=by decide
theorem Ve(k n:Nat)(c0 c1 c2:Int)(e0:[c0,c1,c2].count 0=1)(e1:[c0,c1,c2].count 1=0)(e2:[c0,c1,c2].count 2=2)(hso:Gn [c0,c1,c2]=[0,2,2])(htw:(4*2+(As 2 c0+(As 2 c1+(As 2 c2+0)))) % 12=9)(H:Hp)(K:KE)
  (hK:∀ s:UInt64,(At s 0==some Ordering.eq)=false→K (.flt s) H):Ph (k+3) 316 [.lst [.int c0,.int c1,.int c2],.int n] H K:=by
 have hp:n % 8<8:=Nat.mod_lt _ (by decide)
 have hw:n / 8 % 41<41:=Nat.mod_lt _ (by decide)
 exact Id k n c0 c1 c2 2 0 2 0 2 9 _ _ _ _ (2*(n / 8 % 41)+2*(n % 8+1)) (2*(n % 8+1)) H K (Ko _ n 0 e0) (Ea _ n 1 e1) (Pw _ n 2 e2) (Adh hp hw)
  (by rw [e0,e1,e2];exact f8.1) (by rw [e0,e1,e2];exact f8.2) (by decide) (by decide) (by decide) (by lia) (by lia) (by lia) (by lia) (by lia) hso (by decide) htw (by decide) Ads (Dr hp hw).2.2.1 hK
theorem Adt:Bt (Ip (Dc false false f1 fh f0) (B7 12000000))=some (7*1000000):=by decide +kernel
theorem f9:V3 [0,1,2]=some 2∧V4 [0,1,2]=some 0:=by decide
theorem Vf(k n:Nat)(c0 c1 c2:Int)(e0:[c0,c1,c2].count 0=0)(e1:[c0,c1,c2].count 1=1)(e2:[c0,c1,c2].count 2=2)(hso:Gn [c0,c1,c2]=[1,2,2])(htw:(4*2+(As 2 c0+(As 2 c1+(As 2 c2+0)))) % 12=7)(H:Hp)(K:KE)
  (hK:∀ s:UInt64,(At s 0==some Ordering.eq)=false→K (.flt s) H):Ph (k+3) 316 [.lst [.int c0,.int c1,.int c2],.int n] H K:=by
 have hp:n % 8<8:=Nat.mod_lt _ (by decide)
 have hw:n / 8 % 41<41:=Nat.mod_lt _ (by decide)
 exact Id k n c0 c1 c2 2 0 2 1 2 7 _ _ _ _ (2*(n / 8 % 41)+2*(n % 8+1)) (2*(n % 8+1)) H K (Ea _ n 0 e0) (Ko _ n 1 e1) (Pw _ n 2 e2) (Adi hp hw)
  (by rw [e0,e1,e2];exact f9.1) (by rw [e0,e1,e2];exact f9.2) (by decide) (by decide) (by decide) (by lia) (by lia) (by lia) (by lia) (by lia) hso (by decide) htw (by decide) Adt (Dr hp hw).2.2.1 hK
noncomputable def W8(a b c:Nat):Bool:=!(a==b)&&!(b==c)&&!(a==c)
noncomputable def Ie(k n:Nat)(H:Hp)(K:KE)(c0 c1 c2:Nat):Prop:=(W8 c0 c1 c2=true→K (.flt 0) H)→(W8 c0 c1 c2=false→∀ s:UInt64,(At s 0==some Ordering.eq)=false→K (.flt s) H)→Ph (k+3) 316 [.lst [.int c0,.int c1,.int c2],.int n] H K
theorem B0{C:Nat→Prop}(h0:C 0)(h1:C 1)(h2:C 2):∀ {c:Nat},c<3→C c
 | 0,_=>h0
 | 1,_=>h1
 | 2,_=>h2
theorem yf(k n c0 c1 c2:Nat)(h0:c0<3)(h1:c1<3)(h2:c2<3)(H:Hp)(K:KE):Ie k n H K c0 c1 c2:=by
 refine B0 (C:=fun c0=>Ie k n H K c0 c1 c2) ?_ ?_ ?_ h0
 ·refine B0 (C:=fun c1=>Ie k n H K 0 c1 c2) ?_ ?_ ?_ h1
  ·exact B0 (C:=fun c2=>Ie k n H K 0 0 c2) (fun zA hB=>yc k n 0 0 0 rfl rfl rfl (Bd (by decide) (by decide)) (by decide) H K (hB rfl)) (fun zA hB=>Va k n 0 0 1 rfl rfl rfl (Bd (by decide) (by decide)) (by decide) H K (hB rfl)) (fun zA hB=>Vb k n 0 0 2 rfl rfl rfl (Bd (by decide) (by decide)) (by decide) H K (hB rfl)) h2
  ·exact B0 (C:=fun c2=>Ie k n H K 0 1 c2) (fun zA hB=>Va k n 0 1 0 rfl rfl rfl (Bd (by decide) (by decide)) (by decide) H K (hB rfl)) (fun zA hB=>Vc k n 0 1 1 rfl rfl rfl (Bd (by decide) (by decide)) (by decide) H K (hB rfl)) (fun hA zA=>Ou k n 0 1 2 rfl rfl rfl H K (hA rfl)) h2
  ·exact B0 (C:=fun c2=>Ie k n H K 0 2 c2) (fun zA hB=>Vb k n 0 2 0 rfl rfl rfl (Bd (by decide) (by decide)) (by decide) H K (hB rfl)) (fun hA zA=>Ou k n 0 2 1 rfl rfl rfl H K (hA rfl)) (fun zA hB=>Ve k n 0 2 2 rfl rfl rfl (Bd (by decide) (by decide)) (by decide) H K (hB rfl)) h2
 ·refine B0 (C:=fun c1=>Ie k n H K 1 c1 c2) ?_ ?_ ?_ h1
  ·exact B0 (C:=fun c2=>Ie k n H K 1 0 c2) (fun zA hB=>Va k n 1 0 0 rfl rfl rfl (Bd (by decide) (by decide)) (by decide) H K (hB rfl)) (fun zA hB=>Vc k n 1 0 1 rfl rfl rfl (Bd (by decide) (by decide)) (by decide) H K (hB rfl)) (fun hA zA=>Ou k n 1 0 2 rfl rfl rfl H K (hA rfl)) h2
  ·exact B0 (C:=fun c2=>Ie k n H K 1 1 c2) (fun zA hB=>Vc k n 1 1 0 rfl rfl rfl (Bd (by decide) (by decide)) (by decide) H K (hB rfl)) (fun zA hB=>yd k n 1 1 1 rfl rfl rfl (Bd (by decide) (by decide)) (by decide) H K (hB rfl)) (fun zA hB=>Vd k n 1 1 2 rfl rfl rfl (Bd (by decide) (by decide)) (by decide) H K (hB rfl)) h2
  ·exact B0 (C:=fun c2=>Ie k n H K 1 2 c2) (fun hA zA=>Ou k n 1 2 0 rfl rfl rfl H K (hA rfl)) (fun zA hB=>Vd k n 1 2 1 rfl rfl rfl (Bd (by decide) (by decide)) (by decide) H K (hB rfl)) (fun zA hB=>Vf k n 1 2 2 rfl rfl rfl (Bd (by decide) (by decide)) (by decide) H K (hB rfl)) h2
 ·refine B0 (C:=fun c1=>Ie k n H K 2 c1 c2) ?_ ?_ ?_ h1
  ·exact B0 (C:=fun c2=>Ie k n H K 2 0 c2) (fun zA hB=>Vb k n 2 0 0 rfl rfl rfl (Bd (by decide) (by decide)) (by decide) H K (hB rfl)) (fun hA zA=>Ou k n 2 0 1 rfl rfl rfl H K (hA rfl)) (fun zA hB=>Ve k n 2 0 2 rfl rfl rfl (Bd (by decide) (by decide)) (by decide) H K (hB rfl)) h2
  ·exact B0 (C:=fun c2=>Ie k n H K 2 1 c2) (fun hA zA=>Ou k n 2 1 0 rfl rfl rfl H K (hA rfl)) (fun zA hB=>Vd k n 2 1 1 rfl rfl rfl (Bd (by decide) (by decide)) (by decide) H K (hB rfl)) (fun zA hB=>Vf k n 2 1 2 rfl rfl rfl (Bd (by decide) (by decide)) (by decide) H K (hB rfl)) h2
  ·exact B0 (C:=fun c2=>Ie k n H K 2 2 c2) (fun zA hB=>Ve k n 2 2 0 rfl rfl rfl (Bd (by decide) (by decide)) (by decide) H K (hB rfl)) (fun zA hB=>Vf k n 2 2 1 rfl rfl rfl (Bd (by decide) (by decide)) (by decide) H K (hB rfl)) (fun zA hB=>ye k n 2 2 2 rfl rfl rfl (Bd (by decide) (by decide)) (by decide) H K (hB rfl)) h2
theorem kb{T t:Bool}(e:T=t){k:KE}{H:Hp}(h:k (.bool t) H):k (.bool T) H:=e▸h
section
variable {Φ:Orc} {e1 e2:ME} {ν:Nu} {H:Hp} {v:V} {k:KE}
theorem nz(h1:∀ k:KE,k (.bool false) H→ev tb Φ e1 ν H k)(h2:ev tb Φ e2 ν H k):ev tb Φ (.bop .Or (.cons e1 (.cons e2 .nil))) ν H k:=h1 _ h2
theorem Adu(h1:∀ k:KE,k (.bool true) H→ev tb Φ e1 ν H k)(h2:k (.bool true) H):ev tb Φ (.bop .Or (.cons e1 (.cons e2 .nil))) ν H k:=h1 _ h2
theorem Jd(h1:∀ k:KE,k (.bool true) H→ev tb Φ e1 ν H k)(h2:ev tb Φ e2 ν H k):ev tb Φ (.bop .And (.cons e1 (.cons e2 .nil))) ν H k:=h1 _ h2
theorem J9(h1:∀ k:KE,k (.bool false) H→ev tb Φ e1 ν H k)(h2:k (.bool false) H):ev tb Φ (.bop .And (.cons e1 (.cons e2 .nil))) ν H k:=h1 _ h2
end
theorem Eu(k n:Nat)(c0 c1 R res:Int)(r g b h:UInt64)(cnt spread:Nat)(H:Hp)(K:KE)
  (hr:Qh [c0,c1] (1+(n:Int) % 8) ((n:Int) / 8 % 41) 0=r) (hg:Qh [c0,c1] (1+(n:Int) % 8) ((n:Int) / 8 % 41) 1=g) (hb:Qh [c0,c1] (1+(n:Int) % 8) ((n:Int) / 8 % 41) 2=b)
  (run:∀ (k:Nat) (H:Hp) (K:KE),K (.tup [.flt h,.flt (Bp (dd spread) (dd (n / 8 % 41+spread))),.flt (dd (n / 8 % 41+spread))]) H→Ph (k+1) 35 [.flt r,.flt g,.flt b] H K)
  (hc:[c0,c1].count c0=cnt) (hs:spread=cnt*(n % 8+1)) (h2:cnt≤2) (heq:At (dd (n / 8 % 41+spread)) (dd (n / 8 % 41+spread))=some .eq) (hS:shr spread (n / 8 % 41+spread)=true)
  (hh:Bt (Ip h (B7 12000000))=some R) (hlo:(At h 0==some Ordering.lt)=false) (hhi:(At h 4607182418800017408==some Ordering.gt||At h 4607182418800017408==some Ordering.eq)=false)
  (hc0:0≤c0∧c0≤2) (hres:(R-4000000*c0+6000000) % 12000000-6000000=res) (hK:K (.int res) H):Ph (k+3) 311 [.int c0,.int c1,.int n] H K:=by
 have hp:n % 8<8:=Nat.mod_lt _ (by decide)
 have hw:n / 8 % 41<41:=Nat.mod_lt _ (by decide)
 have hcnt:∀ j:Int,[c0,c1].count j≤2:=fun j=>List.count_le_length
 have hs2:spread≤16:=by rw [hs];exact Nat.le_trans (Nat.mul_le_mul h2 (show n % 8+1≤8 by lia)) (by decide)
 have hsp:(1+(n:Int) % 8)*((cnt:Nat):Int)=(spread:Int):=by rw [hs,Int.natCast_mul,Int.mul_comm,Int.add_comm 1];rfl
 have hmo:(n:Int) / 8 % 41+(spread:Int)=((n / 8 % 41+spread:Nat):Int):=by rw [Int.natCast_add];rfl
 have sm:∀ z:Int,-1000000000≤z→z≤1000000000→decide (z.natAbs<1152921504606846976)=true:=fun z h1 h2=>dq9 (by lia)
 have hS':=(Adk hS).1
 refine Ff (fn:=Ia) rfl rfl rfl [some (.int c0),some (.int c1),some (.int n),none,none,none,none,none,none,none,none,none,none] rfl ?_
 refine fi (fun zA h=>Pq (k+1) n _ _ h) rfl ?_
 dsimp only [List.set,Am]
 refine Ac5 (l:=[.flt r,.flt g,.flt b]) (H1:=H) (fun k' h'=>⟨rfl,sk k [c0,c1] n _ _ (by show 2≤1000;lia) (fun j=>?_) (fun j=>?_) ?_⟩) rfl ?_
 ·have e2:(n:Int) / 8 % 41+(1+(n:Int) % 8)*(([c0,c1].count j:Nat):Int)=((n / 8 % 41+[c0,c1].count j*(n % 8+1):Nat):Int):=by
   rw [Int.natCast_add,Int.natCast_mul,Int.mul_comm,Int.add_comm 1];rfl
  rw [e2]
  refine U9 ?_
  have:=Nat.mul_le_mul (hcnt j) (show n % 8+1≤8 by lia)
  lia
 ·have:=hcnt j;lia
 ·rw [List.map_cons,List.map_cons,List.map_cons,List.map_nil,hr,hg,hb];exact h'
 dsimp only [List.set,Am]
 refine fi (fun zA h=>run (k+1) _ _ h) rfl ?_
 dsimp only [List.set,Am]
 refine Aq (v:=.int (spread:Int)) (H1:=H) (fun k' h'=>⟨rfl,rfl,rfl,sm _ (by lia) (by lia),?_⟩) ?_
 ·rw [hc]
  refine ⟨sm _ (by lia) (by lia),?_⟩
  rw [hsp];exact h'
 dsimp only [List.set,Am]
 refine Aq (v:=.int ((n / 8 % 41+spread:Nat):Int)) (H1:=H) (fun k' h'=>?_) ?_
 ·show k' (.int ((n:Int) / 8 % 41+(spread:Int))) H
  rw [hmo];exact h'
 dsimp only [List.set,Am]
 have m1:n / 8 % 41+spread<129:=by lia
 refine C6 (T:=false) false rfl (fun k' h'=>?_) ?_
 ·refine nz (fun k h=>⟨z64,U9 m1,?_⟩) ?_
  ·refine kb (T:=(At (dd (n / 8 % 41+spread)) (Bp (B7 ((n / 8 % 41+spread:Nat):Int)) 4634204016564240384) != some Ordering.eq)) ?_ h
   rw [Ac8 m1,heq];rfl
  ·refine ⟨U9 m1,f6,Ar hS' ⟨sm _ (by lia) (by lia),rfl,?_⟩⟩
   refine kb (T:=((spread:Int)*1000000 != (spread:Int)*1000000)) ?_ h'
   simp
 refine C6 (T:=false) false rfl (fun k' h'=>?_) ?_
 ·exact nz (fun k h=>kb hlo h) (kb hhi h')
 refine Dd (v:=.int res) (H1:=H) (fun k' h'=>⟨f12,Ar hh ⟨rfl,sm _ (by lia) (by lia),rfl,?_⟩⟩) (.inl hK)
 show k' (.int ((R-4000000*c0+6000000) % 12000000-6000000)) H
 rw [hres];exact h'
structure Vg(r g b h:UInt64)(spread most:Nat):Prop where
 run:∀ (k:Nat) (H:Hp) (K:KE),K (.tup [.flt h,.flt (Bp (dd spread) (dd most)),.flt (dd most)]) H→Ph (k+1) 35 [.flt r,.flt g,.flt b] H K
theorem Za{r g b mx mn h rc gc bc:UInt64}{spread most:Nat}{t u:Bool}(hx:Ke r g b=mx)(hn:Kf r g b=mn)(he:At mn mx=some .lt)(hs:Cs mx mn=dd spread)(hm:mx=dd most)
  (s0:0<spread) (s1:spread<129) (b0:0<most) (b1:most<129) (e1:Bp (Cs mx r) (dd spread)=rc) (e2:Bp (Cs mx g) (dd spread)=gc) (e3:Bp (Cs mx b) (dd spread)=bc) (e4:(At r mx==some Ordering.eq)=t) (e5:(At g mx==some Ordering.eq)=u)
  (hh:Dc t u rc gc bc=h):Vg r g b h spread most:=⟨fun k H K hK=>by
 have z (j:Nat) (h0:0<j) (h1:j<129):(!Ed (dd j))=true:=by rw [sq h1,decide_eq_false (by lia)];rfl
 refine xx k r g b mx mn H K hx hn (by rw [he];rfl) (by rw [hs];exact z _ s0 s1) (by rw [hm];exact z _ b0 b1) ?_
 rw [hs,fj e1 e2 e3 e4 e5,hh,hm]
 exact hK⟩
theorem Adv{p w:Nat}(hp:p<8)(hw:w<41):Vg (dd (w+2*(p+1))) (dd w) (dd w) (Dc true false f0 f1 f1) (2*(p+1)) (w+(2*(p+1))):=
 Za (mx:=dd (w+2*(p+1))) (mn:=dd w) (B2 (c02 hp hw) (c02 hp hw)) (B3 (c02 hp hw) (c00 hp hw)) (c02 hp hw) (s20 hp hw) rfl (by lia) (by lia) (by lia) (by lia)
  (by rw [s22 hp hw];exact (Al (by lia) (by lia)).1) (by rw [s20 hp hw];exact (Al (by lia) (by lia)).2) (by rw [s20 hp hw];exact (Al (by lia) (by lia)).2) (Cf (c22 hp hw)) (Cf (c02 hp hw)) rfl
theorem gf:Bt (Ip (Dc true false f0 f1 f1) (B7 12000000))=some 0∧(At (Dc true false f0 f1 f1) 0==some Ordering.lt)=false∧(At (Dc true false f0 f1 f1) 4607182418800017408==some Ordering.gt||At (Dc true false f0 f1 f1) 4607182418800017408==some Ordering.eq)=false:=by decide +kernel
theorem yg(k n:Nat)(c0 c1:Int)(e0:[c0,c1].count 0=2)(e1:[c0,c1].count 1=0)(e2:[c0,c1].count 2=0)(hc:[c0,c1].count c0=2)(hc0:0≤c0∧c0≤2)(res:Int)(hres:(0-4000000*c0+6000000) % 12000000-6000000=res)(H:Hp)(K:KE)(hK:K (.int res) H):Ph (k+3) 311 [.int c0,.int c1,.int n] H K:=by
 have hp:n % 8<8:=Nat.mod_lt _ (by decide)
 have hw:n / 8 % 41<41:=Nat.mod_lt _ (by decide)
 exact Eu k n c0 c1 0 res _ _ _ _ 2 (2*(n % 8+1)) H K (Pw _ n 0 e0) (Ea _ n 1 e1) (Ea _ n 2 e2) (Adv hp hw).run hc (by lia) (by decide) (c22 hp hw) (Dr hp hw).2.1 gf.1 gf.2.1 gf.2.2 hc0 hres hK
theorem Adw{p w:Nat}(hp:p<8)(hw:w<41):Vg (dd w) (dd (w+2*(p+1))) (dd w) (Dc false true f1 f0 f1) (2*(p+1)) (w+(2*(p+1))):=
 Za (mx:=dd (w+2*(p+1))) (mn:=dd w) (B2 (c20 hp hw) (c02 hp hw)) (B3 (c20 hp hw) (c00 hp hw)) (c02 hp hw) (s20 hp hw) rfl (by lia) (by lia) (by lia) (by lia)
  (by rw [s20 hp hw];exact (Al (by lia) (by lia)).2) (by rw [s22 hp hw];exact (Al (by lia) (by lia)).1) (by rw [s20 hp hw];exact (Al (by lia) (by lia)).2) (Cf (c02 hp hw)) (Cf (c22 hp hw)) rfl
theorem gg:Bt (Ip (Dc false true f1 f0 f1) (B7 12000000))=some 4000000∧(At (Dc false true f1 f0 f1) 0==some Ordering.lt)=false∧(At (Dc false true f1 f0 f1) 4607182418800017408==some Ordering.gt||At (Dc false true f1 f0 f1) 4607182418800017408==some Ordering.eq)=false:=by decide +kernel
theorem yh(k n:Nat)(c0 c1:Int)(e0:[c0,c1].count 0=0)(e1:[c0,c1].count 1=2)(e2:[c0,c1].count 2=0)(hc:[c0,c1].count c0=2)(hc0:0≤c0∧c0≤2)(res:Int)(hres:(4000000-4000000*c0+6000000) % 12000000-6000000=res)(H:Hp)(K:KE)(hK:K (.int res) H):Ph (k+3) 311 [.int c0,.int c1,.int n] H K:=by
 have hp:n % 8<8:=Nat.mod_lt _ (by decide)
 have hw:n / 8 % 41<41:=Nat.mod_lt _ (by decide)
 exact Eu k n c0 c1 4000000 res _ _ _ _ 2 (2*(n % 8+1)) H K (Ea _ n 0 e0) (Pw _ n 1 e1) (Ea _ n 2 e2) (Adw hp hw).run hc (by lia) (by decide) (c22 hp hw) (Dr hp hw).2.1 gg.1 gg.2.1 gg.2.2 hc0 hres hK
theorem Adx{p w:Nat}(hp:p<8)(hw:w<41):Vg (dd w) (dd w) (dd (w+2*(p+1))) (Dc false false f1 f1 f0) (2*(p+1)) (w+(2*(p+1))):=
 Za (mx:=dd (w+2*(p+1))) (mn:=dd w) (B2 (c00 hp hw) (c20 hp hw)) (B3 (c00 hp hw) (c20 hp hw)) (c02 hp hw) (s20 hp hw) rfl (by lia) (by lia) (by lia) (by lia)
  (by rw [s20 hp hw];exact (Al (by lia) (by lia)).2) (by rw [s20 hp hw];exact (Al (by lia) (by lia)).2) (by rw [s22 hp hw];exact (Al (by lia) (by lia)).1) (Cf (c02 hp hw)) (Cf (c02 hp hw)) rfl
theorem gh:Bt (Ip (Dc false false f1 f1 f0) (B7 12000000))=some 8000000∧(At (Dc false false f1 f1 f0) 0==some Ordering.lt)=false∧(At (Dc false false f1 f1 f0) 4607182418800017408==some Ordering.gt||At (Dc false false f1 f1 f0) 4607182418800017408==some Ordering.eq)=false:=by decide +kernel
theorem yi(k n:Nat)(c0 c1:Int)(e0:[c0,c1].count 0=0)(e1:[c0,c1].count 1=0)(e2:[c0,c1].count 2=2)(hc:[c0,c1].count c0=2)(hc0:0≤c0∧c0≤2)(res:Int)(hres:(8000000-4000000*c0+6000000) % 12000000-6000000=res)(H:Hp)(K:KE)(hK:K (.int res) H):Ph (k+3) 311 [.int c0,.int c1,.int n] H K:=by
 have hp:n % 8<8:=Nat.mod_lt _ (by decide)
 have hw:n / 8 % 41<41:=Nat.mod_lt _ (by decide)
 exact Eu k n c0 c1 8000000 res _ _ _ _ 2 (2*(n % 8+1)) H K (Ea _ n 0 e0) (Ea _ n 1 e1) (Pw _ n 2 e2) (Adx hp hw).run hc (by lia) (by decide) (c22 hp hw) (Dr hp hw).2.1 gh.1 gh.2.1 gh.2.2 hc0 hres hK
theorem Ady{p w:Nat}(hp:p<8)(hw:w<41):Vg (dd (w+(p+1))) (dd (w+(p+1))) (dd w) (Dc true true f0 f0 f1) (p+1) (w+(p+1)):=
 Za (mx:=dd (w+(p+1))) (mn:=dd w) (B2 (c11 hp hw) (c01 hp hw)) (B3 (c11 hp hw) (c01 hp hw)) (c01 hp hw) (s10 hp hw) rfl (by lia) (by lia) (by lia) (by lia)
  (by rw [s11 hp hw];exact (Al (by lia) (by lia)).1) (by rw [s11 hp hw];exact (Al (by lia) (by lia)).1) (by rw [s10 hp hw];exact (Al (by lia) (by lia)).2) (Cf (c11 hp hw)) (Cf (c11 hp hw)) rfl
theorem gi:Bt (Ip (Dc true true f0 f0 f1) (B7 12000000))=some 2000000∧(At (Dc true true f0 f0 f1) 0==some Ordering.lt)=false∧(At (Dc true true f0 f0 f1) 4607182418800017408==some Ordering.gt||At (Dc true true f0 f0 f1) 4607182418800017408==some Ordering.eq)=false:=by decide +kernel
theorem gj(k n:Nat)(c0 c1:Int)(e0:[c0,c1].count 0=1)(e1:[c0,c1].count 1=1)(e2:[c0,c1].count 2=0)(hc:[c0,c1].count c0=1)(hc0:0≤c0∧c0≤2)(res:Int)(hres:(2000000-4000000*c0+6000000) % 12000000-6000000=res)(H:Hp)(K:KE)(hK:K (.int res) H):Ph (k+3) 311 [.int c0,.int c1,.int n] H K:=by
 have hp:n % 8<8:=Nat.mod_lt _ (by decide)
 have hw:n / 8 % 41<41:=Nat.mod_lt _ (by decide)
 exact Eu k n c0 c1 2000000 res _ _ _ _ 1 (n % 8+1) H K (Ko _ n 0 e0) (Ko _ n 1 e1) (Ea _ n 2 e2) (Ady hp hw).run hc (by lia) (by decide) (c11 hp hw) (Dr hp hw).1 gi.1 gi.2.1 gi.2.2 hc0 hres hK
theorem Adz{p w:Nat}(hp:p<8)(hw:w<41):Vg (dd (w+(p+1))) (dd w) (dd (w+(p+1))) (Dc true false f0 f1 f0) (p+1) (w+(p+1)):=
 Za (mx:=dd (w+(p+1))) (mn:=dd w) (B2 (c01 hp hw) (c11 hp hw)) (B3 (c01 hp hw) (c10 hp hw)) (c01 hp hw) (s10 hp hw) rfl (by lia) (by lia) (by lia) (by lia)
  (by rw [s11 hp hw];exact (Al (by lia) (by lia)).1) (by rw [s10 hp hw];exact (Al (by lia) (by lia)).2) (by rw [s11 hp hw];exact (Al (by lia) (by lia)).1) (Cf (c11 hp hw)) (Cf (c01 hp hw)) rfl
theorem gk:Bt (Ip (Dc true false f0 f1 f0) (B7 12000000))=some 10000000∧(At (Dc true false f0 f1 f0) 0==some Ordering.lt)=false∧(At (Dc true false f0 f1 f0) 4607182418800017408==some Ordering.gt||At (Dc true false f0 f1 f0) 4607182418800017408==some Ordering.eq)=false:=by decide +kernel
theorem gl(k n:Nat)(c0 c1:Int)(e0:[c0,c1].count 0=1)(e1:[c0,c1].count 1=0)(e2:[c0,c1].count 2=1)(hc:[c0,c1].count c0=1)(hc0:0≤c0∧c0≤2)(res:Int)(hres:(10000000-4000000*c0+6000000) % 12000000-6000000=res)(H:Hp)(K:KE)(hK:K (.int res) H):Ph (k+3) 311 [.int c0,.int c1,.int n] H K:=by
 have hp:n % 8<8:=Nat.mod_lt _ (by decide)
 have hw:n / 8 % 41<41:=Nat.mod_lt _ (by decide)
 exact Eu k n c0 c1 10000000 res _ _ _ _ 1 (n % 8+1) H K (Ko _ n 0 e0) (Ea _ n 1 e1) (Ko _ n 2 e2) (Adz hp hw).run hc (by lia) (by decide) (c11 hp hw) (Dr hp hw).1 gk.1 gk.2.1 gk.2.2 hc0 hres hK
theorem Ad0{p w:Nat}(hp:p<8)(hw:w<41):Vg (dd w) (dd (w+(p+1))) (dd (w+(p+1))) (Dc false true f1 f0 f0) (p+1) (w+(p+1)):=
 Za (mx:=dd (w+(p+1))) (mn:=dd w) (B2 (c10 hp hw) (c11 hp hw)) (B3 (c10 hp hw) (c10 hp hw)) (c01 hp hw) (s10 hp hw) rfl (by lia) (by lia) (by lia) (by lia)
  (by rw [s10 hp hw];exact (Al (by lia) (by lia)).2) (by rw [s11 hp hw];exact (Al (by lia) (by lia)).1) (by rw [s11 hp hw];exact (Al (by lia) (by lia)).1) (Cf (c01 hp hw)) (Cf (c11 hp hw)) rfl
theorem gm:Bt (Ip (Dc false true f1 f0 f0) (B7 12000000))=some 6000000∧(At (Dc false true f1 f0 f0) 0==some Ordering.lt)=false∧(At (Dc false true f1 f0 f0) 4607182418800017408==some Ordering.gt||At (Dc false true f1 f0 f0) 4607182418800017408==some Ordering.eq)=false:=by decide +kernel
theorem gn(k n:Nat)(c0 c1:Int)(e0:[c0,c1].count 0=0)(e1:[c0,c1].count 1=1)(e2:[c0,c1].count 2=1)(hc:[c0,c1].count c0=1)(hc0:0≤c0∧c0≤2)(res:Int)(hres:(6000000-4000000*c0+6000000) % 12000000-6000000=res)(H:Hp)(K:KE)(hK:K (.int res) H):Ph (k+3) 311 [.int c0,.int c1,.int n] H K:=by
 have hp:n % 8<8:=Nat.mod_lt _ (by decide)
 have hw:n / 8 % 41<41:=Nat.mod_lt _ (by decide)
 exact Eu k n c0 c1 6000000 res _ _ _ _ 1 (n % 8+1) H K (Ea _ n 0 e0) (Ko _ n 1 e1) (Ko _ n 2 e2) (Ad0 hp hw).run hc (by lia) (by decide) (c11 hp hw) (Dr hp hw).1 gm.1 gm.2.1 gm.2.2 hc0 hres hK
theorem yj(k n c0 c1:Nat)(h0:c0<3)(h1:c1<3)(H:Hp)(K:KE)(hK:K (.int (2000000*As c0 c1)) H):Ph (k+3) 311 [.int c0,.int c1,.int n] H K:=by
 match c0,c1,h0,h1 with
 | 0,0,_,_=>exact yg k n 0 0 rfl rfl rfl rfl (by decide) _ (by decide) H K hK
 | 0,1,_,_=>exact gj k n 0 1 rfl rfl rfl rfl (by decide) _ (by decide) H K hK
 | 0,2,_,_=>exact gl k n 0 2 rfl rfl rfl rfl (by decide) _ (by decide) H K hK
 | 1,0,_,_=>exact gj k n 1 0 rfl rfl rfl rfl (by decide) _ (by decide) H K hK
 | 1,1,_,_=>exact yh k n 1 1 rfl rfl rfl rfl (by decide) _ (by decide) H K hK
 | 1,2,_,_=>exact gn k n 1 2 rfl rfl rfl rfl (by decide) _ (by decide) H K hK
 | 2,0,_,_=>exact gl k n 2 0 rfl rfl rfl rfl (by decide) _ (by decide) H K hK
 | 2,1,_,_=>exact gn k n 2 1 rfl rfl rfl rfl (by decide) _ (by decide) H K hK
 | 2,2,_,_=>exact yi k n 2 2 rfl rfl rfl rfl (by decide) _ (by decide) H K hK
noncomputable def pre(u:Nat→Nat):Nat→Int
 | 0=>0
 | i+1=>pre u i+As (u i) (u (i+1))
theorem gq:∀ a:Nat,a<3→∀ b:Nat,b<3→As (b:Int) a = - As (a:Int) b:=by decide
theorem E6(a b:Nat)(ha:a<3)(hb:b<3):As (b:Int) a = - As (a:Int) b:=gq a ha b hb
theorem n5:∀ a:Nat,a<3→∀ b:Nat,b<3→∀ c:Nat,c<3→As (a:Int) b+As b c+As c a=if W8 a b c then 3*As a b else 0:=by decide
theorem gu(a b c:Nat)(ha:a<3)(hb:b<3)(hc:c<3):As (a:Int) b+As b c+As c a=if W8 a b c then 3*As a b else 0:=n5 a ha b hb c hc
noncomputable def kl(r:List Nat):List V:=r.map fun (a:Nat)=>V.int (a:Int)
theorem Cr(r:List Nat):(kl r).length=r.length:=by unfold kl;rw [List.length_map]
theorem Ad1{r:List Nat}{i:Nat}(h:i<r.length):(kl r)[i]?=some (.int ((r.getD i 0:Nat):Int)):=by
 unfold kl
 rw [List.getElem?_map,List.getElem?_eq_getElem h,List.getD_eq_getElem?_getD,List.getElem?_eq_getElem h];rfl
theorem Ds{n i:Nat}(h:i<n):Ir n (i:Int)=some i:=by
 unfold Ir
 rw [dq9 (by lia),if_pos rfl,dq9 (by lia),if_pos rfl];rfl
section
variable {Φ:Orc} {ν:Nu} {H:Hp} {K:KE} {o i:ME} {r:List Nat} {n:Nat}
theorem Kb{z:Int}(h:n<r.length)(hz:r.length≤1000)(ho:∀ k:KE,k (.lst (kl r)) H→ev tb Φ o ν H k)(hi:∀ k:KE,k (.int z) H→ev tb Φ i ν H k)(hzn:z=(n:Int))(hk:K (.int ((r.getD n 0:Nat):Int)) H):ev tb Φ (.sub o i) ν H K:=by
 subst hzn
 refine ho _ (hi _ ?_)
 refine ⟨dq9 (by rw [Cr];exact Nat.le_trans hz (by decide)),?_⟩
 rw [Cr]
 exact Ar (Ds h) (Ar (Ad1 h) hk)
end
section
variable {Φ:Orc} {i:Nat} {e:ME} {ss:MSs} {ν:Nu} {H:Hp} {K:KS}
theorem n6{z w r:Int}(hz:ν[i]?=some (some (.int z)))(h1:∀ k:KE,k (.int w) H→ev tb Φ e ν H k)(hr:z+w=r)(h2:exs tb Φ ss (ν.set i (some (.int r))) H K):exs tb Φ (.cons (.augv i .Add e) ss) ν H K:=by
 show Iq ν i _
 unfold Iq
 rw [hz]
 refine h1 _ ?_
 subst hr
 exact h2
end
noncomputable abbrev gnu(rows:V)(cuts:Nat)(g:Int)(m:Nat)(u l:List Nat)(i j:Nat)(x y:Option V):Nu:=
 [some rows,some (.int (cuts:Int)),some (.int g),some (.int (m:Int)),some (.lst (kl u)),some (.lst (kl l)),some (.int (i:Int)),some (.int (j:Int)),x,y]
section
variable {k:Nat} {rows:V} {u l:List Nat} {H:Hp} {K:KS}
theorem So(cuts m i j:Nat)(g:Int)(a b c:Nat)(ha:a<3)(hb:b<3)(hc:c<3)(y:Option V)
  (h:∀ (g':Int) (y':Option V),3*g'=3*g+(As (a:Int) b+As b c+As c a)→K .next (gnu rows (cuts / 2) g' (m+37) u l i j (some (.lst [.int a,.int b,.int c])) y') H) :
  exs tb (Ph (k+3)) (.cons (.augv 1 .FloorDiv (.int 2)) (.cons (.assign 9 (.call 316 (.cons (.var 8) (.cons (.var 3) .nil)))) (.cons (.augv 3 .Add (.int 37)) (.cons (.cond (.cmp .Is (.var 9) .none) (.cons (.ret .none) .nil) .nil)
   (.cons (.cond (.cmp .Eq (.var 9) (.flt 0)) (.cons (.augv 2 .Add (.call 304 (.cons (.sub (.var 8) (.int 0)) (.cons (.sub (.var 8) (.int 1)) .nil)))) .nil) .nil) .nil)))))
   (gnu rows cuts g m u l i j (some (.lst [.int a,.int b,.int c])) y) H K:=by
 refine ⟨rfl,rfl,?_⟩
 have e1:((cuts:Int) / 2)=((cuts / 2:Nat):Int):=by lia
 show exs tb (Ph (k+3)) (.cons (.assign 9 (.call 316 (.cons (.var 8) (.cons (.var 3) .nil)))) _) ([some rows,some (.int ((cuts:Int) / 2)),some (.int g),some (.int (m:Int)),some (.lst (kl u)),some (.lst (kl l)),some (.int (i:Int)),some (.int (j:Int)),some (.lst [.int a,.int b,.int c]),y]) H K
 rw [e1]
 have e2:((m:Int)+37)=((m+37:Nat):Int):=by lia
 refine yf k m a b c ha hb hc H _ (fun hu=>?_) (fun hu s hs=>?_)
 ·show exs tb (Ph (k+3)) (.cons (.cond (.cmp .Is (.var 9) .none) (.cons (.ret .none) .nil) .nil) _) ([some rows,some (.int ((cuts / 2:Nat):Int)),some (.int g),some (.int ((m:Int)+37)),some (.lst (kl u)),some (.lst (kl l)),some (.int (i:Int)),some (.int (j:Int)),some (.lst [.int a,.int b,.int c]),some (.flt 0)]) H K
  rw [e2]
  refine C6 (T:=false) false rfl (fun zA h=>h) ?_
  refine C6 (T:=(At 0 0==some Ordering.eq)) true (by rw [Agi];rfl) (fun zA h=>h) ?_
  refine ⟨rfl,rfl,rx (k+2) a b H _ (h _ _ ?_)⟩
  rw [gu a b c ha hb hc,hu,if_pos rfl]
  show 3*(g+As (a:Int) b)=_
  lia
 ·show exs tb (Ph (k+3)) (.cons (.cond (.cmp .Is (.var 9) .none) (.cons (.ret .none) .nil) .nil) _) ([some rows,some (.int ((cuts / 2:Nat):Int)),some (.int g),some (.int ((m:Int)+37)),some (.lst (kl u)),some (.lst (kl l)),some (.int (i:Int)),some (.int (j:Int)),some (.lst [.int a,.int b,.int c]),some (.flt s)]) H K
  rw [e2]
  refine C6 (T:=false) false rfl (fun zA h=>h) ?_
  refine C6 (T:=(At s 0==some Ordering.eq)) false hs (fun zA h=>h) ?_
  refine h _ _ ?_
  rw [gu a b c ha hb hc,hu,if_neg Bool.false_ne_true];lia
end
section
variable {Φ:Orc} {e1 e2 e3:ME} {ν:Nu} {H:Hp} {a b c:V} {k:KE}
theorem Aft(h1:∀ k:KE,k a H→ev tb Φ e1 ν H k)(h2:∀ k:KE,k b H→ev tb Φ e2 ν H k)(h3:∀ k:KE,k c H→ev tb Φ e3 ν H k)(h:k (.lst [a,b,c]) H):ev tb Φ (.lst (.cons e1 (.cons e2 (.cons e3 .nil)))) ν H k:=h1 _ (h2 _ (h3 _ ⟨rfl,h⟩))
end
noncomputable abbrev at0(u:List Nat):Nat→Nat:=fun i=>u.getD i 0
theorem Ov{u:List Nat}(h:∀ a∈u,a<3)(i:Nat):at0 u i<3:=by
 show u.getD i 0<3
 rw [List.getD_eq_getElem?_getD]
 cases e:u[i]? with
 | none=>decide
 | some a=>exact h a (List.mem_of_getElem? e)
noncomputable abbrev n7(u l:List Nat)(i j:Nat):Int:=pre (at0 u) i+As (at0 u i) (at0 l j)-pre (at0 l) j
theorem Afu(r:List Nat):(((kl r).length:Nat):Int)=(r.length:Int):=by rw [Cr]
theorem gv{r:List Nat}(h:r.length≤1000):decide ((kl r).length≤Ah)=true:=dq9 (by rw [Cr];exact Nat.le_trans h (by decide))
section
variable {k:Nat} {rows:V} {u l:List Nat} {H:Hp} {K:KS}
theorem gw(cuts m i j:Nat)(g:Int)(x y:Option V)(zu:u.length≤1000)(zl:l.length≤1000)(hu:∀ a∈u,a<3)(hl:∀ a∈l,a<3)(hi:i<u.length)(hj:j<l.length)(hne:i+1<u.length∨j+1<l.length)
  (h:∀ (cuts' m' i' j':Nat) (g':Int) (x' y':Option V),(i'+j'=i+j+1)→i'<u.length→j'<l.length→3*g'-n7 u l i' j'=3*g-n7 u l i j→K .next (gnu rows cuts' g' m' u l i' j' x' y') H) :
  exs tb (Ph (k+3)) Cd (gnu rows cuts g m u l i j x y) H K:=by
 have ui:=Ov hu i
 have ui1:=Ov hu (i+1)
 have lj:=Ov hl j
 have lj1:=Ov hl (j+1)
 have first:(i+1<u.length)→exs tb (Ph (k+3)) (.cons (.assign 8 (.lst (.cons (.sub (.var 4) (.var 6)) (.cons (.sub (.var 4) (.bin .Add (.var 6) (.int 1))) (.cons (.sub (.var 5) (.var 7)) .nil))))) (.cons (.augv 6 .Add (.int 1)) .nil)) (gnu rows cuts g m u l i j x y) H
   (sqK (Ph (k+3)) (.cons (.augv 1 .FloorDiv (.int 2)) (.cons (.assign 9 (.call 316 (.cons (.var 8) (.cons (.var 3) .nil)))) (.cons (.augv 3 .Add (.int 37)) (.cons (.cond (.cmp .Is (.var 9) .none) (.cons (.ret .none) .nil) .nil)
   (.cons (.cond (.cmp .Eq (.var 9) (.flt 0)) (.cons (.augv 2 .Add (.call 304 (.cons (.sub (.var 8) (.int 0)) (.cons (.sub (.var 8) (.int 1)) .nil)))) .nil) .nil) .nil))))) K):=fun hi1=>by
  refine Aq (v:=.lst [.int (at0 u i:Nat),.int (at0 u (i+1):Nat),.int (at0 l j:Nat)]) (H1:=H) (fun k' h'=>Aft (fun zA h=>Kb hi zu (fun zA h=>h) (fun zA h=>h) rfl h) (fun zA h=>Kb hi1 zu (fun zA h=>h) (fun zA h=>h) (Int.natCast_succ i).symm h) (fun zA h=>Kb hj zl (fun zA h=>h) (fun zA h=>h) rfl h) h') ?_
  dsimp only [List.set]
  refine n6 (r:=((i+1:Nat):Int)) rfl (fun zA h=>h) (Int.natCast_succ i).symm ?_
  dsimp only [List.set]
  refine So cuts m (i+1) j g (at0 u i) (at0 u (i+1)) (at0 l j) ui ui1 lj y fun g' y' hg=>h _ _ (i+1) j g' _ y' (by lia) hi1 hj ?_
  rw [hg]
  show _=_
  unfold n7
  have p:pre (at0 u) (i+1)=pre (at0 u) i+As (at0 u i:Nat) (at0 u (i+1):Nat):=rfl
  have q:=E6 (at0 u i) (at0 l j) ui lj
  lia
 have second:(j+1<l.length)→exs tb (Ph (k+3)) (.cons (.assign 8 (.lst (.cons (.sub (.var 4) (.var 6)) (.cons (.sub (.var 5) (.bin .Add (.var 7) (.int 1))) (.cons (.sub (.var 5) (.var 7)) .nil))))) (.cons (.augv 7 .Add (.int 1)) .nil)) (gnu rows cuts g m u l i j x y) H
   (sqK (Ph (k+3)) (.cons (.augv 1 .FloorDiv (.int 2)) (.cons (.assign 9 (.call 316 (.cons (.var 8) (.cons (.var 3) .nil)))) (.cons (.augv 3 .Add (.int 37)) (.cons (.cond (.cmp .Is (.var 9) .none) (.cons (.ret .none) .nil) .nil)
   (.cons (.cond (.cmp .Eq (.var 9) (.flt 0)) (.cons (.augv 2 .Add (.call 304 (.cons (.sub (.var 8) (.int 0)) (.cons (.sub (.var 8) (.int 1)) .nil)))) .nil) .nil) .nil))))) K):=fun hj1=>by
  refine Aq (v:=.lst [.int (at0 u i:Nat),.int (at0 l (j+1):Nat),.int (at0 l j:Nat)]) (H1:=H) (fun k' h'=>Aft (fun zA h=>Kb hi zu (fun zA h=>h) (fun zA h=>h) rfl h) (fun zA h=>Kb hj1 zl (fun zA h=>h) (fun zA h=>h) (Int.natCast_succ j).symm h) (fun zA h=>Kb hj zl (fun zA h=>h) (fun zA h=>h) rfl h) h') ?_
  dsimp only [List.set]
  refine n6 (r:=((j+1:Nat):Int)) rfl (fun zA h=>h) (Int.natCast_succ j).symm ?_
  dsimp only [List.set]
  refine So cuts m i (j+1) g (at0 u i) (at0 l (j+1)) (at0 l j) ui lj1 lj y fun g' y' hg=>h _ _ i (j+1) g' _ y' (by lia) hi hj1 ?_
  rw [hg]
  unfold n7
  have p:pre (at0 l) (j+1)=pre (at0 l) j+As (at0 l j:Nat) (at0 l (j+1):Nat):=rfl
  have q:=E6 (at0 u i) (at0 l j) ui lj
  have q2:=E6 (at0 l j) (at0 l (j+1)) lj lj1
  lia
 have c1:∀ (t:Bool),decide (j+1=l.length)=t→∀ k':KE,k' (.bool t) H→ev tb (Ph (k+3)) (.cmp .Eq (.bin .Add (.var 7) (.int 1)) (.bcall .len (.cons (.var 5) .nil))) (gnu rows cuts g m u l i j x y) H k':=fun t e k' h'=>⟨gv zl,by
  refine kb (T:=((j:Int)+1==(((kl l).length:Nat):Int))) ?_ h'
  rw [Afu,←e]
  by_cases q:j+1=l.length
  ·rw [dq9 q];exact beq_iff_eq.mpr (by lia)
  ·rw [decide_eq_false q];exact beq_eq_false_iff_ne.mpr (by lia)⟩
 have c2:∀ (t:Bool),decide (i+1<u.length)=t→∀ k':KE,k' (.bool t) H→ev tb (Ph (k+3)) (.cmp .Lt (.bin .Add (.var 6) (.int 1)) (.bcall .len (.cons (.var 4) .nil))) (gnu rows cuts g m u l i j x y) H k':=fun t e k' h'=>⟨gv zu,by
  refine kb (T:=decide ((i:Int)+1<(((kl u).length:Nat):Int))) ?_ h'
  rw [Afu,←e]
  by_cases q:i+1<u.length
  ·rw [dq9 q];exact dq9 (by lia)
  ·rw [decide_eq_false q];exact decide_eq_false (by lia)⟩
 have c3:∀ k':KE,k' (.bool ((cuts:Int) % 2==1)) H→ev tb (Ph (k+3)) (.cmp .Eq (.bin .Mod (.var 1) (.int 2)) (.int 1)) (gnu rows cuts g m u l i j x y) H k':=fun k' h'=>⟨rfl,h'⟩
 by_cases A:j+1=l.length
 ·refine C6 (T:=true) true rfl (fun k' h'=>Adu (c1 true (dq9 A)) h') (first (by lia))
 ·by_cases B:i+1<u.length
  ·cases C:((cuts:Int) % 2==1)
   ·exact C6 (T:=false) false rfl (fun k' h'=>nz (c1 false (decide_eq_false A)) (Jd (c2 true (dq9 B)) (c3 _ (by rw [C];exact h')))) (second (by lia))
   ·exact C6 (T:=true) true rfl (fun k' h'=>nz (c1 false (decide_eq_false A)) (Jd (c2 true (dq9 B)) (c3 _ (by rw [C];exact h')))) (first B)
  ·exact C6 (T:=false) false rfl (fun k' h'=>nz (c1 false (decide_eq_false A)) (J9 (c2 false (decide_eq_false B)) h')) (second (by lia))
end
noncomputable def Dl(u l:List Nat):Int:=n7 u l (u.length-1) (l.length-1)-n7 u l 0 0
noncomputable def M2:List (List Nat)→Int
 | u::l::r=>Dl u l+M2 (l::r)
 | _=>0
section
variable {k:Nat} {rows:V} {u l:List Nat} {H:Hp} {K:KS}
theorem su{z:List Nat}{i:Nat}(t:Bool)(e:decide (i+1<z.length)=t):decide ((i:Int)+1<(((kl z).length:Nat):Int))=t:=by
 rw [Afu,←e]
 by_cases q:i+1<z.length
 ·rw [dq9 q];exact dq9 (by lia)
 ·rw [decide_eq_false q];exact decide_eq_false (by lia)
theorem Sp(zu:u.length≤1000)(zl:l.length≤1000)(hu:∀ a∈u,a<3)(hl:∀ a∈l,a<3):∀ (n cuts m i j:Nat) (g:Int) (x y:Option V),i<u.length→j<l.length→(u.length-1-i)+(l.length-1-j)<n→
  (∀ (cuts' m':Nat) (g':Int) (x' y':Option V),3*g'-n7 u l (u.length-1) (l.length-1)=3*g-n7 u l i j→K .next (gnu rows cuts' g' m' u l (u.length-1) (l.length-1) x' y') H)→
  Jr (fun ν H k'=>ev tb (Ph (k+3)) (.bop .Or (.cons (.cmp .Lt (.bin .Add (.var 6) (.int 1)) (.bcall .len (.cons (.var 4) .nil))) (.cons (.cmp .Lt (.bin .Add (.var 7) (.int 1)) (.bcall .len (.cons (.var 5) .nil))) .nil))) ν H fun v H1=>Bs tb (Ph (k+3)) v H1 fun t=>k' t H1)
   (fun ν H K=>exs tb (Ph (k+3)) Cd ν H K) n (gnu rows cuts g m u l i j x y) H K
 | 0,_,_,_,_,_,_,_,_,_,hn,_=>absurd hn (Nat.not_lt_zero _)
 | n+1,cuts,m,i,j,g,x,y,hi,hj,hn,h=>by
  have go:i+1<u.length∨j+1<l.length→exs tb (Ph (k+3)) Cd (gnu rows cuts g m u l i j x y) H fun fl ν' H'=>match fl with
    | .next=>Jr (fun ν H k'=>ev tb (Ph (k+3)) (.bop .Or (.cons (.cmp .Lt (.bin .Add (.var 6) (.int 1)) (.bcall .len (.cons (.var 4) .nil))) (.cons (.cmp .Lt (.bin .Add (.var 7) (.int 1)) (.bcall .len (.cons (.var 5) .nil))) .nil))) ν H fun v H1=>Bs tb (Ph (k+3)) v H1 fun t=>k' t H1)
     (fun ν H K=>exs tb (Ph (k+3)) Cd ν H K) n ν' H' K
    | .cont=>Jr (fun ν H k'=>ev tb (Ph (k+3)) (.bop .Or (.cons (.cmp .Lt (.bin .Add (.var 6) (.int 1)) (.bcall .len (.cons (.var 4) .nil))) (.cons (.cmp .Lt (.bin .Add (.var 7) (.int 1)) (.bcall .len (.cons (.var 5) .nil))) .nil))) ν H fun v H1=>Bs tb (Ph (k+3)) v H1 fun t=>k' t H1)
     (fun ν H K=>exs tb (Ph (k+3)) Cd ν H K) n ν' H' K
    | .brk=>K .next ν' H'
    | .ret x=>K (.ret x) ν' H':=fun hne=>
   gw cuts m i j g x y zu zl hu hl hi hj hne fun cuts' m' i' j' g' x' y' he hi' hj' hg=>Sp zu zl hu hl n cuts' m' i' j' g' x' y' hi' hj' (tm (by assumption) hi hj he hi' hj') fun c2 m2 g2 x2 y2 e=>h c2 m2 g2 x2 y2 (by rw [e,hg])
  have c1:∀ (t:Bool),decide (i+1<u.length)=t→∀ k':KE,k' (.bool t) H→ev tb (Ph (k+3)) (.cmp .Lt (.bin .Add (.var 6) (.int 1)) (.bcall .len (.cons (.var 4) .nil))) (gnu rows cuts g m u l i j x y) H k':=fun t e k' h'=>⟨gv zu,kb (su t e) h'⟩
  have c2:∀ (t:Bool),decide (j+1<l.length)=t→∀ k':KE,k' (.bool t) H→ev tb (Ph (k+3)) (.cmp .Lt (.bin .Add (.var 7) (.int 1)) (.bcall .len (.cons (.var 5) .nil))) (gnu rows cuts g m u l i j x y) H k':=fun t e k' h'=>⟨gv zl,kb (su t e) h'⟩
  by_cases A:i+1<u.length
  ·exact Adu (c1 true (dq9 A)) (go (.inl A))
  ·by_cases B:j+1<l.length
   ·exact nz (c1 false (decide_eq_false A)) (c2 true (dq9 B) _ (go (.inr B)))
   ·refine nz (c1 false (decide_eq_false A)) (c2 false (decide_eq_false B) _ ?_)
    have e1:i=u.length-1:=Zz hi A
    have e2:j=l.length-1:=Zz hj B
    have q:=h cuts m g x y
    rw [←e1,←e2] at q
    exact q rfl
end
section
variable {Φ:Orc} {i j:Nat} {c x y:ME} {b ss:MSs} {ν:Nu} {H H1:Hp} {K:KS}
theorem Ad2(h:Jr (fun ν H k'=>ev tb Φ c ν H fun v H1=>Bs tb Φ v H1 fun t=>k' t H1) (fun ν H K=>exs tb Φ b ν H K) 60 ν H (sqK Φ ss K)):exs tb Φ (.cons (.loop c b) ss) ν H K:=h
theorem Ad3{l r:List V}(h1:∀ k:KE,k (.lst l) H→ev tb Φ x ν H k)(h2:∀ k:KE,k (.lst r) H→ev tb Φ y ν H k)(hl:l.length≤1000)(hr:r.length≤1000)
  (h:Xz (fun ν H K=>exs tb Φ b ν H K) H.length i j l r ν (H++[.two]) fun fl ν' H'=>sqK Φ ss K fl ν' (H'.set H.length .dead)):exs tb Φ (.cons (.zips i j x y b) ss) ν H K:=
 h1 _ (h2 _ ⟨dq9 hl,dq9 hr,h⟩)
end
noncomputable def A4(rs:List (List Nat)):List V:=rs.map fun r=>V.lst (kl r)
noncomputable def E7(r:List Nat):Prop:=0<r.length∧r.length≤25∧∀ a∈r,a<3
noncomputable abbrev Aev(rows:V)(cuts:Nat)(g:Int)(m:Nat)(x4 x5 x6 x7 x8 x9:Option V):Nu:=[some rows,some (.int (cuts:Int)),some (.int g),some (.int (m:Int)),x4,x5,x6,x7,x8,x9]
section
variable {k:Nat} {rows:V} {H:Hp} {K:KS}
theorem Zb(u l:List Nat)(hu:E7 u)(hl:E7 l)(cuts m:Nat)(g:Int)(x6 x7 x8 x9:Option V)
  (h:∀ (cuts' m':Nat) (g':Int) (x6 x7 x8 x9:Option V),3*g'=3*g+Dl u l→K .next (Aev rows cuts' g' m' (some (.lst (kl u))) (some (.lst (kl l))) x6 x7 x8 x9) H) :
  exs tb (Ph (k+3)) F3 (Aev rows cuts g m (some (.lst (kl u))) (some (.lst (kl l))) x6 x7 x8 x9) H K:=by
 refine Aq (v:=.int ((0:Nat):Int)) (H1:=H) (fun zA h=>h) ?_
 dsimp only [List.set]
 refine Aq (v:=.int ((0:Nat):Int)) (H1:=H) (fun zA h=>h) ?_
 dsimp only [List.set]
 have z1:u.length≤1000:=Nat.le_trans hu.2.1 (by decide)
 have z2:l.length≤1000:=Nat.le_trans hl.2.1 (by decide)
 have b1:=hu.2.1
 have b2:=hl.2.1
 refine Ad2 ?_
 refine Sp (k:=k) (rows:=rows) z1 z2 hu.2.2 hl.2.2 60 cuts m 0 0 g x8 x9 hu.1 hl.1 (Aex b1 b2) fun c2 m2 g2 x2 y2 e=>h c2 m2 g2 _ _ _ _ ?_
 unfold Dl
 lia
theorem yk(H:Hp):Xy H.length (H++[.two])=true:=by unfold Xy;rw [A0]
theorem Sq(H0:Hp):∀ (rs:List (List Nat)) (u:List Nat),(∀ r∈u::rs,E7 r)→∀ (cuts m:Nat) (g:Int) (x4 x5 x6 x7 x8 x9:Option V),
  (∀ (cuts' m':Nat) (g':Int) (x4 x5 x6 x7 x8 x9:Option V),3*g'=3*g+M2 (u::rs)→K .next (Aev rows cuts' g' m' x4 x5 x6 x7 x8 x9) (H0++[.two]))→
  Xz (fun ν H K=>exs tb (Ph (k+3)) F3 ν H K) H0.length 4 5 (A4 (u::rs)) (A4 rs) (Aev rows cuts g m x4 x5 x6 x7 x8 x9) (H0++[.two]) K
 | [],u,_,cuts,m,g,x4,x5,x6,x7,x8,x9,h=>h cuts m g _ _ _ _ _ _ (by show 3*g=3*g+0;lia)
 | l::rs,u,hr,cuts,m,g,x4,x5,x6,x7,x8,x9,h=>by
  refine Zb u l (hr u ms9) (hr l (mm9 _ ms9)) cuts m g x6 x7 x8 x9 fun c2 m2 g2 y6 y7 y8 y9 e=>⟨yk H0,?_⟩
  refine Sq H0 rs l (fun r hm=>hr r (mm9 _ hm)) c2 m2 g2 _ _ y6 y7 y8 y9 fun c3 m3 g3 z4 z5 z6 z7 z8 z9 e3=>h c3 m3 g3 z4 z5 z6 z7 z8 z9 ?_
  have q:M2 (u::l::rs)=Dl u l+M2 (l::rs):=rfl
  rw [q];lia
end
theorem W9{n:Nat}(h:0<n):clipAt n 1=1:=(clipAt_nat n 1).trans (Nat.min_eq_left h)
theorem Zc{α:Type}(a:α)(l:List α):Do 1 (a::l).length (a::l)=l:=by
 show (List.take _ l)=l
 exact List.take_of_length_le (by simp)
theorem E8(rs:List (List Nat)):(A4 rs).length=rs.length:=by unfold A4;rw [List.length_map]
theorem n8(k:Nat)(u:List Nat)(rs:List (List Nat))(hr:∀ r∈u::rs,E7 r)(hz:rs.length≤100)(cuts:Nat)(H:Hp)(K:KE)(h:∀ g:Int,3*g=M2 (u::rs)→K (.int g) H) :
  Ph (k+4) 323 [.lst (A4 (u::rs)),.int (cuts:Int)] H K:=by
 have hl:(A4 (u::rs)).length≤1000:=by rw [E8];simp;lia
 have hl2:(A4 rs).length≤1000:=by rw [E8];lia
 refine Ff (fn:=F4) rfl rfl rfl [some (.lst (A4 (u::rs))),some (.int (cuts:Int)),none,none,none,none,none,none,none,none] rfl ?_
 refine Aq (v:=.int 0) (H1:=H) (fun zA h=>h) ?_
 dsimp only [List.set]
 refine Aq (v:=.int (cuts:Int)) (H1:=H) (fun zA h=>h) ?_
 dsimp only [List.set]
 have tail:∀ k':KE,k' (.lst (A4 rs)) H→ev tb (Ph (k+3)) (.slc (.var 0) (.int 1) .none false) [some (.lst (A4 (u::rs))),some (.int (cuts:Int)),some (.int 0),some (.int (cuts:Int)),none,none,none,none,none,none] H k':=fun k' h'=>by
  refine ⟨dq9 (Nat.le_trans hl (by decide)),?_⟩
  show k' (.lst (Do (clipAt (A4 (u::rs)).length 1) (A4 (u::rs)).length (A4 (u::rs)))) H
  rw [W9 (by rw [E8];simp)]
  rw [show A4 (u::rs)=V.lst (kl u)::A4 rs from rfl,Zc]
  exact h'
 refine Ad3 (fun zA h=>h) tail hl hl2 ?_
 refine Sq (k:=k) H rs u hr cuts cuts 0 none none none none none none fun c2 m2 g2 x4 x5 x6 x7 x8 x9 e=>?_
 have hd:(H++[Ob.two]).set H.length .dead=H++[.dead]:=Bx ..
 show exs tb (Ph (k+3)) (.cons (.ret (.var 2)) .nil) _ ((H++[Ob.two]).set H.length .dead) _
 rw [hd]
 exact Dd (v:=.int g2) (H1:=H++[Ob.dead]) (fun zA h=>h) (Ext.cut .one rfl (h g2 (by lia)))
noncomputable def Fd(rs:List (List V)):List V:=rs.map V.lst
theorem Kr(rs:List (List V)):(Fd rs).length=rs.length:=by unfold Fd;rw [List.length_map]
noncomputable def Fe(r:List V):V:=r.headD .none
noncomputable def Je(r:List V):V:=r.getLastD .none
noncomputable def Jf(rs:List (List V)):List V:=rs.headD []++(rs.drop 1).map Je++(rs.getLastD []).reverse.drop 1++(rs.dropLast.map Fe).reverse
theorem n9{n:Nat}(h:0<n):clipAt n (-1)=n-1:=clipAt_neg n 1 (Nat.le_refl 1)
theorem Zd{α:Type}(l:List α):Do 0 (l.length-1) l=l.dropLast:=by
 show (l.take (l.length-1-0))=_
 rw [Nat.sub_zero,List.dropLast_eq_take]
theorem oa{n:Nat}(h:0<n):Ir n 0=some 0:=Ds (i:=0) h
theorem gx{n:Nat}(h:0<n):Ir n (-1)=some (n-1):=by
 unfold Ir
 rw [decide_eq_false (by lia),if_neg Bool.false_ne_true,dq9 (by lia),if_pos rfl]
 congr 1;lia
theorem gy{r:List V}(h:0<r.length):r[0]?=some (Fe r):=by
 cases r with
 | nil=>cases h
 | cons a r=>rfl
theorem Xa{r:List V}(h:0<r.length):r[r.length-1]?=some (Je r):=by
 unfold Je
 rw [←List.getLast?_eq_getElem?,List.getLastD_eq_getLast?]
 cases e:r.getLast? with
 | none=>rw [List.getLast?_eq_none_iff] at e;subst e;cases h
 | some a=>rfl
section
variable {Φ:Orc} {ν:Nu} {H:Hp} {k:KE} {o:ME}
theorem Vh{r:List V}(h:0<r.length)(hz:r.length≤1000)(ho:∀ k:KE,k (.lst r) H→ev tb Φ o ν H k)(hk:k (Fe r) H):ev tb Φ (.sub o (.int 0)) ν H k:=
 ho _ ⟨dq9 (Nat.le_trans hz (by decide)),Ar (oa h) (Ar (gy h) hk)⟩
theorem sv{r:List V}(h:0<r.length)(hz:r.length≤1000)(ho:∀ k:KE,k (.lst r) H→ev tb Φ o ν H k)(hk:k (Je r) H):ev tb Φ (.sub o (.neg (.int 1))) ν H k:=
 ho _ ⟨dq9 (Nat.le_trans hz (by decide)),Ar (gx h) (Ar (Xa h) hk)⟩
theorem gz{l:List V}(h:0<l.length)(hz:l.length≤1000)(ho:∀ k:KE,k (.lst l) H→ev tb Φ o ν H k)(hk:k (.lst (l.drop 1)) H):ev tb Φ (.slc o (.int 1) .none false) ν H k:=by
 refine ho _ ⟨dq9 (Nat.le_trans hz (by decide)),?_⟩
 show k (.lst (Do (clipAt l.length 1) l.length l)) H
 rw [W9 h]
 have e:Do 1 l.length l=l.drop 1:=List.take_of_length_le (by simp)
 rw [e];exact hk
theorem Ad4{l:List V}(h:0<l.length)(hz:l.length≤1000)(ho:∀ k:KE,k (.lst l) H→ev tb Φ o ν H k)(hk:k (.lst l.dropLast) H):ev tb Φ (.slc o .none (.neg (.int 1)) false) ν H k:=by
 refine ho _ ⟨dq9 (Nat.le_trans hz (by decide)),?_⟩
 show k (.lst (Do 0 (clipAt l.length (-1)) l)) H
 rw [n9 h,Zd];exact hk
theorem ym{l:List V}(hz:l.length≤1000)(ho:∀ k:KE,k (.lst l) H→ev tb Φ o ν H k)(hk:k (.lst l.reverse) H):ev tb Φ (.slc o .none .none true) ν H k:=
 ho _ ⟨dq9 (Nat.le_trans hz (by decide)),hk⟩
theorem yn{e1 e2:ME}{a b:List V}(h1:∀ k:KE,k (.lst a) H→ev tb Φ e1 ν H k)(h2:∀ k:KE,k (.lst b) H→ev tb Φ e2 ν H k)(hz:a.length+b.length≤1000)(hk:k (.lst (a++b)) H):ev tb Φ (.bin .Add e1 e2) ν H k:=
 h1 _ (h2 _ ⟨dq9 (Nat.le_trans hz (by decide)),hk⟩)
end
noncomputable def Sr(rs:List (List V)):Prop:=0<rs.length∧rs.length≤100∧∀ r∈rs,0<r.length∧r.length≤100∧∀ v∈r,∀ n,noLoc n v=true
theorem Jg(n:Nat):∀ l:List V,(∀ v∈l,noLoc n v=true)→Ci n l=true
 | [],_=>rfl
 | v::l,h=>by
  show (noLoc n v&&Ci n l)=true
  rw [h v ms9,Jg n l fun w hw=>h w (mm9 _ hw)];rfl
theorem g6(f:List V→V)(rs:List (List V)):(Fd rs).map (fun v=>match v with|.lst r=>f r|v=>v)=rs.map f:=by
 unfold Fd;rw [List.map_map];rfl
theorem Ze{rs:List (List V)}(h:0<rs.length):Fe (Fd rs)=.lst (rs.headD []):=by
 cases rs with
 | nil=>cases h
 | cons r rs=>rfl
theorem g7{rs:List (List V)}(h:0<rs.length):Je (Fd rs)=.lst (rs.getLastD []):=by
 unfold Je Fd
 rw [List.getLastD_eq_getLast?,List.getLastD_eq_getLast?,List.getLast?_map]
 cases e:rs.getLast? with
 | none=>rw [List.getLast?_eq_none_iff] at e;subst e;cases h
 | some a=>rfl
theorem Xb{rs:List (List V)}(h:0<rs.length):rs.headD []∈rs:=by
 cases rs with
 | nil=>cases h
 | cons r rs=>exact ms9
theorem Px{rs:List (List V)}(h:0<rs.length):rs.getLastD []∈rs:=by
 rw [List.getLastD_eq_getLast?]
 cases e:rs.getLast? with
 | none=>rw [List.getLast?_eq_none_iff] at e;subst e;cases h
 | some a=>exact List.mem_of_getLast? e
theorem Zf{r:List V}(h:0<r.length):Fe r∈r:=by
 cases r with
 | nil=>cases h
 | cons a r=>exact ms9
theorem g8{r:List V}(h:0<r.length):Je r∈r:=List.mem_of_getElem? (Xa h)
theorem Zg(rs:List (List V))(hr:Sr rs):(rs.headD []).length+((rs.drop 1).map Je).length≤200∧((rs.getLastD []).reverse.drop 1).length≤100∧(rs.dropLast.map Fe).length≤100:=by
 have h1:=(hr.2.2 _ (Xb hr.1)).2.1
 have h2:=(hr.2.2 _ (Px hr.1)).2.1
 have h3:=hr.2.1
 rw [List.length_map,List.length_map,List.length_drop,List.length_drop,List.length_reverse,List.length_dropLast]
 exact ⟨Nat.le_trans (Nat.add_le_add h1 (Nat.le_trans (Nat.sub_le _ _) h3)) (by decide),Nat.le_trans (Nat.sub_le _ _) h2,Nat.le_trans (Nat.sub_le _ _) (Nat.le_trans h3 (by decide))⟩
theorem Zh(rs:List (List V))(hr:Sr rs):∀ v∈Jf rs,∃ r∈rs,v∈r:=fun v hv=>by
 unfold Jf at hv
 rcases List.mem_append.mp hv with hv|hv
 ·rcases List.mem_append.mp hv with hv|hv
  ·rcases List.mem_append.mp hv with hv|hv
   ·exact ⟨_,Xb hr.1,hv⟩
   ·refine x12 (List.mem_map.mp hv) fun r h1 zz2=>?_;subst zz2
    have hm:=List.mem_of_mem_drop h1
    exact ⟨r,hm,g8 (hr.2.2 r hm).1⟩
  ·exact ⟨_,Px hr.1,List.mem_reverse.mp (List.mem_of_mem_drop hv)⟩
 ·refine x12 (List.mem_map.mp (List.mem_reverse.mp hv)) fun r h1 zz2=>?_;subst zz2
  have hm:=List.dropLast_subset _ h1
  exact ⟨r,hm,Zf (hr.2.2 r hm).1⟩
theorem Ss(k:Nat)(rs:List (List V))(hr:Sr rs)(H:Hp)(K:KE)(h:K (.lst (Jf rs)) H):Ph (k+1) 285 [.lst (Fd rs)] H K:=by
 have hl:0<(Fd rs).length:=by rw [Kr];exact hr.1
 have hz:(Fd rs).length≤1000:=by rw [Kr];exact Nat.le_trans hr.2.1 (by decide)
 have mem:∀ v,v∈Fd rs→∃ r∈rs,v=.lst r:=fun v hv=>by
  unfold Fd at hv
  refine x12 (List.mem_map.mp hv) fun r h1 h2=>?_
  exact ⟨r,h1,h2.symm⟩
 refine Ff (fn:=Eo) rfl rfl rfl [some (.lst (Fd rs)),none,none] rfl ?_
 refine F9 (v:=.lst ((rs.drop 1).map Je)) (fun k' h'=>?_) fun H1 x1=>?_
 ·apply D6 (l:=(Fd rs).drop 1) (g:=fun v=>match v with|.lst r=>Je r|v=>v)
  ·exact fun zA h=>gz hl hz (fun zA h=>h) ⟨dq9 (by rw [List.length_drop];exact Nat.le_trans (Nat.sub_le _ _) (Nat.le_trans hz (by decide))),h⟩
  ·rw [List.length_drop];exact Nat.le_trans (Nat.sub_le _ _) hz
  ·intro v hv H' k'' hk
   refine x12 (mem v (List.mem_of_mem_drop hv)) fun r hm zz2=>?_;subst zz2
   dsimp only [List.set,List.append,List.replicate]
   exact sv (hr.2.2 r hm).1 (Nat.le_trans (hr.2.2 r hm).2.1 (by decide)) (fun zA h=>h) (hk _ .rfl)
  ·intro H' x
   have e:((Fd rs).drop 1).map (fun v=>match v with|.lst r=>Je r|v=>v)=(rs.drop 1).map Je:=by
    have:(Fd rs).drop 1=Fd (rs.drop 1):=by unfold Fd;rw [List.map_drop]
    rw [this];exact g6 Je _
   rw [e];exact h' _ x
 dsimp only [List.set]
 refine F9 (v:=.lst (rs.dropLast.map Fe)) (fun k' h'=>?_) fun H2 x2=>?_
 ·apply D6 (l:=(Fd rs).dropLast) (g:=fun v=>match v with|.lst r=>Fe r|v=>v)
  ·exact fun zA h=>Ad4 hl hz (fun zA h=>h) ⟨dq9 (by rw [List.length_dropLast];exact Nat.le_trans (Nat.sub_le _ _) (Nat.le_trans hz (by decide))),h⟩
  ·rw [List.length_dropLast];exact Nat.le_trans (Nat.sub_le _ _) hz
  ·intro v hv H' k'' hk
   refine x12 (mem v (List.dropLast_subset _ hv)) fun r hm zz2=>?_;subst zz2
   dsimp only [List.set,List.append,List.replicate]
   exact Vh (hr.2.2 r hm).1 (Nat.le_trans (hr.2.2 r hm).2.1 (by decide)) (fun zA h=>h) (hk _ .rfl)
  ·intro H' x
   have e:((Fd rs).dropLast).map (fun v=>match v with|.lst r=>Fe r|v=>v)=rs.dropLast.map Fe:=by
    have:(Fd rs).dropLast=Fd rs.dropLast:=by unfold Fd;rw [List.map_dropLast]
    rw [this];exact g6 Fe _
   rw [e];exact h' _ x
 dsimp only [List.set]
 refine x03 (Zg rs hr) fun b1 b2 b3=>?_
 have hlast:=(hr.2.2 _ (Px hr.1))
 refine Dd (v:=.lst (Jf rs)) (H1:=H2) (fun k' h'=>?_) ((x1.trans x2).cut ?_ h)
 ·refine yn (fun k h=>yn (fun k h=>yn (fun k h=>Vh hl hz (fun zA h=>h) (by rw [Ze hr.1];exact h)) (fun zA h=>h) (by lia) h)
   (fun k h=>gz (l:=(rs.getLastD []).reverse) (by rw [List.length_reverse];exact hlast.1) (by rw [List.length_reverse];exact Nat.le_trans hlast.2.1 (by decide)) (fun k h=>ym (Nat.le_trans hlast.2.1 (by decide)) (fun k h=>sv hl hz (fun zA h=>h) (by rw [g7 hr.1];exact h)) h) h) (by rw [List.length_append];lia) h)
   (fun k h=>ym (by lia) (fun zA h=>h) h) (by rw [List.length_append,List.length_append,List.length_reverse];lia) h'
 ·exact Jg _ _ fun v hv=>by
   refine x12 (Zh rs hr v hv) fun r hm hv'=>?_
   exact (hr.2.2 r hm).2.2 v hv' _
theorem Ks{n a:Nat}(h:a≤n):clipAt n (a:Int)=a:=(clipAt_nat n a).trans (Nat.min_eq_left h)
section
variable {Φ:Orc} {ν:Nu} {H:Hp} {k:KE} {o e lo hi:ME} {v:V}
theorem yo{l:List V}{a b:Nat}{x y:Int}(hz:l.length≤1000)(ha:a≤l.length)(hb:b≤l.length)(ho:∀ k:KE,k (.lst l) H→ev tb Φ o ν H k)(h1:∀ k:KE,k (.int x) H→ev tb Φ lo ν H k)(h2:∀ k:KE,k (.int y) H→ev tb Φ hi ν H k)(hx:x=(a:Int))(hy:y=(b:Int))
  (hk:k (.lst ((l.drop a).take (b-a))) H):ev tb Φ (.slc o lo hi false) ν H k:=by
 subst hx hy
 refine ho _ (h1 _ (h2 _ ⟨dq9 (Nat.le_trans hz (by decide)),?_⟩))
 show k (.lst (Do (clipAt l.length (a:Int)) (clipAt l.length (b:Int)) l)) H
 rw [Ks ha,Ks hb];exact hk
theorem Kt{n:Nat}{l:List V}(hn:H[n]?=some (.lst l))(hl:l.length≤1000)(ho:∀ k:KE,k (.loc n) H→ev tb Φ o ν H k)(he:∀ k:KE,k v H→ev tb Φ e ν H k)(hk:k .none (H.set n (.lst (l++[v])))):ev tb Φ (.scall .append o (.cons e .nil)) ν H k:=by
 refine ho _ ⟨?_,he _ ?_⟩
 ·show (match H[n]? with|some (.lst _)=>true|some (.inst C _ (some _))=>tb.isList C|_=>false)=true
  rw [hn]
 ·show (match H[n]? with
   | some (.lst l)=>gd (decide (l.length≤1000)) (k .none (H.set n (.lst (l++[v]))))
   | some (.inst C at_ (some l))=>gd (decide (l.length≤1000)) (gd (tb.isList C) (k .none (H.set n (.inst C at_ (some (l++[v]))))))
   | _=>False)
  rw [hn]
  exact ⟨dq9 hl,hk⟩
end
section
variable {Φ:Orc} {i:Nat} {e:ME} {it:MI} {b o ss:MSs} {ν:Nu} {H H1:Hp} {K:KS} {v:V}
theorem D7(h1:∀ k:KE,k .none H1→ev tb Φ e ν H k)(h2:exs tb Φ ss ν H1 K):exs tb Φ (.cons (.expr e) ss) ν H K:=h1 _ h2
theorem Py{l:List V}(h1:∀ k:KL,k l H→evI tb Φ it ν H k)(h2:Kg (fun ν H K=>exs tb Φ b ν H K) (fun ν H K=>exs tb Φ o ν H K) i l ν H (sqK Φ ss K)):exs tb Φ (.cons (.each i it b o) ss) ν H K:=h1 _ h2
theorem yp(h2:exs tb Φ ss (ν.set i (some (.loc H.length))) (H++[.lst []]) K):exs tb Φ (.cons (.assign i (.mlst .nil)) ss) ν H K:=⟨rfl,h2⟩
theorem Ad5{n:Nat}{l:List V}(h1:∀ k:KE,k (.loc n) H→ev tb Φ e ν H k)(hn:H[n]?=some (.lst l))(h2:K (.ret (.lst l)) ν (H.set n .dead)):exs tb Φ (.cons (.ret (.frz e)) ss) ν H K:=h1 _ (D5 hn h2)
end
noncomputable def Ig:List V→List Nat→List V
 | _,[]=>[]
 | l,n::ns=>.lst (l.take n)::Ig (l.drop n) ns
noncomputable def De(ns:List Nat):List V:=ns.map fun (n:Nat)=>V.int (n:Int)
theorem M3(k:Nat)(H:Hp)(l:List V)(sz:V)(hl:l.length≤1000)(hv:∀ v∈l,∀ n,noLoc n v=true):∀ (ns:List Nat) (acc:List V) (place:Nat) (x4:Option V) (K:KS),place+ns.sum≤l.length→acc.length+ns.length≤1000→
  (∀ x4 p,K .next [some (.lst l),some sz,some (.loc H.length),some (.int p),x4] (H++[.lst (acc++Ig (l.drop place) ns)]))→
  Kg (fun ν H K=>exs tb (Ph k) Hy ν H K) (fun ν H K=>exs tb (Ph k) .nil ν H K) 4 (De ns) [some (.lst l),some sz,some (.loc H.length),some (.int (place:Int)),x4] (H++[.lst acc]) K
 | [],acc,place,x4,K,_,_,h=>by
  have q:=h x4 (place:Int)
  rw [Ig,List.append_nil] at q
  exact q
 | n::ns,acc,place,x4,K,hp,ha,h=>by
  rw [List.sum_cons] at hp
  have e1:(((place+n:Nat)):Int)=(place:Int)+(n:Int):=Int.natCast_add ..
  refine D7 (H1:=H++[Ob.lst (acc++[.lst ((l.drop place).take n)])]) (fun k' h'=>?_) ?_
  ·refine Kt (v:=.lst ((l.drop place).take n)) (A0 H _) (by simp at ha;lia) (fun zA h=>h) (fun k h=>?_) ?_
   ·refine yo (a:=place) (b:=place+n) hl (by lia) (by lia) (fun zA h=>h) (fun zA h=>h) (fun zA h=>h) rfl e1.symm ?_
    rw [Nat.add_sub_cancel_left];exact h
   ·rw [Bx];exact h'
  refine n6 (r:=((place+n:Nat):Int)) rfl (fun zA h=>h) e1.symm ?_
  dsimp only [List.set]
  refine M3 k H l sz hl hv ns (acc++[.lst ((l.drop place).take n)]) (place+n) _ K (by lia) (by simp at ha ⊢;lia) fun x4 p=>?_
  have q:=h x4 p
  rw [Ig] at q
  rw [List.append_assoc,show (l.drop (place+n))=(l.drop place).drop n from (List.drop_drop ..).symm▸rfl]
  exact q
theorem Kc(n:Nat):∀ (ns:List Nat) (l:List V),(∀ v∈l,noLoc n v=true)→Ci n (Ig l ns)=true
 | [],_,_=>rfl
 | m::ns,l,h=>by
  show (Ci n (l.take m)&&Ci n (Ig (l.drop m) ns))=true
  rw [Jg n _ fun v hv=>h v (List.mem_of_mem_take hv),Kc n ns _ fun v hv=>h v (List.mem_of_mem_drop hv)];rfl
theorem g9(k:Nat)(l:List V)(ns:List Nat)(hl:l.length≤1000)(hn:ns.length≤1000)(hs:ns.sum≤l.length)(hv:∀ v∈l,∀ n,noLoc n v=true)(H:Hp)(K:KE)(h:K (.lst (Ig l ns)) H):Ph (k+1) 280 [.lst l,.lst (De ns)] H K:=by
 refine Ff (fn:=En) rfl rfl rfl [some (.lst l),some (.lst (De ns)),none,none,none] rfl ?_
 refine yp ?_
 dsimp only [List.set]
 refine Aq (v:=.int ((0:Nat):Int)) (H1:=H++[Ob.lst []]) (fun zA h=>h) ?_
 dsimp only [List.set]
 refine Py (l:=De ns) (fun zA h=>⟨dq9 (by unfold De;rw [List.length_map];exact Nat.le_trans hn (by decide)),h⟩) ?_
 refine M3 k H l _ hl hv ns [] 0 none _ (by lia) (by simp;lia) fun x4 p=>?_
 refine Ad5 (fun zA h=>h) (A0 H _) ?_
 rw [Bx]
 refine Ext.cut .one (Kc _ ns l fun v hv'=>hv v hv' _) ?_
 exact h
theorem yq(n:Nat):(Zw 0 (n:Int) 1).map V.int=De (List.range n):=by
 unfold Zw De
 have e:(Builtin.Range.rangeSize 0 (n:Int) 1).toNat=n:=by
  rw [rangeSize_one];split<;>lia
 rw [e,List.map_map]
 refine List.map_congr_left fun i zA=>?_
 show V.int (0+(i:Int)*1)=V.int (i:Int)
 congr 1;lia
theorem ia{n:Nat}{l:List V}{H:Hp}{k:List V→Prop}(hn:H[n]?=some (.lst l))(h:k l):O5 tb (.loc n) H k:=by
 show (match H[n]? with|some (.lst l)=>k l|some (.inst C _ (some l))=>gd (tb.isList C) (k l)|_=>False)
 rw [hn];exact h
theorem Afv{n j:Nat}{z:Int}{v:V}{l:List V}{H:Hp}{k:Hp→Prop}(hn:H[n]?=some (.lst l))(hl:l.length≤1000)(hz:Ir l.length z=some j)(h:k (H.set n (.lst (l.set j v)))):Cw (.loc n) (.int z) v H k:=by
 show (match H[n]? with
  | some (.lst l)=>gd (decide (l.length≤1000)) (opt (Ir l.length z) fun j=>k (H.set n (.lst (l.set j v))))
  | some (.barr b)=>Gw v fun x=>gd (decide (b.size≤1000)) (gd (decide (0≤x)) (gd (decide (x<256)) (gd (decide (0≤z)) (gd (decide (z<b.size)) (k (H.set n (.barr (b.setIfInBounds z.toNat x.toNat.toUInt8))))))))
  | _=>False)
 rw [hn]
 exact ⟨dq9 hl,Ar hz h⟩
section
variable {Φ:Orc} {e o i:ME} {ss:MSs} {ν:Nu} {H:Hp}
theorem yr{n:Nat}{z:Int}{k:KL}(hn:n≤1000)(he:∀ k:KE,k (.int z) H→ev tb Φ e ν H k)(hz:z=(n:Int))(hk:k (De (List.range n)) H):evI tb Φ (.rng (.cons e .nil)) ν H k:=by
 subst hz
 have t:qk (n:Int)=true:=by unfold qk;rw [dq9 (by lia),dq9 (by lia)];rfl
 refine he _ ?_
 show Aad 0 (n:Int) 1 fun l=>k l H
 refine ⟨rfl,t,rfl,rfl,small_one (by decide) (by decide) (by lia) (by lia),?_⟩
 rw [yq];exact hk
theorem sy{n j:Nat}{z:Int}{l:List V}{old v r:V}{op:Operator}{K:KS}(hn:H[n]?=some (.lst l))(hl:l.length≤1000)(ho:∀ k:KE,k (.loc n) H→ev tb Φ o ν H k)(hi:∀ k:KE,k (.int z) H→ev tb Φ i ν H k)
  (hz:Ir l.length z=some j) (hold:l[j]?=some old) (he:∀ k:KE,k v H→ev tb Φ e ν H k) (ha:∀ k:V→Prop,k r→ke op old v k) (h2:exs tb Φ ss ν (H.set n (.lst (l.set j r))) K):exs tb Φ (.cons (.augsub o i op e) ss) ν H K:=by
 refine ho _ (hi _ (D5 hn ?_))
 exact ia hn ⟨dq9 (Nat.le_trans hl (by decide)),Ar hz (Ar hold (he _ (ha _ (Afv hn hl hz h2))))⟩
end
theorem C7(l:List Nat):(De l).length=l.length:=by unfold De;rw [List.length_map]
theorem og(l:List Nat)(j x:Nat):(De l).set j (.int (x:Int))=De (l.set j x):=by unfold De;rw [List.map_set]
theorem Xd{l:List Nat}{j:Nat}(h:j<l.length):(De l)[j]?=some (.int ((l.getD j 0:Nat):Int)):=by
 unfold De
 rw [List.getElem?_map,List.getElem?_eq_getElem h,List.getD_eq_getElem?_getD,List.getElem?_eq_getElem h];rfl
theorem Zi(n:Nat)(l:List Nat):Ci n (De l)=true:=Oq n _ (fun zA=>rfl) l
noncomputable def Jh(b:Nat)(cells:List Nat):Prop:=cells.length=13∧∀ c∈cells,c≤b
theorem Jh.put{b j x:Nat}{cells:List Nat}(h:Jh b cells)(hx:x≤b+5040):Jh (b+5040) (cells.set j x):=by
 refine ⟨by rw [List.length_set];exact h.1,fun c hc=>?_⟩
 rcases List.mem_or_eq_of_mem_set hc with hc|rfl
 ·exact Nat.le_trans (h.2 c hc) (Nat.le_add_right ..)
 ·exact hx
theorem Ow(k:Nat)(H:Hp)(s:List Int)(hs:s.length≤1000):∀ (ps:List Nat) (b:Nat) (cells:List Nat) (x2:Option V) (K:KS),(∀ p∈ps,p<s.length)→Jh b cells→
  (∀ cells x2,Jh (b+5040*ps.length) cells→K .next [some (.lst (s.map .int)),some (.loc H.length),x2] (H++[.lst (De cells)]))→
  Kg (fun ν H K=>exs tb (Ph k) J1 ν H K) (fun ν H K=>exs tb (Ph k) .nil ν H K) 2 (De ps) [some (.lst (s.map .int)),some (.loc H.length),x2] (H++[.lst (De cells)]) K
 | [],b,cells,x2,K,_,hc,h=>h cells x2 (by simpa using hc)
 | p::ps,b,cells,x2,K,hp,hc,h=>by
  have p1:=hp p ms9
  have j13:p % 13<13:=Nat.mod_lt _ (by decide)
  have jl:p % 13<cells.length:=by rw [hc.1];exact j13
  have hi:(s.map V.int)[p]?=some (.int (s.getD p 0)):=by
   rw [List.getElem?_map,List.getElem?_eq_getElem p1,List.getD_eq_getElem?_getD,List.getElem?_eq_getElem p1];rfl
  have m0:0≤s.getD p 0 % 5040:=Int.emod_nonneg _ (by decide)
  have m1:s.getD p 0 % 5040<5040:=Int.emod_lt_of_pos _ (by decide)
  have cj:cells.getD (p % 13) 0≤b:=by
   rw [List.getD_eq_getElem?_getD,List.getElem?_eq_getElem jl]
   exact hc.2 _ (List.getElem_mem jl)
  have er:((cells.getD (p % 13) 0:Nat):Int)+s.getD p 0 % 5040=((cells.getD (p % 13) 0+(s.getD p 0 % 5040).toNat:Nat):Int):=by lia
  have zl:(De cells).length≤1000:=by rw [C7,hc.1];decide
  refine sy (n:=H.length) (j:=p % 13) (z:=(p:Int) % 13) (l:=De cells) (old:=.int ((cells.getD (p % 13) 0:Nat):Int)) (v:=.int (s.getD p 0 % 5040)) (r:=.int ((cells.getD (p % 13) 0+(s.getD p 0 % 5040).toNat:Nat):Int)) (A0 H _) zl (fun zA h=>h) (fun zA h=>⟨rfl,h⟩) ?_ (Xd jl) (fun k h=>?_) (fun k h=>?_) ?_
  ·have e:(p:Int) % 13=((p % 13:Nat):Int):=by lia
   rw [e,C7];exact Ds jl
  ·refine ⟨dq9 (by rw [List.length_map];exact Nat.le_trans hs (by decide)),?_⟩
   refine Ar (by rw [List.length_map];exact Ds p1) (Ar hi ⟨rfl,h⟩)
  ·show k (.int (((cells.getD (p % 13) 0:Nat):Int)+s.getD p 0 % 5040))
   rw [er];exact h
  ·rw [Bx,og]
   refine Ow k H s hs ps (b+5040) _ (some (.int (p:Int))) K (fun q hq=>hp q (mm9 _ hq)) (hc.put (by lia)) fun cells x2 hc'=>h cells x2 ?_
   rw [List.length_cons,Nat.mul_succ]
   have e:b+5040+5040*ps.length=b+(5040*ps.length+5040):=by lia
   rw [←e];exact hc'
theorem oh(k:Nat)(s:List Int)(hs:s.length≤63)(H:Hp)(K:KE)(h:∀ cells:List Nat,Jh 400000 cells→K (.lst (De cells)) H):Ph (k+1) 238 [.lst (s.map .int)] H K:=by
 have hl:(s.map V.int).length=s.length:=List.length_map ..
 refine Ff (fn:=Fz) rfl rfl rfl [some (.lst (s.map .int)),none,none] rfl ?_
 refine Aq (v:=.loc H.length) (H1:=H++[Ob.lst (De [0,1,2,5,3,6,4,9,8,7,11,22,27])]) (fun zA h=>⟨rfl,h⟩) ?_
 dsimp only [List.set]
 refine Py (l:=De (List.range s.length)) (fun k h=>yr (n:=s.length) (z:=if (63:Int)<(((s.map V.int).length:Nat):Int) then 63 else (((s.map V.int).length:Nat):Int)) (by lia) (fun zA h=>⟨dq9 (by rw [hl];exact Nat.le_trans hs (by decide)),h⟩) ?_ h) ?_
 ·rw [hl,if_neg (by lia)]
 refine Ow k H s (by lia) (List.range s.length) 27 [0,1,2,5,3,6,4,9,8,7,11,22,27] none _ (fun p hp=>List.mem_range.mp hp) ⟨rfl,by decide⟩ fun cells x2 hc=>?_
 refine Ad5 (fun zA h=>h) (A0 H _) ?_
 rw [Bx]
 refine Ext.cut .one (Zi _ cells) (h cells ⟨hc.1,fun c hm=>Nat.le_trans (hc.2 c hm) ?_⟩)
 rw [List.length_range];lia
noncomputable def T4(w:Nat):Str:=match w with
 | 0=> "\"<&\"<\r\">\n\">\t"
 | 1=> "\"<&\"<\r\"<\n\"<\t"
 | _=> "\">&"
noncomputable def Ad6(w:Nat):Nat:=match w with|0=>12|1=>12|_=>3
noncomputable def Zj(w n:Nat):Nat:=(T4 w).cps.getD (n % Ad6 w) 0
theorem Ji:(T4 0).length=12∧(T4 1).length=12∧(T4 2).length=3:=by decide +kernel
theorem s6:Os 12 (fun j=>((T4 0).cps[j]?==some ((T4 0).cps.getD j 0))&&((T4 1).cps[j]?==some ((T4 1).cps.getD j 0))&&(decide (3≤j)||(T4 2).cps[j]?==some ((T4 2).cps.getD j 0)))=true:=by decide +kernel
theorem Xe{Φ:Orc}{o i:ME}{ν:Nu}{H:Hp}{k:KE}{s:Str}{z:Int}{j c:Nat}(hs:decide (s.length≤Ah)=true)(ho:∀ k:KE,k (.str s) H→ev tb Φ o ν H k)(hi:∀ k:KE,k (.int z) H→ev tb Φ i ν H k)(hz:Ir s.length z=some j)(hc:s.cps[j]?=some c)(hk:k (.str ⟨#[c]⟩) H):ev tb Φ (.sub o i) ν H k:=
 ho _ (hi _ ⟨hs,Ar hz (Ar hc hk)⟩)
theorem yt(k w n:Nat)(hw:w<3)(H:Hp)(K:KE)(h:K (.str ⟨#[Zj w n]⟩) H):Ph (k+1) 245 [.int (w:Int),.int (n:Int)] H K:=by
 refine Ff (fn:=Hw) rfl rfl rfl [some (.int (w:Int)),some (.int (n:Int))] rfl ?_
 have n12:n % 12<12:=Nat.mod_lt _ (by decide)
 have n3:n % 3<3:=Nat.mod_lt _ (by decide)
 have e12:(n:Int) % 12=((n % 12:Nat):Int):=by lia
 have e3:(n:Int) % 3=((n % 3:Nat):Int):=by lia
 have q:=Ax s6 n12
 have q3:=Ax s6 (Nat.lt_trans n3 (by decide))
 rw [Bool.and_eq_true,Bool.and_eq_true,Bool.or_eq_true] at q q3
 match w,hw with
 | 0,_=>
  refine C6 (T:=((((0:Nat):Int))==0)) true rfl (fun zA h=>h) ?_
  exact Dd (v:=.str ⟨#[Zj 0 n]⟩) (H1:=H) (fun k' h'=>Xe (s:=T4 0) (j:=n % 12) (by rw [Ji.1];rfl) (fun zA h=>h) (fun zA h=>⟨rfl,h⟩) (by rw [Ji.1,e12];exact Ds n12) (eq_of_beq q.1.1) h') (.inl h)
 | 1,_=>
  refine C6 (T:=((((1:Nat):Int))==0)) false rfl (fun zA h=>h) ?_
  refine C6 (T:=((((1:Nat):Int))==1)) true rfl (fun zA h=>h) ?_
  exact Dd (v:=.str ⟨#[Zj 1 n]⟩) (H1:=H) (fun k' h'=>Xe (s:=T4 1) (j:=n % 12) (by rw [Ji.2.1];rfl) (fun zA h=>h) (fun zA h=>⟨rfl,h⟩) (by rw [Ji.2.1,e12];exact Ds n12) (eq_of_beq q.1.2) h') (.inl h)
 | 2,_=>
  refine C6 (T:=((((2:Nat):Int))==0)) false rfl (fun zA h=>h) ?_
  refine C6 (T:=((((2:Nat):Int))==1)) false rfl (fun zA h=>h) ?_
  have q4:(T4 2).cps[n % 3]?=some ((T4 2).cps.getD (n % 3) 0):=by
   rcases q3.2 with q|q
   ·have:=od9 q;lia
   ·exact eq_of_beq q
  exact Dd (v:=.str ⟨#[Zj 2 n]⟩) (H1:=H) (fun k' h'=>Xe (s:=T4 2) (j:=n % 3) (by rw [Ji.2.2];rfl) (fun zA h=>h) (fun zA h=>⟨rfl,h⟩) (by rw [Ji.2.2,e3];exact Ds n3) q4 h') (.inl h)
noncomputable def Qi(w c:Nat):Str×Str:=match w,c with
 | 1,9=>("&#x","9")
 | 1,10=>("&#x","A")
 | 1,13=>("&#x","D")
 | _,34=>("&","quot")
 | _,60=>("&","lt")
 | _,62=>("&","gt")
 | _,38=>("&","amp")
 | _,9=>("&","#09")
 | _,10=>("&","#10")
 | _,_=>("&","#13")
noncomputable def Jj(w c:Nat):Str:=(Qi w c).1++(Qi w c).2 ++ ";"
noncomputable def oi(c:Nat):Bool:=[34,60,62,38,9,10,13].contains c
noncomputable def wsp(c:Nat):Bool:=[9,10,13].contains c
noncomputable def Ag1:List (Str×Str):=[("\t","9"),("\n","A"),("\r","D")]
noncomputable def Ag2:List (Str×Str):=[("\"","quot"),("<","lt"),(">","gt"),("&","amp"),("\t","#09"),("\n","#10"),("\r","#13")]
noncomputable def Agj(w c:Nat):Bool:=(tin "\t\n\r" ⟨#[c]⟩==wsp c)&&(bif (w==1)&&wsp c then (Ag1.lookup ⟨#[c]⟩==some (Qi w c).2)&&((Qi w c).1==("&#x" : Str)) else (Ag2.lookup ⟨#[c]⟩==some (Qi w c).2)&&((Qi w c).1==("&" : Str))) &&
 decide ((Qi w c).1.length+(Qi w c).2.length≤Ah)&&decide (((Qi w c).1++(Qi w c).2).length+(";" : Str).length≤Ah)
theorem yu:Os 3 (fun w=>[34,60,62,38,9,10,13].all fun c=>Agj w c)=true:=by decide +kernel
theorem Xf{Φ:Orc}{e1 e2:ME}{ν:Nu}{H:Hp}{k:KE}{a b:Str}(h1:∀ k:KE,k (.str a) H→ev tb Φ e1 ν H k)(h2:∀ k:KE,k (.str b) H→ev tb Φ e2 ν H k)(hz:decide (a.length+b.length≤Ah)=true)(hk:k (.str (a++b)) H):ev tb Φ (.bin .Add e1 e2) ν H k:=
 h1 _ (h2 _ ⟨hz,hk⟩)
theorem Su(k w c:Nat)(hw:w<3)(hc:oi c=true)(H:Hp)(K:KE)(h:K (.str (Jj w c)) H):Ph (k+1) 252 [.int (w:Int),.str ⟨#[c]⟩] H K:=by
 have q:=List.all_eq_true.mp (Ax yu hw) c (List.contains_iff_mem.mp hc)
 unfold Agj at q
 rw [Bool.and_eq_true,Bool.and_eq_true,Bool.and_eq_true] at q
 obtain ⟨⟨⟨q1,q2⟩,q3⟩,q4⟩:=q
 have q1:=eq_of_beq q1
 refine Ff (fn:=Cp) rfl rfl rfl [some (.int (w:Int)),some (.str ⟨#[c]⟩)] rfl ?_
 have ew:((w:Int)==1)=(w==1):=by
  by_cases e:w=1
  ·subst e;rfl
  ·rw [beq_eq_false_iff_ne.mpr e];exact beq_eq_false_iff_ne.mpr (by lia)
 have cw:∀ (t:Bool),(w==1)=t→∀ k':KE,k' (.bool t) H→ev tb (Ph k) (.cmp .Eq (.var 0) (.int 1)) [some (.int (w:Int)),some (.str ⟨#[c]⟩)] H k':=fun t e k' h'=>kb (T:=((w:Int)==1)) (ew.trans e) h'
 have ci:∀ k':KE,k' (.bool (wsp c)) H→ev tb (Ph k) (.cmp .In (.var 1) (.str "\t\n\r")) [some (.int (w:Int)),some (.str ⟨#[c]⟩)] H k':=fun k' h'=>kb (T:=tin "\t\n\r" ⟨#[c]⟩) q1 h'
 cases e:((w==1)&&wsp c)
 ·rw [e] at q2
  have q2:=Bool.and_eq_true_iff.mp q2
  have r1:=eq_of_beq q2.1
  have r2:=eq_of_beq q2.2
  refine C6 (T:=false) false rfl (fun k' h'=>?_) ?_
  ·cases e1:(w==1)
   ·exact J9 (cw false e1) h'
   ·rw [e1,Bool.true_and] at e
    exact Jd (cw true e1) (ci _ (by rw [e];exact h'))
  ·refine Dd (v:=.str (Jj w c)) (H1:=H) (fun k' h'=>?_) (.inl h)
   refine Xf (a:=(Qi w c).1++(Qi w c).2) (b:= ";") (fun k h=>Xf (a:=(Qi w c).1) (b:=(Qi w c).2) (fun k h=>by rw [r2] at h;exact h) (fun k h=>Ar r1 h) q3 h) (fun zA h=>h) q4 h'
 ·rw [e] at q2
  have q2:=Bool.and_eq_true_iff.mp q2
  have r1:=eq_of_beq q2.1
  have r2:=eq_of_beq q2.2
  have e2:=Bool.and_eq_true_iff.mp e
  refine C6 (T:=true) true rfl (fun k' h'=>Jd (cw true e2.1) (ci _ (by rw [e2.2];exact h'))) ?_
  refine Dd (v:=.str (Jj w c)) (H1:=H) (fun k' h'=>?_) (.inl h)
  refine Xf (a:=(Qi w c).1++(Qi w c).2) (b:= ";") (fun k h=>Xf (a:=(Qi w c).1) (b:=(Qi w c).2) (fun k h=>by rw [r2] at h;exact h) (fun k h=>Ar r1 h) q3 h) (fun zA h=>h) q4 h'
noncomputable def Nz(c:Nat)(z:List Nat):List Nat→List Nat
 | []=>[]
 | k::r=>(if k=c then z else [k])++Nz c z r
theorem Dt(c:Nat)(z:List Nat):∀ a b:List Nat,Nz c z (a++b)=Nz c z a++Nz c z b
 | [],_=>rfl
 | k::r,b=>by
  show (if k=c then z else [k])++Nz c z (r++b)=((if k=c then z else [k])++Nz c z r)++Nz c z b
  rw [Dt c z r b,List.append_assoc]
theorem Ih(c:Nat)(z:List Nat):∀ l:List Nat,c∉l→Nz c z l=l
 | [],_=>rfl
 | k::r,h=>by
  have h1:¬k=c:=fun e=>h (e▸ms9 ..)
  show (if k=c then z else [k])++Nz c z r=k::r
  rw [if_neg h1,Ih c z r fun m=>h (mm9 _ m)];rfl
theorem oj(c:Nat)(z:List Nat):Nz c z [c]=z:=by
 show (if c=c then z else [c])++[]=z
 rw [if_pos rfl,List.append_nil]
theorem Sv(c:Nat)(z:Str):∀ parts:List Str,(∀ p∈parts,c∉p.cps.toList)→Nz c z.cps.toList (Str.join ⟨#[c]⟩ parts).cps.toList=(Str.join z parts).cps.toList
 | [],_=>rfl
 | [p],h=>Ih c _ _ (h p (List.mem_singleton.mpr rfl))
 | p::q::r,h=>by
  have ih:=Sv c z (q::r) fun a ha=>h a (mm9 _ ha)
  show Nz c z.cps.toList (p++⟨#[c]⟩++Str.join ⟨#[c]⟩ (q::r)).cps.toList=(p++z++Str.join z (q::r)).cps.toList
  simp only [Str.cps_append,Array.toList_append]
  rw [Dt,Dt,ih,Ih c _ _ (h p (ms9 ..))]
  show p.cps.toList++Nz c z.cps.toList [c]++_=_
  rw [oj]
theorem ib(x z:Str)(c:Nat):(Xw x ⟨#[c]⟩ z).cps.toList=Nz c z.cps.toList x.cps.toList:=by
 unfold Xw
 rw [StrLaws.replace_one,←Sv c z _ (StrLaws.split_free x c),StrLaws.join_split]
theorem yv(x:Str)(c:Nat):tin x ⟨#[c]⟩=decide (c∈x.cps.toList):=by
 unfold tin
 exact StrLaws.found_one x c
theorem Pz{x y:Str}(h:x.cps.toList=y.cps.toList):x=y:=Str.ext' (Array.toList_inj.mp h)
theorem Afw{Φ:Orc}{i c:Nat}{r x:Str}{ss:MSs}{ν:Nu}{H:Hp}{K:KS}(hv:ν[i]?=some (some (.str x)))(hx:x.length≤100000)(hr:r.length≤14)(hc:(!((⟨#[c]⟩:Str)==r))=true)
  (h:∀ y:Str,y.cps.toList=Nz c r.cps.toList x.cps.toList→exs tb Φ ss (ν.set i (some (.str y))) H K):exs tb Φ (.cons (.esc i ⟨#[c]⟩ r) ss) ν H K:=by
 show Iq ν i _
 unfold Iq
 rw [hv]
 refine ⟨dq9 hx,dq9 hr,hc,?_⟩
 cases e:tin x ⟨#[c]⟩
 ·rw [yv] at e
  have q:=h x (Ih c _ _ (of_decide_eq_false e)).symm
  have hs:ν.set i (some (.str x))=ν:=by
   apply List.ext_getElem?
   intro j
   rw [List.getElem?_set]
   split
   ·rename_i hj
    subst hj
    split
    ·exact hv.symm
    ·rename_i hn
     rw [List.getElem?_eq_none (Nat.le_of_not_lt hn)]
   ·rfl
  rw [hs] at q
  exact q
 ·exact h _ (ib x r c)
noncomputable def Sw(w:Nat):List (Nat×Str):=match w with
 | 0=>[(38,"&amp;"),(60,"&lt;"),(62,"&gt;"),(34,"&quot;"),(13,"&#13;"),(10,"&#10;"),(9,"&#09;")]
 | 1=>[(38,"&amp;"),(60,"&lt;"),(34,"&quot;"),(9,"&#x9;"),(10,"&#xA;"),(13,"&#xD;")]
 | _=>[(38,"&amp;"),(62,"&gt;"),(34,"&quot;")]
noncomputable def Zk:List (Nat×Str)→List Nat→List Nat
 | [],l=>l
 | p::ps,l=>Zk ps (Nz p.1 p.2.cps.toList l)
noncomputable def Aai(i:Nat):List (Nat×Str)→MSs→MSs
 | [],ss=>ss
 | p::ps,ss=>.cons (.esc i ⟨#[p.1]⟩ p.2) (Aai i ps ss)
theorem G7:∀ (ps:List (Nat×Str)) (a b:List Nat),Zk ps (a++b)=Zk ps a++Zk ps b
 | [],_,_=>rfl
 | p::ps,a,b=>by
  show Zk ps (Nz p.1 p.2.cps.toList (a++b))=_
  rw [Dt];exact G7 ps _ _
noncomputable def Gj(ps:List (Nat×Str))(l:List Nat):Prop:=match ps with
 | []=>True
 | p::ps=>l.length≤100000∧Gj ps (Nz p.1 p.2.cps.toList l)
theorem s7{Φ:Orc}{i:Nat}{ss:MSs}{H:Hp}{K:KS}:∀ (ps:List (Nat×Str)) (x:Str) (ν:Nu),ν[i]?=some (some (.str x))→(∀ p∈ps,p.2.length≤14∧(!((⟨#[p.1]⟩:Str)==p.2))=true)→Gj ps x.cps.toList→
  (∀ y:Str,y.cps.toList=Zk ps x.cps.toList→exs tb Φ ss (ν.set i (some (.str y))) H K)→exs tb Φ (Aai i ps ss) ν H K
 | [],x,ν,hv,_,_,h=>by
  have q:=h x rfl
  have hs:ν.set i (some (.str x))=ν:=by
   apply List.ext_getElem?
   intro j
   rw [List.getElem?_set]
   split
   ·rename_i hj
    subst hj
    split
    ·exact hv.symm
    ·rename_i hn
     rw [List.getElem?_eq_none (Nat.le_of_not_lt hn)]
   ·rfl
  rw [hs] at q;exact q
 | p::ps,x,ν,hv,hp,hs,h=>by
  have hx:x.length≤100000:=hs.1
  refine Afw hv hx (hp p ms9).1 (hp p ms9).2 fun y hy=>?_
  have hi:i<ν.length:=(List.getElem?_eq_some_iff.mp hv).1
  refine s7 ps y _ (by rw [List.getElem?_set_self hi]) (fun q hq=>hp q (mm9 _ hq)) (by rw [hy];exact hs.2) fun z hz=>?_
  rw [List.set_set]
  exact h z (by rw [hz,hy];rfl)
theorem yw:Fu=.cons (.try_ (Aai 0 (Sw 0) (.cons (.ret (.var 0)) .nil))) .nil:=by kernel_rfl
theorem yx:Dh=.cons (.try_ (Aai 0 (Sw 1) (.cons (.ret (.var 0)) .nil))) .nil:=by kernel_rfl
theorem yy:Df=.cons (.try_ (Aai 0 (Sw 2) (.cons (.ret (.var 0)) .nil))) .nil:=by kernel_rfl
theorem yz:∀ w,w<3→∀ p∈Sw w,p.2.length≤14∧(!((⟨#[p.1]⟩:Str)==p.2))=true:=by decide +kernel
theorem Afx{Φ:Orc}{b ss:MSs}{ν:Nu}{H:Hp}{K:KS}(h:exs tb Φ b ν H (sqK Φ ss K)):exs tb Φ (.cons (.try_ b) ss) ν H K:=h
theorem ic{Φ:Orc}{e:ME}{ss:MSs}{ν:Nu}{H:Hp}{K:KS}{P:KE→Prop}(h1:∀ k:KE,P k→ev tb Φ e ν H k)(h2:P fun v H1=>K (.ret v) ν H1):exs tb Φ (.cons (.ret e) ss) ν H K:=h1 _ h2
theorem Vi(k w:Nat)(hw:w<3)(body:MSs)(he:body=.cons (.try_ (Aai 0 (Sw w) (.cons (.ret (.var 0)) .nil))) .nil)(x:Str)(hs:Gj (Sw w) x.cps.toList)(H:Hp)(K:KE)
  (h:∀ y:Str,y.cps.toList=Zk (Sw w) x.cps.toList→K (.str y) H):exs tb (Ph k) body [some (.str x)] H fun fl ν H1=>Aae tb none fl ν H1 fun v H'=>T8 H v H' K:=by
 subst he
 refine Afx (s7 (Sw w) x _ rfl (yz w hw) hs fun y hy=>?_)
 exact Dd (v:=.str y) (H1:=H) (fun zA h=>h) (.inl (h y hy))
theorem om(k w:Nat)(hw:w<3)(x:Str)(hs:Gj (Sw w) x.cps.toList)(H:Hp)(K:KE)(h:∀ y:Str,y.cps.toList=Zk (Sw w) x.cps.toList→K (.str y) H):Ph (k+2) 259 [.int (w:Int),.str x] H K:=by
 refine Ff (fn:=F1) rfl rfl rfl [some (.int (w:Int)),some (.str x)] rfl ?_
 match w,hw,hs,h with
 | 0,_,hs,h=>
  refine C6 (T:=((((0:Nat):Int))==0)) true rfl (fun zA h=>h) ?_
  refine ic (P:=fun k'=>Ph (k+1) 217 [.str x] H k') (fun zA h=>h) ?_
  exact Ff (fn:=Co) rfl rfl rfl [some (.str x)] rfl (Vi k 0 (by decide) _ yw x hs H _ fun y hy=>.inl (h y hy))
 | 1,_,hs,h=>
  refine C6 (T:=((((1:Nat):Int))==0)) false rfl (fun zA h=>h) ?_
  refine C6 (T:=((((1:Nat):Int))==1)) true rfl (fun zA h=>h) ?_
  refine ic (P:=fun k'=>Ph (k+1) 231 [.str x] H k') (fun zA h=>h) ?_
  exact Ff (fn:=Bb) rfl rfl rfl [some (.str x)] rfl (Vi k 1 (by decide) _ yx x hs H _ fun y hy=>.inl (h y hy))
 | 2,_,hs,h=>
  refine C6 (T:=((((2:Nat):Int))==0)) false rfl (fun zA h=>h) ?_
  refine C6 (T:=((((2:Nat):Int))==1)) false rfl (fun zA h=>h) ?_
  refine ic (P:=fun k'=>Ph (k+1) 224 [.str x] H k') (fun zA h=>h) ?_
  exact Ff (fn:=Ba) rfl rfl rfl [some (.str x)] rfl (Vi k 2 (by decide) _ yy x hs H _ fun y hy=>.inl (h y hy))
noncomputable def N0(w c:Nat):Bool:=match w with
 | 0=>[34,60,62,38,9,10,13].contains c
 | 1=>[34,60,38,9,10,13].contains c
 | _=>[34,62,38].contains c
theorem P6{l l':List Nat}(h:l.all (fun x=>l'.contains x)=true){c:Nat}(hc:l.contains c=true):l'.contains c=true:=List.all_eq_true.mp h c (List.contains_iff_mem.mp hc)
theorem E9:∀ {w c:Nat},N0 w c=true→oi c=true
 | 0,_,h=>P6 (l:=[34,60,62,38,9,10,13]) (by decide) h
 | 1,_,h=>P6 (l:=[34,60,38,9,10,13]) (by decide) h
 | _+2,_,h=>P6 (l:=[34,62,38]) (by decide) h
theorem Ad7:Os 3 (fun w=>Os 12 fun n=>N0 w ((T4 w).cps.getD (n % Ad6 w) 0))=true:=by decide +kernel
theorem Xg:∀ w,0<Ad6 w∧Ad6 w≤12
 | 0=>by decide
 | 1=>by decide
 | _+2=>⟨Nat.succ_pos 2,Nat.le_of_ble_eq_true rfl⟩
theorem y0{w:Nat}(hw:w<3)(n:Nat):N0 w (Zj w n)=true:=by
 have hb:n % Ad6 w<12:=Nat.lt_of_lt_of_le (Nat.mod_lt _ (Xg w).1) (Xg w).2
 have q:=Ax (Ax Ad7 hw) hb
 rw [Nat.mod_mod] at q
 exact q
theorem y1:Os 3 (fun w=>[34,60,62,38,9,10,13].all fun c=>!N0 w c||(Zk (Sw w) [c]==(Jj w c).cps.toList))=true:=by decide +kernel
theorem ie:Os 3 (fun w=>Zk (Sw w) [32]==[32])=true:=by decide +kernel
theorem ig{w c:Nat}(hw:w<3)(h:N0 w c=true):Zk (Sw w) [c]=(Jj w c).cps.toList:=by
 have q:=List.all_eq_true.mp (Ax y1 hw) c (List.contains_iff_mem.mp (E9 h))
 rw [h] at q
 exact eq_of_beq q
noncomputable def ii:List (Nat×Str)→List Nat→Bool
 | [],b=>decide (b.length≤6)
 | p::ps,b=>decide (b.length≤6)&&ii ps (Nz p.1 p.2.cps.toList b)
theorem Sx(c:Nat)(z:List Nat):∀ bs:List (List Nat),Nz c z bs.flatten=(bs.map (Nz c z)).flatten
 | []=>rfl
 | b::bs=>by
  rw [List.flatten_cons,Dt,Sx c z bs];rfl
theorem Xh:∀ bs:List (List Nat),(∀ b∈bs,b.length≤6)→bs.flatten.length≤6*bs.length
 | [],_=>Nat.zero_le _
 | b::bs,h=>by
  have h1:=h b ms9
  have h2:=Xh bs fun x hx=>h x (mm9 _ hx)
  rw [List.flatten_cons,List.length_append,List.length_cons];lia
theorem Ox:∀ (ps:List (Nat×Str)) (bs:List (List Nat)),bs.length≤1000→(∀ b∈bs,ii ps b=true)→Gj ps bs.flatten
 | [],_,_,_=>trivial
 | p::ps,bs,hl,h=>by
  have hb:∀ b∈bs,b.length≤6:=fun b hm=>od9 (Bool.and_eq_true_iff.mp (h b hm)).1
  have:=Xh bs hb
  refine ⟨by lia,?_⟩
  rw [Sx]
  refine Ox ps _ (by rw [List.length_map];exact hl) fun b hm=>?_
  refine x12 (List.mem_map.mp hm) fun a ha zz2=>?_;subst zz2
  exact (Bool.and_eq_true_iff.mp (h a ha)).2
theorem ij:Os 3 (fun w=>[34,60,62,38,9,10,13,32].all fun c=>ii (Sw w) [c])=true:=by decide +kernel
noncomputable abbrev bl:Str:=⟨#[32]⟩
noncomputable def on(cs:List Nat):Str:=Str.join bl (cs.map fun c=>(⟨#[c]⟩:Str))
noncomputable def Ad8(w:Nat)(cs:List Nat):Str:=Str.join bl (cs.map (Jj w))
theorem Sy(c d:Nat)(r:List Nat):(on (c::d::r)).cps.toList=[c]++[32]++(on (d::r)).cps.toList:=by
 show ((⟨#[c]⟩:Str)++bl++on (d::r)).cps.toList=_
 simp only [Str.cps_append,Array.toList_append]
theorem ik(w c d:Nat)(r:List Nat):(Ad8 w (c::d::r)).cps.toList=(Jj w c).cps.toList++[32]++(Ad8 w (d::r)).cps.toList:=by
 show (Jj w c++bl++Ad8 w (d::r)).cps.toList=_
 simp only [Str.cps_append,Array.toList_append]
theorem P7{w:Nat}(hw:w<3):∀ (cs:List Nat),cs≠[]→(∀ c∈cs,N0 w c=true)→Zk (Sw w) (on cs).cps.toList=(Ad8 w cs).cps.toList
 | [],h,_=>absurd rfl h
 | [c],_,h=>ig hw (h c ms9)
 | c::d::r,_,h=>by
  have ih:=P7 hw (d::r) (by simp) fun x hx=>h x (mm9 _ hx)
  rw [Sy,ik,G7,G7,ih,ig hw (h c ms9),eq_of_beq (Ax ie hw)]
theorem M4:∀ (cs:List Nat),∃ bs:List (List Nat),(on cs).cps.toList=bs.flatten∧bs.length≤2*cs.length∧∀ b∈bs,∃ c,b=[c]∧(c∈cs∨c=32)
 | []=>⟨[],rfl,Nat.zero_le _,fun zA h=>nomatch h⟩
 | [c]=>⟨[[c]],rfl,by simp,fun b h=>⟨c,List.mem_singleton.mp h,.inl ms9⟩⟩
 | c::d::r=>by
  refine x13 (M4 (d::r)) fun bs h1 h2 h3=>?_
  refine ⟨[c]::[32]::bs,?_,?_,fun b hb=>?_⟩
  ·rw [Sy,h1];rfl
  ·simp only [List.length_cons] at h2 ⊢;lia
  ·rcases List.mem_cons.mp hb with rfl|hb
   ·exact ⟨c,rfl,.inl ms9⟩
   ·rcases List.mem_cons.mp hb with rfl|hb
    ·exact ⟨32,rfl,.inr rfl⟩
    ·refine x12 (h3 b hb) fun e h4 h5=>?_
     exact ⟨e,h4,h5.imp (mm9 _) id⟩
theorem Zl{w:Nat}(hw:w<3)(cs:List Nat)(hl:cs.length≤100)(h:∀ c∈cs,N0 w c=true):Gj (Sw w) (on cs).cps.toList:=by
 refine x13 (M4 cs) fun bs h1 h2 h3=>?_
 rw [h1]
 refine Ox _ bs (by lia) fun b hb=>?_
 refine x12 (h3 b hb) fun c zz1 hc=>?_;subst zz1
 have q:=Ax ij hw
 exact List.all_eq_true.mp q c (hc.elim (fun hc=>List.contains_iff_mem.mp (P6 (l:=[34,60,62,38,9,10,13]) (by decide) (E9 (h c hc)))) fun e=>by subst e;decide)
theorem Sz{c:Nat}:∀ {a b x y:List Nat},c∉a→c∉b→a++[c]++x=b++[c]++y→a=b∧x=y
 | [],[],x,y,_,_,h=>⟨rfl,(List.cons.inj h).2⟩
 | [],k::b,x,y,_,hb,h=>absurd (List.mem_cons.mpr (.inl (List.cons.inj h).1)) hb
 | k::a,[],x,y,ha,_,h=>absurd (List.mem_cons.mpr (.inl (List.cons.inj h).1.symm)) ha
 | k::a,m::b,x,y,ha,hb,h=>by
  refine x02 (List.cons.inj h) fun h1 h2=>?_
  refine x02 (Sz (fun m=>ha (mm9 _ m)) (fun m=>hb (mm9 _ m)) h2) fun q1 q2=>?_
  exact ⟨by rw [h1,q1],q2⟩
theorem Gk(c:Nat)(p q:Str)(r:List Str):(Str.join ⟨#[c]⟩ (p::q::r)).cps.toList=p.cps.toList++[c]++(Str.join ⟨#[c]⟩ (q::r)).cps.toList:=by
 show (p++(⟨#[c]⟩:Str)++Str.join ⟨#[c]⟩ (q::r)).cps.toList=_
 simp only [Str.cps_append,Array.toList_append]
theorem Xi(c:Nat):∀ (A B:List Str),A≠[]→B≠[]→(∀ p∈A,c∉p.cps.toList)→(∀ p∈B,c∉p.cps.toList)→(Str.join ⟨#[c]⟩ A).cps.toList=(Str.join ⟨#[c]⟩ B).cps.toList→A=B
 | [],_,h,_,_,_,_=>absurd rfl h
 | _,[],_,h,_,_,_=>absurd rfl h
 | [p],[q],_,_,_,_,h=>congrArg (fun z=>[z]) (Pz (x:=p) (y:=q) h)
 | [p],q::q2::r,_,_,hA,_,h=>by
  rw [Gk] at h
  refine absurd ?_ (hA p ms9)
  have h':p.cps.toList=q.cps.toList++[c]++(Str.join ⟨#[c]⟩ (q2::r)).cps.toList:=h
  rw [h'];simp
 | p::p2::r,[q],_,_,_,hB,h=>by
  rw [Gk] at h
  refine absurd ?_ (hB q ms9)
  have h':p.cps.toList++[c]++(Str.join ⟨#[c]⟩ (p2::r)).cps.toList=q.cps.toList:=h
  rw [←h'];simp
 | p::p2::r,q::q2::r2,_,_,hA,hB,h=>by
  rw [Gk,Gk] at h
  refine x02 (Sz (hA p ms9) (hB q ms9) h) fun h1 h2=>?_
  rw [Pz h1,Xi c (p2::r) (q2::r2) (by simp) (by simp) (fun x hx=>hA x (mm9 _ hx)) (fun x hx=>hB x (mm9 _ hx)) h2]
theorem oo(x:Str)(c:Nat):Txt.split x ⟨#[c]⟩≠[]:=by
 unfold Txt.split
 split
 ·simp
 ·split
  ·simp
  ·rw [StrLaws.partsBetween_eq]
   refine x21 (StrLaws.partsFrom_ne x (⟨#[c]⟩:Str).length 0 (Builtin.Str.occurrences x ⟨#[c]⟩ 0 x.length (x.length+1))) fun p r e=>?_
   rw [e];simp
theorem G8(c:Nat)(A:List Str)(hne:A≠[])(hA:∀ p∈A,c∉p.cps.toList)(x:Str)(hx:x.cps.toList=(Str.join ⟨#[c]⟩ A).cps.toList):Fa x ⟨#[c]⟩=A:=by
 unfold Fa
 refine Xi c _ A (oo x c) hne (StrLaws.split_free x c) hA ?_
 rw [StrLaws.join_split];exact hx
theorem Ii(sep:Str)(l:List Str):Ce sep l=Str.join sep l:=by unfold Ce;exact StrLaws.glued_eq_join sep l
theorem ot:Os 3 (fun w=>[34,60,62,38,9,10,13].all fun c=>!(Jj w c).cps.toList.contains 32)=true:=by decide +kernel
theorem S6{w c:Nat}(hw:w<3)(h:oi c=true):32∉(Jj w c).cps.toList:=fun hm=>by
 have q:=List.all_eq_true.mp (Ax ot hw) c (List.contains_iff_mem.mp h)
 rw [List.contains_iff_mem.mpr hm] at q
 cases q
theorem Vj{w:Nat}(hw:w<3)(cs:List Nat)(hne:cs≠[])(h:∀ c∈cs,N0 w c=true)(y:Str)(hy:y.cps.toList=Zk (Sw w) (on cs).cps.toList):Fa y bl=cs.map (Jj w):=by
 refine G8 32 _ (by simpa using hne) (fun p hp=>?_) y (by rw [hy,P7 hw cs hne h];rfl)
 refine x12 (List.mem_map.mp hp) fun c hc zz2=>?_;subst zz2
 exact S6 hw (E9 (h c hc))
theorem ou:Os 26 (fun n=>decide (n=0)||(decide (Zw 0 (n:Int) (n:Int)=[0])&&Builtin.Range.small 0 (n:Int) (n:Int)))=true:=by decide +kernel
noncomputable def swp(d:List UInt8)(j:Nat):List UInt8:=List.replicate (d.length-j) 0++(d.take j).reverse
theorem il(d:List UInt8){j:Nat}(h:j≤d.length):(swp d j).length=d.length:=by
 unfold swp;rw [List.length_append,List.length_replicate,List.length_reverse,List.length_take];lia
theorem y3(d:List UInt8){j:Nat}(h:j<d.length):(swp d j).set (d.length-1-j) (d.getD j 0)=swp d (j+1):=by
 unfold swp
 have e:d.length-j=(d.length-(j+1))+1:=by lia
 have e2:d.length-1-j=d.length-(j+1):=by lia
 rw [e,e2,List.replicate_succ',List.append_assoc,List.set_append_right _ _ (by simp),List.length_replicate,Nat.sub_self]
 rw [List.take_succ_eq_append_getElem h,List.reverse_append]
 rw [List.getD_eq_getElem?_getD,List.getElem?_eq_getElem h]
 rfl
theorem ow{H:Hp}{n:Nat}{b:Array UInt8}{k:Array UInt8→Prop}(e:H[n]?=some (.barr b))(h:k b):j8 H n k:=by unfold j8;rw [e];exact h
theorem Ag3{n:Nat}{z x:Int}{b:Array UInt8}{H:Hp}{k:Hp→Prop}(hn:H[n]?=some (.barr b))(hb:b.size≤1000)(hx0:0≤x)(hx1:x<256)(hz0:0≤z)(hz1:z<b.size)(h:k (H.set n (.barr (b.setIfInBounds z.toNat x.toNat.toUInt8)))):Cw (.loc n) (.int z) (.int x) H k:=by
 simp only [Cw,Ni,Gw,hn]
 exact ⟨dq9 hb,dq9 hx0,dq9 hx1,dq9 hz0,dq9 hz1,h⟩
theorem Ad9{Φ:Orc}{o i e:ME}{ss:MSs}{ν:Nu}{H:Hp}{K:KS}{a b v:V}(h1:∀ k:KE,k v H→ev tb Φ e ν H k)(h2:∀ k:KE,k a H→ev tb Φ o ν H k)(h3:∀ k:KE,k b H→ev tb Φ i ν H k)(h:Cw a b v H fun H4=>exs tb Φ ss ν H4 K):exs tb Φ (.cons (.asub o i e) ss) ν H K:=h1 _ (h2 _ (h3 _ h))
theorem S7(k:Nat)(H:Hp)(d:List UInt8)(hd:d.length≤25):∀ (m j:Nat) (x4:Option V) (K:KS),j+m=d.length→
  (∀ x4,K .next [some (.bytes d.toArray),some (.int (d.length:Int)),some (.loc H.length),some (.int 0),x4] (H++[.barr (swp d d.length).toArray]))→
  Kg (fun ν H K=>exs tb (Ph k) Md ν H K) (fun ν H K=>exs tb (Ph k) .nil ν H K) 4 (De (List.range' j m)) [some (.bytes d.toArray),some (.int (d.length:Int)),some (.loc H.length),some (.int 0),x4] (H++[.barr (swp d j).toArray]) K
 | 0,j,x4,K,hj,h=>by
  have e:j=d.length:=by lia
  subst e
  exact h x4
 | m+1,j,x4,K,hj,h=>by
  have jl:j<d.length:=by lia
  have lt:(d.getD j 0).toNat<256:=(d.getD j 0).toNat_lt
  rw [List.range'_succ]
  refine Ad9 (v:=.int ((d.getD j 0).toNat:Int)) (a:=.loc H.length) (b:=.int (0+(d.length:Int)-1-(j:Int))) (fun k h=>?_) (fun zA h=>h) (fun zA h=>h) ?_
  ·refine ⟨dq9 (by show d.length≤_;exact Nat.le_trans hd (by decide)),dq9 (by lia),dq9 (by show (0:Int)+j<(d.length:Int);lia),?_⟩
   show k (.int (((d.getD ((0:Int)+(j:Int)).toNat 0)).toNat:Int)) _
   rw [show ((0:Int)+(j:Int)).toNat=j by lia];exact h
  ·have sl:=il d (Nat.le_of_lt jl)
   refine Ag3 (A0 H _) (by show (swp d j).length≤1000;lia) (by lia) (by lia) (by lia) (by show _<((swp d j).length:Int);lia) ?_
   rw [Bx]
   have e:((swp d j).toArray.setIfInBounds (0+(d.length:Int)-1-(j:Int)).toNat (((d.getD j 0).toNat:Int)).toNat.toUInt8)=(swp d (j+1)).toArray:=by
    rw [show (0+(d.length:Int)-1-(j:Int)).toNat=d.length-1-j from tn,←y3 d jl]
    rw [show (((d.getD j 0).toNat:Int)).toNat.toUInt8=d.getD j 0 by simp]
    simp
   rw [e]
   exact S7 k H d hd m (j+1) _ K (by lia) h
theorem oy(d:List UInt8):Array.replicate ((d.length:Int)).toNat (0:UInt8)=(swp d 0).toArray:=by
 unfold swp
 simp
theorem y4(d:List UInt8):swp d d.length=d.reverse:=by
 unfold swp
 simp
theorem P8{n:Nat}(h:n≤1000):qk (n:Int)=true:=by unfold qk;rw [dq9 (by lia),dq9 (by lia)];rfl
theorem M5(k:Nat)(d:List UInt8)(h0:0<d.length)(hd:d.length≤25)(H:Hp)(K:KE)(h:K (.bytes d.reverse.toArray) H):Ph (k+1) 203 [.bytes d.toArray,.int (d.length:Int)] H K:=by
 have q:=Ax ou (show d.length<26 by lia)
 rw [decide_eq_false (by lia),Bool.false_or,Bool.and_eq_true] at q
 have q1:=od9 q.1
 have zl:decide (d.toArray.size≤Ah)=true:=dq9 (by show d.length≤_;exact Nat.le_trans hd (by decide))
 refine Ff (fn:=Hv) rfl rfl rfl [some (.bytes d.toArray),some (.int (d.length:Int)),none,none,none] rfl ?_
 refine Aq (v:=.loc H.length) (H1:=H++[Ob.barr (swp d 0).toArray]) (fun k' h'=>⟨zl,dq9 (by show (0:Int)≤(d.length:Int);lia),dq9 (by show (d.length:Int)≤1000;lia),?_⟩) ?_
 ·show k' (.loc H.length) (H++[.barr (Array.replicate ((d.length:Int)).toNat 0)])
  rw [oy];exact h'
 dsimp only [List.set]
 refine Py (l:=[.int 0]) (fun k' h'=>⟨zl,rfl,P8 (n:=d.length) (by lia),P8 (by lia),?_,q.2,?_⟩) ?_
 ·show (!((d.length:Int)==0))=true
  rw [beq_eq_false_iff_ne.mpr (by lia)];rfl
 ·show k' ((Zw 0 (d.length:Int) (d.length:Int)).map V.int) _
  rw [q1];exact h'
 ·refine Py (l:=De (List.range d.length)) (fun zA h=>yr (n:=d.length) (z:=(d.length:Int)) (by lia) (fun zA h=>h) rfl h) ?_
  rw [List.range_eq_range']
  refine S7 k H d hd d.length 0 none _ (by lia) fun x4=>?_
  show exs tb (Ph k) (.cons (.ret (.bcall .bytes (.cons (.var 2) .nil))) .nil) [some (.bytes d.toArray),some (.int (d.length:Int)),some (.loc H.length),some (.int 0),x4] (H++[Ob.barr (swp d d.length).toArray]) fun fl ν H1=>Aae tb none fl ν H1 fun v H'=>T8 H v H' K
  refine Dd (v:=.bytes d.reverse.toArray) (H1:=H++[Ob.barr (swp d d.length).toArray]) (fun k' h'=>?_) (Ext.cut .one rfl h)
  refine ow (A0 H _) ⟨dq9 (by show (swp d d.length).length≤1000;rw [il d (Nat.le_refl _)];lia),?_⟩
  rw [y4] at h' ⊢;exact h'
noncomputable def A8(ws:List Str):Str:=ws.foldl (fun a w=>a++((" " : Str)++w)) ""
theorem Ij(ws:List Str)(w:Str):A8 (ws++[w])=A8 ws++((" " : Str)++w):=by unfold A8;rw [List.foldl_append];rfl
noncomputable def Bm(width:Nat):List Str→Nat→List Str→List (List Str)
 | [],_,cur=>[cur]
 | w::ws,f,cur=>if width<f+1+w.length then cur::Bm width ws (1+w.length) [w] else Bm width ws (f+1+w.length) (cur++[w])
noncomputable def Be(l:List Str):List V:=l.map V.str
theorem A5(l:List Str):(Be l).length=l.length:=by unfold Be;rw [List.length_map]
theorem Gl:∀ l:List Str,Dz (Be l)=some l
 | []=>rfl
 | a::l=>by show ((Dz (Be l)).map (a :: ·))=_;rw [Gl l];rfl
theorem Du(l:List Str)(x:Str):Be (l++[x])=Be l++[.str x]:=by unfold Be;rw [List.map_append];rfl
theorem oz(l:List V)(x:V):Ir (l++[x]).length (-1)=some l.length:=by
 rw [gx (by simp)];simp
theorem o3(l:List V)(x y:V):(l++[x]).set l.length y=l++[y]:=by simp
theorem G9(a b:Str):(a++b).length=a.length+b.length:=Str.length_append a b
theorem Br:((" " : Str)).length=1:=by decide +kernel
theorem Ga:(("" : Str)).length=0:=by decide +kernel
section
variable {k width:Nat} {H:Hp} {wv rv:V}
noncomputable abbrev fnu(wv:V)(width:Nat)(rv:V)(n:Nat)(f:Int)(x:Option V):Nu:=[some wv,some (.int (width:Int)),some rv,some (.loc n),some (.int f),x]
theorem Xj(done:List Str)(cur:List Str)(f:Nat)(w:Str)(K:KS)(hd:done.length≤900)(hz:(A8 cur).length+(1+w.length)≤100000)
  (h:K .next (fnu wv width rv H.length ((f+1+w.length:Nat):Int) (some (.str w))) (H++[.lst (Be (done++[A8 (cur++[w])]))])) :
  exs tb (Ph k) (.cons (.augsub (.var 3) (.neg (.int 1)) .Add (.bin .Add (.str " ") (.var 5))) (.cons (.augv 4 .Add (.bin .Add (.int 1) (.bcall .len (.cons (.var 5) .nil)))) .nil))
   (fnu wv width rv H.length (f:Int) (some (.str w))) (H++[.lst (Be (done++[A8 cur]))]) K:=by
 have l1:(Be (done++[A8 cur])).length≤1000:=by rw [A5];simp;lia
 have lw:((" " : Str)++w).length=1+w.length:=by rw [G9,Br]
 refine sy (n:=H.length) (j:=(Be done).length) (z:=-1) (l:=Be (done++[A8 cur])) (old:=.str (A8 cur)) (v:=.str ((" " : Str)++w)) (r:=.str (A8 cur++((" " : Str)++w))) (A0 H _) l1 (fun zA h=>h) (fun zA h=>h) ?_ ?_ (fun k h=>⟨dq9 (by rw [Br];have:Ah=1048576:=rfl;lia),h⟩) (fun k h=>⟨dq9 (by rw [lw];have:Ah=1048576:=rfl;lia),h⟩) ?_
 ·rw [Du];exact oz _ _
 ·rw [Du];simp
 ·rw [Bx,Du,o3,←Du,←Ij]
  refine n6 (z:=(f:Int)) (w:=1+(w.length:Int)) (r:=((f+1+w.length:Nat):Int)) rfl (fun zA h=>⟨dq9 (by have:Ah=1048576:=rfl;lia),h⟩) (by lia) ?_
  dsimp only [List.set]
  exact h
theorem M6:∀ (ws:List Str) (done cur:List Str) (f:Nat) (x:Option V) (K:KS),done.length+ws.length≤900→(∀ w∈ws,w.length≤100)→(A8 cur).length+101*ws.length≤100000→
  (∀ (f':Int) (x:Option V),K .next (fnu wv width rv H.length f' x) (H++[.lst (Be (done++(Bm width ws f cur).map A8))]))→
  Kg (fun ν H K=>exs tb (Ph k) Fb ν H K) (fun ν H K=>exs tb (Ph k) .nil ν H K) 5 (Be ws) (fnu wv width rv H.length (f:Int) x) (H++[.lst (Be (done++[A8 cur]))]) K
 | [],done,cur,f,x,K,_,_,_,h=>h (f:Int) x
 | w::ws,done,cur,f,x,K,hd,hw,hz,h=>by
  have w1:=hw w ms9
  have hw':∀ z∈ws,z.length≤100:=fun z hm=>hw z (mm9 _ hm)
  simp only [List.length_cons] at hd hz
  have hT:∀ t:Bool,decide (width<f+1+w.length)=t→decide ((f:Int)+1+(w.length:Int)>(width:Int))=t:=fun t e=>by
   rw [←e]
   by_cases q:width<f+1+w.length
   ·rw [dq9 q];exact dq9 (by lia)
   ·rw [decide_eq_false q];exact decide_eq_false (by lia)
  have sz:decide (w.length≤Ah)=true:=dq9 (Nat.le_trans w1 (by decide))
  by_cases q:width<f+1+w.length
  ·have hf:Bm width (w::ws) f cur=cur::Bm width ws (1+w.length) [w]:=by
    show (if _ then _ else _)=_
    rw [if_pos q]
   rw [hf] at h
   refine C6 (T:=decide ((f:Int)+1+(w.length:Int)>(width:Int))) true (hT true (dq9 q)) (fun zA h=>⟨sz,h⟩) ?_
   refine D7 (H1:=H++[Ob.lst (Be ((done++[A8 cur])++[A8 []]))]) (fun k' h'=>?_) ?_
   ·refine Kt (v:=.str "") (A0 H _) (by rw [A5];simp;lia) (fun zA h=>h) (fun zA h=>h) ?_
    rw [Bx,←Du];exact h'
   refine Aq (v:=.int ((0:Nat):Int)) (H1:=H++[Ob.lst (Be ((done++[A8 cur])++[A8 []]))]) (fun zA h=>h) ?_
   dsimp only [List.set]
   refine Xj (done++[A8 cur]) [] 0 w _ (by simp;lia) (by show (("" : Str)).length+_≤_;rw [Ga];lia) ?_
   have rl:(A8 ([]++[w])).length≤101:=by rw [Ij,G9,G9,Br];show (("" : Str)).length+_≤_;rw [Ga];lia
   refine M6 ws (done++[A8 cur]) ([]++[w]) (0+1+w.length) _ K (by simp;lia) hw' (by lia) fun f' x'=>?_
   have p:=h f' x'
   rw [List.map_cons] at p
   rw [List.append_assoc,show 0+1+w.length=1+w.length by lia]
   exact p
  ·have hf:Bm width (w::ws) f cur=Bm width ws (f+1+w.length) (cur++[w]):=by
    show (if _ then _ else _)=_
    rw [if_neg q]
   rw [hf] at h
   refine C6 (T:=decide ((f:Int)+1+(w.length:Int)>(width:Int))) false (hT false (decide_eq_false q)) (fun zA h=>⟨sz,h⟩) ?_
   refine Xj done cur f w _ (by lia) (by lia) ?_
   have rl:(A8 (cur++[w])).length≤(A8 cur).length+101:=by rw [Ij,G9,G9,Br];lia
   exact M6 ws done (cur++[w]) (f+1+w.length) _ K (by lia) hw' (by lia) h
end
theorem S8(cur:List Str)(w:Str)(h:w.length≤100):(A8 (cur++[w])).length≤(A8 cur).length+101:=by rw [Ij,G9,G9,Br];lia
theorem Ik(width:Nat):∀ (ws:List Str) (f:Nat) (cur:List Str),(∀ w∈ws,w.length≤100)→(((Bm width ws f cur).map A8).map (·.length)).sum≤(A8 cur).length+101*ws.length∧(Bm width ws f cur).length≤ws.length+1
 | [],f,cur,_=>⟨by show (A8 cur).length+0≤_;lia,Nat.le_refl _⟩
 | w::ws,f,cur,h=>by
  have w1:=h w ms9
  have h':∀ z∈ws,z.length≤100:=fun z hm=>h z (mm9 _ hm)
  have r0:(A8 []).length=0:=Ga
  by_cases q:width<f+1+w.length
  ·have e:Bm width (w::ws) f cur=cur::Bm width ws (1+w.length) [w]:=by show (if _ then _ else _)=_;rw [if_pos q]
   have ih:=Ik width ws (1+w.length) [w] h'
   have l:=S8 [] w w1
   rw [e,List.map_cons,List.map_cons,List.sum_cons,List.length_cons,List.length_cons]
   have l':(A8 [w]).length≤101:=by
    have:(A8 ([]++[w])).length≤0+101:=by rw [←r0];exact l
    simpa using this
   lia
  ·have e:Bm width (w::ws) f cur=Bm width ws (f+1+w.length) (cur++[w]):=by show (if _ then _ else _)=_;rw [if_neg q]
   have ih:=Ik width ws (f+1+w.length) (cur++[w]) h'
   have l:=S8 cur w w1
   rw [e,List.length_cons]
   lia
theorem o4:A8 [] = "" :=by unfold A8;rw [List.foldl_nil]
theorem o5:Be ([]++[A8 []])=[V.str ""]:=by rw [List.nil_append,o4];unfold Be;rw [List.map_cons,List.map_nil]
theorem S9(k width room:Nat)(ws:List Str)(hl:ws.length≤100)(hw:∀ w∈ws,w.length≤100)(H:Hp)(K:KE)(h:K (.str (Ce "\n" ((Bm width ws room []).map A8))) H):Ph (k+1) 273 [.lst (Be ws),.int (width:Int),.int (room:Int)] H K:=by
 have r0:(A8 []).length=0:=Ga
 refine Ff (fn:=Cq) rfl rfl rfl [some (.lst (Be ws)),some (.int (width:Int)),some (.int (room:Int)),none,none,none] rfl ?_
 refine Aq (v:=.loc H.length) (H1:=H++[Ob.lst (Be ([]++[A8 []]))]) (fun zA h=>⟨rfl,by rw [o5] at h;exact h⟩) ?_
 dsimp only [List.set]
 refine Aq (v:=.int (room:Int)) (H1:=H++[Ob.lst (Be ([]++[A8 []]))]) (fun zA h=>h) ?_
 dsimp only [List.set]
 refine Py (l:=Be ws) (fun zA h=>⟨dq9 (by rw [A5];exact Nat.le_trans hl (by decide)),h⟩) ?_
 refine M6 ws [] [] room none _ (by simp;lia) hw (by rw [r0];lia) fun f' x=>?_
 refine x02 (Ik width ws room [] hw) fun b1 b2=>?_
 rw [r0] at b1
 show exs tb (Ph k) (.cons (.ret (.scall .join (.str "\n") (.cons (.var 3) .nil))) .nil) (fnu (.lst (Be ws)) width (.int (room:Int)) H.length f' x) (H++[Ob.lst (Be ([]++(Bm width ws room []).map A8))]) fun fl ν H1=>Aae tb none fl ν H1 fun v H'=>T8 H v H' K
 refine Dd (v:=.str (Ce "\n" ((Bm width ws room []).map A8))) (H1:=H++[Ob.lst (Be ([]++(Bm width ws room []).map A8))]) (fun k' h'=>⟨rfl,D5 (A0 H _) (Ar (Gl _) ⟨dq9 ?_,by decide +kernel,h'⟩)⟩) (Ext.cut .one rfl h)
 rw [List.nil_append,List.length_map]
 have:Ah=1048576:=rfl
 lia
theorem D8{H:Hp}{n:Nat}{C:Addr}{at_:List (Nat×V)}{it:Option (List V)}{k:Addr→List (Nat×V)→Option (List V)→Prop}(e:H[n]?=some (.inst C at_ it))(h:k C at_ it):Nk H n k:=by unfold Nk;rw [e];exact h
noncomputable abbrev Ha(size:Int)(l:List V):Ob:=.inst 192 [(6,.int size)] (some l)
section
variable {Φ:Orc} {ν:Nu} {H H1:Hp} {k:KE} {o e:ME} {C:Addr} {at_:List (Nat×V)} {it:Option (List V)} {n:Nat} {v:V}
theorem Oy{j:Nat}(hn:H[n]?=some (.inst C at_ it))(hC:tb.isCls C=true)(ha:at_.lookup j=some v)(ho:∀ k:KE,k (.loc n) H→ev tb Φ o ν H k)(h:k v H):ev tb Φ (.attr o j) ν H k:=
 ho _ (D8 hn ⟨hC,Ar ha h⟩)
theorem Db{m:Nat}{f:Addr}{es:MEs}{vs:List V}(hn:H[n]?=some (.inst C at_ it))(hm:tb.meths C m=some f)(ho:∀ k:KE,k (.loc n) H→ev tb Φ o ν H k)(he:∀ k:KL,k vs H→evs tb Φ es ν H k)(h:Φ f (.loc n::vs) H k):ev tb Φ (.meth m o es) ν H k:=
 ho _ (D8 hn (Ar hm (he _ h)))
theorem y5{m:Nat}{f:Addr}{vs:List V}(hn:H[n]?=some (.inst C at_ it))(hm:tb.meths C m=some f)(ho:∀ k:KE,k (.loc n) H→ev tb Φ o ν H k)(he:∀ k:KE,k (.tup vs) H→ev tb Φ e ν H k)(hz:decide (vs.length≤1000)=true)(h:Φ f (.loc n::vs) H k):ev tb Φ (.methS m o e) ν H k:=
 ho _ (D8 hn (Ar hm (he _ ⟨hz,h⟩)))
theorem im{l:List V}(hn:H[n]?=some (.inst C at_ (some l)))(hC:tb.isList C=true)(hl:l.length≤1000)(ho:∀ k:KE,k (.loc n) H→ev tb Φ o ν H k)(he:∀ k:KE,k v H→ev tb Φ e ν H k)(hk:k .none (H.set n (.inst C at_ (some (l++[v]))))):ev tb Φ (.scall .append o (.cons e .nil)) ν H k:=by
 refine ho _ ⟨?_,he _ ?_⟩
 ·show (match H[n]? with|some (.lst _)=>true|some (.inst C _ (some _))=>tb.isList C|_=>false)=true
  rw [hn];exact hC
 ·show (match H[n]? with
   | some (.lst l)=>gd (decide (l.length≤1000)) (k .none (H.set n (.lst (l++[v]))))
   | some (.inst C at_ (some l))=>gd (decide (l.length≤1000)) (gd (tb.isList C) (k .none (H.set n (.inst C at_ (some (l++[v]))))))
   | _=>False)
  rw [hn]
  exact ⟨dq9 hl,hC,hk⟩
theorem Vk{l:List V}{i:ME}{z:Int}{j:Nat}(hn:H[n]?=some (.inst C at_ (some l)))(hC:tb.isList C=true)(hl:l.length≤1000)(ho:∀ k:KE,k (.loc n) H→ev tb Φ o ν H k)(hi:∀ k:KE,k (.int z) H→ev tb Φ i ν H k)(hz:Ir l.length z=some j)(hj:l[j]?=some v)(h:k v H):ev tb Φ (.sub o i) ν H k:=by
 refine ho _ (hi _ ?_)
 show O5 tb (.loc n) H _
 simp only [O5,hn]
 exact ⟨hC,dq9 (Nat.le_trans hl (by decide)),Ar hz (Ar hj h)⟩
theorem Vl{l:List V}{i:ME}{z:Int}{j:Nat}(hl:l.length≤1000)(ho:∀ k:KE,k (.tup l) H→ev tb Φ o ν H k)(hi:∀ k:KE,k (.int z) H→ev tb Φ i ν H k)(hz:Ir l.length z=some j)(hj:l[j]?=some v)(h:k v H):ev tb Φ (.sub o i) ν H k:=
 ho _ (hi _ ⟨dq9 (Nat.le_trans hl (by decide)),Ar hz (Ar hj h)⟩)
theorem Aea{l:List V}{lo:ME}{a:Nat}{z:Int}(hn:H[n]?=some (.inst C at_ (some l)))(hC:tb.isList C=true)(hl:l.length≤1000)(ha:a≤l.length)(hz:z=(a:Int))(ho:∀ k:KE,k (.loc n) H→ev tb Φ o ν H k)(hi:∀ k:KE,k (.int z) H→ev tb Φ lo ν H k)(h:k (.lst (l.drop a)) H):ev tb Φ (.slc o lo .none false) ν H k:=by
 subst hz
 refine ho _ (hi _ ?_)
 show O5 tb (.loc n) H _
 simp only [O5,hn]
 refine ⟨hC,dq9 (Nat.le_trans hl (by decide)),?_⟩
 show k (.lst (Do (clipAt l.length (a:Int)) l.length l)) H
 rw [Ks ha]
 have e:Do a l.length l=l.drop a:=List.take_of_length_le (by simp)
 rw [e];exact h
end
section
variable {Φ:Orc} {ν:Nu} {H:Hp} {K:KS} {o e:ME} {ss:MSs} {C:Addr} {at_:List (Nat×V)} {it:Option (List V)} {n:Nat} {v:V}
theorem Gb{j:Nat}(he:∀ k:KE,k v H→ev tb Φ e ν H k)(ho:∀ k:KE,k (.loc n) H→ev tb Φ o ν H k)(hn:H[n]?=some (.inst C at_ it))(h1:decide (j<7)=true)(h2:decide (at_.length<10)=true)(h3:tb.isCls C=true)(h4:(!V6 v)=true)(h:exs tb Φ ss ν (H.set n (.inst C (Fh at_ j v) it)) K):exs tb Φ (.cons (.aattr o j e) ss) ν H K:=
 he _ (ho _ (D8 hn ⟨h1,h2,h3,h4,h⟩))
theorem io{l r:List V}{lo:ME}{b:V}{a:Nat}(he:∀ k:KE,k (.lst r) H→ev tb Φ e ν H k)(ho:∀ k:KE,k (.loc n) H→ev tb Φ o ν H k)(hlo:∀ k:KE,k b H→ev tb Φ lo ν H k)(hn:H[n]?=some (.inst C at_ (some l)))(hC:tb.isList C=true)(hl:l.length≤1000)(hr:r.length≤1000)
  (hb:∀ k:Nat→Prop,k a→K1 l.length 0 b k) (h:exs tb Φ ss ν (H.set n (.inst C at_ (some (l.take a++r)))) K):exs tb Φ (.cons (.aslc o lo e) ss) ν H K:=by
 refine he _ (ho _ (hlo _ ?_))
 show match H[n]? with
 | some (.inst C at_ (some l))=>gd (decide (l.length≤1000)) (gd (decide (r.length≤1000)) (gd (tb.isList C) (K1 l.length 0 b fun a=>exs tb Φ ss ν (H.set n (.inst C at_ (some (l.take a++r)))) K)))
 | _=>False
 rw [hn]
 exact ⟨dq9 hl,dq9 hr,hC,hb _ h⟩
end
section
variable {k n:Nat} {at_:List (Nat×V)} {l:List V} {H:Hp} {K:KE} {z:Int}
theorem P9(a b:V)(hn:H[n]?=some (.inst 192 at_ (some l)))(hl:l.length≤1000)(h:K .none (H.set n (.inst 192 at_ (some (l++[.tup [a,b]]))))):Ph (k+1) 136 [.loc n,a,b] H K:=by
 refine Ff (fn:=Mb) rfl rfl rfl [some (.loc n),some a,some b] rfl ?_
 exact D7 (H1:=H.set n (.inst 192 at_ (some (l++[.tup [a,b]])))) (fun k' h'=>im (v:=.tup [a,b]) hn rfl hl (fun zA h=>h) (fun zA h=>⟨rfl,h⟩) h') (.inl h)
theorem Ku(hn:H[n]?=some (.inst 192 at_ (some l)))(hl:l.length≤1000)(h:K (.int l.length) H):Ph (k+1) 189 [.loc n] H K:=by
 refine Ff (fn:=Cn) rfl rfl rfl [some (.loc n)] rfl ?_
 show Ni (.loc n) fun n=>match H[n]? with
 | some (.inst C at_ (some l))=>gd (tb.isList C) (gd (decide (l.length≤1000)) (T8 H (.int l.length) H K))
 | _=>False
 simp only [Ni,hn]
 exact ⟨rfl,dq9 hl,.inl h⟩
theorem ip(hn:H[n]?=some (.inst 192 [] (some [])))(h:K .none (H.set n (Ha z []))):Ph (k+1) 129 [.loc n,.int z] H K:=by
 have hlt:n<H.length:=(List.getElem?_eq_some_iff.mp hn).1
 have hg:(H.set n (Ha z []))[n]?=some (Ha z []):=List.getElem?_set_self hlt
 refine Ff (fn:=I7) rfl rfl rfl [some (.loc n),some (.int z)] rfl ?_
 refine Gb (v:=.int z) (fun zA h=>h) (fun zA h=>h) hn rfl rfl rfl rfl ?_
 show Ni (.loc n) fun n'=>match (H.set n (Ha z []))[n']? with
 | some (.inst C at_ (some l))=>gd (tb.isList C) (gd (decide (l.length≤1000)) (gd l.isEmpty (T8 H .none (H.set n (Ha z [])) K)))
 | _=>False
 simp only [Ni,hg]
 exact ⟨rfl,rfl,rfl,.inl h⟩
theorem Zm(hn:H[n]?=some (.inst 192 [] (some [])))(h:K .none (H.set n (Ha 0 []))):Ph (k+1) 129 [.loc n] H K:=by
 have hlt:n<H.length:=(List.getElem?_eq_some_iff.mp hn).1
 have hg:(H.set n (Ha 0 []))[n]?=some (Ha 0 []):=List.getElem?_set_self hlt
 refine Ff (fn:=I7) rfl rfl rfl [some (.loc n),some (.int 0)] rfl ?_
 refine Gb (v:=.int 0) (fun zA h=>h) (fun zA h=>h) hn rfl rfl rfl rfl ?_
 show Ni (.loc n) fun n'=>match (H.set n (Ha 0 []))[n']? with
 | some (.inst C at_ (some l))=>gd (tb.isList C) (gd (decide (l.length≤1000)) (gd l.isEmpty (T8 H .none (H.set n (Ha 0 [])) K)))
 | _=>False
 simp only [Ni,hg]
 exact ⟨rfl,rfl,rfl,.inl h⟩
theorem s8(v:V)(hn:H[n]?=some (.inst 192 at_ (some (l++[v]))))(hl:l.length<1000)(h:K v (H.set n (.inst 192 at_ (some l)))):Ph (k+2) 152 [.loc n] H K:=by
 have e1:(l++[v]).length=l.length+1:=by simp
 refine Ff (fn:=Rp) rfl rfl rfl [some (.loc n)] rfl ?_
 refine C6 (T:=(((l++[v]).length:Int)==0)) false ?_ (fun k' h'=>Db (vs:=[]) hn rfl (fun zA h=>h) (fun zA h=>h) (Ku hn (by lia) h')) ?_
 ·rw [e1];exact beq_eq_false_iff_ne.mpr (by lia)
 show Ni (.loc n) fun n'=>match H[n']? with
 | some (.inst C at_ (some l))=>gd (tb.isList C) (gd (decide (l.length≤1000)) (opt l.getLast? fun x=>T8 H x (H.set n' (.inst C at_ (some l.dropLast))) K))
 | _=>False
 simp only [Ni,hn]
 refine ⟨rfl,dq9 (by lia),Ar (a:=v) (by simp) (.inl ?_)⟩
 rw [List.dropLast_concat];exact h
theorem Vm(i:Nat)(hi:i≤l.length)(hn:H[n]?=some (.inst 192 at_ (some l)))(hl:l.length≤1000)(h:K (.lst (l.drop i)) (H.set n (.inst 192 at_ (some (l.take i))))):Ph (k+1) 144 [.loc n,.int (i:Int)] H K:=by
 refine Ff (fn:=Dq) rfl rfl rfl [some (.loc n),some (.int (i:Int)),none] rfl ?_
 refine Aq (v:=.lst (l.drop i)) (H1:=H) (fun k' h'=>Aea hn rfl hl hi rfl (fun zA h=>h) (fun zA h=>h) h') ?_
 dsimp only [List.set]
 refine io (r:=[]) (b:=.int (i:Int)) (a:=i) (fun zA h=>⟨rfl,h⟩) (fun zA h=>h) (fun zA h=>h) hn rfl hl (by simp) (fun k h=>?_) ?_
 ·show k (clipAt l.length (i:Int))
  rw [Ks hi];exact h
 rw [List.append_nil]
 exact Dd (v:=.lst (l.drop i)) (H1:=H.set n (.inst 192 at_ (some (l.take i)))) (fun zA h=>h) (.inl h)
theorem o6(r:List V)(hr:r.length≤1000)(hn:H[n]?=some (Ha z l))(hl:l.length≤1000)(h:K .none (H.set n (Ha 0 r))):Ph (k+1) 174 [.loc n,.lst r] H K:=by
 have hlt:n<H.length:=(List.getElem?_eq_some_iff.mp hn).1
 refine Ff (fn:=Gh) rfl rfl rfl [some (.loc n),some (.lst r)] rfl ?_
 refine C6 (T:=false) false rfl (fun zA h=>h) ?_
 refine io (r:=r) (b:=.none) (a:=0) (fun zA h=>h) (fun zA h=>h) (fun zA h=>h) hn rfl hl hr (fun k h=>h) ?_
 rw [List.take_zero,List.nil_append]
 refine Gb (v:=.int 0) (fun zA h=>h) (fun zA h=>h) (List.getElem?_set_self hlt) rfl rfl rfl rfl ?_
 rw [List.set_set]
 exact .inl h
theorem iq(hn:H[n]?=some (Ha z l))(hl:l.length≤1000)(h:K .none (H.set n (Ha 0 []))):Ph (k+1) 174 [.loc n] H K:=by
 have hlt:n<H.length:=(List.getElem?_eq_some_iff.mp hn).1
 refine Ff (fn:=Gh) rfl rfl rfl [some (.loc n),some .none] rfl ?_
 refine C6 (T:=true) true rfl (fun zA h=>h) ?_
 refine Aq (v:=.lst []) (H1:=H) (fun zA h=>⟨rfl,h⟩) ?_
 dsimp only [List.set]
 refine io (r:=[]) (b:=.none) (a:=0) (fun zA h=>h) (fun zA h=>h) (fun zA h=>h) hn rfl hl (by simp) (fun k h=>h) ?_
 rw [List.take_zero,List.nil_append]
 refine Gb (v:=.int 0) (fun zA h=>h) (fun zA h=>h) (List.getElem?_set_self hlt) rfl rfl rfl rfl ?_
 rw [List.set_set]
 exact .inl h
end
noncomputable def part(w:Str):V:=.tup [.str " ",.str w]
noncomputable def parts(ws:List Str):List V:=ws.map part
theorem By(ws:List Str):(parts ws).length=ws.length:=by unfold parts;rw [List.length_map]
theorem Dn(ws:List Str)(w:Str):parts (ws++[w])=parts ws++[part w]:=by unfold parts;rw [List.map_append];rfl
theorem M7(ws:List Str)(hw:∀ w∈ws,w.length≤100):((parts ws).all fun v=>(B8 v).isSome)=true:=by
 refine List.all_eq_true.mpr fun v hv=>?_
 refine x12 (List.mem_map.mp hv) fun w hm zz2=>?_;subst zz2
 show (B8 (.tup [.str " ",.str w])).isSome=true
 have:B8 (.tup [.str " ",.str w])=some ((" " : Str),w):=if_pos ⟨by rw [Br];decide,Nat.le_trans (hw w hm) (by decide)⟩
 rw [this];rfl
noncomputable def fill(ws:List Str):Nat:=(ws.map fun w=>1+w.length).sum
theorem Ta(ws:List Str)(hw:∀ w∈ws,w.length≤100):((parts ws).map Ic).sum=(fill ws:Int):=by
 induction ws with
 | nil=>rfl
 | cons w ws ih=>
  have ih:=ih fun z hz=>hw z (mm9 _ hz)
  have e:B8 (.tup [.str " ",.str w])=some ((" " : Str),w):=if_pos ⟨by rw [Br];decide,Nat.le_trans (hw w ms9) (by decide)⟩
  have e2:Ic (part w)=1+(w.length:Int):=by
   show (match B8 (.tup [.str " ",.str w]) with|some (a,b)=>(a.length:Int)+b.length|none=>0)=_
   rw [e];show ((" " : Str).length:Int)+_=_
   rw [Br];rfl
  show ((part w::parts ws).map Ic).sum=(((w::ws).map fun w=>1+w.length).sum:Nat)
  rw [List.map_cons,List.sum_cons,List.map_cons,List.sum_cons,ih,e2]
  unfold fill
  lia
section
variable {k n:Nat} {l:List V} {H:Hp} {K:KE} {z:Int}
theorem ir(ha:(l.all fun v=>(B8 v).isSome)=true)(hl:l.length≤1000)(hn:H[n]?=some (Ha z l))(h:K (.int (z+(l.map Ic).sum)) H):Ph (k+1) 159 [.loc n] H K:=
 .inr (.inl ⟨rfl,D8 hn ⟨rfl,ha,dq9 hl,h⟩⟩)
theorem zc(ha:(l.all fun v=>(B8 v).isSome)=true)(hl:l.length≤1000)(hz:((l.map F5).map (·.length)).sum+l.length≤1048576)(hn:H[n]?=some (Ha z l))(h:K (.str (Ce "" (l.map F5))) H):Ph (k+1) 166 [.loc n] H K:=
 .inr (.inr ⟨rfl,D8 hn ⟨rfl,ha,dq9 hl,dq9 hz,h⟩⟩)
end
section
variable {k n:Nat} {l:List V} {ν:Nu} {H:Hp} {K:KE} {z m:Int} {e:ME}
theorem s9(ha:(l.all fun v=>(B8 v).isSome)=true)(hl:l.length≤1000)(hn:H[n]?=some (Ha z l))(ho:∀ k':KE,k' (.loc n) H→ev tb (Ph (k+1)) e ν H k')(hm:z+(l.map Ic).sum=m)(h0:0≤m)(h1:m<1152921504606846976)(h:K (.int m) H):ev tb (Ph (k+1)) (.bcall .len (.cons e .nil)) ν H K:=by
 refine ho _ ?_
 show (match H[n]? with
  | some (.lst l)=>gd (decide (l.length≤Ah)) (K (.int l.length) H)
  | some (.inst C _ _)=>Xx tb (Ph (k+1)) n C H fun i=>K (.int i) H
  | _=>False)
 rw [hn]
 refine ir ha hl hn ⟨rfl,?_⟩
 rw [hm]
 exact ⟨dq9 h0,dq9 (by lia),h⟩
theorem Aeb(ha:(l.all fun v=>(B8 v).isSome)=true)(hl:l.length≤1000)(hn:H[n]?=some (Ha z l))(hm:z+(l.map Ic).sum=m)(h0:0≤m)(h1:m<1152921504606846976){K:Bool→Prop}(h:K (m != 0)):Bs tb (Ph (k+1)) (.loc n) H K:=by
 show (match H[n]? with
  | some (.lst l)=>gd (decide (l.length≤Ah)) (K (!l.isEmpty))
  | some (.inst C _ _)=>Xx tb (Ph (k+1)) n C H fun i=>K (i != 0)
  | _=>False)
 rw [hn]
 refine ir ha hl hn ⟨rfl,?_⟩
 rw [hm]
 exact ⟨dq9 h0,dq9 (by lia),h⟩
theorem Aec(ha:(l.all fun v=>(B8 v).isSome)=true)(hl:l.length≤1000)(hz:((l.map F5).map (·.length)).sum+l.length≤1048576)(hn:H[n]?=some (Ha z l))(ho:∀ k':KE,k' (.loc n) H→ev tb (Ph (k+1)) e ν H k')(h:K (.str (Ce "" (l.map F5))) H):ev tb (Ph (k+1)) (.bcall .str (.cons e .nil)) ν H K:=
 ho _ (D8 hn (zc ha hl hz hn ⟨rfl,h⟩))
end
theorem Qa:∀ l:List Str,(Str.join "" l).cps.toList=(l.map fun s=>s.cps.toList).flatten
 | []=>rfl
 | [p]=>by rw [List.map_cons,List.map_nil,List.flatten_cons,List.flatten_nil,List.append_nil];rfl
 | p::q::r=>by
  rw [List.map_cons,List.flatten_cons,←Qa (q::r)]
  show (p++("" : Str)++Str.join "" (q::r)).cps.toList=_
  simp only [Str.cps_append,Array.toList_append]
  rw [show ("" : Str).cps.toList=[] from rfl,List.append_nil]
theorem Oz(w:Str)(hw:w.length≤100):(F5 (part w)).cps.toList=32::w.cps.toList:=by
 have e:B8 (.tup [.str " ",.str w])=some ((" " : Str),w):=if_pos ⟨by rw [Br];decide,Nat.le_trans hw (by decide)⟩
 have e2:F5 (part w)=Ce "" [" ",w]:=by
  show (match B8 (.tup [.str " ",.str w]) with|some (a,b)=>Ce "" [a,b]|none=> "")=_
  rw [e]
 rw [e2,Ii,Qa]
 show [32]++(w.cps.toList++[])=_
 rw [List.append_nil];rfl
theorem Gc(ws:List Str):(A8 ws).cps.toList=(ws.map fun w=>32::w.cps.toList).flatten:=by
 have g:∀ (ws:List Str) (a:Str),(ws.foldl (fun a w=>a++((" " : Str)++w)) a).cps.toList=a.cps.toList++(ws.map fun w=>32::w.cps.toList).flatten:=fun ws=>by
  induction ws with
  | nil=>intro a;simp
  | cons w ws ih=>
   intro a
   rw [List.foldl_cons,ih,List.map_cons,List.flatten_cons,←List.append_assoc]
   simp only [Str.cps_append,Array.toList_append]
   rfl
 have:=g ws ""
 unfold A8
 rw [this];rfl
theorem iu(ws:List Str)(hw:∀ w∈ws,w.length≤100):Ce "" ((parts ws).map F5)=A8 ws:=by
 apply Pz
 rw [Ii,Qa,Gc]
 unfold parts
 rw [List.map_map,List.map_map]
 congr 1
 exact List.map_congr_left fun w hm=>Oz w (hw w hm)
theorem o7(ws:List Str)(hw:∀ w∈ws,w.length≤100)(hl:ws.length≤100):(((parts ws).map F5).map (·.length)).sum+(parts ws).length≤1048576:=by
 have g:∀ ws:List Str,(∀ w∈ws,w.length≤100)→(((parts ws).map F5).map (·.length)).sum≤101*ws.length:=fun ws=>by
  induction ws with
  | nil=>intro _;exact Nat.zero_le _
  | cons w ws ih=>
   intro h
   have ih:=ih fun z hz=>h z (mm9 _ hz)
   have e:(F5 (part w)).length=1+w.length:=by
    have:=congrArg List.length (Oz w (h w ms9))
    rw [List.length_cons] at this
    show (F5 (part w)).cps.size=1+w.cps.size
    simp only [Array.length_toList] at this
    lia
   show (((part w::parts ws).map F5).map (·.length)).sum≤_
   rw [List.map_cons,List.map_cons,List.sum_cons,List.length_cons,e]
   have:=h w ms9
   lia
 have:=g ws hw
 rw [By]
 lia
theorem iv(ws:List Str)(hw:∀ w∈ws,w.length≤100):fill ws≤101*ws.length:=by
 induction ws with
 | nil=>exact Nat.zero_le _
 | cons w ws ih=>
  have ih:=ih fun z hz=>hw z (mm9 _ hz)
  have:=hw w ms9
  show ((w::ws).map fun w=>1+w.length).sum≤_
  rw [List.map_cons,List.sum_cons,List.length_cons]
  unfold fill at ih
  lia
theorem Tc(ws:List Str)(w:Str):fill (ws++[w])=fill ws+1+w.length:=by
 unfold fill;rw [List.map_append,List.sum_append]
 show _+(1+w.length+0)=_
 lia
theorem o8(ws:List Str)(w:Str)(hm:w∈ws)(ha:38∈w.cps.toList):Jq (A8 ws)=false:=by
 have h:38∈(A8 ws).cps.toList:=by
  rw [Gc]
  exact List.mem_flatten.mpr ⟨_,List.mem_map.mpr ⟨w,hm,rfl⟩,mm9 _ ha⟩
 unfold Jq Txt.isspace
 refine Bool.and_eq_false_iff.mpr (.inr ?_)
 cases e:(A8 ws).cps.all Unicode.isSpace
 ·rfl
 ·rw [Array.all_eq_true_iff_forall_mem] at e
  exact absurd (e 38 (Array.mem_toList_iff.mp h)) (by decide +kernel)
noncomputable abbrev fmA(n width:Nat):List (Nat×V):=[(0,.int (width:Int)),(1,.str " "),(2,.int 1),(3,.str " "),(4,.loc (n+1)),(5,.loc (n+2))]
noncomputable abbrev fmH(H0:Hp)(width:Nat)(lines:List Str)(z:Int)(ws:List Str):Hp:=H0++[.inst 108 (fmA H0.length width) none,.lst (Be lines),Ha z (parts ws)]
section
variable {H0:Hp} {width:Nat} {lines:List Str} {z:Int} {ws:List Str}
theorem tc:(fmH H0 width lines z ws)[H0.length]?=some (.inst 108 (fmA H0.length width) none):=by
 unfold fmH;rw [List.getElem?_append_right (Nat.le_refl _),Nat.sub_self];rfl
theorem Afy:(fmH H0 width lines z ws)[H0.length+1]?=some (.lst (Be lines)):=by
 unfold fmH;rw [List.getElem?_append_right (Nat.le_add_right _ 1),Nat.add_sub_cancel_left];rfl
theorem M8:(fmH H0 width lines z ws)[H0.length+2]?=some (Ha z (parts ws)):=by
 unfold fmH;rw [List.getElem?_append_right (Nat.le_add_right _ _),Nat.add_sub_cancel_left];rfl
theorem Aed(l:List Str):(fmH H0 width lines z ws).set (H0.length+1) (.lst (Be l))=fmH H0 width l z ws:=by
 unfold fmH;rw [List.set_append_right _ _ (Nat.le_add_right _ 1),Nat.add_sub_cancel_left];rfl
theorem Vn(y:Int)(l:List Str):(fmH H0 width lines z ws).set (H0.length+2) (Ha y (parts l))=fmH H0 width lines y l:=by
 unfold fmH;rw [List.set_append_right _ _ (Nat.le_add_right _ _),Nat.add_sub_cancel_left];rfl
variable {k:Nat} {ν:Nu} {K:KE} {e:ME}
theorem Hb(hs:ν[0]?=some (some (.loc H0.length))):∀ K:KE,K (.loc (H0.length+2)) (fmH H0 width lines z ws)→ev tb (Ph k) (.attr (.var 0) 5) ν (fmH H0 width lines z ws) K:=fun K h=>
 Oy tc rfl rfl (fun k h=>by show Iq ν 0 _;unfold Iq;rw [hs];exact h) h
theorem Vo(hs:ν[0]?=some (some (.loc H0.length))):∀ K:KE,K (.loc (H0.length+1)) (fmH H0 width lines z ws)→ev tb (Ph k) (.attr (.var 0) 4) ν (fmH H0 width lines z ws) K:=fun K h=>
 Oy tc rfl rfl (fun k h=>by show Iq ν 0 _;unfold Iq;rw [hs];exact h) h
theorem Xk(hs:ν[0]?=some (some (.loc H0.length))):∀ K:KE,K (.int (width:Int)) (fmH H0 width lines z ws)→ev tb (Ph k) (.attr (.var 0) 0) ν (fmH H0 width lines z ws) K:=fun K h=>
 Oy tc rfl rfl (fun k h=>by show Iq ν 0 _;unfold Iq;rw [hs];exact h) h
theorem zd(hs:ν[0]?=some (some (.loc H0.length))):∀ K:KE,K (.str " ") (fmH H0 width lines z ws)→ev tb (Ph k) (.attr (.var 0) 3) ν (fmH H0 width lines z ws) K:=fun K h=>
 Oy tc rfl rfl (fun k h=>by show Iq ν 0 _;unfold Iq;rw [hs];exact h) h
end
theorem Afz{Φ:Orc}{ν:Nu}{H:Hp}{k:KE}{e:ME}{v:V}{b:Bool}(h1:∀ k:KE,k v H→ev tb Φ e ν H k)(ht:∀ K:Bool→Prop,K b→Bs tb Φ v H K)(h:k (.bool (!b)) H):ev tb Φ (.not e) ν H k:=h1 _ (ht _ h)
noncomputable def Bz(ws:List Str):Prop:=ws.length≤100∧∀ w∈ws,w.length≤100∧38∈w.cps.toList
theorem Bz.short{ws:List Str}(h:Bz ws):∀ w∈ws,w.length≤100:=fun w hm=>(h.2 w hm).1
section
variable {H0:Hp} {width:Nat} {lines:List Str} {z:Nat} {ws:List Str} {k:Nat} {ν:Nu} {K:KE} {e:ME}
theorem td(hw:Bz ws):(parts ws).length≤1000:=by rw [By];exact Nat.le_trans hw.1 (by decide)
theorem iw(hw:Bz ws)(hz:z≤1000)(ho:∀ k':KE,k' (.loc (H0.length+2)) (fmH H0 width lines z ws)→ev tb (Ph (k+1)) e ν (fmH H0 width lines z ws) k')(h:K (.int ((z+fill ws:Nat):Int)) (fmH H0 width lines z ws)):ev tb (Ph (k+1)) (.bcall .len (.cons e .nil)) ν (fmH H0 width lines z ws) K:=by
 have:=iv ws hw.short
 have:=hw.1
 exact s9 (M7 ws hw.short) (td hw) M8 ho (by rw [Ta ws hw.short];lia) (by lia) (by lia) h
theorem ix(hw:Bz ws)(ho:∀ k':KE,k' (.loc (H0.length+2)) (fmH H0 width lines z ws)→ev tb (Ph (k+1)) e ν (fmH H0 width lines z ws) k')(h:K (.str (A8 ws)) (fmH H0 width lines z ws)):ev tb (Ph (k+1)) (.bcall .str (.cons e .nil)) ν (fmH H0 width lines z ws) K:=by
 refine Aec (M7 ws hw.short) (td hw) (o7 ws hw.short hw.1) M8 ho ?_
 rw [iu ws hw.short];exact h
theorem iy(hw:Bz ws)(hne:ws≠[])(hz:z≤1000)(h:K (.bool false) (fmH H0 width lines z ws)):Ph (k+2) 181 [.loc (H0.length+2)] (fmH H0 width lines z ws) K:=by
 have:=iv ws hw.short
 have:=hw.1
 have hf:0<fill ws:=by
  cases ws with
  | nil=>exact absurd rfl hne
  | cons w ws=>show 0<((w::ws).map fun w=>1+w.length).sum;rw [List.map_cons,List.sum_cons];lia
 refine Ff (fn:=Da) rfl rfl rfl [some (.loc (H0.length+2))] rfl ?_
 refine Dd (v:=.bool false) (H1:=fmH H0 width lines z ws) (fun k' h'=>?_) (.inl h)
 by_cases e:z=0
 ·refine Jd (fun k h=>Oy M8 rfl rfl (fun zA h=>h) (kb (T:=((z:Int)==0)) (beq_iff_eq.mpr (by lia)) h)) ?_
  refine nz (fun k h=>?_) ?_
  ·refine Afz (b:=((z+fill ws:Nat):Int) != 0) (fun zA h=>h) (fun K h=>Aeb (z:=(z:Int)) (m:=((z+fill ws:Nat):Int)) (M7 ws hw.short) (td hw) M8 (by rw [Ta ws hw.short];lia) (by lia) (by lia) h) ?_
   rw [show (((z+fill ws:Nat):Int) != 0)=true from bne_iff_ne.mpr (by lia)]
   exact h
  ·obtain ⟨w,hm⟩:∃ w,w∈ws:=by
    cases ws with
    | nil=>exact absurd rfl hne
    | cons w ws=>exact ⟨w,ms9⟩
   refine ix hw (fun zA h=>h) ⟨rfl,rfl,?_⟩
   rw [o8 ws w hm (hw.2 w hm).2];exact h'
 ·exact J9 (fun k h=>Oy M8 rfl rfl (fun zA h=>h) (kb (T:=((z:Int)==0)) (beq_eq_false_iff_ne.mpr (by lia)) h)) h'
end
section
variable {H0:Hp} {width:Nat} {lines:List Str} {z:Nat} {ws:List Str} {k:Nat} {ν:Nu} {K:KE} {e:ME}
theorem Zn(w:Str)(hw:Bz (ws++[w]))(hz:z≤1000)(hl:lines.length≤500)(h:K .none (fmH H0 width (lines++[A8 (ws++[w])]) 0 [])):Ph (k+3) 70 [.loc H0.length] (fmH H0 width lines z (ws++[w])) K:=by
 have l1:=hw.1
 rw [List.length_append] at l1
 have wl:=hw.2 w (by simp)
 have g2:(fmH H0 width lines z (ws++[w]))[H0.length+2]?=some (Ha z (parts ws++[part w])):=by rw [M8,Dn]
 refine Ff (fn:=Ek) rfl rfl rfl [some (.loc H0.length),none] rfl ?_
 refine Aq (v:=part w) (H1:=fmH H0 width lines z ws) (fun k' h'=>Db (vs:=[]) M8 rfl (Hb rfl) (fun zA h=>h) (s8 (part w) g2 (by rw [By];lia) (by rw [Vn];exact h'))) ?_
 dsimp only [List.set]
 have hne:(w==("" : Str))=false:=by
  refine beq_eq_false_iff_ne.mpr fun e=>?_
  rw [e] at wl
  exact absurd wl.2 (by decide)
 have hc:(([" ",w]:List Str) != ([" ",""]:List Str))=true:=bne_iff_ne.mpr fun e=>by
  have:=(List.cons.inj (List.cons.inj e).2).1
  rw [this,beq_self_eq_true] at hne
  exact absurd hne (by decide)
 refine C6 (T:=true) true rfl (fun k' h'=>⟨rfl,rfl,kb (k:=k') hc h'⟩) ?_
 refine D7 (H1:=fmH H0 width lines z (ws++[w])) (fun k' h'=>y5 (vs:=[.str " ",.str w]) M8 rfl (Hb rfl) (fun zA h=>h) rfl (P9 (l:=parts ws) (.str " ") (.str w) M8 (by rw [By];lia) ?_)) ?_
 ·show k' .none ((fmH H0 width lines z ws).set (H0.length+2) (Ha z (parts ws++[part w])))
  rw [←Dn,Vn];exact h'
 have fp:=Tc ws w
 refine C6 (T:=decide (((z+fill (ws++[w]):Nat):Int)>0)) true (dq9 (by lia)) (fun k' h'=>iw hw hz (Hb rfl) h') ?_
 refine C6 (T:=false) false rfl (fun k' h'=>J9 (fun k h=>Db (vs:=[]) M8 rfl (Hb rfl) (fun zA h=>h) (iy hw (by simp) hz h)) h') ?_
 refine D7 (H1:=fmH H0 width (lines++[A8 (ws++[w])]) z (ws++[w])) (fun k' h'=>Kt (v:=.str (A8 (ws++[w]))) (l:=Be lines) Afy (by rw [A5];lia) (Vo rfl) (fun k h=>ix hw (Hb rfl) h) ?_) ?_
 ·rw [←Du,Aed];exact h'
 refine D7 (H1:=fmH H0 width (lines++[A8 (ws++[w])]) 0 []) (fun k' h'=>Db (vs:=[]) M8 rfl (Hb rfl) (fun zA h=>h) (iq M8 (td hw) ?_)) (.inl h)
 exact (Vn (H0:=H0) (width:=width) (lines:=lines++[A8 (ws++[w])]) (z:=z) (ws:=ws++[w]) 0 [])▸h'
end
theorem o9:Os 102 (fun n=>decide (n=0)||((Zw (n:Int) 0 (-1)).head?==some (n:Int)&&Builtin.Range.small (n:Int) 0 (-1)))=true:=by decide +kernel
theorem Vp:It " " = [V.str " "]:=rfl
theorem Vq:Jq " " = true:=by decide +kernel
theorem pc:(" " : Str).cps[0]?=some 32:=by decide +kernel
theorem Af0{Φ:Orc}{e:ME}{ν:Nu}{H:Hp}{K:KL}(h:ev tb Φ e ν H fun v H1=>Z4 v fun l=>K l H1):evI tb Φ (.val e) ν H K:=h
section
variable {H0:Hp} {width:Nat} {lines:List Str} {z:Nat} {ws:List Str} {k:Nat} {K:KE}
noncomputable abbrev Af1(H0:Hp)(w:Str)(f c i p r:Option V):Nu:=[some (.loc H0.length),f,some (.str w),c,i,p,none,r]
theorem Zo(w:Str)(hw:Bz (ws++[w]))(hz:z≤1000)(hf:z+fill (ws++[w])≤width)(h:K .none (fmH H0 width lines z (ws++[w]))):Ph (k+2) 105 [.loc H0.length,.str " ",.str w] (fmH H0 width lines z ws) K:=by
 have l1:=hw.1
 rw [List.length_append] at l1
 refine Ff (fn:=Bh) rfl rfl rfl (Af1 H0 w (some (.str " ")) none none none none) rfl ?_
 refine D7 (H1:=fmH H0 width lines z (ws++[w])) (fun k' h'=>Db (vs:=[.str " ",.str w]) M8 rfl (Hb rfl) (fun zA h=>h) (P9 (l:=parts ws) (.str " ") (.str w) M8 (by rw [By];lia) ?_)) ?_
 ·show k' .none ((fmH H0 width lines z ws).set (H0.length+2) (Ha z (parts ws++[part w])))
  rw [←Dn,Vn];exact h'
 refine C6 (T:=decide (((z+fill (ws++[w]):Nat):Int)>(width:Int))) false (decide_eq_false (by lia)) (fun k' h'=>iw hw hz (Hb rfl) (Xk rfl _ h')) ?_
 exact .inl h
theorem Zq(w:Str)(hne:ws≠[])(hw:Bz (ws++[w]))(hz:z≤1000)(hl:lines.length≤500)(hf:width<z+fill (ws++[w]))(h:K .none (fmH H0 width (lines++[A8 ws]) 0 [w])):Ph (k+2) 105 [.loc H0.length,.str " ",.str w] (fmH H0 width lines z ws) K:=by
 have l1:=hw.1
 rw [List.length_append] at l1
 have l0:0<ws.length:=List.length_pos_iff.mpr hne
 have hws:Bz ws:=⟨by lia,fun v hv=>hw.2 v (List.mem_append_left _ hv)⟩
 have pl:(parts (ws++[w])).length=ws.length+1:=by rw [By,List.length_append];rfl
 have pg:(parts (ws++[w]))[ws.length]?=some (part w):=by rw [Dn,List.getElem?_append_right (by rw [By];exact Nat.le_refl _),By,Nat.sub_self];rfl
 refine Ff (fn:=Bh) rfl rfl rfl (Af1 H0 w (some (.str " ")) none none none none) rfl ?_
 refine D7 (H1:=fmH H0 width lines z (ws++[w])) (fun k' h'=>Db (vs:=[.str " ",.str w]) M8 rfl (Hb rfl) (fun zA h=>h) (P9 (l:=parts ws) (.str " ") (.str w) M8 (by rw [By];lia) ?_)) ?_
 ·show k' .none ((fmH H0 width lines z ws).set (H0.length+2) (Ha z (parts ws++[part w])))
  rw [←Dn,Vn];exact h'
 refine C6 (T:=decide (((z+fill (ws++[w]):Nat):Int)>(width:Int))) true (dq9 (by lia)) (fun k' h'=>iw hw hz (Hb rfl) (Xk rfl _ h')) ?_
 have q:=Ax o9 (show ws.length<102 by lia)
 rw [decide_eq_false (by lia),Bool.false_or,Bool.and_eq_true] at q
 obtain ⟨r,hr⟩:∃ r,Zw (ws.length:Int) 0 (-1)=(ws.length:Int)::r:=by
  have q1:=eq_of_beq q.1
  cases e:Zw (ws.length:Int) 0 (-1) with
  | nil=>rw [e] at q1;cases q1
  | cons a r=>rw [e] at q1;exact ⟨r,by rw [Option.some.inj q1]⟩
 refine Py (l:=[V.str " "]) (fun k' h'=>Af0 (zd rfl _ (by rw [←Vp] at h';exact h'))) ?_
 refine Py (l:=V.int (ws.length:Int)::r.map V.int) (fun k' h'=>?_) ?_
 ·refine Db (vs:=[]) (n:=H0.length+2) M8 rfl (Hb rfl) (fun zA h=>h) (Ku M8 (td hw) ?_)
  show Aad (((parts (ws++[w])).length:Int)-1) 0 (-1) fun l=>k' l _
  rw [pl,show (((ws.length+1:Nat):Int)-1)=(ws.length:Int) by lia]
  refine ⟨P8 (by lia),rfl,rfl,rfl,q.2,?_⟩
  rw [hr];exact h'
 -- the last part's blank
 refine C6 (T:=Jq " ") true Vq (fun zA h=>⟨rfl,rfl,h⟩) ?_
 refine Aq (v:=.str " ") (H1:=fmH H0 width lines z (ws++[w])) (fun k' h'=>Vl (l:=[.str " ",.str w]) (j:=0) (Nat.le_of_ble_eq_true rfl) (fun k h=>Vk (j:=ws.length) M8 rfl (td hw) (Hb rfl) (fun zA h=>h) (by rw [pl];exact Ds (Nat.lt_succ_self _)) pg h) (fun zA h=>h) rfl rfl h') ?_
 dsimp only [List.set]
 refine C6 (T:=((" " : Str) == " ")) true (by decide +kernel) (fun k' h'=>⟨by rw [Br];rfl,?_⟩) ?_
 ·rw [Br]
  exact Xe (s:= " ") (j:=0) (c:=32) (by rw [Br];rfl) (fun zA h=>h) (fun zA h=>h) (by rw [Br];rfl) pc h'
 show exs tb (Ph (k+1)) (.cons (.assign 7 (.meth 1 (.attr (.var 0) 5) (.cons (.var 4) .nil))) _) (Af1 H0 w (some (.str " ")) (some (.str " ")) (some (.int (ws.length:Int))) none none) (fmH H0 width lines z (ws++[w])) _
 refine Aq (v:=.lst [part w]) (H1:=fmH H0 width lines z ws) (fun k' h'=>Db (vs:=[.int (ws.length:Int)]) M8 rfl (Hb rfl) (fun zA h=>h) (Vm ws.length (by rw [pl];lia) M8 (td hw) ?_)) ?_
 ·rw [Dn,List.drop_left' (By ws),List.take_left' (By ws),Vn];exact h'
 dsimp only [List.set]
 refine D7 (H1:=fmH H0 width (lines++[A8 ws]) z ws) (fun k' h'=>Kt (v:=.str (A8 ws)) (l:=Be lines) Afy (by rw [A5];lia) (Vo rfl) (fun k h=>ix hws (Hb rfl) h) ?_) ?_
 ·rw [←Du,Aed];exact h'
 refine D7 (H1:=fmH H0 width (lines++[A8 ws]) 0 [w]) (fun k' h'=>Db (vs:=[.lst [part w]]) M8 rfl (Hb rfl) (fun zA h=>h) (o6 [part w] (by simp) M8 (td hws) ?_)) (.inl h)
 exact (Vn (H0:=H0) (width:=width) (lines:=lines++[A8 ws]) (z:=z) (ws:=ws) 0 [w])▸h'
end
section
variable {Φ:Orc} {ν:Nu} {H H1:Hp} {K:KS} {o e:ME} {ss:MSs} {C:Addr} {at_:List (Nat×V)} {it:Option (List V)} {n:Nat} {v:V}
theorem Xl{j:Nat}(he:∀ k:KE,k v H1→ev tb Φ e ν H k)(ho:∀ k:KE,k (.loc n) H1→ev tb Φ o ν H1 k)(hn:H1[n]?=some (.inst C at_ it))(h1:decide (j<7)=true)(h2:decide (at_.length<10)=true)(h3:tb.isCls C=true)(h4:(!V6 v)=true)(h:exs tb Φ ss ν (H1.set n (.inst C (Fh at_ j v) it)) K):exs tb Φ (.cons (.aattr o j e) ss) ν H K:=
 he _ (ho _ (D8 hn ⟨h1,h2,h3,h4,h⟩))
end
theorem ze{Φ:Orc}{ν:Nu}{H:Hp}{K:KE}{C f:Addr}{es:MEs}{vs:List V}(he:∀ k:KL,k vs H→evs tb Φ es ν H k)(hi:tb.initOf C=some f)(h:Φ f (.loc H.length::vs) (H++[.inst C [] (if tb.isList C then some [] else none)]) fun r H2=>O4 r (K (.loc H.length) H2)):ev tb Φ (.new C es) ν H K:=
 he _ (Ar hi h)
theorem zf(H:Hp)(a b:Ob):(H++[a,b])[H.length]?=some a:=by rw [List.getElem?_append_right (Nat.le_refl _),Nat.sub_self];rfl
theorem pd(H:Hp)(a b c:Ob):(H++[a,b,c])[H.length+2]?=some c:=by rw [List.getElem?_append_right (Nat.le_add_right _ 2),Nat.add_sub_cancel_left];rfl
theorem zg(H:Hp)(a b c:Ob):(H++[a,b,c])[H.length]?=some a:=by rw [List.getElem?_append_right (Nat.le_refl _),Nat.sub_self];rfl
theorem zi(H:Hp)(a b c:Ob):(H++[a,b]).set H.length c=H++[c,b]:=by rw [List.set_append_right _ _ (Nat.le_refl _),Nat.sub_self];rfl
theorem zj(H:Hp)(a b c d:Ob):(H++[a,b,c]).set H.length d=H++[d,b,c]:=by rw [List.set_append_right _ _ (Nat.le_refl _),Nat.sub_self];rfl
theorem Af2(H:Hp)(a b c d:Ob):(H++[a,b,c]).set (H.length+2) d=H++[a,b,d]:=by rw [List.set_append_right _ _ (Nat.le_add_right _ 2),Nat.add_sub_cancel_left];rfl
section
variable {H0:Hp} {width:Nat} {k:Nat}
theorem iz(room:Nat)(K:KE)(h:K .none (fmH H0 width [] room [])):Ph (k+2) 49 [.loc H0.length,.int (room:Int),.int (width:Int),.str " ",.str " "] (H0++[.inst 108 [] none]) K:=by
 refine Ff (fn:=Ma) rfl rfl rfl [some (.loc H0.length),some (.int (room:Int)),some (.int (width:Int)),some (.str " "),some (.str " ")] rfl ?_
 refine Gb (v:=.int (width:Int)) (fun zA h=>h) (fun zA h=>h) (A0 H0 _) rfl rfl rfl rfl ?_
 rw [Bx]
 refine Gb (v:=.str " ") (fun zA h=>h) (fun zA h=>h) (A0 H0 _) rfl rfl rfl rfl ?_
 rw [Bx]
 refine Gb (v:=.int 1) (fun k h=>⟨by rw [Br];rfl,by rw [Br];exact h⟩) (fun zA h=>h) (A0 H0 _) rfl rfl rfl rfl ?_
 rw [Bx]
 refine Gb (v:=.str " ") (fun zA h=>h) (fun zA h=>h) (A0 H0 _) rfl rfl rfl rfl ?_
 rw [Bx]
 have A1:∀ o:Ob,(H0++[o]).length=H0.length+1:=fun o=>by simp
 refine Xl (v:=.loc (H0.length+1)) (n:=H0.length) (H1:=H0++[.inst 108 [(0,.int (width:Int)),(1,.str " "),(2,.int 1),(3,.str " ")] none,.lst []]) (fun k' h'=>⟨rfl,?_⟩) (fun zA h=>h) (zf ..) rfl rfl rfl rfl ?_
 ·rw [A1,List.append_assoc];exact h'
 rw [zi]
 have A2:∀ o p:Ob,(H0++[o,p]).length=H0.length+2:=fun o p=>by simp
 refine Xl (v:=.loc (H0.length+2)) (n:=H0.length) (H1:=H0++[.inst 108 [(0,.int (width:Int)),(1,.str " "),(2,.int 1),(3,.str " "),(4,.loc (H0.length+1))] none,.lst [],Ha (room:Int) []]) (fun k' h'=>?_) (fun zA h=>h) (zg ..) rfl rfl rfl rfl ?_
 ·refine ze (vs:=[.int (room:Int)]) (f:=129) (fun zA h=>h) rfl ?_
  rw [A2,List.append_assoc]
  refine ip (pd ..) ?_
  refine (Af2 H0 _ _ _ _).symm▸?_
  exact h'
 rw [zj]
 exact .inl h
section
variable {k:Nat} {K:KE} {lines:List Str} {z:Nat}
theorem zm(ws:List Str)(hne:ws≠[])(hw:Bz ws)(hz:z≤1000)(hl:lines.length≤500)(hs:((lines++[A8 ws]).map (·.length)).sum+(lines++[A8 ws]).length≤1048576)(h:K (.str (Ce "\n" (lines++[A8 ws]))) (fmH H0 width (lines++[A8 ws]) 0 [])):Ph (k+4) 56 [.loc H0.length,.str "\n"] (fmH H0 width lines z ws) K:=by
 obtain ⟨v,w,rfl⟩:∃ v w,ws=v++[w]:=⟨ws.dropLast,ws.getLast hne,(List.dropLast_concat_getLast hne).symm⟩
 refine Ff (fn:=Rk) rfl rfl rfl [some (.loc H0.length),some (.str "\n")] rfl ?_
 refine D7 (H1:=fmH H0 width (lines++[A8 (v++[w])]) 0 []) (fun k' h'=>Db (vs:=[]) tc rfl (fun zA h=>h) (fun zA h=>h) (Zn w hw hz hl h')) ?_
 refine Dd (v:=.str (Ce "\n" (lines++[A8 (v++[w])]))) (H1:=fmH H0 width (lines++[A8 (v++[w])]) 0 []) (fun k' h'=>⟨rfl,?_⟩) (.inl h)
 refine Vo (z:=0) (ws:=[]) rfl _ (D5 Afy (Ar (Gl _) ⟨dq9 hs,by decide +kernel,h'⟩))
end
theorem M9(wv rv:V)(h12:12≤width):∀ (words:List Str) (lines ws:List Str) (z:Nat) (x4:Option V) (K:KS),z≤4→Bz (ws++words)→(∀ w∈words,w.length≤6)→lines.length+words.length≤400→(words≠[]∨ws≠[])→
  (∀ (lines':List Str) (z':Nat) (cur:List Str) (x4:Option V),z'≤4→cur≠[]→Bz cur→lines'++[A8 cur]=lines++(Bm width words (z+fill ws) ws).map A8→K .next [some wv,some (.int (width:Int)),some rv,some (.loc H0.length),x4] (fmH H0 width lines' z' cur))→
  Kg (fun ν H K=>exs tb (Ph (k+2)) Hx ν H K) (fun ν H K=>exs tb (Ph (k+2)) .nil ν H K) 4 (Be words) [some wv,some (.int (width:Int)),some rv,some (.loc H0.length),x4] (fmH H0 width lines z ws) K
 | [],lines,ws,z,x4,K,hz,hw,_,_,hne,h=>by
  rw [List.append_nil] at hw
  exact h lines z ws x4 hz (hne.resolve_left (fun q=>q rfl)) hw rfl
 | w::words,lines,ws,z,x4,K,hz,hw,h6,hl,_,h=>by
  have e1:ws++w::words=(ws++[w])++words:=by simp
  have w6:=h6 w ms9
  have h6':∀ v∈words,v.length≤6:=fun v hv=>h6 v (mm9 _ hv)
  have hl1:=hw.1
  rw [e1] at hw
  have hww:Bz (ws++[w]):=⟨by have:=hw.1;rw [List.length_append] at this;lia,fun v hv=>hw.2 v (List.mem_append_left _ hv)⟩
  rw [List.length_cons] at hl
  have fs:=Tc ws w
  by_cases q:width<z+fill ws+1+w.length
  ·have hws:ws≠[]:=fun e=>by
    subst e
    have:fill []=0:=rfl
    lia
   have hf:Bm width (w::words) (z+fill ws) ws=ws::Bm width words (1+w.length) [w]:=by
    show (if _ then _ else _)=_
    rw [if_pos q]
   rw [hf] at h
   refine D7 (H1:=fmH H0 width (lines++[A8 ws]) 0 [w]) (fun k' h'=>Db (vs:=[.str " ",.str w]) tc rfl (fun zA h=>h) (fun zA h=>h) (Zq w hws hww (by lia) (by lia) (by lia) h')) ?_
   have f1:fill [w]=1+w.length:=by show 1+w.length+0=_;lia
   refine M9 wv rv h12 words (lines++[A8 ws]) [w] 0 _ K (by lia) ⟨by have:=hw.1;simp at this ⊢;lia,fun v hv=>hw.2 v (by simp at hv ⊢;rcases hv with hv|hv;exact .inr (.inl hv);exact .inr (.inr hv))⟩ h6' (by simp;lia) (.inr (by simp)) fun lines' z' cur x4 a1 a2 a3 a4=>h lines' z' cur x4 a1 a2 a3 ?_
   rw [a4,f1,Nat.zero_add,List.map_cons,List.append_assoc];rfl
  ·have hf:Bm width (w::words) (z+fill ws) ws=Bm width words (z+fill ws+1+w.length) (ws++[w]):=by
    show (if _ then _ else _)=_
    rw [if_neg q]
   rw [hf] at h
   refine D7 (H1:=fmH H0 width lines z (ws++[w])) (fun k' h'=>Db (vs:=[.str " ",.str w]) tc rfl (fun zA h=>h) (fun zA h=>h) (Zo w hww (by lia) (by lia) h')) ?_
   refine M9 wv rv h12 words lines (ws++[w]) z _ K hz hw h6' (by lia) (.inr (by simp)) fun lines' z' cur x4 a1 a2 a3 a4=>h lines' z' cur x4 a1 a2 a3 ?_
   rw [a4,fs,show z+(fill ws+1+w.length)=z+fill ws+1+w.length by lia]
end
theorem i0(k width room:Nat)(words:List Str)(hne:words≠[])(hw:Bz words)(h6:∀ w∈words,w.length≤6)(h12:12≤width)(hr:room≤4)(H:Hp)(K:KE)(h:K (.str (Ce "\n" ((Bm width words room []).map A8))) H):Ph (k+5) 266 [.lst (Be words),.int (width:Int),.int (room:Int)] H K:=by
 refine Ff (fn:=Em) rfl rfl rfl [some (.lst (Be words)),some (.int (width:Int)),some (.int (room:Int)),none,none] rfl ?_
 refine Aq (v:=.loc H.length) (H1:=fmH H width [] room []) (fun k' h'=>ze (vs:=[.int (room:Int),.int (width:Int),.str " ",.str " "]) (f:=49) (fun zA h=>h) rfl (iz room _ h')) ?_
 dsimp only [List.set]
 have hl:=hw.1
 refine Py (l:=Be words) (fun zA h=>⟨dq9 (by rw [A5];exact Nat.le_trans hw.1 (by decide)),h⟩) ?_
 refine M9 (H0:=H) (width:=width) (k:=k+2) (.lst (Be words)) (.int (room:Int)) h12 words [] [] room none _ hr (by rw [List.nil_append];exact hw) h6 (by simp;lia) (.inl hne) fun lines' z' cur x4 a1 a2 a3 a4=>?_
 refine x02 (Ik width words room [] hw.short) fun b1 b2=>?_
 have r0:(A8 []).length=0:=Ga
 rw [r0] at b1
 have f0:fill []=0:=rfl
 rw [List.nil_append,f0,Nat.add_zero] at a4
 refine Dd (v:=.str (Ce "\n" ((Bm width words room []).map A8))) (H1:=fmH H width (lines'++[A8 cur]) 0 []) (fun k' h'=>Db (vs:=[.str "\n"]) tc rfl (fun zA h=>h) (fun zA h=>h) ?_) (Ext.cut ⟨_,rfl⟩ rfl h)
 rw [←a4] at h' b1
 have b3:=congrArg List.length a4
 rw [List.length_append,List.length_map] at b3
 refine zm cur a2 a3 (by lia) (by simp at b3;lia) ?_ h'
 rw [List.length_append]
 simp at b3 ⊢
 simp at b1
 lia
noncomputable def C0(st:List Str)(w:Str):List Str:=match st with
 | []=>[w]
 | [a]=>if a.length=w.length then [a] else [w,a]
 | a::b::r=>if a.length=w.length then a::b::r else if b.length=w.length then b::r else w::a::b::r
noncomputable def piece(w:Str):V:=.tup [.str "",.str w]
noncomputable def Bf(ws:List Str):List V:=ws.map piece
theorem Ev(ws:List Str):(Bf ws).length=ws.length:=by unfold Bf;rw [List.length_map]
theorem Na(ws:List Str)(w:Str):Bf (ws++[w])=Bf ws++[piece w]:=by unfold Bf;rw [List.map_append];rfl
theorem Td(st:List Str)(w:Str):(C0 st w).length≤st.length+1:=by
 unfold C0
 split
 ·exact Nat.le_refl _
 ·split<;>simp
 ·split
  ·lia
  ·split<;>simp
theorem Te(st:List Str)(w:Str):∀ v∈C0 st w,v∈st∨v=w:=fun v hv=>by
 unfold C0 at hv
 split at hv
 ·exact .inr (List.mem_singleton.mp hv)
 ·split at hv
  ·exact .inl hv
  ·rcases List.mem_cons.mp hv with e|e
   ·exact .inr e
   ·exact .inl e
 ·split at hv
  ·exact .inl hv
  ·split at hv
   ·exact .inl (mm9 _ hv)
   ·rcases List.mem_cons.mp hv with e|e
    ·exact .inr e
    ·exact .inl e
theorem zn{Φ:Orc}{e:ME}{ss:MSs}{ν:Nu}{H H1:Hp}{K:KS}{v:V}(h1:∀ k:KE,k v H1→ev tb Φ e ν H k)(h2:exs tb Φ ss ν H1 K):exs tb Φ (.cons (.expr e) ss) ν H K:=h1 _ h2
section
variable {H:Hp} {k:Nat} {wv:V} {K:KS}
noncomputable abbrev pnu(wv:V)(n:Nat)(w x:Option V):Nu:=[some wv,some (.loc n),w,x]
noncomputable abbrev pH(H:Hp)(st:List Str):Hp:=H++[Ha 0 (Bf st.reverse)]
theorem Aee(st:List Str)(j:Nat)(a:Str)(c:Nat)(w:Str)(hc:0<c)(hj:st.reverse[j]?=some a)(hz:(st.length:Int)-(c:Int)=(j:Int))(hl:st.length≤1000)(ha:a.length≤1000){K:KE}(h:K (.int (a.length:Int)) (pH H st)) :
  ev tb (Ph k) (.bcall .len (.cons (.sub (.sub (.var 1) (.bin .Sub (.var 3) (.int (c:Int)))) (.int 1)) .nil)) (pnu wv H.length (some (.str w)) (some (.int (st.length:Int)))) (pH H st) K:=by
 have pl:(Bf st.reverse).length=st.length:=by rw [Ev,List.length_reverse]
 have jl:j<st.length:=by lia
 have pj:(Bf st.reverse)[j]?=some (piece a):=by unfold Bf;rw [List.getElem?_map,hj];rfl
 refine sr (Vl (l:=[.str "",.str a]) (j:=1) (Nat.le_of_ble_eq_true rfl) (fun k h=>Vk (j:=j) (z:=(st.length:Int)-(c:Int)) (A0 H _) rfl (by rw [pl];exact hl) (fun zA h=>h) (fun zA h=>h) (by rw [pl,hz];exact Ds jl) pj h) (fun zA h=>h) rfl rfl ?_)
 exact ⟨dq9 (Nat.le_trans ha (by decide)),h⟩
theorem Ag4(a w:Str)(t:Bool)(e:decide (a.length=w.length)=t):((a.length:Int)==(w.length:Int))=t:=by
 rw [←e]
 by_cases q:a.length=w.length
 ·rw [dq9 q];exact beq_iff_eq.mpr (by lia)
 ·rw [decide_eq_false q];exact beq_eq_false_iff_ne.mpr (by lia)
theorem i3(st:List Str)(w:Str)(x:Option V)(hl:st.length≤900)(hs:∀ a∈st,a.length≤1000)(hw:w.length≤1000)
  (h:∀ (fl:Fl) (x:Option V),fl=.next∨fl=.cont→K fl (pnu wv H.length (some (.str w)) x) (pH H (C0 st w))):exs tb (Ph (k+2)) E4 (pnu wv H.length (some (.str w)) x) (pH H st) K:=by
 have pl:(Bf st.reverse).length=st.length:=by rw [Ev,List.length_reverse]
 have sw:decide (w.length≤Ah)=true:=dq9 (Nat.le_trans hw (by decide))
 refine Aq (v:=.int (st.length:Int)) (H1:=pH H st) (fun k' h'=>Db (vs:=[]) (A0 H _) rfl (fun zA h=>h) (fun zA h=>h) (Ku (A0 H _) (by rw [pl];lia) (by rw [pl];exact h'))) ?_
 dsimp only [List.set]
 have c0:∀ (c:Nat) (t:Bool),decide (c<st.length)=t→∀ k':KE,k' (.bool t) (pH H st)→ev tb (Ph (k+2)) (.cmp .Gt (.var 3) (.int (c:Int))) (pnu wv H.length (some (.str w)) (some (.int (st.length:Int)))) (pH H st) k':=fun c t e k' h'=>kb (T:=decide ((st.length:Int)>(c:Int))) (by
  rw [←e]
  by_cases q:c<st.length
  ·rw [dq9 q];exact dq9 (by lia)
  ·rw [decide_eq_false q];exact decide_eq_false (by lia)) h'
 have ce:∀ (c j:Nat) (a:Str) (t:Bool),0<c→st.reverse[j]?=some a→(st.length:Int)-(c:Int)=(j:Int)→a.length≤1000→decide (a.length=w.length)=t→∀ k':KE,k' (.bool t) (pH H st)→
   ev tb (Ph (k+2)) (.cmp .Eq (.bcall .len (.cons (.sub (.sub (.var 1) (.bin .Sub (.var 3) (.int (c:Int)))) (.int 1)) .nil)) (.bcall .len (.cons (.var 2) .nil))) (pnu wv H.length (some (.str w)) (some (.int (st.length:Int)))) (pH H st) k':=fun c j a t hc hj hz ha e k' h'=>
  Aee st j a c w hc hj hz (by lia) ha ⟨sw,kb (T:=((a.length:Int)==(w.length:Int))) (Ag4 a w t e) h'⟩
 have push:C0 st w=w::st→exs tb (Ph (k+2)) (.cons (.expr (.meth 0 (.var 1) (.cons (.str "") (.cons (.var 2) .nil)))) .nil) (pnu wv H.length (some (.str w)) (some (.int (st.length:Int)))) (pH H st) K:=fun e=>by
  refine D7 (H1:=pH H (w::st)) (fun k' h'=>Db (vs:=[.str "",.str w]) (A0 H _) rfl (fun zA h=>h) (fun zA h=>h) (P9 (l:=Bf st.reverse) (.str "") (.str w) (A0 H _) (by rw [pl];lia) ?_)) (by rw [←e];exact h .next _ (.inl rfl))
  have q:Bf st.reverse++[V.tup [.str "",.str w]]=Bf (w::st).reverse:=by rw [List.reverse_cons,Na];rfl
  rw [Bx,q];exact h'
 match st,hl,hs,h,pl,c0,ce,push with
 | [],_,_,h,_,c0,ce,push=>
  refine C6 (T:=false) false rfl (fun k' h'=>J9 (c0 0 false rfl) h') ?_
  exact C6 (T:=false) false rfl (fun k' h'=>J9 (c0 1 false rfl) h') (push rfl)
 | [a],_,hs,h,_,c0,ce,push=>
  have ha:=hs a ms9
  by_cases q:a.length=w.length
  ·refine C6 (T:=true) true rfl (fun k' h'=>Jd (c0 0 true rfl) (ce 1 0 a true (by decide) rfl rfl ha (dq9 q) k' h')) ?_
   have e:C0 [a] w=[a]:=if_pos q
   rw [e] at h
   exact h .cont _ (.inr rfl)
  ·refine C6 (T:=false) false rfl (fun k' h'=>Jd (c0 0 true rfl) (ce 1 0 a false (by decide) rfl rfl ha (decide_eq_false q) k' h')) ?_
   exact C6 (T:=false) false rfl (fun k' h'=>J9 (c0 1 false rfl) h') (push (if_neg q))
 | a::b::r,hl,hs,h,pl,c0,ce,push=>
  have ha:=hs a ms9
  have hb:=hs b (mm9 _ ms9)
  have t0:decide (0<(a::b::r).length)=true:=dq9 (by simp)
  have t1:decide (1<(a::b::r).length)=true:=dq9 (by simp)
  have ga:(a::b::r).reverse[r.length+1]?=some a:=by rw [List.reverse_cons,List.reverse_cons,List.getElem?_append_right (by simp)];simp
  have gb:(a::b::r).reverse[r.length]?=some b:=by rw [List.reverse_cons,List.reverse_cons,List.append_assoc,List.getElem?_append_right (by simp)];simp
  have za:((a::b::r).length:Int)-((1:Nat):Int)=((r.length+1:Nat):Int):=by simp only [List.length_cons];lia
  have zb:((a::b::r).length:Int)-((2:Nat):Int)=(r.length:Int):=by simp only [List.length_cons];lia
  by_cases q:a.length=w.length
  ·refine C6 (T:=true) true rfl (fun k' h'=>Jd (c0 0 true t0) (ce 1 (r.length+1) a true (by decide) ga za ha (dq9 q) k' h')) ?_
   have e:C0 (a::b::r) w=a::b::r:=if_pos q
   rw [e] at h
   exact h .cont _ (.inr rfl)
  ·refine C6 (T:=false) false rfl (fun k' h'=>Jd (c0 0 true t0) (ce 1 (r.length+1) a false (by decide) ga za ha (decide_eq_false q) k' h')) ?_
   by_cases p:b.length=w.length
   ·have e:C0 (a::b::r) w=b::r:=(if_neg q).trans (if_pos p)
    rw [e] at h
    refine C6 (T:=true) true rfl (fun k' h'=>Jd (c0 1 true t1) (ce 2 r.length b true (by decide) gb zb hb (dq9 p) k' h')) ?_
    have pq:Bf (a::b::r).reverse=Bf (b::r).reverse++[piece a]:=by rw [List.reverse_cons,Na]
    have gp:(pH H (a::b::r))[H.length]?=some (Ha 0 (Bf (b::r).reverse++[piece a])):=by rw [←pq];exact A0 H _
    refine zn (v:=piece a) (H1:=pH H (b::r)) (fun k' h'=>Db (vs:=[]) gp rfl (fun zA h=>h) (fun zA h=>h) (s8 (l:=Bf (b::r).reverse) (piece a) gp (by rw [Ev,List.length_reverse];simp only [List.length_cons] at hl ⊢;lia) ?_)) (h .next _ (.inl rfl))
    rw [Bx];exact h'
   ·exact C6 (T:=false) false rfl (fun k' h'=>Jd (c0 1 true t1) (ce 2 r.length b false (by decide) gb zb hb (decide_eq_false p) k' h')) (push ((if_neg q).trans (if_neg p)))
end
noncomputable def kd(w:Str):Nat:=w.length % 3
noncomputable def W46(w:Str):Prop:=4≤w.length∧w.length≤6
noncomputable def D9(d:Int):List Str→Prop
 | a::b::r=>As (kd b:Int) (kd a)=d∧D9 d (b::r)
 | _=>True
noncomputable def Ew:List Nat→Int
 | a::b::r=>As (a:Int) b+Ew (b::r)
 | _=>0
theorem Jk:(∀ i j:Fin 3,As i.1 j.1 = - As j.1 i.1)∧(∀ i j:Fin 3,i≠j→As i.1 j.1=1∨As i.1 j.1 = -1)∧(∀ i:Fin 3,As i.1 i.1=0)∧
  (∀ i j k:Fin 3,i≠j→j≠k→i≠k→As i.1 j.1=As k.1 i.1)∧∀ i j k:Fin 3,As i.1 j.1=As j.1 k.1→As i.1 j.1≠0→(i.1+2) % 3+((j.1+2) % 3+(k.1+2) % 3)=3:=by decide +kernel
noncomputable def kf(w:Str):Fin 3:=⟨kd w,Nat.mod_lt _ (by decide)⟩
theorem zp{a w:Str}(ha:W46 a)(hw:W46 w)(q:¬a.length=w.length):kf a≠kf w:=fun e=>q (by
 have e:a.length % 3=w.length % 3:=congrArg Fin.val e
 unfold W46 at ha hw;omega)
theorem Xm{a w:Str}(q:a.length=w.length):As (kd a:Int) (kd w)=0:=by
 have e:kd a=kd w:=congrArg (· % 3) q
 rw [e];exact Jk.2.2.1 (kf w)
theorem i4(d:Int)(hd:d=1∨d = -1)(a w:Str)(r:List Str)(hS:D9 d (a::r))(hl:∀ v∈a::r,W46 v)(hw:W46 w) :
  ∃ (d':Int) (a':Str) (r':List Str),(d'=1∨d' = -1)∧C0 (a::r) w=a'::r'∧kd a'=kd w∧D9 d' (a'::r')∧d'*(r'.length:Int)=d*(r.length:Int)+As (kd a:Int) (kd w)∧(a'::r').getLast?=(a::r).getLast?:=by
 have ha:=hl a ms9
 have n1:=zp ha hw
 cases r with
 | nil=>
  by_cases q:a.length=w.length
  ·exact ⟨d,a,[],hd,if_pos q,congrArg (· % 3) q,trivial,by rw [Xm q,Int.add_zero],rfl⟩
  ·exact ⟨As (kd a:Int) (kd w),w,[a],Jk.2.1 _ _ (n1 q),if_neg q,rfl,⟨rfl,trivial⟩,(Int.mul_one _).trans (by show _=d*0+_;rw [Int.mul_zero,Int.zero_add]),rfl⟩
 | cons b r=>
  have hb:=hl b (mm9 _ ms9)
  have h1:As (kf b).1 (kf a).1=d:=hS.1
  by_cases q:a.length=w.length
  ·exact ⟨d,a,b::r,hd,if_pos q,congrArg (· % 3) q,hS,by rw [Xm q,Int.add_zero],rfl⟩
  ·by_cases p:b.length=w.length
   ·refine ⟨d,b,r,hd,(if_neg q).trans (if_pos p),congrArg (· % 3) p,hS.2,?_,rfl⟩
    have e:As (kd a:Int) (kd w) = -d:=by
     rw [←h1,show kd w=kd b from (congrArg (· % 3) p).symm]
     exact Jk.1 (kf a) (kf b)
    rw [e,List.length_cons,Int.natCast_add,Int.mul_add]
    exact (Int.add_neg_cancel_right _ _).symm.trans (by rw [Int.natCast_one,Int.mul_one])
   ·have e:As (kd a:Int) (kd w)=d:=(Jk.2.2.2.1 (kf a) (kf w) (kf b) (n1 q) (zp hw hb fun e=>p e.symm) (zp ha hb fun e=>absurd h1 (by rw [show kf a=kf b from Fin.ext (congrArg (· % 3) e),Jk.2.2.1];rcases hd with rfl|rfl<;>decide))).trans h1
    refine ⟨d,w,a::b::r,hd,(if_neg q).trans (if_neg p),rfl,⟨e,hS⟩,?_,rfl⟩
    rw [e,List.length_cons,Int.natCast_add,Int.mul_add,Int.natCast_one,Int.mul_one]
theorem Xn:∀ (ws:List Str) (d:Int) (a:Str) (r:List Str),(d=1∨d = -1)→D9 d (a::r)→(∀ v∈a::r,W46 v)→(∀ w∈ws,W46 w)→
  ∃ (d':Int) (a':Str) (r':List Str),(d'=1∨d' = -1)∧ws.foldl C0 (a::r)=a'::r'∧D9 d' (a'::r')∧d'*(r'.length:Int)=d*(r.length:Int)+Ew (kd a::ws.map kd)∧(a'::r').getLast?=(a::r).getLast?∧(∀ v∈a'::r',W46 v)∧kd a'=(kd a::ws.map kd).getLastD 0
 | [],d,a,r,hd,hS,hl,_=>⟨d,a,r,hd,rfl,hS,by show _=_+(0:Int);omega,rfl,hl,rfl⟩
 | w::ws,d,a,r,hd,hS,hl,hw=>by
  have w1:=hw w ms9
  refine x36 (i4 d hd a w r hS hl w1) fun d1 a1 r1 q1 q2 q3 q4 q5 q6=>?_
  have hl1:∀ v∈a1::r1,W46 v:=fun v hv=>by
   rw [←q2] at hv
   rcases Te _ _ v hv with h|h
   ·exact hl v h
   ·subst h;exact w1
  obtain ⟨d2,a2,r2,p1,p2,p3,p4,p5,p6,p7⟩:=Xn ws d1 a1 r1 q1 q4 hl1 fun v hv=>hw v (mm9 _ hv)
  refine ⟨d2,a2,r2,p1,?_,p3,?_,p5.trans q6,p6,?_⟩
  ·rw [List.foldl_cons,q2];exact p2
  ·rw [p4,q5,q3,List.map_cons]
   show _=_+(As (kd a:Int) (kd w)+Ew (kd w::ws.map kd))
   omega
  ·rw [p7,q3];rfl
theorem Kd(d:Int):∀ (a:Str) (r:List Str) (z:Str),D9 d (a::r)→(a::r).getLast?=some z→((kd a:Int)-kd z-d*r.length) % 3=0
 | a,[],z,_,e=>by
  have:a=z:=Option.some.inj e
  subst this
  simp
 | a,b::r,z,h,e=>by
  have ih:=Kd d b r z h.2 e
  have h1:=h.1
  unfold As at h1
  rw [List.length_cons,Int.natCast_succ,Int.mul_add,Int.mul_one]
  omega
theorem Il(d:Int):∀ (l:List Str) (b a:Str),D9 d (l++[b,a])→As (kd a:Int) (kd b)=d
 | [],b,a,h=>h.1
 | [x],b,a,h=>h.2.1
 | x::y::l,b,a,h=>Il d (y::l) b a h.2
theorem i5{a:Str}(h:W46 a):a.length=4+((kf a).1+2) % 3:=by
 unfold W46 at h
 show a.length=4+(a.length % 3+2) % 3
 omega
theorem i6{a b c:Str}{d:Int}(ha:W46 a)(hb:W46 b)(hc:W46 c)(hd:d=1∨d = -1)(h1:As (kd b:Int) (kd a)=d)(h2:As (kd c:Int) (kd b)=d):a.length+(b.length+c.length)=15:=by
 have q:=Jk.2.2.2.2 (kf c) (kf b) (kf a) (h2.trans h1.symm) (fun e=>by rw [show As (kd c:Int) (kd b)=0 from e] at h2;rcases hd with rfl|rfl<;>cases h2)
 rw [i5 ha,i5 hb,i5 hc]
 omega
theorem Xo(d:Int)(hd:d=1∨d = -1):∀ (m:Nat) (st:List Str) (z:Str),st.length=3*m+1→D9 d st→(∀ v∈st,W46 v)→st.getLast?=some z→(st.map (·.length)).sum=z.length+15*m
 | 0,[a],z,_,_,_,e=>by
  have:a=z:=Option.some.inj e
  subst this;rfl
 | 0,[],_,h,_,_,_=>absurd h (by decide)
 | 0,_::_::_,_,h,_,_,_=>absurd h (by simp)
 | m+1,a::b::c::x::r,z,h,hS,hl,e=>by
  have ih:=Xo d hd m (x::r) z (by simp only [List.length_cons] at h ⊢;omega) hS.2.2.2 (fun v hv=>hl v (by simp at hv ⊢;rcases hv with hv|hv;exact .inr (.inr (.inr (.inl hv)));exact .inr (.inr (.inr (.inr hv))))) e
  have hv:∀ v∈[a,b,c],v∈a::b::c::x::r:=fun v hv=>List.mem_append_left (x::r) hv
  have h15:=i6 (hl a (hv a ms9)) (hl b (hv b (mm9 _ ms9))) (hl c (hv c (mm9 _ (mm9 _ ms9)))) hd hS.1 hS.2.1
  rw [List.map_cons,List.map_cons,List.map_cons,List.sum_cons,List.sum_cons,List.sum_cons,ih]
  omega
 | m+1,[],_,h,_,_,_=>absurd h (by simp)
 | m+1,[_],_,h,_,_,_=>absurd h (by simp)
 | m+1,[_,_],_,h,_,_,_=>absurd h (by simp;omega)
 | m+1,[_,_,_],_,h,_,_,_=>absurd h (by simp;omega)
noncomputable def Ag{α:Type}(d:α)(rs:List (List α)):List α:=rs.headD []++(rs.drop 1).map (·.getLastD d)++(rs.getLastD []).reverse.drop 1++(rs.dropLast.map (·.headD d)).reverse
theorem Tf{α β:Type}(f:α→β)(d:α)(e:β)(r:List α)(h:r≠[]):(r.map f).headD e=f (r.headD d):=by
 cases r with
 | nil=>exact absurd rfl h
 | cons a r=>rfl
theorem Tg{α β:Type}(f:α→β)(d:α)(e:β)(r:List α)(h:r≠[]):(r.map f).getLastD e=f (r.getLastD d):=by
 rw [List.getLastD_eq_getLast?,List.getLastD_eq_getLast?,List.getLast?_map]
 cases q:r.getLast? with
 | none=>rw [List.getLast?_eq_none_iff] at q;exact absurd q h
 | some a=>rfl
theorem Jl{α β:Type}(f:α→β)(d:α)(e:β)(rs:List (List α))(h:∀ r∈rs,r≠[])(h0:rs≠[]):Ag e (rs.map (·.map f))=(Ag d rs).map f:=by
 unfold Ag
 rw [List.map_append,List.map_append,List.map_append,Tf (·.map f) [] [] rs h0,Tg (·.map f) [] [] rs h0,←List.map_reverse,←List.map_drop,←List.map_drop,←List.map_dropLast,List.map_map,List.map_map,List.map_reverse,List.map_map,List.map_map]
 have e1:(rs.drop 1).map ((fun r=>List.getLastD r e)∘fun r=>r.map f)=(rs.drop 1).map (f∘fun r=>r.getLastD d):=List.map_congr_left fun r hr=>Tg f d e r (h r (List.mem_of_mem_drop hr))
 have e2:(rs.dropLast).map ((fun r=>List.headD r e)∘fun r=>r.map f)=(rs.dropLast).map (f∘fun r=>r.headD d):=List.map_congr_left fun r hr=>Tf f d e r (h r (List.dropLast_subset _ hr))
 rw [e1,e2]
theorem Qb:∀ (a:List Nat) (x:Nat) (b:List Nat),Ew (a++x::b)=Ew (a++[x])+Ew (x::b)
 | [],x,b=>by show Ew (x::b)=(0:Int)+Ew (x::b);lia
 | [y],x,b=>by
  show As (y:Int) x+Ew (x::b)=(As (y:Int) x+0)+Ew (x::b)
  lia
 | y::z::a,x,b=>by
  have ih:=Qb (z::a) x b
  show As (y:Int) z+Ew (z::a++x::b)=(As (y:Int) z+Ew (z::a++[x]))+Ew (x::b)
  rw [ih];lia
theorem Zr:∀ (a:List Nat) (x y:Nat),Ew (a++[x,y])=Ew (a++[x])+As (x:Int) y:=fun a x y=>by
 rw [show a++[x,y]=a++x::[y] from rfl,Qb a x [y]]
 show _+(As (x:Int) y+0)=_
 lia
theorem Gm:∀ (l:List Nat),(∀ a∈l,a<3)→Ew l.reverse = - Ew l
 | [],_=>rfl
 | [x],_=>rfl
 | x::y::l,h=>by
  have ih:=Gm (y::l) fun a ha=>h a (mm9 _ ha)
  have q:=E6 x y (h x (by simp)) (h y (by simp))
  rw [List.reverse_cons,List.reverse_cons,List.append_assoc]
  rw [show l.reverse++([y]++[x])=l.reverse++[y,x] from rfl,Zr,←List.reverse_cons,ih,q]
  show _ = -(As (x:Int) y+Ew (y::l))
  lia
theorem Im:∀ (u:List Nat),pre (at0 u) (u.length-1)=Ew u
 | []=>rfl
 | [x]=>rfl
 | x::y::r=>by
  have ih:=Im (y::r)
  have g:∀ (n:Nat),pre (at0 (x::y::r)) (n+1)=As (x:Int) y+pre (at0 (y::r)) n:=fun n=>by
   induction n with
   | zero=>show 0+As (x:Int) y=As (x:Int) y+0;lia
   | succ n ihn=>
    have e1:pre (at0 (x::y::r)) (n+1+1)=pre (at0 (x::y::r)) (n+1)+As (at0 (y::r) n:Nat) (at0 (y::r) (n+1):Nat):=rfl
    have e2:pre (at0 (y::r)) (n+1)=pre (at0 (y::r)) n+As (at0 (y::r) n:Nat) (at0 (y::r) (n+1):Nat):=rfl
    rw [e1,e2,ihn];lia
  have e:(x::y::r).length-1=((y::r).length-1)+1:=by simp
  rw [e,g,ih];rfl
theorem Th(u:List Nat):at0 u 0=u.headD 0:=by cases u<;>rfl
theorem Qc:∀ (u:List Nat),at0 u (u.length-1)=u.getLastD 0
 | []=>rfl
 | [x]=>rfl
 | x::y::r=>by
  have ih:=Qc (y::r)
  have e:(x::y::r).length-1=((y::r).length-1)+1:=by simp
  rw [e];exact ih
theorem Io(u l:List Nat):Dl u l=Ew u+As (u.getLastD 0:Nat) (l.getLastD 0:Nat)-Ew l-As (u.headD 0:Nat) (l.headD 0:Nat):=by
 unfold Dl n7
 rw [Im,Im,Qc,Qc,Th,Th]
 show _-(0+_-0)=_
 lia
theorem Gd{α:Type}(a:List α)(x d:α):(a++[x]).getLastD d=x:=by
 rw [List.getLastD_eq_getLast?,List.getLast?_concat];rfl
theorem Ti(u:List Nat)(h:u≠[]):u.reverse=u.getLastD 0::u.reverse.drop 1:=by
 have e:u=u.dropLast++[u.getLastD 0]:=by
  conv=>lhs;rw [←List.dropLast_concat_getLast h]
  rw [List.getLastD_eq_getLast?,List.getLast?_eq_some_getLast h];rfl
 rw [e,List.reverse_append,Gd];rfl
theorem i7{α:Type}(u:List α)(h:u≠[]):∃ v z,u=v++[z]:=⟨u.dropLast,u.getLast h,(List.dropLast_concat_getLast h).symm⟩
theorem Tj(u b:List Nat)(h:u≠[]):Ew (u++b)=Ew u+Ew (u.getLastD 0::b):=by
 refine x21 (i7 u h) fun v z zz2=>?_;subst zz2
 rw [Gd,List.append_assoc]
 exact Qb v z b
theorem i8(u:List Nat)(x:Nat)(h:u≠[]):Ew (u++[x])=Ew u+As (u.getLastD 0:Nat) x:=by
 rw [Tj u [x] h]
 show _+(As (u.getLastD 0:Nat) x+0)=_
 lia
theorem i9(u b:List Nat)(h:u≠[]):(u++b).getLastD 0=(u.getLastD 0::b).getLastD 0:=by
 refine x21 (i7 u h) fun v z zz2=>?_;subst zz2
 rw [Gd,List.append_assoc]
 rw [List.getLastD_eq_getLast?,List.getLastD_eq_getLast?,List.getLast?_append]
 show ((z::b).getLast?.or v.getLast?).getD 0=_
 rw [List.getLast?_cons];rfl
noncomputable def back:List Nat→List (List Nat)→List Nat
 | u,[]=>u.reverse.drop 1
 | u,l::rs=>l.getLastD 0::back l rs++[u.headD 0]
theorem ja:∀ (u:List Nat) (rs:List (List Nat)),back u rs=rs.map (·.getLastD 0)++((u::rs).getLastD []).reverse.drop 1++((u::rs).dropLast.map (·.headD 0)).reverse
 | u,[]=>by show _=[]++u.reverse.drop 1++[];simp [back]
 | u,l::rs=>by
  have ih:=ja l rs
  show l.getLastD 0::back l rs++[u.headD 0]=_
  rw [ih]
  have e1:(u::l::rs).getLastD []=(l::rs).getLastD []:=rfl
  have e2:(u::l::rs).dropLast=u::(l::rs).dropLast:=rfl
  rw [e1,e2,List.map_cons,List.map_cons,List.reverse_cons]
  simp only [List.cons_append,List.append_assoc]
theorem Hc(u:List Nat)(rs:List (List Nat)):Ag 0 (u::rs)=u++back u rs:=by
 rw [ja]
 show u++rs.map _++_++_=_
 simp only [List.append_assoc]
theorem Tk:∀ (u:List Nat) (rs:List (List Nat)),u≠[]→(u.getLastD 0::back u rs).getLastD 0=u.headD 0
 | u,[],h=>by
  show (u.getLastD 0::u.reverse.drop 1).getLastD 0=_
  rw [←Ti u h]
  cases u with
  | nil=>exact absurd rfl h
  | cons x r=>rw [List.reverse_cons,Gd];rfl
 | u,l::rs,_=>by
  show (u.getLastD 0::(l.getLastD 0::back l rs++[u.headD 0])).getLastD 0=_
  rw [show u.getLastD 0::(l.getLastD 0::back l rs++[u.headD 0])=(u.getLastD 0::l.getLastD 0::back l rs)++[u.headD 0] from rfl,Gd]
theorem Qd{u:List Nat}(hu:E7 u):u.headD 0<3:=by
 cases u with
 | nil=>exact Nat.zero_lt_succ _
 | cons x r=>exact hu.2.2 x ms9
theorem E7.ne{u:List Nat}(hu:E7 u):u≠[]:=fun e=>by subst e;exact absurd hu.1 (by decide)
theorem Tl:∀ (u:List Nat) (rs:List (List Nat)),(∀ r∈u::rs,E7 r)→Ew (u.getLastD 0::back u rs)=M2 (u::rs)-Ew u
 | u,[],h=>by
  have hu:=h u ms9
  show Ew (u.getLastD 0::u.reverse.drop 1)=0-Ew u
  rw [←Ti u hu.ne,Gm u hu.2.2];lia
 | u,l::rs,h=>by
  have hu:=h u ms9
  have hl:=h l (mm9 _ ms9)
  have ih:=Tl l rs fun r hr=>h r (mm9 _ hr)
  have w:Ew (l.getLastD 0::back l rs++[u.headD 0])=Ew (l.getLastD 0::back l rs)+As (l.headD 0:Nat) (u.headD 0:Nat):=by
   rw [i8 _ _ (List.cons_ne_nil _ _),Tk l rs hl.ne]
  show As (u.getLastD 0:Nat) (l.getLastD 0:Nat)+Ew (l.getLastD 0::back l rs++[u.headD 0])=_
  rw [w,ih,E6 _ _ (Qd hu) (Qd hl)]
  show _=Dl u l+M2 (l::rs)-Ew u
  rw [Io];lia
theorem Vr(u:List Nat)(rs:List (List Nat))(h:∀ r∈u::rs,E7 r):Ew (Ag 0 (u::rs))=M2 (u::rs):=by
 have hu:=h u ms9
 rw [Hc,Tj u _ hu.ne,Tl u rs h];lia
theorem Vs(u:List Nat)(rs:List (List Nat))(h:u≠[]):(Ag 0 (u::rs)).getLastD 0=(Ag 0 (u::rs)).headD 0:=by
 rw [Hc,i9 u _ h,Tk u rs h]
 cases u with
 | nil=>exact absurd rfl h
 | cons x r=>rfl
theorem Kv(u:List Nat):u.reverse.headD 0=u.getLastD 0:=by
 rw [List.headD_eq_head?_getD,List.head?_reverse,List.getLastD_eq_getLast?]
theorem Kw(u:List Nat):u.reverse.getLastD 0=u.headD 0:=by
 rw [List.headD_eq_head?_getD,List.getLastD_eq_getLast?,List.getLast?_reverse]
theorem jb{u:List Nat}(hu:E7 u):u.getLastD 0<3:=by
 have e:u.getLastD 0∈u:=by
  rw [List.getLastD_eq_getLast?,List.getLast?_eq_some_getLast hu.ne];exact List.getLast_mem hu.ne
 exact hu.2.2 _ e
theorem Tm(u l:List Nat)(hu:E7 u)(hl:E7 l):Dl u.reverse l.reverse = - Dl u l:=by
 rw [Io,Io,Gm u hu.2.2,Gm l hl.2.2,Kv,Kv,Kw,Kw];lia
theorem Zs(u l:List Nat)(hu:E7 u)(hl:E7 l):Dl l.reverse u.reverse=Dl u l:=by
 rw [Io,Io,Gm u hu.2.2,Gm l hl.2.2,Kv,Kv,Kw,Kw,E6 _ _ (Qd hu) (Qd hl),E6 _ _ (jb hu) (jb hl)];lia
theorem Nb:∀ (rs:List (List Nat)),(∀ r∈rs,E7 r)→M2 (rs.map List.reverse) = - M2 rs
 | [],_=>rfl
 | [u],_=>rfl
 | u::l::rs,h=>by
  have ih:=Nb (l::rs) fun r hr=>h r (mm9 _ hr)
  show Dl u.reverse l.reverse+M2 ((l::rs).map List.reverse) = -(Dl u l+M2 (l::rs))
  rw [ih,Tm u l (h u (by simp)) (h l (by simp))];lia
theorem Tn:∀ (rs:List (List Nat)) (a b:List Nat),M2 (rs++[a,b])=M2 (rs++[a])+Dl a b
 | [],a,b=>by show Dl a b+0=0+Dl a b;lia
 | [x],a,b=>by show Dl x a+(Dl a b+0)=(Dl x a+0)+Dl a b;lia
 | x::y::rs,a,b=>by
  have ih:=Tn (y::rs) a b
  show Dl x y+M2 (y::rs++[a,b])=(Dl x y+M2 (y::rs++[a]))+Dl a b
  rw [ih];lia
theorem To:∀ (rs:List (List Nat)),(∀ r∈rs,E7 r)→M2 (rs.map List.reverse).reverse=M2 rs
 | [],_=>rfl
 | [u],_=>rfl
 | u::l::rs,h=>by
  have ih:=To (l::rs) fun r hr=>h r (mm9 _ hr)
  rw [List.map_cons,List.map_cons,List.reverse_cons,List.reverse_cons,List.append_assoc]
  rw [show (rs.map List.reverse).reverse++([l.reverse]++[u.reverse])=(rs.map List.reverse).reverse++[l.reverse,u.reverse] from rfl,Tn,←List.reverse_cons,←List.map_cons,ih,Zs u l (h u (by simp)) (h l (by simp))]
  show _=Dl u l+M2 (l::rs)
  lia
section
variable {H:Hp} {k:Nat} {wv:V}
theorem Tp:∀ (ws st:List Str) (x2 x3:Option V) (K:KS),st.length+ws.length≤900→(∀ a∈st,a.length≤1000)→(∀ w∈ws,w.length≤1000)→(∀ x2 x3,K .next (pnu wv H.length x2 x3) (pH H (ws.foldl C0 st)))→
  Kg (fun ν H K=>exs tb (Ph (k+2)) E4 ν H K) (fun ν H K=>exs tb (Ph (k+2)) .nil ν H K) 2 (Be ws) (pnu wv H.length x2 x3) (pH H st) K
 | [],st,x2,x3,K,_,_,_,h=>h x2 x3
 | w::ws,st,x2,x3,K,hl,hs,hw,h=>by
  rw [List.length_cons] at hl
  have w1:=hw w ms9
  have hp:=Td st w
  have go:∀ x3,Kg (fun ν H K=>exs tb (Ph (k+2)) E4 ν H K) (fun ν H K=>exs tb (Ph (k+2)) .nil ν H K) 2 (Be ws) (pnu wv H.length (some (.str w)) x3) (pH H (C0 st w)) K:=fun x3=>
   Tp ws (C0 st w) _ x3 K (by lia) (fun a ha=>by
    rcases Te st w a ha with e|e
    ·exact hs a e
    ·subst e;exact w1) (fun v hv=>hw v (mm9 _ hv)) h
  refine i3 st w x3 (by lia) hs w1 fun fl x e=>?_
  rcases e with rfl|rfl
  ·exact go x
  ·exact go x
end
theorem zq(k:Nat)(ws:List Str)(hl:ws.length≤900)(hw:∀ w∈ws,w.length≤1000)(H:Hp)(K:KE)(h:K (.loc H.length) (pH H (ws.foldl C0 []))):Ph (k+3) 330 [.lst (Be ws)] H K:=by
 refine Ff (fn:=Ib) rfl rfl rfl [some (.lst (Be ws)),none,none,none] rfl ?_
 refine Aq (v:=.loc H.length) (H1:=pH H []) (fun k' h'=>ze (vs:=[]) (f:=129) (fun zA h=>h) rfl (Zm (A0 H _) ?_)) ?_
 ·rw [Bx];exact h'
 dsimp only [List.set]
 refine Py (l:=Be ws) (fun zA h=>⟨dq9 (by rw [A5];exact Nat.le_trans hl (by decide)),h⟩) ?_
 refine Tp (wv:=.lst (Be ws)) ws [] none none _ (by simp;lia) (fun a ha=>nomatch ha) hw fun x2 x3=>?_
 exact Dd (v:=.loc H.length) (H1:=pH H (ws.foldl C0 [])) (fun zA h=>h) (.inl h)
structure Tq(st:List Str)(z:Str)(m:Nat)(g:Int):Prop where
 len:st.length=3*m+1
 sum:(st.map (·.length)).sum=z.length+15*m
 one:g=0∨(0<m∧∃ p0 p1 t,st.reverse=p0::p1::t∧((p1.length:Int)-p0.length) % 3=if g=m then 1 else 2)
 abs:g=m∨g = -(m:Int)
 short:∀ v∈st,W46 v
theorem jc(w:Str)(ws:List Str)(hw:∀ v∈w::ws,W46 v)(hc:(kd w::ws.map kd).getLastD 0=kd w):∃ (m:Nat) (g:Int),3*g=Ew (kd w::ws.map kd)∧Tq ((w::ws).foldl C0 []) w m g:=by
 obtain ⟨d,a,r,hd,e1,hS,hs,hl,ha,hk⟩:=Xn ws 1 w [] (.inl rfl) trivial (fun v hv=>hw v (by rw [List.mem_singleton.mp hv];exact ms9)) fun v hv=>hw v (mm9 _ hv)
 have hz:(a::r).getLast?=some w:=hl.trans rfl
 have e0:(w::ws).foldl C0 []=a::r:=e1
 rw [e0]
 rw [hc] at hk
 have hm:=Kd d a r w hS hz
 rw [hk] at hm
 have hm3:r.length % 3=0:=by rcases hd with rfl|rfl<;>lia
 have hlen:(a::r).length=3*(r.length / 3)+1:=by rw [List.length_cons];lia
 have ew:Ew (kd w::ws.map kd)=d*(r.length:Int):=by rw [hs,List.length_nil];show _=1*(0:Int)+_;lia
 refine ⟨r.length / 3,d*((r.length / 3:Nat):Int),?_,hlen,Xo d hd _ _ w hlen hS ha hz,?_,?_,ha⟩
 ·rw [ew]
  rcases hd with rfl|rfl<;>lia
 ·by_cases q:r.length / 3=0
  ·left;rw [q];simp
  ·right
   refine ⟨Nat.pos_of_ne_zero q,?_⟩
   have hrl:2≤(a::r).reverse.length:=by rw [List.length_reverse,hlen];lia
   match e:(a::r).reverse,hrl with
   | p0::p1::t,_=>
    refine ⟨p0,p1,t,rfl,?_⟩
    have hr:a::r=t.reverse++[p1,p0]:=by
     have:=congrArg List.reverse e
     rw [List.reverse_reverse] at this
     rw [this,List.reverse_cons,List.reverse_cons,List.append_assoc];rfl
    rw [hr] at hS
    have hwy:=Il d t.reverse p1 p0 hS
    unfold As kd at hwy
    rcases hd with rfl|rfl
    ·rw [if_pos (by lia)];lia
    ·rw [if_neg (by lia)];lia
 ·rcases hd with rfl|rfl
  ·left;lia
  ·right;lia
section
variable {k:Nat} {H:Hp} {K:KE} {st:List Str} {z:Str} {m n:Nat} {g:Int}
theorem zt{st:List Str}{p0 p1:Str}{t:List Str}(e:st.reverse=p0::p1::t):(Bf st.reverse)[0]?=some (piece p0)∧(Bf st.reverse)[1]?=some (piece p1):=by
 rw [e];exact ⟨rfl,rfl⟩
theorem jd(hp:Tq st z m g)(hl:st.length≤900)(hn:H[n]?=some (Ha 0 (Bf st.reverse)))(h:K (.int g) H):Ph (k+2) 337 [.loc n] H K:=by
 have pl:(Bf st.reverse).length=3*m+1:=by rw [Ev,List.length_reverse,hp.len]
 have hl':(Bf st.reverse).length≤1000:=by rw [pl];have:=hp.len;lia
 refine Ff (fn:=Er) rfl rfl rfl [some (.loc n),none] rfl ?_
 refine Aq (v:=.int (m:Int)) (H1:=H) (fun k' h'=>Db (vs:=[]) hn rfl (fun zA h=>h) (fun zA h=>h) (Ku hn hl' ⟨rfl,rfl,?_⟩)) ?_
 ·show k' (.int ((((Bf st.reverse).length:Int)-1) / 3)) H
  rw [pl,show ((((3*m+1:Nat):Int)-1) / 3)=(m:Int) by lia];exact h'
 dsimp only [List.set]
 have c0:∀ (t:Bool),decide (0<m)=t→∀ k':KE,k' (.bool t) H→ev tb (Ph (k+1)) (.cmp .Gt (.var 1) (.int 0)) [some (.loc n),some (.int (m:Int))] H k':=fun t e k' h'=>kb (T:=decide ((m:Int)>0)) (by
  rw [←e]
  by_cases q:0<m
  ·rw [dq9 q];exact dq9 (by lia)
  ·rw [decide_eq_false q];exact decide_eq_false (by lia)) h'
 by_cases q:0<m
 ·rcases hp.one with g0|⟨_,p0,p1,t,e,hd⟩
  ·exfalso
   rcases hp.abs with e|e<;>lia
  ·refine x02 (zt e) fun g0 g1=>?_
   have s0:p0.length≤6:=(hp.short p0 (List.mem_reverse.mp (by rw [e];exact ms9))).2
   have s1:p1.length≤6:=(hp.short p1 (List.mem_reverse.mp (by rw [e];exact mm9 _ ms9))).2
   have ln:∀ (j:Nat) (a:Str),j<3*m+1→(Bf st.reverse)[j]?=some (piece a)→a.length≤6→∀ k':KE,k' (.int (a.length:Int)) H→ev tb (Ph (k+1)) (.bcall .len (.cons (.sub (.sub (.var 0) (.int (j:Int))) (.int 1)) .nil)) [some (.loc n),some (.int (m:Int))] H k':=fun j a hj ga sa k' h'=>
    sr (Vl (l:=[.str "",.str a]) (j:=1) (Nat.le_of_ble_eq_true rfl) (fun k h=>Vk (j:=j) hn rfl hl' (fun zA h=>h) (fun zA h=>h) (by rw [pl];exact Ds hj) ga h) (fun zA h=>h) rfl rfl ⟨dq9 (Nat.le_trans sa (by decide)),h'⟩)
   have c1:∀ (t:Bool),((((p1.length:Int)-p0.length) % 3)==2)=t→∀ k':KE,k' (.bool t) H→ev tb (Ph (k+1)) (.cmp .Eq (.bin .Mod (.bin .Sub (.bcall .len (.cons (.sub (.sub (.var 0) (.int 1)) (.int 1)) .nil)) (.bcall .len (.cons (.sub (.sub (.var 0) (.int 0)) (.int 1)) .nil))) (.int 3)) (.int 2)) [some (.loc n),some (.int (m:Int))] H k':=fun t e k' h'=>
    ln 1 p1 (by lia) g1 s1 _ (ln 0 p0 (by lia) g0 s0 _ ⟨rfl,kb (T:=((((p1.length:Int)-p0.length) % 3)==2)) e h'⟩)
   rcases hp.abs with hg|hg
   ·rw [if_pos hg] at hd
    refine C6 (T:=false) false rfl (fun k' h'=>Jd (c0 true (dq9 q)) (c1 false (by rw [hd];rfl) k' h')) ?_
    exact Dd (v:=.int (m:Int)) (H1:=H) (fun zA h=>h) (.inl (hg▸h))
   ·rw [if_neg (by lia)] at hd
    refine C6 (T:=true) true rfl (fun k' h'=>Jd (c0 true (dq9 q)) (c1 true (by rw [hd];rfl) k' h')) ?_
    exact Dd (v:=.int (-(m:Int))) (H1:=H) (fun zA h=>h) (.inl (hg▸h))
 ·refine C6 (T:=false) false rfl (fun k' h'=>J9 (c0 false (decide_eq_false q)) h') ?_
  have e:g=(m:Int):=by rcases hp.abs with e|e<;>lia
  exact Dd (v:=.int (m:Int)) (H1:=H) (fun zA h=>h) (.inl (e▸h))
end
theorem O0(w:Str)(hw:W46 w):B8 (piece w)=some (("" : Str),w):=by
 show B8 (.tup [.str "",.str w])=_
 exact if_pos ⟨by rw [Ga];decide,Nat.le_trans hw.2 (by decide)⟩
theorem je(st:List Str)(h:∀ v∈st,W46 v):((Bf st.reverse).all fun v=>(B8 v).isSome)=true:=by
 refine List.all_eq_true.mpr fun v hv=>?_
 refine x12 (List.mem_map.mp hv) fun w hm zz2=>?_;subst zz2
 rw [O0 w (h w (List.mem_reverse.mp hm))];rfl
theorem Tr:∀ (l:List Str),(∀ v∈l,W46 v)→((Bf l).map Ic).sum=(((l.map (·.length)).sum:Nat):Int)
 | [],_=>rfl
 | w::l,h=>by
  have ih:=Tr l fun v hv=>h v (mm9 _ hv)
  have e:Ic (piece w)=(w.length:Int):=by
   show (match B8 (piece w) with|some (a,b)=>(a.length:Int)+b.length|none=>0)=_
   rw [O0 w (h w ms9)]
   show ((("" : Str).length:Int))+_=_
   rw [Ga];lia
  show ((piece w::Bf l).map Ic).sum=_
  rw [List.map_cons,List.sum_cons,List.map_cons,List.sum_cons,ih,e];lia
theorem jf:∀ (l:List Nat),l.reverse.sum=l.sum:=fun l=>by
 induction l with
 | nil=>rfl
 | cons a l ih=>rw [List.reverse_cons,List.sum_append,ih,List.sum_cons,List.sum_cons,List.sum_nil];lia
theorem jg{k n m:Nat}{ν:Nu}{H:Hp}{K:KE}{e:ME}{st:List Str}{z:Str}{g:Int}(hp:Tq st z m g)(hl:st.length≤900)(hz:z.length≤6)(hn:H[n]?=some (Ha 0 (Bf st.reverse)))(ho:∀ k':KE,k' (.loc n) H→ev tb (Ph (k+1)) e ν H k')(h:K (.int ((z.length+15*m:Nat):Int)) H):ev tb (Ph (k+1)) (.bcall .len (.cons e .nil)) ν H K:=by
 have e1:=hp.sum
 have e2:=hp.len
 refine s9 (je st hp.short) (by rw [Ev,List.length_reverse];lia) hn ho ?_ (by lia) (by lia) h
 rw [Tr _ fun v hv=>hp.short v (List.mem_reverse.mp hv),List.map_reverse,jf,e1];lia
theorem Tt{f:V→V→Bool}:∀ (l:List V),(∀ v∈l,f v v=true)→qi f l l=true
 | [],_=>rfl
 | a::l,h=>by
  show (f a a&&qi f l l)=_
  rw [h a ms9,Tt l fun v hv=>h v (mm9 _ hv)];rfl
theorem Qe(n:Nat)(l:List V)(h:∀ v∈l,eqT n v v=true):eqT (n+1) (.lst l) (.lst l)=true:=by
 show (l.length==l.length&&qi (eqT n) l l)=_
 rw [beq_self_eq_true,Tt l h];rfl
theorem zw(n:Nat)(s:Str):eqT (n+1) (.str s) (.str s)=true:=beq_self_eq_true s
theorem Qf(n:Nat)(i:Int):eqT (n+1) (.int i) (.int i)=true:=beq_self_eq_true i
theorem pe(n:Nat)(l:List Str):eqT (n+2) (.lst (Be l)) (.lst (Be l))=true:=Qe _ _ fun v hv=>by
 refine x12 (List.mem_map.mp hv) fun s zA zz2=>?_;subst zz2
 exact zw n s
theorem Aef(n:Nat)(l:List Nat):eqT (n+2) (.lst (kl l)) (.lst (kl l))=true:=Qe _ _ fun v hv=>by
 refine x12 (List.mem_map.mp hv) fun s zA zz2=>?_;subst zz2
 exact Qf n s
theorem jh(n:Nat)(rs:List (List Nat)):eqT (n+3) (.lst (A4 rs)) (.lst (A4 rs))=true:=Qe _ _ fun v hv=>by
 refine x12 (List.mem_map.mp hv) fun r zA zz2=>?_;subst zz2
 exact Aef n r
section
variable {Φ:Orc} {ν:Nu} {H:Hp} {e1 e2:ME} {l:List V}
theorem th{k:KE}(h1:∀ k:KE,k (.lst l) H→ev tb Φ e1 ν H k)(h2:∀ k:KE,(∀ H',Ext H H'→k (.lst l) H')→ev tb Φ e2 ν H k)(hq:eqT 5 (.lst l) (.lst l)=true)(h:∀ H',Ext H H'→k (.bool false) H'):ev tb Φ (.cmp .NotEq e1 e2) ν H k:=by
 exact h1 _ (h2 _ fun H' x=>⟨hq,h H' x⟩)
end
section
variable {Φ:Orc} {c:ME} {b o ss:MSs} {ν:Nu} {H:Hp} {K:KS}
theorem Aeg{T:Bool}(t:Bool)(he:T=t)(h1:∀ k:KE,(∀ H',Ext H H'→k (.bool T) H')→ev tb Φ c ν H k)(h2:∀ H',Ext H H'→exs tb Φ (bif t then b else o) ν H' (sqK Φ ss K)):exs tb Φ (.cons (.cond c b o) ss) ν H K:=by
 refine h1 _ fun H' x=>?_
 subst he
 have h2:=h2 H' x
 cases T<;>exact h2
end
theorem Aeh{Φ:Orc}{ν:Nu}{H:Hp}{it it2:MI}{elt:ME}{n i j:Nat}(P:List (List V))(hI:∀ k:KL,k (Fd P) H→evI tb Φ it ν H k)(hl:P.flatten.length≤1000)
  (h2:∀ (r:List V) (μ:Nu) (H':Hp) (k:KL),r∈P→μ[i]?=some (some (.lst r))→k r H'→evI tb Φ it2 μ H' k) (hE:∀ (v:V) (μ:Nu) (H':Hp) (k:KE),μ[j]?=some (some v)→k v H'→ev tb Φ elt μ H' k)
  (hi:i<ν.length+n) (hj:j<ν.length+n) {K:KE} (h:∀ H',Ext H H'→K (.lst P.flatten) H'):ev tb Φ (.comp n elt (.cons i it (.cons j it2 .nil))) ν H K:=by
 refine hI _ ?_
 have go:∀ (Q:List (List V)) (acc:List V) (H':Hp) (k:Hp→Prop),(∀ r∈Q,r∈P)→acc.length+Q.flatten.length≤1000→Ch H acc H'→(∀ H'',Ch H (acc++Q.flatten) H''→k H'')→
   T7 (fun v H' k'=>evG tb Φ (fun ν H K=>ev tb Φ elt ν H K) H.length (.cons j it2 .nil) ((ν++List.replicate n none).set i (some v)) H' k') (Fd Q) H' k:=fun Q=>by
  induction Q with
  | nil=>intro acc H' k _ _ c hk;exact hk H' (by simpa using c)
  | cons r Q ih=>
   intro acc H' k hm hz c hk
   rw [List.flatten_cons,List.length_append] at hz
   refine h2 r _ H' _ (hm r ms9) (List.getElem?_set_self (by rw [List.length_append,List.length_replicate];exact hi)) ?_
   refine M0 (g:=id) r acc H' _ (by lia) c (fun v zA acc' H2 k' ha c2 hk'=>?_) fun H2 c2=>?_
   ·refine hE v _ H2 _ (List.getElem?_set_self (by rw [List.length_set,List.length_append,List.length_replicate];exact hj)) ?_
    exact D5 c2.get ⟨dq9 (by lia),hk' _ c2.set⟩
   ·rw [List.map_id] at c2
    refine ih (acc++r) H2 k (fun s hs=>hm s (mm9 _ hs)) (by rw [List.length_append];lia) c2 fun H3 c3=>hk H3 ?_
    rw [List.flatten_cons,←List.append_assoc];exact c3
 exact go P [] _ _ (fun zA h=>h) (by simpa using hl) ⟨[],(List.append_nil _).symm⟩ fun H2 c=>D5 c.get (h _ c.dead)
theorem Nc:∀ (Q:List (List V)),Ig Q.flatten (Q.map (·.length))=Fd Q
 | []=>rfl
 | r::Q=>by
  show V.lst ((r++Q.flatten).take r.length)::Ig ((r++Q.flatten).drop r.length) (Q.map (·.length))=_
  rw [List.take_left,List.drop_left,Nc Q];rfl
noncomputable def by8(r:List Nat):List UInt8:=r.map fun a=>a.toUInt8
theorem Ge(r:List Nat):(by8 r).length=r.length:=by unfold by8;rw [List.length_map]
theorem Vt(r:List Nat):Ct (kl r)=some (r.map fun (a:Nat)=>(a:Int)):=by
 have e:kl r=(r.map fun (a:Nat)=>(a:Int)).map V.int:=by unfold kl;rw [List.map_map];rfl
 rw [e,Es]
theorem Xp(r:List Nat):byteArr (r.map fun (a:Nat)=>(a:Int))=(by8 r).toArray:=by
 unfold byteArr by8
 rw [List.map_map];rfl
theorem ti(r:List Nat)(h:∀ a∈r,a<3):((r.map fun (a:Nat)=>(a:Int)).all fun i=>decide (0≤i)&&decide (i<256))=true:=by
 refine List.all_eq_true.mpr fun i hi=>?_
 refine x12 (List.mem_map.mp hi) fun a ha zz2=>?_;subst zz2
 have:=h a ha
 rw [dq9 (by lia),dq9 (by lia)];rfl
theorem ph(r:List Nat)(h:∀ a∈r,a<3):(by8 r).map (fun x=>V.int (x.toNat:Int))=kl r:=by
 unfold by8 kl
 rw [List.map_map]
 refine List.map_congr_left fun a ha=>?_
 have:=h a ha
 show V.int ((a.toUInt8.toNat:Nat):Int)=V.int (a:Int)
 have e:a.toUInt8.toNat=a:=by show a % 2^8=a;lia
 rw [e]
theorem Vu(r:List Nat):(by8 r).reverse=by8 r.reverse:=by unfold by8;rw [List.map_reverse]
theorem Nd:∀ (ws:List Str) (p:Str),(Str.join bl (p::ws)).cps.toList=p.cps.toList++(ws.map fun w=>32::w.cps.toList).flatten
 | [],p=>by rw [List.map_nil,List.flatten_nil,List.append_nil];rfl
 | w::ws,p=>by
  rw [Gk,Nd ws w,List.map_cons,List.flatten_cons]
  simp only [List.append_assoc,List.cons_append,List.nil_append]
theorem ji(ws:List Str)(h:∀ w∈ws,32∉w.cps.toList):Fa (A8 ws) bl=("" : Str)::ws:=by
 refine G8 32 (("" : Str)::ws) (by simp) (fun p hp=>?_) _ ?_
 ·rcases List.mem_cons.mp hp with rfl|hp
  ·exact fun hm=>nomatch hm
  ·exact h p hp
 ·rw [Nd,Gc];rfl
theorem zz:(" " : Str)=bl:=by decide +kernel
theorem Aei:("\n" : Str)=⟨#[10]⟩:=by decide +kernel
theorem jj(ws:List Str)(h:∀ w∈ws,10∉w.cps.toList):10∉(A8 ws).cps.toList:=fun hm=>by
 rw [Gc] at hm
 refine x12 (List.mem_flatten.mp hm) fun l hl hm=>?_
 refine x12 (List.mem_map.mp hl) fun w hw zz2=>?_;subst zz2
 rcases List.mem_cons.mp hm with e|e
 ·exact absurd e (by decide)
 ·exact h w hw e
theorem pi(rows:List (List Str))(hne:rows≠[])(h:∀ r∈rows,∀ w∈r,10∉w.cps.toList):Fa (Ce "\n" (rows.map A8)) "\n" = rows.map A8:=by
 rw [Aei]
 refine G8 10 _ (by simpa using hne) (fun p hp=>?_) _ (by rw [Ii])
 refine x12 (List.mem_map.mp hp) fun r hr zz2=>?_;subst zz2
 exact jj r (h r hr)
theorem pk:Os 3 (fun w=>[34,60,62,38,9,10,13].all fun c=>(Jj w c).cps.toList.contains 38&&!(Jj w c).cps.toList.contains 10&&decide (4≤(Jj w c).length)&&decide ((Jj w c).length≤6))=true:=by decide +kernel
theorem Tu{w c:Nat}(hw:w<3)(h:oi c=true):38∈(Jj w c).cps.toList∧10∉(Jj w c).cps.toList∧W46 (Jj w c):=by
 have q:=List.all_eq_true.mp (Ax pk hw) c (List.contains_iff_mem.mp h)
 rw [Bool.and_eq_true,Bool.and_eq_true,Bool.and_eq_true] at q
 refine ⟨List.contains_iff_mem.mp q.1.1.1,fun hm=>?_,od9 q.1.2,od9 q.2⟩
 rw [List.contains_iff_mem.mpr hm] at q
 exact absurd q.1.1.2 (by decide)
theorem Nf(width:Nat)(w:Str)(ws:List Str)(f:Nat)(cur:List Str):Bm width (w::ws) f cur=if width<f+1+w.length then cur::Bm width ws (1+w.length) [w] else Bm width ws (f+1+w.length) (cur++[w]):=rfl
theorem Ng(width:Nat):∀ (ws:List Str) (f:Nat) (cur:List Str),(Bm width ws f cur).flatten=cur++ws
 | [],f,cur=>by show cur++[]=_;rfl
 | w::ws,f,cur=>by
  rw [Nf]
  split
  ·rw [List.flatten_cons,Ng];rfl
  ·rw [Ng,List.append_assoc];rfl
theorem Vv(width:Nat)(h12:12≤width):∀ (ws:List Str) (f:Nat) (cur:List Str),(∀ w∈ws,w.length≤6)→(cur=[]→f≤4∧ws≠[])→∀ r∈Bm width ws f cur,r≠[]
 | [],f,cur,_,hc,r,hr=>by
  have e:r=cur:=List.mem_singleton.mp hr
  subst e
  exact fun e=>(hc e).2 rfl
 | w::ws,f,cur,hw,hc,r,hr=>by
  have w1:=hw w ms9
  have hw':∀ z∈ws,z.length≤6:=fun z hz=>hw z (mm9 _ hz)
  rw [Nf] at hr
  split at hr
  ·rename_i q
   rcases List.mem_cons.mp hr with rfl|hr
   ·intro e
    have:=(hc e).1
    lia
   ·exact Vv width h12 ws _ [w] hw' (fun e=>absurd e (by simp)) r hr
  ·exact Vv width h12 ws _ (cur++[w]) hw' (fun e=>absurd e (by simp)) r hr
theorem Tv(width:Nat):∀ (ws:List Str) (f:Nat) (cur:List Str),Bm width ws f cur≠[]
 | [],f,cur=>by show [cur]≠[];simp
 | w::ws,f,cur=>by
  rw [Nf]
  split
  ·simp
  ·exact Tv width ws _ _
theorem pm{α:Type}{rs:List (List α)}{r:List α}(h:r∈rs):r.length≤rs.flatten.length:=by
 induction rs with
 | nil=>cases h
 | cons s rs ih=>
  rw [List.flatten_cons,List.length_append]
  rcases List.mem_cons.mp h with rfl|h
  ·lia
  ·have:=ih h;lia
theorem Jm{α:Type}:∀ (rs:List (List α)),(∀ r∈rs,r≠[])→rs.length≤rs.flatten.length
 | [],_=>Nat.zero_le _
 | r::rs,h=>by
  have ih:=Jm rs fun s hs=>h s (mm9 _ hs)
  have:=List.length_pos_iff.mpr (h r ms9)
  rw [List.flatten_cons,List.length_append,List.length_cons];lia
theorem Vw(n:Nat):∀ bs:List (List Nat),(∀ b∈bs,b.length≤n)→bs.flatten.length≤n*bs.length
 | [],_=>Nat.zero_le _
 | b::bs,h=>by
  have h1:=h b ms9
  have h2:=Vw n bs fun x hx=>h x (mm9 _ hx)
  rw [List.flatten_cons,List.length_append,List.length_cons,Nat.mul_succ];lia
theorem po:∀ (l:List Str),l.length≤100→(∀ w∈l,w.length≤6)→(Str.join bl l).length≤1000
 | [],_,_=>Nat.zero_le _
 | p::ws,hl,h=>by
  have e:=congrArg List.length (Nd ws p)
  rw [List.length_append,Array.length_toList,Array.length_toList] at e
  have f:=Vw 7 (ws.map fun w=>32::w.cps.toList) fun b hb=>by
   refine x12 (List.mem_map.mp hb) fun w hw zz2=>?_;subst zz2
   have:w.cps.size≤6:=h w (mm9 _ hw)
   rw [List.length_cons,Array.length_toList];lia
  rw [List.length_map] at f
  rw [List.length_cons] at hl
  have h1:p.cps.size≤6:=h p ms9
  show (Str.join bl (p::ws)).cps.size≤1000
  lia
noncomputable def sg(c:Nat):Str:=⟨#[c]⟩
theorem jk(l:List Nat)(n:Nat):(De l).take n=De (l.take n):=by unfold De;rw [List.map_take]
theorem jm:∀ cs:List Nat,((cs.map sg).map (·.length)).sum=cs.length
 | []=>rfl
 | c::cs=>by
  rw [List.map_cons,List.map_cons,List.sum_cons,jm cs,List.length_cons]
  show 1+cs.length=cs.length+1
  lia
section
variable {k w:Nat} {cells:List Nat} {H:Hp} {K:KS} {ss:MSs} {a0 a2 a4 a5:V}
noncomputable abbrev nuA(a0:V)(cells:List Nat)(a2:V)(w:Nat)(a4 a5:V)(a6 a7:Option V):Nu:=[some a0,some (.lst (De cells)),some a2,some (.int (w:Int)),some a4,some a5,a6,a7,none,none,none,none,none,none,none,none,none,none,none,none]
theorem jn(hw:w<3)(hc:cells.length=13)(h:∀ H',Ext H H'→exs tb (Ph (k+5)) ss (nuA a0 cells a2 w a4 a5 (some (.lst (Be (((cells.take 10).map (Zj w)).map sg)))) none) H' K) :
  exs tb (Ph (k+5)) (.cons (.assign 6 (.comp 1 rj (.cons 20 (.val (.slc (.var 1) .none (.int 10) false)) .nil))) ss) (nuA a0 cells a2 w a4 a5 none none) H K:=by
 refine F9 (v:=.lst (Be (((cells.take 10).map (Zj w)).map sg))) (fun k' h'=>?_) h
 have hl:(De cells).length=13:=by rw [C7,hc]
 apply D6 (l:=De (cells.take 10)) (g:=fun v=>match v with|.int n=>.str (sg (Zj w n.toNat))|v=>v)
 ·intro k'' h''
  refine ⟨dq9 (by rw [hl];decide),?_⟩
  show Z4 (.lst (Do 0 (clipAt (De cells).length 10) (De cells))) fun l=>k'' l H
  rw [hl,show Do 0 (clipAt 13 10) (De cells)=De (cells.take 10) from jk cells 10]
  exact ⟨dq9 (by rw [C7];exact Nat.le_trans (List.length_take_le _ _) (by decide)),h''⟩
 ·rw [C7];exact Nat.le_trans (List.length_take_le _ _) (by decide)
 ·intro v hv H' k'' hk
  refine x12 (List.mem_map.mp hv) fun n zA zz2=>?_;subst zz2
  dsimp only [List.set,List.append,List.replicate]
  exact yt (k+4) w n hw H' k'' (hk H' .rfl)
 ·intro H' x
  have e:(De (cells.take 10)).map (fun v=>match v with|.int n=>V.str (sg (Zj w n.toNat))|v=>v)=Be (((cells.take 10).map (Zj w)).map sg):=by
   unfold De Be
   rw [List.map_map,List.map_map,List.map_map];rfl
  rw [e];exact h' H' x
theorem jo(hw:w<3)(cs:List Nat)(hne:cs≠[])(hl:cs.length≤10)(hs:∀ c∈cs,N0 w c=true)(h:∀ H',Ext H H'→exs tb (Ph (k+5)) ss (nuA a0 cells a2 w a4 a5 (some (.lst (Be (cs.map sg)))) (some (.lst (Be (cs.map (Jj w)))))) H' K) :
  exs tb (Ph (k+5)) (.cons (.assign 7 (.scall .split (.call 259 (.cons (.var 3) (.cons (.scall .join (.str " ") (.cons (.var 6) .nil)) .nil))) (.cons (.str " ") .nil)))
   (.cons (.cond (.cmp .NotEq (.var 7) (.comp 1 rm (.cons 20 (.val (.var 6)) .nil))) (.cons (.ret (.bool false)) .nil) .nil) ss)) (nuA a0 cells a2 w a4 a5 (some (.lst (Be (cs.map sg)))) none) H K:=by
 have hx:(Ce " " (cs.map sg))=on cs:=by rw [Ii,zz];rfl
 refine Aq (v:=.lst (Be (cs.map (Jj w)))) (H1:=H) (fun k' h'=>?_) ?_
 ·refine ⟨rfl,Ar (Gl _) ⟨?_,by rw [Br];rfl,?_⟩⟩
  ·rw [jm,List.length_map];exact dq9 (by have:Ah=1048576:=rfl;lia)
  rw [hx]
  refine om (k+3) w hw (on cs) (Zl hw cs (by lia) hs) H _ fun y hy=>⟨rfl,?_⟩
  have hy2:y=Ad8 w cs:=Pz (by rw [hy,P7 hw cs hne hs])
  have yl:y.length≤1000:=by
   rw [hy2]
   exact po _ (by rw [List.length_map];lia) fun v hv=>by
    refine x12 (List.mem_map.mp hv) fun c hc zz2=>?_;subst zz2
    exact (Tu hw (E9 (hs c hc))).2.2.2
  refine ⟨dq9 (by lia),by rw [Br];rfl,?_⟩
  show k' (.lst ((Fa y " ").map .str)) H
  rw [zz,Vj hw cs hne hs y hy]
  exact h'
 dsimp only [List.set]
 refine Aeg (T:=false) false rfl (fun k' h'=>?_) h
 refine th (l:=Be (cs.map (Jj w))) (fun zA h=>h) (fun k'' h''=>?_) (pe 3 _) h'
 apply D6 (l:=Be (cs.map sg)) (g:=fun v=>match v with|.str s=>.str (Jj w (s.cps.getD 0 0))|v=>v)
 ·exact fun zA h=>⟨dq9 (by rw [A5,List.length_map];exact Nat.le_trans hl (by decide)),h⟩
 ·rw [A5,List.length_map];lia
 ·intro v hv H' k3 hk
  refine x12 (List.mem_map.mp hv) fun s hs' zz2=>?_;subst zz2
  refine x12 (List.mem_map.mp hs') fun c hc zz2=>?_;subst zz2
  dsimp only [List.set,List.append,List.replicate]
  exact Su (k+4) w c hw (E9 (hs c hc)) H' k3 (hk H' .rfl)
 ·intro H' x
  have e:(Be (cs.map sg)).map (fun v=>match v with|.str s=>V.str (Jj w (s.cps.getD 0 0))|v=>v)=Be (cs.map (Jj w)):=by
   unfold Be
   rw [List.map_map,List.map_map,List.map_map];rfl
  rw [e];exact h'' H' x
end
section
variable {k:Nat} {H:Hp} {K:KS} {ss:MSs} {a0 a1 a2 a3 a6:V}
noncomputable abbrev nuB(a0 a1 a2 a3:V)(width room:Nat)(a6:V)(ws:List Str)(a8 a9 a10:Option V):Nu:=[some a0,some a1,some a2,some a3,some (.int (width:Int)),some (.int (room:Int)),some a6,some (.lst (Be ws)),a8,a9,a10,none,none,none,none,none,none,none,none,none]
theorem pp(width room:Nat)(ws:List Str)(hne:ws≠[])(hw:Bz ws)(h6:∀ w∈ws,w.length≤6)(h12:12≤width)(hr:room≤4)
  (h:exs tb (Ph (k+5)) ss (nuB a0 a1 a2 a3 width room a6 ws (some (.str (Ce "\n" ((Bm width ws room []).map A8)))) none none) H K) :
  exs tb (Ph (k+5)) (.cons (.assign 8 (.call 266 (.cons (.var 7) (.cons (.var 4) (.cons (.var 5) .nil)))))
   (.cons (.cond (.cmp .NotEq (.var 8) (.call 273 (.cons (.var 7) (.cons (.var 4) (.cons (.var 5) .nil))))) (.cons (.ret (.bool false)) .nil) .nil) ss)) (nuB a0 a1 a2 a3 width room a6 ws none none none) H K:=by
 refine Aq (v:=.str (Ce "\n" ((Bm width ws room []).map A8))) (H1:=H) (fun k' h'=>i0 k width room ws hne hw h6 h12 hr H k' h') ?_
 dsimp only [List.set]
 refine C6 (T:=false) false rfl (fun k' h'=>S9 (k+4) width room ws hw.1 hw.short H _ ?_) h
 exact kb (T:=(Ce "\n" ((Bm width ws room []).map A8) != Ce "\n" ((Bm width ws room []).map A8))) (by rw [bne_self_eq_false]) h'
theorem jp(width room:Nat)(ws:List Str)(rows:List (List Str))(hne:rows≠[])(hn:rows.length≤100)(hr:∀ r∈rows,r.length≤100∧∀ w∈r,w.length≤6∧10∉w.cps.toList∧32∉w.cps.toList)(hsz:(Ce "\n" (rows.map A8)).length≤100000)
  (h:∀ H',Ext H H'→exs tb (Ph (k+5)) ss (nuB a0 a1 a2 a3 width room a6 ws (some (.str (Ce "\n" (rows.map A8)))) (some (.lst (Fd (rows.map Be)))) none) H' K) :
  exs tb (Ph (k+5)) (.cons (.assign 9 (.comp 1 rn (.cons 20 (.val (.scall .split (.var 8) (.cons (.str "\n") .nil))) .nil))) ss) (nuB a0 a1 a2 a3 width room a6 ws (some (.str (Ce "\n" (rows.map A8)))) none none) H K:=by
 refine F9 (v:=.lst (Fd (rows.map Be))) (fun k' h'=>?_) h
 have rl:∀ r∈rows,(A8 r).length≤1000:=fun r hm=>by
  have e:=congrArg List.length (Gc r)
  rw [Array.length_toList] at e
  have f:=Vw 7 (r.map fun w=>32::w.cps.toList) fun b hb=>by
   refine x12 (List.mem_map.mp hb) fun w hw zz2=>?_;subst zz2
   have:w.cps.size≤6:=((hr r hm).2 w hw).1
   rw [List.length_cons,Array.length_toList];lia
  rw [List.length_map] at f
  have:=(hr r hm).1
  show (A8 r).cps.size≤1000
  lia
 apply D6 (l:=Be (rows.map A8)) (g:=fun v=>match v with|.str s=>.lst (Be ((Fa s bl).drop 1))|v=>v)
 ·intro k'' h''
  refine ⟨rfl,dq9 hsz,by decide +kernel,?_⟩
  rw [pi rows hne fun r hm w hw=>((hr r hm).2 w hw).2.1]
  exact ⟨dq9 (by show (Be _).length≤_;rw [A5,List.length_map];exact Nat.le_trans hn (by decide)),h''⟩
 ·rw [A5,List.length_map];lia
 ·intro v hv H' k3 hk
  refine x12 (List.mem_map.mp hv) fun s hs' zz2=>?_;subst zz2
  refine x12 (List.mem_map.mp hs') fun r hm zz2=>?_;subst zz2
  dsimp only [List.set,List.append,List.replicate]
  have cut:=ji r fun w hw=>((hr r hm).2 w hw).2.2
  refine gz (l:=Be (("" : Str)::r)) (by rw [A5];exact Nat.succ_pos _) (by rw [A5,List.length_cons];have:=(hr r hm).1;lia) (fun k4 h4=>⟨rfl,dq9 (by have:=rl r hm;lia),by rw [Br];rfl,?_⟩) ?_
  ·rw [zz,cut];exact h4
  ·have hk:=hk H' .rfl
   dsimp only at hk
   rw [cut] at hk
   exact hk
 ·intro H' x
  have e:(Be (rows.map A8)).map (fun v=>match v with|.str s=>V.lst (Be ((Fa s bl).drop 1))|v=>v)=Fd (rows.map Be):=by
   unfold Fd
   show ((rows.map A8).map V.str).map _=_
   rw [List.map_map,List.map_map,List.map_map]
   refine List.map_congr_left fun r hm=>?_
   show V.lst (Be ((Fa (A8 r) bl).drop 1))=V.lst (Be r)
   rw [ji r fun w hw=>((hr r hm).2 w hw).2.2];rfl
  rw [e];exact h' H' x
theorem Vx(width room:Nat)(ws:List Str)(rows:List (List Str))(a8:V)(hn:rows.length≤100)(hr:∀ r∈rows,r.length≤100∧∀ w∈r,w.length≤6)
  (h:∀ H',Ext H H'→exs tb (Ph (k+5)) ss (nuB a0 a1 a2 a3 width room a6 ws (some a8) (some (.lst (Fd (rows.map Be)))) (some (.lst (A4 (rows.map (List.map kd)))))) H' K) :
  exs tb (Ph (k+5)) (.cons (.assign 10 (.comp 1 rp (.cons 20 (.val (.var 9)) .nil))) ss) (nuB a0 a1 a2 a3 width room a6 ws (some a8) (some (.lst (Fd (rows.map Be)))) none) H K:=by
 refine F9 (v:=.lst (A4 (rows.map (List.map kd)))) (fun k' h'=>?_) h
 have g1:∀ r:List Str,(Be r).map (fun v=>match v with|.str s=>V.int ((kd s:Nat):Int)|v=>v)=kl (r.map kd):=fun r=>by
  unfold Be kl
  rw [List.map_map,List.map_map];rfl
 apply D6 (l:=Fd (rows.map Be)) (g:=fun v=>match v with|.lst r=>.lst (r.map fun v=>match v with|.str s=>V.int ((kd s:Nat):Int)|v=>v)|v=>v)
 ·exact fun zA h=>⟨dq9 (by rw [Kr,List.length_map];exact Nat.le_trans hn (by decide)),h⟩
 ·rw [Kr,List.length_map];lia
 ·intro v hv H' k3 hk
  refine x12 (List.mem_map.mp hv) fun s hs' zz2=>?_;subst zz2
  refine x12 (List.mem_map.mp hs') fun r hm zz2=>?_;subst zz2
  dsimp only [List.set,List.append,List.replicate]
  apply D6 (l:=Be r) (g:=fun v=>match v with|.str s=>V.int ((kd s:Nat):Int)|v=>v)
  ·exact fun zA h=>⟨dq9 (by rw [A5];exact Nat.le_trans (hr r hm).1 (by decide)),h⟩
  ·rw [A5];have:=(hr r hm).1;lia
  ·intro v hv H2 k4 hk4
   refine x12 (List.mem_map.mp hv) fun w hw zz2=>?_;subst zz2
   refine ⟨dq9 (Nat.le_trans ((hr r hm).2 w hw) (by decide)),rfl,?_⟩
   exact hk4 H2 .rfl
  ·exact hk
 ·intro H' x
  have e:(Fd (rows.map Be)).map (fun v=>match v with|.lst r=>.lst (r.map fun v=>match v with|.str s=>V.int ((kd s:Nat):Int)|v=>v)|v=>v)=A4 (rows.map (List.map kd)):=by
   unfold Fd A4
   rw [List.map_map,List.map_map,List.map_map]
   refine List.map_congr_left fun r zA=>?_
   exact congrArg V.lst (g1 r)
  rw [e];exact h' H' x
end
theorem Jn(P:List (List Nat)):A4 P=Fd (P.map kl):=by unfold A4 Fd;rw [List.map_map];rfl
theorem jq(r:List Nat):(kl r).reverse=kl r.reverse:=by unfold kl;rw [List.map_reverse]
theorem Qg:∀ P:List (List Nat),(P.map kl).flatten=kl P.flatten
 | []=>rfl
 | r::P=>by
  rw [List.map_cons,List.flatten_cons,List.flatten_cons,Qg P]
  unfold kl;rw [List.map_append]
structure Gf(P:List (List Nat)):Prop where
 ne:P≠[]
 row:∀ r∈P,E7 r
 flat:P.flatten.length≤25
theorem Gf.count{P:List (List Nat)}(h:Gf P):P.length≤25:=Nat.le_trans (Jm P fun r hr=>(h.row r hr).ne) h.flat
theorem Gf.lt{P:List (List Nat)}(h:Gf P):∀ a∈P.flatten,a<3:=fun a ha=>by
 refine x12 (List.mem_flatten.mp ha) fun r hr ha=>?_
 exact (h.row r hr).2.2 a ha
theorem Gf.pos{P:List (List Nat)}(h:Gf P):0<P.flatten.length:=by
 obtain ⟨r,rs,rfl⟩:∃ r rs,P=r::rs:=by
  cases P with
  | nil=>exact absurd rfl h.ne
  | cons r rs=>exact ⟨r,rs,rfl⟩
 have:=(h.row r ms9).1
 rw [List.flatten_cons,List.length_append];lia
theorem Af3{Φ:Orc}{e1 e2 e3:ME}{ν:Nu}{H:Hp}{k:KE}(h1:∀ k:KE,(∀ H',Ext H H'→k (.bool false) H')→ev tb Φ e1 ν H k)(h2:∀ H',Ext H H'→evB tb Φ .Or (.cons e2 (.cons e3 .nil)) ν H' k):ev tb Φ (.bop .Or (.cons e1 (.cons e2 (.cons e3 .nil)))) ν H k:=h1 _ h2
theorem Af4{Φ:Orc}{e1 e2:ME}{ν:Nu}{H:Hp}{k:KE}(h1:∀ k:KE,k (.bool false) H→ev tb Φ e1 ν H k)(h2:ev tb Φ e2 ν H k):evB tb Φ .Or (.cons e1 (.cons e2 .nil)) ν H k:=h1 _ h2
section
variable {k:Nat} {H:Hp} {K:KS} {ss:MSs} {a0 a1 a2 a3 a4 a5 a6 a7 a8 a9:V} {P:List (List Nat)}
noncomputable abbrev nuC(a0 a1 a2 a3 a4 a5 a6 a7 a8 a9:V)(P:List (List Nat))(a11 a12 a13 a14:Option V):Nu:=[some a0,some a1,some a2,some a3,some a4,some a5,some a6,some a7,some a8,some a9,some (.lst (A4 P)),a11,a12,a13,a14,none,none,none,none,none]
theorem Aew(hP:Gf P):decide ((A4 P).length≤Ah)=true:=dq9 (by rw [E8];exact Nat.le_trans hP.count (by decide))
theorem pv{Φ:Orc}{ν:Nu}{H:Hp}{K:KE}{e:ME}{r:List Nat}(hl:r.length≤1000)(h3:∀ a∈r,a<3)(he:∀ k:KE,k (.lst (kl r)) H→ev tb Φ e ν H k)(h:K (.bytes (by8 r).toArray) H):ev tb Φ (.bcall .bytes (.cons e .nil)) ν H K:=by
 refine sr (he _ (Ar (Vt r) ⟨dq9 (by rw [Cr];exact hl),ti r h3,?_⟩))
 rw [Xp];exact h
theorem jr{Φ:Orc}{ν:Nu}{H:Hp}{K:KE}{e:ME}{r:List Nat}(hl:r.length≤1000)(h3:∀ a∈r,a<3)(he:∀ k:KE,k (.bytes (by8 r).toArray) H→ev tb Φ e ν H k)(h:K (.lst (kl r)) H):ev tb Φ (.bcall .list (.cons e .nil)) ν H K:=by
 refine sr (he _ ⟨dq9 (by show (by8 r).length≤_;rw [Ge];exact hl),?_⟩)
 show K (.lst ((by8 r).map fun x=>.int x.toNat)) H
 rw [ph r h3];exact h
theorem Tw(hP:Gf P)(h:∀ H',Ext H H'→exs tb (Ph (k+5)) ss (nuC a0 a1 a2 a3 a4 a5 a6 a7 a8 a9 P (some (.lst (A4 (P.map List.reverse)))) none none none) H' K) :
  exs tb (Ph (k+5)) (.cons (.assign 11 (.comp 1 rq (.cons 20 (.val (.var 10)) .nil))) ss) (nuC a0 a1 a2 a3 a4 a5 a6 a7 a8 a9 P none none none none) H K:=by
 refine F9 (v:=.lst (A4 (P.map List.reverse))) (fun k' h'=>?_) h
 apply D6 (l:=A4 P) (g:=fun v=>match v with|.lst r=>.lst r.reverse|v=>v)
 ·exact fun zA h=>⟨Aew hP,h⟩
 ·rw [E8];have:=hP.count;lia
 ·intro v hv H' k3 hk
  refine x12 (List.mem_map.mp hv) fun r hm zz2=>?_;subst zz2
  dsimp only [List.set,List.append,List.replicate]
  have hr:=hP.row r hm
  have hl:=hr.2.1
  refine jr (r:=r.reverse) (by rw [List.length_reverse];lia) (fun a ha=>hr.2.2 a (List.mem_reverse.mp ha)) (fun k4 h4=>?_) (by rw [←jq];exact hk H' .rfl)
  refine pv (r:=r) (K:=fun v H1=>ev tb (Ph (k+5)) (.bcall .len (.cons (.var 20) .nil)) _ H1 fun w H2=>Ph (k+5) 203 [v,w] H2 k4) (by lia) hr.2.2 (fun zA h=>h) ?_
  refine ⟨dq9 (by rw [Cr];exact Nat.le_trans hl (by decide)),?_⟩
  rw [Cr,←Ge]
  refine M5 (k+4) (by8 r) (by rw [Ge];exact hr.1) (by rw [Ge];exact hl) H' k4 ?_
  rw [Vu];exact h4
 ·intro H' x
  have e:(A4 P).map (fun v=>match v with|.lst r=>.lst r.reverse|v=>v)=A4 (P.map List.reverse):=by
   unfold A4
   rw [List.map_map,List.map_map]
   exact List.map_congr_left fun r zA=>congrArg V.lst (jq r)
  rw [e];exact h' H' x
theorem pw(a11:Option V)(hP:Gf P)(h:∀ H',Ext H H'→exs tb (Ph (k+5)) ss (nuC a0 a1 a2 a3 a4 a5 a6 a7 a8 a9 P a11 (some (.bytes (by8 P.flatten).toArray)) (some (.bytes (by8 P.flatten.reverse).toArray)) none) H' K) :
  exs tb (Ph (k+5)) (.cons (.assign 12 (.bcall .bytes (.cons (.comp 2 rt (.cons 20 (.val (.var 10)) (.cons 21 (.val (.var 20)) .nil))) .nil)))
   (.cons (.assign 13 (.call 203 (.cons (.var 12) (.cons (.bcall .len (.cons (.var 12) .nil)) .nil)))) ss)) (nuC a0 a1 a2 a3 a4 a5 a6 a7 a8 a9 P a11 none none none) H K:=by
 have hl:=hP.flat
 refine F9 (v:=.bytes (by8 P.flatten).toArray) (fun k' h'=>?_) fun H1 x1=>?_
 ·refine sr ?_
  refine Aeh (P.map kl) (fun zA h=>by rw [←Jn] at h;exact ⟨Aew hP,h⟩) (by rw [Qg,Cr];lia) (fun r μ H' k3 hr hμ h3=>?_) (fun v μ H' k3 hμ h3=>?_) (Nat.le_of_ble_eq_true rfl) (Nat.le_of_ble_eq_true rfl) fun H2 x2=>?_
  ·refine x12 (List.mem_map.mp hr) fun s hs zz2=>?_;subst zz2
   show Iq μ 20 _
   unfold Iq
   rw [hμ]
   exact ⟨dq9 (by rw [Cr];exact Nat.le_trans (hP.row s hs).2.1 (by decide)),h3⟩
  ·show Iq μ 21 _
   unfold Iq
   rw [hμ]
   exact h3
  ·rw [Qg]
   refine Ar (Vt _) ⟨dq9 (by rw [Cr];lia),ti _ hP.lt,?_⟩
   rw [Xp];exact h' H2 x2
 dsimp only [List.set]
 refine Aq (v:=.bytes (by8 P.flatten.reverse).toArray) (H1:=H1) (fun k' h'=>?_) (h H1 x1)
 refine ⟨dq9 (by show (by8 P.flatten).length≤_;rw [Ge];exact Nat.le_trans hl (by decide)),?_⟩
 refine M5 (k+4) (by8 P.flatten) (by rw [Ge];exact hP.pos) (by rw [Ge];exact hl) H1 k' ?_
 rw [Vu];exact h'
theorem pz(hP:Gf P)(h:∀ H',Ext H H'→exs tb (Ph (k+5)) ss (nuC a0 a1 a2 a3 a4 a5 a6 a7 a8 a9 P (some (.lst (A4 (P.map List.reverse)))) (some (.bytes (by8 P.flatten).toArray)) (some (.bytes (by8 P.flatten.reverse).toArray)) none) H' K) :
  exs tb (Ph (k+5)) (.cons (.cond (.bop .Or (.cons (.cmp .NotEq (.var 11) (.comp 1 ru (.cons 20 (.val (.var 10)) .nil))) (.cons (.cmp .NotEq (.var 13) (.slc (.var 12) .none .none true)) (.cons (.not (.bcall .isinst (.cons (.var 13) (.cons (.glob 0) .nil)))) .nil)))) (.cons (.ret (.bool false)) .nil) .nil) ss)
   (nuC a0 a1 a2 a3 a4 a5 a6 a7 a8 a9 P (some (.lst (A4 (P.map List.reverse)))) (some (.bytes (by8 P.flatten).toArray)) (some (.bytes (by8 P.flatten.reverse).toArray)) none) H K:=by
 have hl:=hP.flat
 refine Aeg (T:=false) false rfl (fun k' h'=>?_) h
 refine Af3 (fun k2 h2=>th (l:=A4 (P.map List.reverse)) (fun zA h=>h) (fun k'' h''=>?_) (jh 2 _) h2) fun H1 x1=>?_
 ·apply D6 (l:=A4 P) (g:=fun v=>match v with|.lst r=>.lst r.reverse|v=>v)
  ·exact fun zA h=>⟨Aew hP,h⟩
  ·rw [E8];have:=hP.count;lia
  ·intro v hv H' k3 hk
   refine x12 (List.mem_map.mp hv) fun r hm zz2=>?_;subst zz2
   dsimp only [List.set,List.append,List.replicate]
   exact ym (by rw [Cr];have:=(hP.row r hm).2.1;lia) (fun zA h=>h) (hk H' .rfl)
  ·intro H' x
   have e:(A4 P).map (fun v=>match v with|.lst r=>.lst r.reverse|v=>v)=A4 (P.map List.reverse):=by
    unfold A4
    rw [List.map_map,List.map_map]
    exact List.map_congr_left fun r zA=>congrArg V.lst (jq r)
   rw [e];exact h'' H' x
 ·refine Af4 (fun k2 h2=>⟨dq9 (by show (by8 P.flatten).length≤_;rw [Ge];exact Nat.le_trans hl (by decide)),?_⟩) ⟨beq_self_eq_true _,h' H1 x1⟩
  refine kb (T:=((by8 P.flatten.reverse).toArray != ((by8 P.flatten).toArray.toList.reverse).toArray)) ?_ h2
  show ((by8 P.flatten.reverse).toArray != ((by8 P.flatten).reverse).toArray)=false
  rw [Vu,bne_self_eq_false]
theorem Zt(a11 a12:Option V)(hP:Gf P)(h:∀ H',Ext H H'→exs tb (Ph (k+5)) ss (nuC a0 a1 a2 a3 a4 a5 a6 a7 a8 a9 P a11 a12 (some (.bytes (by8 P.flatten.reverse).toArray)) (some (.lst (A4 (P.map List.reverse).reverse)))) H' K) :
  exs tb (Ph (k+5)) (.cons (.assign 14 (.call 280 (.cons (.bcall .list (.cons (.var 13) .nil)) (.cons (.slc (.comp 1 W2 (.cons 20 (.val (.var 10)) .nil)) .none .none true) .nil)))) ss)
   (nuC a0 a1 a2 a3 a4 a5 a6 a7 a8 a9 P a11 a12 (some (.bytes (by8 P.flatten.reverse).toArray)) none) H K:=by
 have hl:=hP.flat
 have hc:=hP.count
 refine F9 (v:=.lst (A4 (P.map List.reverse).reverse)) (fun k' h'=>?_) h
 refine jr (r:=P.flatten.reverse) (K:=fun v H1=>ev tb (Ph (k+5)) (.slc (.comp 1 W2 (.cons 20 (.val (.var 10)) .nil)) .none .none true) _ H1 fun w H2=>Ph (k+5) 280 [v,w] H2 k') (by rw [List.length_reverse];lia) (fun a ha=>hP.lt a (List.mem_reverse.mp ha)) (fun zA h=>h) ?_
 have fin:∀ H',Ext H H'→Ph (k+5) 280 [.lst (kl P.flatten.reverse),.lst (De (P.map (·.length)).reverse)] H' k':=fun H' x=>by
  have e:P.flatten.reverse=((P.map List.reverse).reverse).flatten:=by rw [List.reverse_flatten]
  have es:(P.map (·.length)).reverse=(((P.map List.reverse).reverse).map kl).map (·.length):=by
   rw [List.map_reverse,List.map_reverse,List.map_map,List.map_map]
   congr 1
   exact List.map_congr_left fun r zA=>by show r.length=(kl r.reverse).length;rw [Cr,List.length_reverse]
  have es2:(P.map (·.length)).sum=P.flatten.length:=by rw [List.length_flatten]
  refine g9 (k+4) (kl P.flatten.reverse) (P.map (·.length)).reverse (by rw [Cr,List.length_reverse];lia) (by rw [List.length_reverse,List.length_map];lia) (by rw [jf,es2,Cr,List.length_reverse];exact Nat.le_refl _) (fun v hv n=>?_) H' k' ?_
  ·obtain ⟨a,_,rfl⟩:=List.mem_map.mp hv;rfl
  ·rw [es,e,←Qg,Nc,←Jn];exact h' H' x
 show ev tb (Ph (k+5)) (.comp 1 W2 (.cons 20 (.val (.var 10)) .nil)) _ H fun v H1=>K3 tb v .none .none true H1 fun w=>Ph (k+5) 280 [.lst (kl P.flatten.reverse),w] H1 k'
 apply D6 (l:=A4 P) (g:=fun v=>match v with|.lst r=>.int (r.length:Int)|v=>v)
 ·exact fun zA h=>⟨Aew hP,h⟩
 ·rw [E8];lia
 ·intro v hv H' k3 hk
  refine x12 (List.mem_map.mp hv) fun r hm zz2=>?_;subst zz2
  dsimp only [List.set,List.append,List.replicate]
  exact ⟨dq9 (by rw [Cr];exact Nat.le_trans (hP.row r hm).2.1 (by decide)),hk H' .rfl⟩
 ·intro H' x
  have e:(A4 P).map (fun v=>match v with|.lst r=>V.int (r.length:Int)|v=>v)=De (P.map (·.length)):=by
   unfold A4 De
   rw [List.map_map,List.map_map]
   exact List.map_congr_left fun r zA=>by show V.int (((kl r).length:Nat):Int)=_;rw [Cr];rfl
  rw [e]
  refine ⟨dq9 (by rw [C7,List.length_map];exact Nat.le_trans hc (by decide)),?_⟩
  have er:(De (P.map (·.length))).reverse=De (P.map (·.length)).reverse:=by unfold De;rw [List.map_reverse]
  rw [er];exact fin H' x
end
structure Ca(rows:List (List Str))(Wd:List Str):Prop where
 ne:rows≠[]
 row:∀ r∈rows,r≠[]
 flat:rows.flatten=Wd
 short:Wd.length≤25
 like:∀ w∈Wd,W46 w
section
variable {rows:List (List Str)} {Wd:List Str}
theorem Ca.mem(h:Ca rows Wd){r:List Str}(hr:r∈rows):∀ w∈r,W46 w:=fun w hw=>h.like w (h.flat▸List.mem_flatten.mpr ⟨r,hr,hw⟩)
theorem Ca.len(h:Ca rows Wd){r:List Str}(hr:r∈rows):r.length≤25:=by have:=pm hr;rw [h.flat] at this;exact Nat.le_trans this h.short
theorem Ca.count(h:Ca rows Wd):rows.length≤25:=by have:=Jm rows h.row;rw [h.flat] at this;exact Nat.le_trans this h.short
theorem jt:∀ rows:List (List Str),(rows.map (List.map kd)).flatten.length=rows.flatten.length
 | []=>rfl
 | r::rows=>by rw [List.map_cons,List.flatten_cons,List.flatten_cons,List.length_append,List.length_append,jt rows,List.length_map]
theorem Ca.pic(h:Ca rows Wd):Gf (rows.map (List.map kd)):=by
 refine ⟨by simpa using h.ne,fun r hr=>?_,by rw [jt,h.flat];exact h.short⟩
 refine x12 (List.mem_map.mp hr) fun s hs zz2=>?_;subst zz2
 have l1:=h.len hs
 refine ⟨by rw [List.length_map];exact List.length_pos_iff.mpr (h.row s hs),by rw [List.length_map];exact l1,fun a ha=>?_⟩
 refine x12 (List.mem_map.mp ha) fun w zA zz2=>?_;subst zz2
 exact Nat.mod_lt _ (by decide)
theorem Ca.rowsOk(h:Ca rows Wd):Sr (rows.map Be):=by
 have l1:=h.count
 refine ⟨by rw [List.length_map];exact List.length_pos_iff.mpr h.ne,by rw [List.length_map];lia,fun r hr=>?_⟩
 refine x12 (List.mem_map.mp hr) fun s hs zz2=>?_;subst zz2
 have l2:=h.len hs
 refine ⟨by rw [A5];exact List.length_pos_iff.mpr (h.row s hs),by rw [A5];lia,fun v hv n=>?_⟩
 refine x12 (List.mem_map.mp hv) fun w zA zz2=>?_;subst zz2
 rfl
theorem Gf.rowsOk{P:List (List Nat)}(h:Gf P):Sr (P.map kl):=by
 have l1:=h.count
 refine ⟨by rw [List.length_map];exact List.length_pos_iff.mpr h.ne,by rw [List.length_map];lia,fun r hr=>?_⟩
 refine x12 (List.mem_map.mp hr) fun s hs zz2=>?_;subst zz2
 have l2:=(h.row s hs).2.1
 refine ⟨by rw [Cr];exact (h.row s hs).1,by rw [Cr];lia,fun v hv n=>?_⟩
 refine x12 (List.mem_map.mp hv) fun w zA zz2=>?_;subst zz2
 rfl
theorem Vy(h:Ca rows Wd):Jf (rows.map Be)=Be (Ag ("" : Str) rows):=Jl V.str "" .none rows h.row h.ne
theorem ju{P:List (List Nat)}(h:Gf P):Jf (P.map kl)=kl (Ag 0 P):=Jl (fun (a:Nat)=>V.int (a:Int)) 0 .none P (fun r hr=>(h.row r hr).ne) h.ne
theorem jv(h:Ca rows Wd):Ag 0 (rows.map (List.map kd))=(Ag ("" : Str) rows).map kd:=Jl kd "" 0 rows h.row h.ne
theorem Nh{α:Type}(d:α)(rs:List (List α))(n:Nat)(hn:rs.length≤n)(hr:∀ r∈rs,r.length≤n):(Ag d rs).length≤4*n:=by
 unfold Ag
 have h1:(rs.headD []).length≤n:=by
  cases rs with
  | nil=>exact Nat.zero_le _
  | cons r rs=>exact hr r ms9
 have h2:(rs.getLastD []).length≤n:=by
  rw [List.getLastD_eq_getLast?]
  cases e:rs.getLast? with
  | none=>exact Nat.zero_le _
  | some a=>exact hr a (List.mem_of_getLast? e)
 rw [List.length_append,List.length_append,List.length_append,List.length_map,List.length_drop,List.length_drop,List.length_reverse,List.length_reverse,List.length_map,List.length_dropLast]
 exact Nat.le_trans (Nat.add_le_add (Nat.add_le_add (Nat.add_le_add h1 (Nat.le_trans (Nat.sub_le _ _) hn)) (Nat.le_trans (Nat.sub_le _ _) h2)) (Nat.le_trans (Nat.sub_le _ _) hn)) (Nat.le_of_eq (tz n))
theorem Jo{α:Type}(d:α)(rs:List (List α))(h:∀ r∈rs,r≠[]):∀ a∈Ag d rs,∃ r∈rs,a∈r:=fun a ha=>by
 unfold Ag at ha
 rcases List.mem_append.mp ha with ha|ha
 ·rcases List.mem_append.mp ha with ha|ha
  ·rcases List.mem_append.mp ha with ha|ha
   ·cases rs with
    | nil=>cases ha
    | cons r rs=>exact ⟨r,ms9,ha⟩
   ·refine x12 (List.mem_map.mp ha) fun r h1 zz2=>?_;subst zz2
    have hm:=List.mem_of_mem_drop h1
    refine ⟨r,hm,?_⟩
    rw [List.getLastD_eq_getLast?,List.getLast?_eq_some_getLast (h r hm)];exact List.getLast_mem _
  ·have hm:=List.mem_reverse.mp (List.mem_of_mem_drop ha)
   rw [List.getLastD_eq_getLast?] at hm
   cases e:rs.getLast? with
   | none=>rw [e] at hm;cases hm
   | some r=>rw [e] at hm;exact ⟨r,List.mem_of_getLast? e,hm⟩
 ·refine x12 (List.mem_map.mp (List.mem_reverse.mp ha)) fun r h1 zz2=>?_;subst zz2
  have hm:=List.dropLast_subset _ h1
  refine ⟨r,hm,?_⟩
  cases r with
  | nil=>exact absurd rfl (h [] hm)
  | cons x r=>exact ms9
theorem Af5(h:Ca rows Wd):∃ (w:Str) (ws:List Str) (m:Nat) (g:Int),Ag ("" : Str) rows=w::ws∧Wd.headD "" = w∧3*g=M2 (rows.map (List.map kd))∧Ew (Ag 0 (rows.map (List.map kd)))=3*g∧Tq ((w::ws).foldl C0 []) w m g:=by
 have hp:=h.pic
 obtain ⟨r,rs,e⟩:∃ r rs,rows=r::rs:=by
  cases e:rows with
  | nil=>exact absurd e h.ne
  | cons r rs=>exact ⟨r,rs,rfl⟩
 obtain ⟨w,q,e2⟩:∃ w q,r=w::q:=by
  cases e2:r with
  | nil=>exact absurd e2 (h.row r (by rw [e];exact ms9))
  | cons w q=>exact ⟨w,q,rfl⟩
 obtain ⟨ws,hb⟩:∃ ws,Ag ("" : Str) rows=w::ws:=⟨_,by rw [e,e2];rfl⟩
 have hk:=jv h
 have hw:Ew (Ag 0 (rows.map (List.map kd)))=M2 (rows.map (List.map kd)):=by
  rw [e,List.map_cons]
  exact Vr _ _ fun s hs=>hp.row s (by rw [e,List.map_cons];exact hs)
 have hc:(kd w::ws.map kd).getLastD 0=kd w:=by
  have q:=Vs (r.map kd) (rs.map (List.map kd)) (by rw [e2];simp)
  rw [←List.map_cons,←e,hk,hb] at q
  exact q
 obtain ⟨m,g,h1,h2⟩:=jc w ws (fun v hv=>by
  obtain ⟨s,hs,hv⟩:=Jo ("" : Str) rows h.row v (by rw [hb];exact hv)
  exact h.mem hs v hv) hc
 have h3:3*g=Ew (Ag 0 (rows.map (List.map kd))):=by rw [hk,hb];exact h1
 refine ⟨w,ws,m,g,hb,?_,h3.trans hw,h3.symm,h2⟩
 rw [←h.flat,e,e2];rfl
end
section
variable {k:Nat} {H:Hp} {K:KS} {ss:MSs} {a0 a1 a3 a4 a5 a6 a8 a11 a12 a13 a14:V} {T:Nat} {Wd:List Str} {rows:List (List Str)} {P:List (List Nat)}
noncomputable abbrev nuD(a0 a1:V)(T:Nat)(a3 a4 a5 a6:V)(Wd:List Str)(a8:V)(rows:List (List Str))(P:List (List Nat))(a11 a12 a13 a14:V)(a15 a16 a17 a18 a19:Option V):Nu:=
 [some a0,some a1,some (.int (T:Int)),some a3,some a4,some a5,some a6,some (.lst (Be Wd)),some a8,some (.lst (Fd (rows.map Be))),some (.lst (A4 P)),some a11,some a12,some a13,some a14,a15,a16,a17,a18,a19]
theorem qb(w:Str)(ws:List Str)(m:Nat)(g:Int)(hL:Ca rows Wd)(hb:Ag ("" : Str) rows=w::ws)(hh:Wd.headD "" = w)(hp:Tq ((w::ws).foldl C0 []) w m g)
  (h:exs tb (Ph (k+5)) ss (nuD a0 a1 T a3 a4 a5 a6 Wd a8 rows P a11 a12 a13 a14 (some (.loc H.length)) (some (.int g)) none none none) (pH H ((w::ws).foldl C0 [])) K) :
  exs tb (Ph (k+5)) (.cons (.assign 15 (.call 330 (.cons (.call 285 (.cons (.var 9) .nil)) .nil))) (.cons (.assign 16 (.call 337 (.cons (.var 15) .nil)))
   (.cons (.cond (.cmp .NotEq (.bcall .len (.cons (.var 15) .nil)) (.bin .Add (.bin .Mult (.int 15) (.bcall .abs (.cons (.var 16) .nil))) (.bcall .len (.cons (.sub (.var 7) (.int 0)) .nil)))) (.cons (.ret (.bool false)) .nil) .nil) ss)))
   (nuD a0 a1 T a3 a4 a5 a6 Wd a8 rows P a11 a12 a13 a14 none none none none none) H K:=by
 have hbl:(w::ws).length≤100:=by
  have:=Nh ("" : Str) rows 25 hL.count fun r hr=>hL.len hr
  rw [hb] at this;exact this
 have hws:∀ v∈w::ws,W46 v:=fun v hv=>by
  obtain ⟨s,hs,hv⟩:=Jo ("" : Str) rows hL.row v (by rw [hb];exact hv)
  exact hL.mem hs v hv
 have hwl:w.length≤6:=(hws w ms9).2
 have hst:((w::ws).foldl C0 []).length≤900:=by
  have g:∀ (l st:List Str),(l.foldl C0 st).length≤st.length+l.length:=fun l=>by
   induction l with
   | nil=>intro st;exact Nat.le_refl _
   | cons a l ih=>
    intro st
    have:=ih (C0 st a)
    have:=Td st a
    rw [List.foldl_cons,List.length_cons];lia
  have:=g (w::ws) []
  rw [List.length_nil] at this
  lia
 refine Aq (v:=.loc H.length) (H1:=pH H ((w::ws).foldl C0 [])) (fun k' h'=>?_) ?_
 ·refine Ss (k+4) (rows.map Be) hL.rowsOk H _ ?_
  rw [Vy hL,hb]
  exact zq (k+2) (w::ws) (by lia) (fun v hv=>Nat.le_trans (hws v hv).2 (by decide)) H k' h'
 dsimp only [List.set]
 refine Aq (v:=.int g) (H1:=pH H ((w::ws).foldl C0 [])) (fun k' h'=>jd (k:=k+3) hp hst (A0 H _) h') ?_
 dsimp only [List.set]
 have hm:=hp.len
 have hg:(if g<0 then -g else g)=(m:Int):=by rcases hp.abs with e|e<;>split<;>lia
 have hW:0<(Be Wd).length:=by
  cases e:Wd with
  | nil=>rw [e] at hh;subst hh;exact absurd (hws _ ms9).1 (by decide)
  | cons a b=>exact Nat.succ_pos _
 have hWz:(Be Wd).length≤1000:=by rw [A5];exact Nat.le_trans hL.short (by decide)
 have hf:Fe (Be Wd)=.str w:=by
  cases e:Wd with
  | nil=>rw [e] at hW;exact absurd hW (by decide)
  | cons a b=>rw [e] at hh;rw [←hh];rfl
 refine C6 (T:=(((w.length+15*m:Nat):Int) != 15*(m:Int)+(w.length:Int))) false (bne_eq_false_iff_eq.mpr (by lia)) (fun k' h'=>?_) h
 refine jg (k:=k+4) (H:=pH H ((w::ws).foldl C0 [])) (K:=fun v H1=>ev tb (Ph (k+5)) (.bin .Add (.bin .Mult (.int 15) (.bcall .abs (.cons (.var 16) .nil))) (.bcall .len (.cons (.sub (.var 7) (.int 0)) .nil))) _ H1 fun b H2=>ub .NotEq v b fun t=>k' (.bool t) H2) hp hst hwl (A0 H _) (fun zA h=>h) ?_
 refine ⟨rfl,dq9 ?_,?_⟩
 ·show (if g<0 then -g else g).natAbs<1152921504606846976
  rw [hg];lia
 ·show ev tb (Ph (k+5)) (.bcall .len (.cons (.sub (.var 7) (.int 0)) .nil)) _ _ fun b H2=>j9 .Add (.int (15*(if g<0 then -g else g))) b fun v=>ub .NotEq (.int ((w.length+15*m:Nat):Int)) v fun t=>k' (.bool t) H2
  rw [hg]
  refine sr (Vh hW hWz (fun zA h=>h) ?_)
  rw [hf]
  exact ⟨dq9 (Nat.le_trans hwl (by decide)),h'⟩
end
noncomputable def Gz(u:List Nat)(n:Nat):List Int:=(List.range n).map fun i=>2000000*As (at0 u i:Nat) (at0 u (i+1):Nat)
theorem Ty(u:List Nat):∀ n:Nat,(Gz u n).sum=2000000*pre (at0 u) n
 | 0=>rfl
 | n+1=>by
  have ih:=Ty u n
  unfold Gz at ih ⊢
  rw [List.range_succ,List.map_append,List.sum_append,ih]
  show _+(2000000*As (at0 u n:Nat) (at0 u (n+1):Nat)+0)=2000000*(pre (at0 u) n+As (at0 u n:Nat) (at0 u (n+1):Nat))
  lia
theorem Tz(a b:Int) : -1≤As a b∧As a b≤1:=by unfold As;lia
section
variable {k:Nat} {H:Hp} {K:KS} {ss:MSs} {a0 a1 a3 a4 a5 a6 a8 a11 a12 a13 a14 a15:V} {T:Nat} {Wd:List Str} {rows:List (List Str)} {P:List (List Nat)}
theorem jw(g:Int)(hP:Gf P)(hw:Ew (Ag 0 P)=3*g)
  (h:∀ H',Ext H H'→∀ a17 a18:Option V,exs tb (Ph (k+5)) ss (nuD a0 a1 T a3 a4 a5 a6 Wd a8 rows P a11 a12 a13 a14 (some a15) (some (.int g)) a17 a18 none) H' K) :
  exs tb (Ph (k+5)) (.cons (.assign 17 (.call 285 (.cons (.var 10) .nil))) (.cons (.assign 18 (.comp 1 dy (.cons 20 (.rng (.cons (.bin .Sub (.bcall .len (.cons (.var 17) .nil)) (.int 1)) .nil)) .nil)))
   (.cons (.cond (.bop .Or (.cons (.cmp .In .none (.var 18)) (.cons (.cmp .NotEq (.bcall .sum (.cons (.var 18) .nil)) (.bin .Mult (.int 6000000) (.var 16))) .nil))) (.cons (.ret (.bool false)) .nil) .nil) ss)))
   (nuD a0 a1 T a3 a4 a5 a6 Wd a8 rows P a11 a12 a13 a14 (some a15) (some (.int g)) none none none) H K:=by
 have hb:(Ag 0 P).length≤100:=Nh 0 P 25 hP.count fun r hr=>(hP.row r hr).2.1
 have h3:∀ a∈Ag 0 P,a<3:=fun a ha=>by
  refine x12 (Jo 0 P (fun r hr=>(hP.row r hr).ne) a ha) fun s hs ha=>?_
  exact (hP.row s hs).2.2 a ha
 have hn:0<(Ag 0 P).length:=by
  cases e:P with
  | nil=>exact absurd e hP.ne
  | cons u rs=>
   rw [Hc,List.length_append]
   have:=(hP.row u (by rw [e];exact ms9)).1
   lia
 have hz:(Ag 0 P).length≤1000:=by lia
 refine Aq (v:=.lst (kl (Ag 0 P))) (H1:=H) (fun k' h'=>?_) ?_
 ·show Ph (k+5) 285 [.lst (A4 P)] H k'
  rw [Jn]
  refine Ss (k+4) (P.map kl) hP.rowsOk H k' ?_
  rw [ju hP];exact h'
 dsimp only [List.set]
 refine F9 (v:=.lst ((Gz (Ag 0 P) ((Ag 0 P).length-1)).map V.int)) (fun k' h'=>?_) fun H1 x1=>?_
 ·apply D6 (l:=De (List.range ((Ag 0 P).length-1))) (g:=fun v=>match v with|.int i=>.int (2000000*As (at0 (Ag 0 P) i.toNat:Nat) (at0 (Ag 0 P) (i.toNat+1):Nat))|v=>v)
  ·exact fun k2 h2=>yr (n:=(Ag 0 P).length-1) (z:=(((kl (Ag 0 P)).length:Nat):Int)-1) (by lia) (fun zA h=>⟨gv hz,h⟩) (by rw [Cr];lia) h2
  ·rw [C7,List.length_range];lia
  ·intro v hv H' k2 hk
   refine x12 (List.mem_map.mp hv) fun i hi zz2=>?_;subst zz2
   have hi:=List.mem_range.mp hi
   dsimp only [List.set,List.append,List.replicate]
   have s1:at0 (Ag 0 P) i<3:=Ov h3 i
   have s2:at0 (Ag 0 P) (i+1)<3:=Ov h3 (i+1)
   have e1:((T:Int) / 180+37*(i:Int))=((T / 180+37*i:Nat):Int):=by lia
   refine Kb (n:=i) (r:=Ag 0 P) (K:=fun v H1=>evs tb (Ph (k+5)) (.cons (.sub (.var 17) (.bin .Add (.var 20) (.int 1))) (.cons (.bin .Add (.bin .FloorDiv (.var 2) (.int 180)) (.bin .Mult (.int 37) (.var 20))) .nil)) _ H1 fun vs H2=>Ph (k+5) 311 (v::vs) H2 k2) (by lia) hz (fun zA h=>h) (fun zA h=>h) rfl ?_
   refine Kb (n:=i+1) (r:=Ag 0 P) (K:=fun v H1=>evs tb (Ph (k+5)) (.cons (.bin .Add (.bin .FloorDiv (.var 2) (.int 180)) (.bin .Mult (.int 37) (.var 20))) .nil) _ H1 fun vs H2=>Ph (k+5) 311 (.int ((at0 (Ag 0 P) i:Nat):Int)::v::vs) H2 k2) (by lia) hz (fun zA h=>h) (fun zA h=>h) (Int.natCast_succ i).symm ?_
   refine ⟨rfl,rfl,rfl,dq9 (by lia),?_⟩
   show Ph (k+5) 311 [.int ((at0 (Ag 0 P) i:Nat):Int),.int ((at0 (Ag 0 P) (i+1):Nat):Int),.int ((T:Int) / 180+37*(i:Int))] H' k2
   rw [e1]
   exact yj (k+2) (T / 180+37*i) _ _ s1 s2 H' k2 (hk H' .rfl)
  ·intro H' x
   have e:(De (List.range ((Ag 0 P).length-1))).map (fun v=>match v with|.int i=>V.int (2000000*As (at0 (Ag 0 P) i.toNat:Nat) (at0 (Ag 0 P) (i.toNat+1):Nat))|v=>v)=(Gz (Ag 0 P) ((Ag 0 P).length-1)).map V.int:=by
    unfold De Gz
    rw [List.map_map,List.map_map];rfl
   rw [e];exact h' H' x
 dsimp only [List.set]
 have hs:(Gz (Ag 0 P) ((Ag 0 P).length-1)).sum=6000000*g:=by rw [Ty,Im,hw];lia
 have sl:((Gz (Ag 0 P) ((Ag 0 P).length-1)).map V.int).length≤1000:=by unfold Gz;rw [List.length_map,List.length_map,List.length_range];lia
 have gs:g.natAbs<1000:=by
  have:∀ n,(pre (at0 (Ag 0 P)) n).natAbs≤n:=fun n=>by
   induction n with
   | zero=>exact Nat.le_refl _
   | succ n ih=>
    have q:=Tz (at0 (Ag 0 P) n:Nat) (at0 (Ag 0 P) (n+1):Nat)
    show (pre (at0 (Ag 0 P)) n+As (at0 (Ag 0 P) n:Nat) (at0 (Ag 0 P) (n+1):Nat)).natAbs≤n+1
    exact Aaj ih q
  have q:=this ((Ag 0 P).length-1)
  rw [Im,hw] at q
  exact j6 q (by assumption)
 refine C6 (T:=((Gz (Ag 0 P) ((Ag 0 P).length-1)).sum != 6000000*g)) false (by rw [hs,bne_self_eq_false]) (fun k' h'=>?_) (h H1 x1 _ _)
 refine nz (fun k2 h2=>Ar (Es _) h2) ?_
 refine sr (K:=fun v H1=>ev tb (Ph (k+5)) (.bin .Mult (.int 6000000) (.var 16)) _ H1 fun b H2=>ub .NotEq v b fun t=>k' (.bool t) H2) (Ar (Es _) ⟨dq9 sl,?_,rfl,dq9 (by lia),h'⟩)
 refine List.all_eq_true.mpr fun x hx=>dq9 ?_
 unfold Gz at hx
 refine x12 (List.mem_map.mp hx) fun i zA zz2=>?_;subst zz2
 exact Aak (Tz (at0 (Ag 0 P) i:Nat) (at0 (Ag 0 P) (i+1):Nat))
end
theorem Vz{Φ:Orc}{ν:Nu}{H:Hp}{k:KE}{f:Addr}{e1 e2:ME}{a b:V}(h1:∀ k:KE,k a H→ev tb Φ e1 ν H k)(h2:∀ k:KE,k b H→ev tb Φ e2 ν H k)(h:Φ f [a,b] H k):ev tb Φ (.call f (.cons e1 (.cons e2 .nil))) ν H k:=h1 _ (h2 _ h)
section
variable {k:Nat} {H:Hp} {K:KS} {a0 a3 a4 a5 a6 a8 a12 a13 a15:V} {a17 a18:Option V} {T:Nat} {Wd:List Str} {rows:List (List Str)} {P:List (List Nat)}
theorem jx(cells:List Nat)(g:Int)(hc:cells.length=13)(hP:Gf P)(hw:3*g=M2 P)(h:∀ ν,K (.ret (.bool true)) ν H) :
  exs tb (Ph (k+5)) (.cons (.assign 19 (.lst (.cons (.call 323 (.cons (.var 10) (.cons (.sub (.var 1) (.int 10)) .nil))) (.cons (.call 323 (.cons (.var 11) (.cons (.sub (.var 1) (.int 11)) .nil))) (.cons (.call 323 (.cons (.var 14) (.cons (.sub (.var 1) (.int 12)) .nil))) .nil)))))
   (.cons (.ret (.cmp .Eq (.var 19) (.lst (.cons (.var 16) (.cons (.neg (.var 16)) (.cons (.var 16) .nil)))))) .nil))
   (nuD a0 (.lst (De cells)) T a3 a4 a5 a6 Wd a8 rows P (.lst (A4 (P.map List.reverse))) a12 a13 (.lst (A4 (P.map List.reverse).reverse)) (some a15) (some (.int g)) a17 a18 none) H K:=by
 have hcount:=hP.count
 have row2:∀ r∈P.map List.reverse,E7 r:=fun r hr=>by
  refine x12 (List.mem_map.mp hr) fun s hs zz2=>?_;subst zz2
  have q:=hP.row s hs
  exact ⟨by rw [List.length_reverse];exact q.1,by rw [List.length_reverse];exact q.2.1,fun a ha=>q.2.2 a (List.mem_reverse.mp ha)⟩
 have call:∀ (Q:List (List Nat)) (c:Nat) (x:Int),Q≠[]→Q.length≤25→(∀ r∈Q,E7 r)→M2 Q=3*x→∀ k':KE,k' (.int x) H→Ph (k+5) 323 [.lst (A4 Q),.int (c:Int)] H k':=fun Q c x hne hl hr e k' h'=>by
  cases Q with
  | nil=>exact absurd rfl hne
  | cons u rs=>
   rw [List.length_cons] at hl
   exact n8 (k+1) u rs hr (by lia) c H k' fun g' hg=>by rw [show g'=x by lia];exact h'
 have cell:∀ (j:Nat) (z:Int),j<13→z=(j:Int)→∀ (ν:Nu),ν[1]?=some (some (.lst (De cells)))→∀ k':KE,k' (.int ((cells.getD j 0:Nat):Int)) H→ev tb (Ph (k+5)) (.sub (.var 1) (.int z)) ν H k':=fun j z hj hz ν hν k' h'=>by
  subst hz
  show Iq ν 1 _
  unfold Iq
  rw [hν]
  exact ⟨dq9 (by rw [C7,hc];decide),Ar (by rw [C7,hc];exact Ds hj) (Ar (Xd (by lia)) h')⟩
 refine Aq (v:=.lst [.int g,.int (-g),.int g]) (H1:=H) (fun k' h'=>?_) ?_
 ·refine Aft (fun k2 h2=>?_) (fun k2 h2=>?_) (fun k2 h2=>?_) h'
  ·exact Vz (fun zA h=>h) (cell 10 10 (by decide) rfl _ rfl) (call P _ g hP.ne hcount hP.row hw.symm k2 h2)
  ·exact Vz (fun zA h=>h) (cell 11 11 (by decide) rfl _ rfl) (call (P.map List.reverse) _ (-g) (by simpa using hP.ne) (by rw [List.length_map];exact hcount) row2 (by rw [Nb P hP.row];lia) k2 h2)
  ·exact Vz (fun zA h=>h) (cell 12 12 (by decide) rfl _ rfl) (call (P.map List.reverse).reverse _ g (by simpa using hP.ne) (by rw [List.length_reverse,List.length_map];exact hcount) (fun r hr=>row2 r (List.mem_reverse.mp hr)) (by rw [To P hP.row];lia) k2 h2)
 dsimp only [List.set]
 refine Dd (v:=.bool true) (H1:=H) (fun k' h'=>?_) (h _)
 refine ⟨rfl,Qe 4 _ fun v hv=>?_,h'⟩
 rcases List.mem_cons.mp hv with rfl|hv
 ·exact Qf 3 g
 ·rcases List.mem_cons.mp hv with rfl|hv
  ·exact Qf 3 (-g)
  ·rw [List.mem_singleton.mp hv];exact Qf 3 g
end
theorem Xq:∀ l:List Nat,(l.map fun (n:Nat)=>(n:Int)).sum=((l.sum:Nat):Int)
 | []=>rfl
 | a::l=>by rw [List.map_cons,List.sum_cons,List.sum_cons,Xq l];lia
theorem V0(l:List Nat):Ct (De l)=some (l.map fun (n:Nat)=>(n:Int)):=Vt l
theorem Aej(k:Nat)(s:List Int)(hs:s.length≤63)(H:Hp)(K:KE)(h:K (.bool true) H):Ph (k+6) 342 [.lst (s.map .int)] H K:=by
 refine Ff (fn:=law) rfl rfl rfl [some (.lst (s.map .int)),none,none,none,none,none,none,none,none,none,none,none,none,none,none,none,none,none,none,none] rfl ?_
 refine oh (k+4) s hs H _ fun cells hc=>?_
 show exs tb (Ph (k+5)) (.cons (.assign 2 (.bcall .sum (.cons (.var 1) .nil))) _) [some (.lst (s.map .int)),some (.lst (De cells)),none,none,none,none,none,none,none,none,none,none,none,none,none,none,none,none,none,none] H _
 have c13:cells.length=13:=hc.1
 refine Aq (v:=.int ((cells.sum:Nat):Int)) (H1:=H) (fun k' h'=>Ar (V0 cells) ⟨dq9 (by rw [C7,c13];decide),?_,?_⟩) ?_
 ·refine List.all_eq_true.mpr fun x hx=>dq9 ?_
  refine x12 (List.mem_map.mp hx) fun n hn zz2=>?_;subst zz2
  have:=hc.2 n hn
  lia
 ·rw [Xq];exact h'
 dsimp only [List.set]
 generalize cells.sum=T
 refine Aq (v:=.int ((T % 3:Nat):Int)) (H1:=H) (fun k' h'=>⟨rfl,?_⟩) ?_
 ·show k' (.int ((T:Int) % 3)) H
  rw [show ((T:Int) % 3)=((T % 3:Nat):Int) by lia];exact h'
 dsimp only [List.set]
 refine Aq (v:=.int ((12+T / 3 % 12:Nat):Int)) (H1:=H) (fun k' h'=>⟨rfl,rfl,rfl,?_⟩) ?_
 ·show k' (.int (12+(T:Int) / 3 % 12)) H
  rw [show (12+(T:Int) / 3 % 12)=((12+T / 3 % 12:Nat):Int) by lia];exact h'
 dsimp only [List.set]
 refine Aq (v:=.int ((T / 36 % 5:Nat):Int)) (H1:=H) (fun k' h'=>⟨rfl,rfl,rfl,?_⟩) ?_
 ·show k' (.int ((T:Int) / 36 % 5)) H
  rw [show ((T:Int) / 36 % 5)=((T / 36 % 5:Nat):Int) by lia];exact h'
 dsimp only [List.set]
 have hw:T % 3<3:=Nat.mod_lt _ (by decide)
 have h12:12≤12+T / 3 % 12:=by lia
 have hroom:T / 36 % 5≤4:=by lia
 generalize T % 3=w at hw
 generalize 12+T / 3 % 12=width at h12
 generalize T / 36 % 5=room at hroom
 refine jn (k:=k) hw c13 fun H1 x1=>?_
 have tl:(cells.take 10).length=10:=by rw [List.length_take,c13];rfl
 have csl:((cells.take 10).map (Zj w)).length=10:=by rw [List.length_map,tl]
 have hok:∀ c∈(cells.take 10).map (Zj w),N0 w c=true:=fun c hm=>by
  refine x12 (List.mem_map.mp hm) fun n zA zz2=>?_;subst zz2
  exact y0 hw n
 generalize (cells.take 10).map (Zj w)=cs at csl hok
 refine jo (k:=k) hw cs (fun e=>by subst e;exact absurd csl (by decide)) (by lia) hok fun H2 x2=>?_
 have hlike:∀ v∈cs.map (Jj w),38∈v.cps.toList∧10∉v.cps.toList∧W46 v∧32∉v.cps.toList:=fun v hv=>by
  refine x12 (List.mem_map.mp hv) fun c hm zz2=>?_;subst zz2
  have q:=Tu hw (E9 (hok c hm))
  exact ⟨q.1,q.2.1,q.2.2,S6 hw (E9 (hok c hm))⟩
 have wl:(cs.map (Jj w)).length=10:=by rw [List.length_map,csl]
 generalize cs.map (Jj w)=Wd at hlike wl
 have h6:∀ v∈Wd,v.length≤6:=fun v hv=>(hlike v hv).2.2.1.2
 have hne:Wd≠[]:=fun e=>by subst e;exact absurd wl (by decide)
 have hWok:Bz Wd:=⟨by lia,fun v hv=>⟨by have:=h6 v hv;lia,(hlike v hv).1⟩⟩
 refine pp (k:=k) width room Wd hne hWok h6 h12 hroom ?_
 have hL:Ca (Bm width Wd room []) Wd:=⟨Tv _ _ _ _,Vv width h12 Wd room [] h6 fun zA=>⟨hroom,hne⟩,by rw [Ng];rfl,by lia,fun v hv=>(hlike v hv).2.2.1⟩
 have hsz:(Ce "\n" ((Bm width Wd room []).map A8)).length≤100000:=by
  have b1:=Ik width Wd room [] hWok.short
  have r0:(A8 []).length=0:=Ga
  rw [r0] at b1
  have g:∀ l:List Str,(Str.join ⟨#[10]⟩ l).length≤(l.map (·.length)).sum+l.length:=fun l=>by
   induction l with
   | nil=>exact Nat.zero_le _
   | cons p l ih=>
    cases l with
    | nil=>show p.length≤_;rw [List.map_cons,List.sum_cons];lia
    | cons q r=>
     have e:=congrArg List.length (Gk 10 p q r)
     rw [List.length_append,List.length_append,Array.length_toList,Array.length_toList,Array.length_toList] at e
     have e':(Str.join ⟨#[10]⟩ (p::q::r)).length=p.length+1+(Str.join ⟨#[10]⟩ (q::r)).length:=e
     rw [e',List.map_cons,List.sum_cons,List.length_cons]
     lia
  rw [Ii,Aei]
  have:=g ((Bm width Wd room []).map A8)
  rw [List.length_map] at this
  lia
 have hrow:∀ r∈Bm width Wd room [],r.length≤100∧∀ v∈r,v.length≤6∧10∉v.cps.toList∧32∉v.cps.toList:=fun r hr=>by
  have l1:=hL.len hr
  refine ⟨by lia,fun v hv=>?_⟩
  have hm:v∈Wd:=hL.flat▸List.mem_flatten.mpr ⟨r,hr,hv⟩
  exact ⟨h6 v hm,(hlike v hm).2.1,(hlike v hm).2.2.2⟩
 generalize Bm width Wd room []=rows at hL hsz hrow
 have hcount:=hL.count
 refine jp (k:=k) width room Wd rows hL.ne (by lia) hrow hsz fun H3 x3=>?_
 refine Vx (k:=k) width room Wd rows _ (by lia) (fun r hr=>⟨(hrow r hr).1,fun v hv=>((hrow r hr).2 v hv).1⟩) fun H4 x4=>?_
 have hP:=hL.pic
 refine x45 (Af5 hL) fun z ws m g hb hh hg hwy hp=>?_
 refine Tw (k:=k) hP fun H5 x5=>?_
 refine pw (k:=k) _ hP fun H6 x6=>?_
 refine pz (k:=k) hP fun H7 x7=>?_
 refine Zt (k:=k) _ _ hP fun H8 x8=>?_
 refine qb (k:=k) (T:=T) z ws m g hL hb hh hp ?_
 refine jw (k:=k) g hP hwy fun H9 x9 a17 a18=>?_
 refine jx (k:=k) cells g c13 hP hg fun ν=>?_
 have y:Ext H H9:=(((((((x1.trans x2).trans x3).trans x4).trans x5).trans x6).trans x7).trans x8).trans (Ext.trans ⟨_,rfl⟩ x9)
 exact y.cut rfl h
noncomputable def Jp(tree alt:Sem PySem.Fin):Sem PySem.Fin:=.stack fun st=>if st.all (fun q=>Cu q.1) then tree else alt
noncomputable abbrev claimCode:Code:=.builtin "claim.caller" {}
theorem qc{den:Code→Sem PySem.Fin}{prog:Program}{w:World}{s:Shared}{tree alt:Sem PySem.Fin}(hz:s.asleep) :
  sstep den prog w (.single s ⟨Jp tree alt,claimCode,default,[]⟩)=.go (.single s ⟨tree,claimCode,default,[]⟩):=by
 have hs:step den prog w s ⟨Jp tree alt,claimCode,default,[]⟩=.go s ⟨tree,claimCode,default,[]⟩:=by
  obtain ⟨heap,gens,drawn,toks,os⟩:=s
  rfl
 rcases sstep_single den prog w s ⟨Jp tree alt,claimCode,default,[]⟩ rfl hz with e|e
 ·rw [e,hs];rfl
 ·rw [hs] at e;cases e
theorem jy{den:Code→Sem PySem.Fin}{prog:Program}{w:World}{s s':Shared}{tree alt:Sem PySem.Fin}{o:Outcome}(hz:s.asleep){n:Nat}(h:schedN den prog w n (.single s ⟨Jp tree alt,claimCode,default,[]⟩)=.halted o s') :
  ∃ m,schedN den prog w m (.single s ⟨tree,claimCode,default,[]⟩)=.halted o s':=by
 cases n with
 | zero=>cases h
 | succ n=>
  simp only [schedN,qc hz] at h
  exact ⟨n,h⟩
theorem Aek{P:List Value→Shared→Prop}{S S':List Value→Shared→Nat→Outcome→Shared→Prop}{R:List Value→Shared→Outcome→Shared→Prop}(h:∀ vs s₁ n o s',P vs s₁→S vs s₁ n o s'→∃ m,S' vs s₁ m o s')
  (H:∃ vs s₁,P vs s₁∧∃ n o s',S vs s₁ n o s'∧R vs s₁ o s'):∃ vs s₁,P vs s₁∧∃ n o s',S' vs s₁ n o s'∧R vs s₁ o s':=by
 obtain ⟨vs,s₁,p,n,o,s',k,r⟩:=H
 refine x11 (h vs s₁ n o s' p k) fun m k'=>?_
 exact ⟨vs,s₁,p,m,o,s',k',r⟩
theorem Ael{P1 P2 D1 D2 D3:Shared→Prop}{Q C C':Shared→Shared→Prop}(h:∀ s₀ s₁,P1 s₀→Q s₀ s₁→C s₀ s₁→C' s₀ s₁)(H:∃ s₀,P1 s₀∧P2 s₀∧∃ s₁,Q s₀ s₁∧D1 s₁∧D2 s₁∧D3 s₁∧C s₀ s₁):∃ s₀,P1 s₀∧P2 s₀∧∃ s₁,Q s₀ s₁∧D1 s₁∧D2 s₁∧D3 s₁∧C' s₀ s₁:=by
 obtain ⟨s₀,h1,h2,s₁,h3,h4,h5,h6,h7⟩:=H
 exact ⟨s₀,h1,h2,s₁,h3,h4,h5,h6,h s₀ s₁ h1 h3 h7⟩
theorem jz{c:ClaimW}{tree alt:List Value→Sem PySem.Fin}{defs kps:List Str}{writes:Bool}(H:c.HoldsOpenBy (fun vs=>⟨Jp (tree vs) (alt vs),claimCode,default,[]⟩) defs kps writes) :
  c.HoldsOpenBy (fun vs=>⟨tree vs,claimCode,default,[]⟩) defs kps writes:=
 ⟨H.1,H.2.1,fun w=>⟨(H.2.2 w).1,fun s hs=>Ael (fun s₀ s₁ h1 h3 h7 args hp hl ord ho=>Aek (fun vs s2 n o s' k1 k2=>
  jy (Shared.asleep_of_life (layAllW_rest _ _ _ k1).2.2.2 (Shared.asleep_of_life h3.2.1 (Shared.asleep_of_life (fence_lifeW h1) (AfterImport.life hs)))) k2) (h7 args hp hl ord ho)) ((H.2.2 w).2 s hs)⟩⟩
end Mine
section
open PySem.Calls
namespace Mine
noncomputable def Agk(f:Value)(vs:List Value):Sem Value:=.stack fun st=>if st.all (fun q=>Cu q.1) then call f vs else pure (.bool true)
theorem Zu{M:Model}{A:Around}{f:Value}{vs:List Value}{Q:Value→Shared→Prop}{E:Value→Shared→Prop}{s:Shared}(h:wpN M A (call f vs) Q E s)(h2:Q (.bool true) s):wpAny M A (Agk f vs) Q E s:=fun Γ p hΓ=>by
 show wp M Γ (if ((Γ.code,p)::Γ.below).all (fun q=>Cu q.1) then call f vs else pure (.bool true)) _ _ p s
 by_cases hc:((Γ.code,p)::Γ.below).all (fun q=>Cu q.1)=true
 ·rw [if_pos hc]
  rw [List.all_cons,Bool.and_eq_true,List.all_eq_true] at hc
  exact h Γ p hΓ ⟨hc.1,hc.2⟩
 ·rw [if_neg hc];exact h2
noncomputable def tj(r:OpenRow)(w:World)(s₀ s₁:Shared)(mg:Str→Option Value)(args:List WData)(vs:List Value):Prop:=
 ∃ f,mg r.name=some f∧wpN (model r.prog w) callerA (call f vs) (fun v s'=>GoodWG r.toRowW.claim (classAt s₀.heap) (ExcName.means s₀.heap) args s₁ (.ok (.ret v)) s') (fun zA zB=>False) s₁∧
  GoodWG r.toRowW.claim (classAt s₀.heap) (ExcName.means s₀.heap) args s₁ (.ok (.ret (.bool true))) s₁
theorem V1{r:OpenRow}{q:Program}{loose:List Str}{Xt:Shared→Bool}{XP:(Str→Option Value)→Heap→Prop}{α:Type}{Yf:Shared→α}{Ya:World→α}{d:DefRec}{kwd:List (Str×Expr)}{N:Nat}
  (left:LeftO r.prog q loose Xt Yf Ya N) (hX:∀ s,Xt s=true→XP (s.heap.nsMap mainGlobals) s.heap) (hXk:∀ mg h h',XP mg h→(∀ b o,h.get? b=some o→h'.get? b=some o)→XP mg h')
  (hdef:defOf q r.name=some (d,kwd)) (hp:r.prog.theDef r.name=some (d.params,d.body,d.scope)) (hk:kwWritten? d.params.kwonlyargs d.params.kw_defaults=some kwd) (hRf:∀ s,Xt s=true→RecFacts r.records s.heap) (hwr:(!r.writes||r.records.isEmpty)=true)
  (k1:r.wellSaid=true) (ok:(chainsOk q&&opensWell r.prog&&(frees r.toRowW&&r.within.isEmpty))=true) (hb:r.prog.bare) (hw:r.toRowW.promised)
  (walk:∀ (w:World) (s₀ s₁:Shared) (mg mb:Str→Option Value),Ground q loose r.records XP w s₀ mg mb s₁.heap→Yf s₀=Ya w→∀ (args:List WData) (vs:List Value) (as:List Addr),r.toRowW.claim.pre args=true→Laid r.records w s₀ s₁ args vs as→
   tj r w s₀ s₁ mg args vs):r.Holds:=by
 let tree:List Value→Sem PySem.Fin:=fun vs=>do match ←nsGet mainNs r.name with
   | some f=>do ret (←PySem.call f vs)
   | none=>unsupported "claim.caller:no-such-global"
 let alt:List Value→Sem PySem.Fin:=fun zA=>pure (.done (.ret (.bool true)))
 refine ⟨k1,hw,jz (tree:=tree) (alt:=alt) (open_anyX (r:=r.toRowW) (run:=Agk) (tree:=fun vs=>Jp (tree vs) (alt vs)) left hX hXk hRf hwr ok hb hw ?_ (fun w s hg G n hn=>?_) fun w s₀ s₁ mg mb G Y args vs as hpre hlay L low=>?_)⟩
 ·intro vs w s mg f Q E hg hf h Γ p hΓ
  have h2:=h Γ p hΓ
  have h3:wp (model r.prog w) Γ (if ((Γ.code,p)::Γ.below).all (fun q=>Cu q.1) then PySem.call f vs else pure (.bool true)) (fun v zA s'=>Q (.done (.ret v)) s') (fun e zA s'=>E e s') p s:=h2
  show wp _ Γ (if ((Γ.code,p)::Γ.below).all (fun q=>Cu q.1) then tree vs else alt vs) _ _ p s
  by_cases hc:((Γ.code,p)::Γ.below).all (fun q=>Cu q.1)=true
  ·rw [if_pos hc] at h3 ⊢
   have hn:wpAny (model r.prog w) callerA (nsGet mainNs r.name) (fun v s'=>v=some f∧s'=s) E s:=wpAny_nsGet hg ⟨hf,rfl⟩
   show wp _ Γ (nsGet mainNs r.name>>=_) _ _ p s
   rw [Sem.wp_bind']
   refine Sem.wp_mono _ Γ _ (fun v p' s' hv=>?_) (fun zA zB zC e=>e) p s (hn Γ p hΓ)
   obtain ⟨rfl,rfl⟩:=hv
   have h4:wp (model r.prog w) Γ (if ((Γ.code,p')::Γ.below).all (fun q=>Cu q.1) then PySem.call f vs else pure (.bool true)) (fun v zA s'=>Q (.done (.ret v)) s') (fun e zA s'=>E e s') p' s':=h Γ p' hΓ
   rw [if_pos (show ((Γ.code,p')::Γ.below).all (fun q=>Cu q.1)=true from hc)] at h4
   show wp _ Γ (PySem.call f vs>>=fun v=>ret v) _ _ p' s'
   rw [Sem.wp_bind']
   exact h4
  ·rw [if_neg hc] at h3 ⊢
   exact h3
 ·obtain rfl:n=r.name:=by
   cases hb:r.pinned with
   | false=>rw [hb] at hn;exact nomatch hn
   | true=>rw [hb] at hn;exact List.mem_singleton.mp hn
  exact pinned_of_view hg G hdef hp hk
 ·refine x13 (walk w s₀ s₁ mg mb G Y args vs as hpre L) fun f h1 g1 g2=>?_
  exact ⟨f,h1,Zu (Ez g1 (fun zA zB e=>e) fun zA zB e=>e.elim) g2⟩
end Mine
end
namespace Mine
noncomputable abbrev T2':T6:=[(158,154),(165,161)]
theorem z3{T:T6}{s s':Shared}{ρ':Rho}{H':List Ob}(hT:∀ q∈T,s.heap.TableAt q.1 q.2 #[])(le:Le T (fun zA=>False) [] [] s ρ' H' s')(S:O3 T s'.heap):OldK s.heap s'.heap:=by
 refine ⟨fun b o e=>?_,le.ex⟩
 by_cases hq:∀ q∈T,b≠q.2
 ·exact .inl (le.keep b o e (fun m=>m.elim fun n m=>m.elim fun p m=>m.elim fun zA m=>nomatch m.1) (fun y=>y) hq)
 ·obtain ⟨q,hm,hb⟩:∃ q∈T,b=q.2:=by
   refine Classical.byContradiction fun h=>hq fun q hm e=>h ⟨q,hm,e⟩
  subst hb
  have e2:=e.symm.trans (hT q hm).2
  cases e2
  obtain ⟨ps,⟨_,h2⟩,_⟩:=S q hm
  exact .inr (.inl ⟨(hT q hm).isCodeTable,rfl,#[],ps,rfl,by rw [Array.empty_append];exact h2⟩)
theorem Aem{w:World}{s₀:Shared}(y:Aeo s₀=Aep w):(K0 w.params).In s₀.heap∧1≤s₀.toks:=
 ⟨InK.of Aey w s₀ (congrArg Prod.fst y),Nat.le_of_ble_eq_true (congrArg Prod.snd y)⟩
theorem Ag5{P:Params}{h:Heap}(X:(K0 P).In h):(K P).In h∧h.get? 154=some j5∧h.get? 161=some j5:=by
 refine ⟨fun a o e=>X a o ?_,X _ _ rfl,X _ _ rfl⟩
 have h1:a≠154:=fun z=>by subst z;exact absurd e (by rw [(by kernel_rfl:(K P).lookup 154=none)];exact fun z=>nomatch z)
 have h2:a≠161:=fun z=>by subst z;exact absurd e (by rw [(by kernel_rfl:(K P).lookup 161=none)];exact fun z=>nomatch z)
 show (match a==154 with|true=>some tob|false=>(match a==161 with|true=>some tob|false=>(K P).lookup a))=some o
 rw [beq_false_of_ne h1,beq_false_of_ne h2]
 exact e
theorem j0{P:Params}{h:Heap}(X:(K P).In h)(h1:h.get? 154=some j5)(h2:h.get? 161=some j5):∀ q∈T2',h.TableAt q.1 q.2 #[]:=
 W5 (C:=fun q=>h.TableAt q.1 q.2 #[])
  ⟨⟨_,_,X 158 _ (by kernel_rfl:(K P).lookup 158=some (cob "__len__" "_Accumulator.__len__" 396 135 1 400 3 181 (.ref 153) (.ref 154) .none (.ref 155) (.ref 156) (.ref 157))),rfl,rfl,rfl⟩,h1⟩
  ⟨⟨_,_,X 165 _ (by kernel_rfl:(K P).lookup 165=some (cob "__str__" "_Accumulator.__str__" 403 138 1 407 3 181 (.ref 160) (.ref 161) .none (.ref 162) (.ref 163) (.ref 164))),rfl,rfl,rfl⟩,h2⟩
theorem qd:Eb callerA 12:=⟨rfl,⟨_,rfl⟩,by decide +kernel,by decide +kernel⟩
theorem qe{w:World}{mb:Str→Option Value}{s:Shared}(X:(K w.params).In s.heap)(h1:s.heap.get? 154=some j5)(h2:s.heap.get? 161=some j5)(hb:s.heap.Ns builtinsNs mb)(hl:s.heap.NoLimit)(ht:1≤s.toks):SO (Bo w mb s.heap) ⟨[],[],s⟩:=
 ⟨⟨X,hb,hl,⟨fun zA=>none,⟨_,_,_,X 2 _ (by kernel_rfl:(K w.params).lookup 2=some {cls:=.none,data:=.dict #[]}),rfl,fun e he=>absurd he (Array.not_mem_empty e),fun zA=>rfl⟩,rfl⟩,fun q hq=>⟨#[],j0 X h1 h2 q hq,trivial⟩,fun zA e=>e⟩,
  ⟨rfl,fun zA zB zC e=>(nomatch e),fun zA zB zC zD e=>(nomatch e),fun zA zB e=>(nomatch e)⟩,ht,fun zA zB e=>(nomatch e)⟩
theorem Aaa{w:World}{mb:Str→Option Value}{s:Shared}{a:Addr}{xs:List Value}{n:Nat}{ns:List Int}(X:(K w.params).In s.heap)(h1:s.heap.get? 154=some j5)(h2:s.heap.get? 161=some j5)(hb:s.heap.Ns builtinsNs mb)(boot:∀ x:Str,x≠ "__name__" →mb x=bootBuiltins x)(hl:s.heap.NoLimit)(ht:1≤s.toks)
  (ho:s.heap.get? a=some (Dy xs.toArray n)) (hr:Ae (Mut [] []) [] s.toks s.heap (ns.map .int) xs) (hn:ns.length≤63) :
  wpN (model Ai w) callerA (call (.ref 342) [.ref a]) (fun v s'=>v=.bool true∧OldK s.heap s'.heap∧s'.os=s.os∧(AllBare s.gens→AllBare s'.gens)) (fun zA zB=>False) s:=by
 have ok:Bj (Bo w mb s.heap):=Acx X h1 h2 (hb.elim fun o h=>h.elim fun zA h=>h.elim fun zA h=>⟨o,h.1⟩) boot
 have S:=qe X h1 h2 hb hl ht
 refine (Sl ok 6).call (g:=⟨[],[],s⟩) (K:=fun v zA=>v=.bool true) (Aej 0 ns hn [] _ rfl) qd S (.cons (.lst (fun m=>m.elim fun n m=>m.elim fun p m=>m.elim fun zA m=>nomatch m.1) ho hr) .nil) fun v z g' hv t r=>?_
 subst hv
 exact r.bool_E ⟨rfl,z3 (j0 X h1 h2) t.le t.st.stat.tab,t.le.os,t.le.gens⟩
theorem Agl:PySem.Challenge.rw_xp0036_01.wellSaid=true:=by kernel_rfl
noncomputable abbrev Ex:OpenRow:=PySem.Challenge.rw_xp0036_01.row
theorem Aen:(chainsOk Fg&&opensWell Ex.prog&&(frees Ex.toRowW&&Ex.within.isEmpty))=true:=by kernel_rfl
theorem qf:Ex.prog.bare:=⟨rfl,rfl,rfl,rfl,rfl,by decide +kernel⟩
theorem T0:Ex.toRowW.promised:=⟨[.list []],by kernel_rfl,by kernel_rfl⟩
theorem j1{R:WRecords}{cl:Str→Option Addr}{h:Heap}{X:Addr→Prop}{ρ:Rho}{T:Nat}(ns:List Int):∀ {vs:List Value} {as:List Addr},ReadsAllW R cl h vs (ns.map .int) as→Ae X ρ T h (ns.map .int) vs:=by
 induction ns with
 | nil=>exact fun r=>(readsAllW_nil_inv r).1▸.nil
 | cons i ns ih=>exact fun r=>(readsAllW_cons_inv r).elim fun zA e=>e.elim fun zA e=>e.elim fun zA e=>e.elim fun zA e=>e.1▸(readsW_int_inv e.2.2.1).elim fun t q=>q.1▸.cons (.int _ t) (ih e.2.2.2)
theorem Aab{args:List WData}(hp:Ex.toRowW.claim.pre args=true):∃ ns:List Int,args=[.list (ns.map .int)]∧ns.length≤63:=by
 refine x02 (pre_splitW hp) fun h1 h2=>?_
 refine x23 (hasAllW_cons h1) fun d r zz2 hd hr=>?_;subst zz2
 cases hasAllW_nil hr
 refine x12 (hasW_list hd) fun xs zz1 hx=>?_;subst zz1
 refine x11 (items_int hx) fun ns zz1=>?_;subst zz1
 refine ⟨ns,rfl,?_⟩
 have h3:(!decide (((63:Nat):Int)<((ns.map WData.int).length:Nat))&&true)=true:=condW_of h2 (by wtm_val)
 rw [Bool.and_true,List.length_map] at h3
 exact Nat.le_of_not_lt fun h=>Bool.noConfusion ((congrArg not (dq9 (Int.ofNat_lt.mpr h))).symm.trans h3)
theorem Xr{s₀ s₁ s':Shared}{args:List WData}(hK:OldK s₁.heap s'.heap)(ho:s'.os=s₁.os)(hg:AllBare s'.gens):GoodWG Ex.toRowW.claim (classAt s₀.heap) (ExcName.means s₀.heap) args s₁ (.ok (.ret (.bool true))) s':=
 ⟨.inl ⟨.bool true,.bool true,[],rfl,fun zA=>rfl,.bool true,(by kernel_rfl:Ex.toRowW.claim.post args (.bool true) args=true),fun zA=>⟨.nil,fun a h=>nomatch h⟩⟩,hK,ho,hg⟩
theorem qg{w:World}{s₀ s₁:Shared}{mg mb:Str→Option Value}(T:Top Fg (looseW Fg Ai.boundNames) (ExcName.means s₀.heap) mg mb s₁.heap)(y:Aeo s₀=Aep w){ns:List Int}{l:Addr}{as:List Addr}(hn:ns.length≤63)(L:Laid [] w s₀ s₁ [.list (ns.map .int)] [.ref l] as)
  {o:Obj} {its:Array Value} {n:Nat} {ai:List Addr} (ho:s₁.heap.get? l=some o) (hc:o.cls=.type "list") (hd:o.data=.seq its n) (r3:ReadsAllW [] (classAt s₀.heap) s₁.heap its.toList (ns.map .int) ai):tj Ex w s₀ s₁ mg [.list (ns.map .int)] [.ref l]:=by
 have k0:=Aem y
 have k2:=Ag5 (fun a o e=>L.keeps a o (k0.1 a o e))
 have hg:mg ("law" : Str)=some (.ref 342):=(congrFun ((ej w.params s₁.heap k2.1).eq_nsMap.trans T.g.eq_nsMap.symm) _).symm.trans (by kernel_rfl)
 have bare:AllBare s₁.gens:=.of_eq L.gens
 have L':Laid [] w s₀ s₁ [ofPy (PyData.list (ns.map PyData.int))] [.ref l] as:=(show ofPy (PyData.list (ns.map PyData.int))=WData.list (ns.map WData.int) from congrArg WData.list ((ofPys_eq _).trans (List.map_map ..)))▸L
 exact ⟨.ref 342,hg,Ez (Aaa k2.1 k2.2.1 k2.2.2 T.b T.builtins T.nolimit (Nat.le_trans k0.2 (PySem.W.X.script_toks L' rfl)) ((PySem.W.X.script_obj L' ⟨o,ho,hc,n,hd⟩).trans (by rw [Array.toArray_toList])) (j1 ns r3) hn) (fun v s' q=>q.1▸Xr q.2.1 q.2.2.1 (q.2.2.2 bare)) fun zA zB e=>e,Xr (OldK.refl _) rfl bare⟩
noncomputable def Xs:DefRec×List (Str×Expr):=(defOf Fg Ex.name).get (by kernel_rfl)
theorem j2:defOf Fg Ex.name=some (Xs.1,Xs.2):=(Option.some_get (show (defOf Fg Ex.name).isSome=true by kernel_rfl)).symm
theorem j3:Ex.Holds:=
 V1 (q:=Fg) (loose:=Ai.boundNames) (Xt:=fun zA=>true) (XP:=fun zA zB=>True) (Yf:=Aeo) (Ya:=Aep) (N:=3814) left (fun zA zB=>trivial) (fun zA zB zC zD zE=>trivial) (d:=Xs.1) (kwd:=Xs.2) j2 (by kernel_rfl) (by kernel_rfl) (fun zA zB=>recFacts_nil rfl) rfl (row_said Agl) Aen qf T0
  fun w s₀ s₁ mg mb G y args vs as hp L=>(Aab hp).elim fun ns hn=>by
   rcases hn with ⟨rfl,hn⟩
   refine (readsAllW_cons_inv L.reads).elim fun v e=>e.elim fun vs' e=>e.elim fun a1 e=>e.elim fun a2 e=>?_
   rcases e with ⟨rfl,_,r1,r2⟩
   cases (readsAllW_nil_inv r2).1
   refine (readsW_list_open r1).elim fun l e=>e.elim fun o e=>e.elim fun its e=>e.elim fun n e=>e.elim fun ai e=>?_
   rcases e with ⟨rfl,ho,hc,hd,r3,_⟩
   exact qg G.T y hn L ho hc hd r3
end Mine
theorem PySem.Challenge.cw_xp0036_01_holds : PySem.Challenge.rw_xp0036_01.Holds :=
  ⟨Mine.Agl,Mine.j3⟩
