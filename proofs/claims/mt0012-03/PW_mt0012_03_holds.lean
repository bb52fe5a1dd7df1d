import PyProof.Rows.All
import Wide.All
import OpenK.AllK
import Open.Tops
import Wide.FinOn
import PyProof.DictItemsLoops
import PyProof.Rows.SumAny
import PyProof.DictStraight
import PyProof.DictCompW
import PyProof.DictWalks
import PySem.Challenge.RW_mt0012_03
set_option tactic.hygienic false
set_option bootstrap.genMatcherCode false
set_option genSizeOf false
set_option genInjectivity false
set_option compiler.extract_closed false
set_option Elab.async false
set_option autoImplicit false
set_option linter.all false
set_option maxRecDepth 100000
set_option maxHeartbeats 4000000
open PySem PySem.W PyProof.Rows
namespace Mine
open Array (getElem?_toList length_toList)
open Int (natCast_add natCast_nonneg toNat_natCast toNat_sub)
open List (append_assoc append_nil cons_append flatMap_append foldl_append foldl_cons forIn_cons getD_eq_getElem?_getD getElem?_append_left getElem?_append_right getElem?_eq_getElem getElem?_map getElem_map getElem_mem getElem_of_mem getElem_zip length_append length_cons length_map length_range length_replicate length_singleton length_take lookup_cons map_append map_congr_left map_cons map_map mem_append mem_cons mem_cons_of_mem mem_cons_self mem_filter mem_map_of_mem mem_of_getElem? mem_singleton nil_append nodup_append nodup_cons not_mem_nil range_succ take_length)
open Nat (add_assoc add_comm add_le_add add_le_add_left add_le_add_right add_lt_add_left add_right_comm add_sub_cancel add_sub_cancel_left add_sub_of_le add_zero beq blt exists_eq_add_of_le le_antisymm le_of_eq le_of_lt le_of_lt_succ le_of_not_lt le_of_succ_le le_refl le_succ le_succ_of_le lt_add_of_pos_right lt_irrefl lt_of_le_of_lt lt_of_le_of_ne lt_of_lt_of_le lt_of_not_le lt_of_succ_lt lt_succ_of_le lt_succ_of_lt lt_succ_self lt_trans min_eq_left min_le_left mul_le_mul mul_le_mul_left ne_of_gt ne_of_lt not_lt_zero one_pos sub_add_cancel sub_le sub_lt sub_self sub_zero succ_le_succ succ_lt_succ succ_mul succ_pos zero_add zero_le)
section
set_option backward.match.sparseCases false
noncomputable def XS (l:List UInt8):Nat:=@List.rec UInt8 (fun _=>Nat) 1 (fun b _ n=>Nat.add b.toNat (Nat.mul 256 n)) l
noncomputable def L5 (f:Nat):Nat->List Nat:=@Nat.rec (fun _=>Nat->List Nat) (fun _=>[]) (fun _ ih n=>@Bool.rec (fun _=>List Nat) (Nat.mod n 256::ih (Nat.div n 256)) [] (beq n 1)) f
noncomputable def Hd (l:List UInt8) (f:Nat):Bool:=@List.rec UInt8 (fun _=>Nat->Bool) (fun _=>true) (fun b _ ih f=>@Bool.rec (fun _=>Bool) false (@Bool.rec (fun _=>Bool) false (ih (Nat.pred f)) (blt 0 f)) (blt b.toNat 128)) l f
noncomputable def strF (s:String):Str:=@Bool.rec (fun _=>Str) (Str.ofString s) ⟨⟨L5 5000 (XS s.toByteArray.data.toList)⟩⟩ (Hd s.toByteArray.data.toList 5000)
theorem Sl:∀ l,1≤XS l
 | []=>le_refl 1
 | b::l=>by have:=Sl l;exact Nat.le_trans (Nat.le_trans this (Nat.le_mul_of_pos_left _ (by decide:0<256))) (Nat.le_add_left _ b.toNat)
theorem Tf:∀ (f:Nat) (l:List UInt8),Hd l f=true->L5 f (XS l)=l.map UInt8.toNat∧PySem.cpsOfBytes 0 0 l=l.map UInt8.toNat
 | 0,[],_=>⟨rfl,by simp[PySem.cpsOfBytes]⟩
 | f+1,[],_=>⟨rfl,by simp[PySem.cpsOfBytes]⟩
 | f,b::l,h=>by
  have h:(@Bool.rec (fun _=>Bool) false (@Bool.rec (fun _=>Bool) false (Hd l (Nat.pred f)) (blt 0 f)) (blt b.toNat 128))=true:=h
  cases hb:blt b.toNat 128 with
  | false=>rw[hb] at h;cases h
  | true =>
   cases hf:blt 0 f with
   | false=>rw[hb,hf] at h;cases h
   | true =>
    rw[hb,hf] at h
    have hb':b.toNat<128:=lt_succ_of_le (by simpa [blt] using hb)
    have hf':0<f:=Nat.lt_of_succ_le (by simpa [blt] using hf)
    obtain ⟨g,rfl⟩:∃ g,f=g+1:=⟨f-1,(sub_add_cancel hf').symm⟩
    have ih:=Tf g l h
    have hp:=Sl l
    have e:XS (b::l)=b.toNat+256*XS l:=rfl
    constructor
    ·show (@Bool.rec (fun _=>List Nat) (Nat.mod (XS (b::l)) 256::L5 g (Nat.div (XS (b::l)) 256)) [] (beq (XS (b::l)) 1))=_
     have n1:beq (XS (b::l)) 1=false:=by
      cases q:beq (XS (b::l)) 1 with
      | false=>rfl
      | true=>have:=Nat.eq_of_beq_eq_true q;exact absurd (Nat.le_trans (Nat.le_trans (mul_le_mul_left 256 hp) (Nat.le_add_left _ b.toNat)) (le_of_eq (e.symm.trans this))) (by decide)
     have m1:Nat.mod (XS (b::l)) 256=b.toNat:=by show XS (b::l)%256=_;rw[e,Nat.add_mul_mod_self_left,Nat.mod_eq_of_lt (lt_trans hb' (by decide))]
     have d1:Nat.div (XS (b::l)) 256=XS l:=by show XS (b::l)/256=_;rw[e,Nat.add_mul_div_left _ _ (by decide),Nat.div_eq_of_lt (lt_trans hb' (by decide)),zero_add]
     rw[n1,m1,d1,ih.1];rfl
    ·rw[PySem.cpsOfBytes,if_pos hb',ih.2];rfl
theorem Nf:@Str.ofString=strF:=by
 funext s
 unfold strF
 cases h:Hd s.toByteArray.data.toList 5000 with
 | false=>rfl
 | true =>
  obtain ⟨h1,h2⟩:=Tf _ _ h
  show Str.ofString s=⟨⟨_⟩⟩
  rw[h1,<-h2];rfl
noncomputable abbrev StrT:=String->Str
inductive BxP (F:StrT->Program):StrT->Program->Type
 | mk (A:StrT):BxP F A (F A)
theorem BxP.eq {F:StrT->Program} {A:StrT} {b:Program} (x:BxP F A b):b=F A:=by cases x;rfl
noncomputable def pwB:(F:StrT->Program)×BxP F Str.ofString PySem.Challenge.pw_mt0012_03:=by
 refine ⟨?F,?h⟩
 case h =>
  delta PySem.Challenge.pw_mt0012_03
  generalize Str.ofString=A
  exact BxP.mk A
noncomputable def pwP:StrT->Program:=pwB.1
noncomputable def SW {α:Type} (as:Array α) (p:α->Bool) (start stop:Nat):Bool :=
 @Bool.rec (fun _=>Bool) (as.any p start stop) (PySem.W.R.anyR as.toList p) (beq start 0&&beq stop as.size)
theorem GU:(@Array.any:{α:Type}->Array α->(α->Bool)->Nat->Nat->Bool)=@SW:=by
 funext α as p start stop
 unfold SW
 cases h:(beq start 0&&beq stop as.size) with
 | false=>rfl
 | true =>
  obtain ⟨h1,h2⟩:=Bool.and_eq_true_iff.mp h
  have h1:=Nat.eq_of_beq_eq_true h1
  have h2:=Nat.eq_of_beq_eq_true h2
  subst h1 h2
  show as.any p 0 as.size=PySem.W.R.anyR as.toList p
  rw[<-PySem.W.R.anyR_eq,Array.any_toList]
noncomputable abbrev Mg:=(α:Type)->Array α->(α->Bool)->Nat->Nat->Bool
inductive Bx (F:Mg->Builtin):Mg->Builtin->Type 1
 | mk (A:Mg):Bx F A (F A)
theorem Bx.eq {F:Mg->Builtin} {A:Mg} {b:Builtin} (x:Bx F A b):b=F A:=by cases x;rfl
noncomputable def tnB:(F:Mg->Builtin)×Bx F (@Array.any.{0}) PySem.W.Fast.tw4202317264376624991:=by
 refine ⟨?F,?h⟩
 case h =>
  delta PySem.W.Fast.tw4202317264376624991
  generalize @Array.any.{0}=A
  exact @Bx.mk _ @A
noncomputable def tnV:Builtin:=tnB.1 (@SW)
theorem EA:PySem.W.Fast.tw4202317264376624991=tnV:=tnB.2.eq.trans (congrArg tnB.1 GU)
noncomputable def EB (id:String):Option Builtin :=
 @Bool.rec (fun _=>Option Builtin) (PySem.W.Fast.tw14364793385576792824 id) (some tnV) (PySem.W.S.eqLit (PySem.code "type.__new__") id)
theorem He:PySem.W.Fast.tw14364793385576792824 "type.__new__" = some PySem.W.Fast.tw4202317264376624991:=by kernel_rfl
theorem GV:treeTable=EB:=by
 rw[PySem.W.Fast.te14364793385576792824]
 funext id
 unfold EB
 cases h:PySem.W.S.eqLit (PySem.code "type.__new__") id with
 | false=>rfl
 | true =>
  rw[<-PySem.W.S.eqLit_eq "type.__new__" _ rfl] at h
  have:id = "type.__new__" := by simpa using h
  subst this
  exact He.trans (congrArg some EA)
noncomputable abbrev pw:=PySem.Challenge.pw_mt0012_03
noncomputable def L6 (p:Program):Str:=match p.main.body.drop 5 with
 | .ClassDef _ _ _ (.Expr (.Constant (.str s) _ _) _::_) _ _ _ _ _ _ _::_=>s
 | _=>⟨#[]⟩
noncomputable def RK:Str:=L6 pw
noncomputable def EC:{ s:String // RK=Str.ofString s }:=⟨_,by unfold RK L6;exact rfl⟩
noncomputable def ED:{ l:List Char // EC.1=String.ofList l }:=⟨_,rfl⟩
noncomputable def L7:Str:=⟨⟨PySem.W.R.mapR Char.toNat ED.1⟩⟩
theorem Ng:RK=L7:=by
 rw[EC.2,ED.2,PySem.W.Fast.ofString_ofList]
 unfold L7
 rw[<-PySem.W.R.mapR_eq]
noncomputable def setDocS (d:Str):Stmt->Stmt
 | .ClassDef n b k (.Expr (.Constant (.str _) i q) p::body) a t s ts bi st pos=>.ClassDef n b k (.Expr (.Constant (.str d) i q) p::body) a t s ts bi st pos
 | s=>s
noncomputable def Pk (d:Str) (p:Program):Program:={ p with main:={ p.main with body:=p.main.body.modify 5 (setDocS d) } }
theorem Hf:Pk RK pw=pw:=by kernel_rfl
theorem Tg:pw=pwP strF:=pwB.2.eq.trans (congrArg pwB.1 Nf)
theorem GW:pw=Pk L7 (pwP strF):=by
 rw[<-Tg,<-Ng,Hf]
end
section
set_option backward.match.sparseCases false
noncomputable abbrev r (a:Addr):Value:=.ref a
noncomputable def e (k:Str) (t:Tok) (v:Value):Str×Tok×Value:=(k,t,v)
noncomputable def dO (P:Params) (c:Value) (dd:Option Addr) (l:List (Str×Tok×Value)) (n:Nat) (sl:Array (Option Value)):Obj:=⟨c,dd,.dict ⟨l.map fun x=>⟨PyData.keyHash P x.1,.str x.1 x.2.1,x.2.2⟩⟩ n,sl⟩
noncomputable def oT (l:List Value):Obj:=⟨.type "tuple",none,.seq ⟨l⟩ 0,#[]⟩
noncomputable def oN (l:List Value):Obj:=⟨.none,none,.fields ⟨l⟩,#[]⟩
noncomputable def fT (q:Program) (i:Nat):Stmt:=q.main.body.getD i (.Pass ⟨0,0,0,0⟩)
noncomputable def fM (q:Program) (i j:Nat):Stmt:=match fT q i with
 | .ClassDef _ _ _ b _ _ _ _ _ _ _=>b.getD j (.Pass ⟨0,0,0,0⟩)
 | s=>s
noncomputable def Am:Option Tok->List Stmt->Value
 | some t,.Expr (.Constant (.str x) _ _) _::_=>.str x t
 | _,_=>.none
noncomputable def fO (f:Stmt) (c:Value) (q:Str) (g:Addr) (cl:List (Str×Addr)) (df kd:Value) (dc:Option Tok) (pm:Value) (an:Option Addr) (co ct:Value) (bi:Addr) (dd:Option Addr) (sl:Array (Option Value)):Obj:=match f with
 | .FunctionDef n a b _ _ _ sc _ _ _=>⟨c,dd,.func { name:=n,qualname:=q,params:=a,body:=.stmts b,scope:=sc,globals:=g,closure:=cl,defaults:=df,kwdefaults:=kd,doc:=Am dc b,pyModule:=pm,annotations:=an,code:=co,closureTuple:=ct,builtins:=bi },sl⟩
 | _=>default
noncomputable def fN (f:Stmt) (q:Str):Obj:=fO f .none q 0 [] .none .none none .none none .none .none 0 none #[]
noncomputable def fF (f:Stmt) (q:Str) (df:Value) (dc:Option Tok) (pm:Value) (co:Addr):Obj:=fO f (.type "function") q 3 [] df .none dc pm none (.ref co) .none 0 none #[]
noncomputable def kO (S:StrT) (n q:String) (t:List Tok) (i:List Int) (v:List Value):Obj:=match t,i,v with
 | [t0,t1,t2,t3],[i0,i1,i2,i3,i4,i5,i6,i7],[v0,v1,v2,v3,v4,v5,v6] =>
  ⟨.type "code",none,.fields #[.str (S n) t0,.str (S q) t1,.str (S "/claim/cut.py") t2,.int i0 0,.int i1 0,.int i2 0,.int i3 0,.int i4 0,v0,v1,.int i5 0,v2,v3,v4,v5,v6,.int i6 0,.int i7 0,.str (S "/claim/cut.py") t3],#[]⟩
 | _,_,_=>default
noncomputable def kF (S:StrT) (n q:String) (t:List Tok) (i:List Int) (a:Addr) (b:Bool) (c d f g:Addr):Obj:=kO S n q t i [.ref a,.bool b,.ref c,.none,.ref d,.ref f,.ref g]
noncomputable def GE (S:StrT) (P:Params):BT:=(.node (boot_o_0 P) (.node (boot_o_1 P) (.node (boot_o_3 P) (.node (boot_o_7 P) .nil .nil) (.node (oT []) .nil .nil)) (.node (boot_o_5 P) (.node (boot_o_9 P) .nil .nil) (.node (kO S "<module>" "<module>" [182,183,184,186] [1,0,0,0,0,181,185,1] [(r 11),(.bool false),(r 12),.none,.none,.none,.none]) .nil .nil))) (.node (boot_o_2 P) (.node (boot_o_4 P) (.node (boot_o_8 P) .nil .nil) (.node (oN []) .nil .nil)) (.node (boot_o_6 P) (.node (boot_o_10 P) .nil .nil) (.node (⟨(.type "frame"),none,.plain,#[(some (r 13)),(some (r 3)),(some (r 3)),none,(some (.str (S "__main__") 164)),none,(some (r 0))]⟩) .nil .nil))))
noncomputable def EE (S:StrT) (P:Params):Heap:=⟨⟨[boot_o_0 P,boot_o_1 P,boot_o_2 P,boot_o_3 P,boot_o_4 P,boot_o_5 P,boot_o_6 P,boot_o_7 P,boot_o_8 P,boot_o_9 P,boot_o_10 P,oT [],oN [],kO S "<module>" "<module>" [182,183,184,186] [1,0,0,0,0,181,185,1] [(r 11),(.bool false),(r 12),.none,.none,.none,.none],⟨(.type "frame"),none,.plain,#[(some (r 13)),(some (r 3)),(some (r 3)),none,(some (.str (S "__main__") 164)),none,(some (r 0))]⟩]⟩,{}⟩
section
variable (S:StrT) (q:Program) (D:Str) (P:Params)
noncomputable def o3:Obj:=dO P (.type "dict") none [e (S "__name__") 165 (.str (S "law_mt0012_03") 583),e (S "__doc__") 166 .none,e (S "__package__") 167 .none,e (S "__loader__") 168 (.builtin "__main__.__loader__#opaque"),e (S "__spec__") 169 .none,e (S "__annotations__") 170 (r 6),e (S "__builtins__") 171 (r 4),e (S "__file__") 173 (.str (S "/claim/cut.py") 172),e (S "__cached__") 174 .none,e (S "_wall") 193 (r 21),e (S "_tuplegetter") 252 (r 60),e (S "Match") 380 (r 135),e (S "_calculate_ratio") 388 (r 145),e (S "SequenceMatcher") 582 (r 242),e (S "_law_text") 590 (r 251),e (S "_law_owners") 596 (r 256),e (S "_law_read") 602 (r 261),e (S "law") 608 (r 266)] 18 #[]
noncomputable def o11:Obj:=oT []
noncomputable def o12:Obj:=oN [(.int 1 0),(.int 0 0),(r 20),(.int 5 0),(.int 0 0),(r 27),(.int 23 0),(.int 0 0),(r 71),(.int 66 0),(.int 0 0),(r 144),(.int 70 0),(.int 0 0),(r 151),(.int 463 0),(.int 0 0),(r 250),(.int 470 0),(.int 0 0),(r 255),(.int 490 0),(.int 0 0),(r 260),(.int 512 0),(.int 0 0),(r 265)]
noncomputable def o13:Obj:=kO S "<module>" "<module>" [182,183,184,186] [1,0,0,0,0,181,185,1] [(r 11),(.bool false),(r 12),.none,.none,.none,.none]
noncomputable def o14:Obj:=⟨(.type "frame"),none,.plain,#[(some (r 13)),(some (r 3)),(some (r 3)),none,(some (.str (S "__main__") 164)),none,(some (r 0))]⟩
noncomputable def o15:Obj:=oT []
noncomputable def o16:Obj:=oN []
noncomputable def o17:Obj:=oT [(.str (S "k") 190)]
noncomputable def o18:Obj:=oT []
noncomputable def o19:Obj:=fN (fT q 0) (S "_wall")
noncomputable def o20:Obj:=kF S "_wall" "_wall" [187,188,189,192] [1,1,0,0,3,181,191,1] 15 true 16 17 18 19
noncomputable def o21:Obj:=fF (fT q 0) (S "_wall") .none none (.str (S "__main__") 164) 20
noncomputable def o22:Obj:=oT []
noncomputable def o23:Obj:=⟨(.type "builtin_function_or_method"),none,(.fields #[(.builtin "type.__prepare__"),(.type "type")]),#[]⟩
noncomputable def o24:Obj:=dO P (.type "dict") none [e (S "__module__") 203 (.str (S "cpy313.difflib") 194),e (S "__qualname__") 205 (.str (S "_tuplegetter") 204),e (S "__firstlineno__") 207 (.int 5 206),e (S "__init__") 216 (r 35),e (S "__get__") 225 (r 43),e (S "__set__") 234 (r 50),e (S "__delete__") 242 (r 57),e (S "__static_attributes__") 245 (r 58)] 8 #[]
noncomputable def o25:Obj:=oT []
noncomputable def o26:Obj:=oN [(.int 7 0),(.int 4 0),(r 34),(.int 11 0),(.int 4 0),(r 42),(.int 18 0),(.int 4 0),(r 49),(.int 21 0),(.int 4 0),(r 56)]
noncomputable def o27:Obj:=kO S "_tuplegetter" "_tuplegetter" [198,199,200,202] [5,0,0,0,0,181,201,5] [(r 25),(.bool false),(r 26),.none,.none,.none,.none]
noncomputable def o28:Obj:=⟨(.type "frame"),none,.plain,#[(some (r 27)),(some (r 3)),(some (r 24)),none,(some (.str (S "cpy313.difflib") 194)),none,(some (r 0))]⟩
noncomputable def o29:Obj:=oT []
noncomputable def o30:Obj:=oN []
noncomputable def o31:Obj:=oT [(.str (S "self") 211),(.str (S "index") 212),(.str (S "doc") 213)]
noncomputable def o32:Obj:=oT []
noncomputable def o33:Obj:=fN (fM q 2 0) (S "_tuplegetter.__init__")
noncomputable def o34:Obj:=kF S "__init__" "_tuplegetter.__init__" [208,209,210,215] [7,3,0,0,3,181,214,7] 29 true 30 31 32 33
noncomputable def o35:Obj:=fF (fM q 2 0) (S "_tuplegetter.__init__") .none none (.str (S "cpy313.difflib") 194) 34
noncomputable def o36:Obj:=oT [.none]
noncomputable def o37:Obj:=oT []
noncomputable def o38:Obj:=oN []
noncomputable def o39:Obj:=oT [(.str (S "self") 220),(.str (S "obj") 221),(.str (S "objtype") 222)]
noncomputable def o40:Obj:=oT []
noncomputable def o41:Obj:=fN (fM q 2 1) (S "_tuplegetter.__get__")
noncomputable def o42:Obj:=kF S "__get__" "_tuplegetter.__get__" [217,218,219,224] [11,3,0,0,3,181,223,11] 37 true 38 39 40 41
noncomputable def o43:Obj:=fF (fM q 2 1) (S "_tuplegetter.__get__") (r 36) none (.str (S "cpy313.difflib") 194) 42
noncomputable def o44:Obj:=oT []
noncomputable def o45:Obj:=oN []
noncomputable def o46:Obj:=oT [(.str (S "self") 229),(.str (S "obj") 230),(.str (S "value") 231)]
noncomputable def o47:Obj:=oT []
noncomputable def o48:Obj:=fN (fM q 2 2) (S "_tuplegetter.__set__")
noncomputable def o49:Obj:=kF S "__set__" "_tuplegetter.__set__" [226,227,228,233] [18,3,0,0,3,181,232,18] 44 true 45 46 47 48
noncomputable def o50:Obj:=fF (fM q 2 2) (S "_tuplegetter.__set__") .none none (.str (S "cpy313.difflib") 194) 49
noncomputable def o51:Obj:=oT []
noncomputable def o52:Obj:=oN []
noncomputable def o53:Obj:=oT [(.str (S "self") 238),(.str (S "obj") 239)]
noncomputable def o54:Obj:=oT []
noncomputable def o55:Obj:=fN (fM q 2 3) (S "_tuplegetter.__delete__")
noncomputable def o56:Obj:=kF S "__delete__" "_tuplegetter.__delete__" [235,236,237,241] [21,2,0,0,3,181,240,21] 51 true 52 53 54 55
noncomputable def o57:Obj:=fF (fM q 2 3) (S "_tuplegetter.__delete__") .none none (.str (S "cpy313.difflib") 194) 56
noncomputable def o58:Obj:=oT [(.str (S "__doc__") 243),(.str (S "index") 244)]
noncomputable def o59:Obj:=dO P (.type "dict") none [e (S "__module__") 203 (.str (S "cpy313.difflib") 194),e (S "__firstlineno__") 207 (.int 5 206),e (S "__init__") 216 (r 35),e (S "__get__") 225 (r 43),e (S "__set__") 234 (r 50),e (S "__delete__") 242 (r 57),e (S "__static_attributes__") 245 (r 58),e (S "__dict__") 247 (r 61),e (S "__weakref__") 249 (r 62),e (S "__doc__") 250 .none] 4 #[]
noncomputable def o60:Obj:=⟨(.type "type"),none,(.cls ⟨(S "_tuplegetter"),[(.type "object")],[(r 60),(.type "object")],59,(S "_tuplegetter"),true,[],[],false,none,false⟩),#[none,none,(some (.str (S "_tuplegetter") 196)),(some (.str (S "_tuplegetter") 204)),(some (.builtin "object.__new__")),(some (.bool true))]⟩
noncomputable def o61:Obj:=⟨(.type "getset_descriptor"),none,(.fields #[(.str (S "__dict__") 246),(r 60),(.builtin "function.__dict__"),(.builtin "function.__dict__#set")]),#[]⟩
noncomputable def o62:Obj:=⟨(.type "getset_descriptor"),none,(.fields #[(.str (S "__weakref__") 248),(r 60),(.builtin "ExceptionGroup.__weakref__"),.none]),#[]⟩
noncomputable def o63:Obj:=⟨(.type "super"),none,(.fields #[(r 60),(r 60),(r 60)]),#[]⟩
noncomputable def o64:Obj:=⟨(.type "builtin_function_or_method"),none,(.fields #[(.builtin "object.__init_subclass__"),(r 60)]),#[]⟩
noncomputable def o65:Obj:=oT [(.type "tuple")]
noncomputable def o66:Obj:=⟨(.type "builtin_function_or_method"),none,(.fields #[(.builtin "type.__prepare__"),(.type "type")]),#[]⟩
noncomputable def o67:Obj:=dO P (.type "dict") none [e (S "__module__") 260 (.str (S "cpy313.difflib") 194),e (S "__qualname__") 262 (.str (S "Match") 261),e (S "__firstlineno__") 264 (.int 23 263),e (S "__doc__") 266 (.str (S "Match(a, b, size)") 265),e (S "__slots__") 268 (r 73),e (S "_fields") 272 (r 74),e (S "_field_defaults") 273 (r 75),e (S "__new__") 284 (r 82),e (S "_make") 306 (r 91),e (S "_replace") 317 (r 100),e (S "__replace__") 318 (r 100),e (S "__repr__") 326 (r 107),e (S "_asdict") 333 (r 114),e (S "__getnewargs__") 341 (r 121),e (S "__match_args__") 345 (r 122),e (S "a") 355 (r 124),e (S "b") 365 (r 127),e (S "size") 375 (r 130),e (S "__static_attributes__") 376 (r 132),e (S "__classcell__") 377 (r 68)] 20 #[]
noncomputable def o68:Obj:=⟨(.type "cell"),none,(.cell (some (r 135))),#[]⟩
noncomputable def o69:Obj:=oT []
noncomputable def o70:Obj:=oN [(.int 29 0),(.int 4 0),(r 81),(.int 34 0),(.int 4 0),(r 88),(.int 41 0),(.int 4 0),(r 99),(.int 52 0),(.int 4 0),(r 106),(.int 56 0),(.int 4 0),(r 113),(.int 59 0),(.int 4 0),(r 120)]
noncomputable def o71:Obj:=kO S "Match" "Match" [255,256,257,259] [23,0,0,0,0,181,258,23] [(r 69),(.bool false),(r 70),.none,.none,.none,.none]
noncomputable def o72:Obj:=⟨(.type "frame"),none,.plain,#[(some (r 71)),(some (r 3)),(some (r 67)),none,(some (.str (S "cpy313.difflib") 194)),none,(some (r 0))]⟩
noncomputable def o73:Obj:=oT []
noncomputable def o74:Obj:=oT [(.str (S "a") 269),(.str (S "b") 270),(.str (S "size") 271)]
noncomputable def o75:Obj:=dO P (.type "dict") none [] 0 #[]
noncomputable def o76:Obj:=oT []
noncomputable def o77:Obj:=oN []
noncomputable def o78:Obj:=oT [(.str (S "_cls") 277),(.str (S "a") 278),(.str (S "b") 279),(.str (S "size") 280)]
noncomputable def o79:Obj:=oT []
noncomputable def o80:Obj:=fN (fM q 3 4) (S "Match.__new__")
noncomputable def o81:Obj:=kF S "__new__" "Match.__new__" [274,275,276,282] [29,4,0,0,3,181,281,29] 76 true 77 78 79 80
noncomputable def o82:Obj:=fF (fM q 3 4) (S "Match.__new__") .none (some 283) (.str (S "cpy313.difflib") 194) 81
noncomputable def o83:Obj:=oT []
noncomputable def o84:Obj:=oN []
noncomputable def o85:Obj:=oT [(.str (S "cls") 288),(.str (S "iterable") 289),(.str (S "result") 290)]
noncomputable def o86:Obj:=oT []
noncomputable def o87:Obj:=fN (fM q 3 5) (S "Match._make")
noncomputable def o88:Obj:=kF S "_make" "Match._make" [285,286,287,292] [33,2,0,0,3,181,291,33] 83 true 84 85 86 87
noncomputable def o89:Obj:=fO (fM q 3 5) (.type "function") (S "Match._make") 3 [] .none .none (some 293) (.str (S "cpy313.difflib") 194) (some 92) (r 88) .none 0 none #[]
noncomputable def o90:Obj:=dO P (.type "dict") none [e (S "__module__") 295 (.str (S "cpy313.difflib") 194),e (S "__name__") 298 (.str (S "_make") 297),e (S "__qualname__") 301 (.str (S "Match._make") 300),e (S "__doc__") 303 (.str (S "Make a new Match object from a sequence or iterable") 293),e (S "__annotations__") 305 (r 92)] 5 #[]
noncomputable def o91:Obj:=⟨(.type "classmethod"),(some 90),(.fields #[(r 89),(.bool false)]),#[]⟩
noncomputable def o92:Obj:=dO P (.type "dict") none [] 0 #[]
noncomputable def o93:Obj:=oT [(r 68)]
noncomputable def o94:Obj:=oT [(.str (S "__class__") 310)]
noncomputable def o95:Obj:=oN []
noncomputable def o96:Obj:=oT [(.str (S "self") 311),(.str (S "kwds") 312),(.str (S "result") 313)]
noncomputable def o97:Obj:=oT []
noncomputable def o98:Obj:=fN (fM q 3 6) (S "Match._replace")
noncomputable def o99:Obj:=kF S "_replace" "Match._replace" [307,308,309,315] [41,1,1,0,11,181,314,41] 94 true 95 96 97 98
noncomputable def EF:Obj:=fO (fM q 3 6) (.type "function") (S "Match._replace") 3 [((S "__class__"),68)] .none .none (some 316) (.str (S "cpy313.difflib") 194) none (r 99) (r 93) 0 none #[]
noncomputable def EG:Obj:=oT []
noncomputable def EH:Obj:=oN []
noncomputable def EI:Obj:=oT [(.str (S "self") 322)]
noncomputable def EJ:Obj:=oT []
noncomputable def EK:Obj:=fN (fM q 3 8) (S "Match.__repr__")
noncomputable def EL:Obj:=kF S "__repr__" "Match.__repr__" [319,320,321,324] [52,1,0,0,3,181,323,52] 101 true 102 103 104 105
noncomputable def EM:Obj:=fF (fM q 3 8) (S "Match.__repr__") .none (some 325) (.str (S "cpy313.difflib") 194) 106
noncomputable def EN:Obj:=oT []
noncomputable def EO:Obj:=oN []
noncomputable def EP:Obj:=oT [(.str (S "self") 330)]
noncomputable def EQ:Obj:=oT []
noncomputable def ER:Obj:=fN (fM q 3 9) (S "Match._asdict")
noncomputable def ES:Obj:=kF S "_asdict" "Match._asdict" [327,328,329,332] [56,1,0,0,3,181,331,56] 108 true 109 110 111 112
noncomputable def ET:Obj:=fF (fM q 3 9) (S "Match._asdict") .none none (.str (S "cpy313.difflib") 194) 113
noncomputable def EU:Obj:=oT []
noncomputable def EV:Obj:=oN []
noncomputable def EW:Obj:=oT [(.str (S "self") 337)]
noncomputable def EX:Obj:=oT []
noncomputable def EY:Obj:=fN (fM q 3 10) (S "Match.__getnewargs__")
noncomputable def EZ:Obj:=kF S "__getnewargs__" "Match.__getnewargs__" [334,335,336,339] [59,1,0,0,3,181,338,59] 115 true 116 117 118 119
noncomputable def Da:Obj:=fF (fM q 3 10) (S "Match.__getnewargs__") .none (some 340) (.str (S "cpy313.difflib") 194) 120
noncomputable def Db:Obj:=oT [(.str (S "a") 342),(.str (S "b") 343),(.str (S "size") 344)]
noncomputable def Dc:Obj:=dO P (.type "dict") none [e (S "index") 352 (.int 0 346),e (S "__doc__") 354 (.str (S "Alias for field number 0") 347)] 2 #[]
noncomputable def Dd:Obj:=⟨(r 60),(some 123),.plain,#[]⟩
noncomputable def De:Obj:=dO P (.type "frame") none [e (S "self") 348 (r 124),e (S "index") 349 (.int 0 346),e (S "doc") 350 (.str (S "Alias for field number 0") 347)] 3 #[]
noncomputable def Df:Obj:=dO P (.type "dict") none [e (S "index") 362 (.int 1 356),e (S "__doc__") 364 (.str (S "Alias for field number 1") 357)] 2 #[]
noncomputable def Dg:Obj:=⟨(r 60),(some 126),.plain,#[]⟩
noncomputable def Dh:Obj:=dO P (.type "frame") none [e (S "self") 358 (r 127),e (S "index") 359 (.int 1 356),e (S "doc") 360 (.str (S "Alias for field number 1") 357)] 3 #[]
noncomputable def Di:Obj:=dO P (.type "dict") none [e (S "index") 372 (.int 2 366),e (S "__doc__") 374 (.str (S "Alias for field number 2") 367)] 2 #[]
noncomputable def Dj:Obj:=⟨(r 60),(some 129),.plain,#[]⟩
noncomputable def Dk:Obj:=dO P (.type "frame") none [e (S "self") 368 (r 130),e (S "index") 369 (.int 2 366),e (S "doc") 370 (.str (S "Alias for field number 2") 367)] 3 #[]
noncomputable def Dl:Obj:=oT []
noncomputable def Dm:Obj:=⟨(.type "list"),none,(.seq #[] 0),#[]⟩
noncomputable def Dn:Obj:=dO P (.type "dict") none [e (S "__module__") 260 (.str (S "cpy313.difflib") 194),e (S "__firstlineno__") 264 (.int 23 263),e (S "__doc__") 266 (.str (S "Match(a, b, size)") 265),e (S "__slots__") 268 (r 73),e (S "_fields") 272 (r 74),e (S "_field_defaults") 273 (r 75),e (S "__new__") 284 (r 136),e (S "_make") 306 (r 91),e (S "_replace") 317 (r 100),e (S "__replace__") 318 (r 100),e (S "__repr__") 326 (r 107),e (S "_asdict") 333 (r 114),e (S "__getnewargs__") 341 (r 121),e (S "__match_args__") 345 (r 122),e (S "a") 355 (r 124),e (S "b") 365 (r 127),e (S "size") 375 (r 130),e (S "__static_attributes__") 376 (r 132)] 2 #[]
noncomputable def Dp:Obj:=⟨(.type "type"),none,(.cls ⟨(S "Match"),[(.type "tuple")],[(r 135),(.type "tuple"),(.type "object")],134,(S "Match"),false,[],[],false,none,false⟩),#[(some (r 65)),none,(some (.str (S "Match") 253)),(some (.str (S "Match") 261)),(some .none),(some (.bool false))]⟩
noncomputable def Dq:Obj:=⟨(.type "staticmethod"),none,(.fields #[(r 82)]),#[]⟩
noncomputable def Dr:Obj:=⟨(.type "super"),none,(.fields #[(r 135),(r 135),(r 135)]),#[]⟩
noncomputable def Ds:Obj:=⟨(.type "builtin_function_or_method"),none,(.fields #[(.builtin "object.__init_subclass__"),(r 135)]),#[]⟩
noncomputable def Dt:Obj:=oT []
noncomputable def Du:Obj:=oN []
noncomputable def Dv:Obj:=oT [(.str (S "matches") 384),(.str (S "length") 385)]
noncomputable def Dw:Obj:=oT []
noncomputable def Dx:Obj:=fN (fT q 4) (S "_calculate_ratio")
noncomputable def Dy:Obj:=kF S "_calculate_ratio" "_calculate_ratio" [381,382,383,387] [66,2,0,0,3,181,386,66] 139 true 140 141 142 143
noncomputable def Dz:Obj:=fF (fT q 4) (S "_calculate_ratio") .none none (.str (S "cpy313.difflib") 194) 144
noncomputable def D0:Obj:=oT []
noncomputable def D1:Obj:=⟨(.type "builtin_function_or_method"),none,(.fields #[(.builtin "type.__prepare__"),(.type "type")]),#[]⟩
noncomputable def D2:Obj:=dO P (.type "dict") none [e (S "__module__") 396 (.str (S "cpy313.difflib") 194),e (S "__qualname__") 398 (.str (S "SequenceMatcher") 397),e (S "__firstlineno__") 400 (.int 70 399),e (S "__doc__") 402 (.str D 401),e (S "__init__") 417 (r 160),e (S "set_seqs") 427 (r 167),e (S "set_seq1") 436 (r 174),e (S "set_seq2") 445 (r 181),e (S "_SequenceMatcher__chain_b") 463 (r 188),e (S "find_longest_match") 491 (r 196),e (S "get_matching_blocks") 518 (r 203),e (S "get_opcodes") 533 (r 210),e (S "get_grouped_opcodes") 542 (r 218),e (S "ratio") 551 (r 225),e (S "quick_ratio") 558 (r 232),e (S "real_quick_ratio") 565 (r 239),e (S "__static_attributes__") 576 (r 240)] 17 #[]
noncomputable def D3:Obj:=oT []
noncomputable def D4:Obj:=oN [(.int 145 0),(.int 4 0),(r 159),(.int 173 0),(.int 4 0),(r 166),(.int 184 0),(.int 4 0),(r 173),(.int 209 0),(.int 4 0),(r 180),(.int 236 0),(.int 4 0),(r 187),(.int 260 0),(.int 4 0),(r 195),(.int 335 0),(.int 4 0),(r 202),(.int 383 0),(.int 4 0),(r 209),(.int 430 0),(.int 4 0),(r 217),(.int 433 0),(.int 4 0),(r 224),(.int 457 0),(.int 4 0),(r 231),(.int 460 0),(.int 4 0),(r 238)]
noncomputable def D5:Obj:=kO S "SequenceMatcher" "SequenceMatcher" [391,392,393,395] [70,0,0,0,0,181,394,70] [(r 149),(.bool false),(r 150),.none,.none,.none,.none]
noncomputable def D6:Obj:=⟨(.type "frame"),none,.plain,#[(some (r 151)),(some (r 3)),(some (r 148)),none,(some (.str (S "cpy313.difflib") 194)),none,(some (r 0))]⟩
noncomputable def D7:Obj:=oT [.none,(.str (S "") 404),(.str (S "") 405),(.bool true)]
noncomputable def D8:Obj:=oT []
noncomputable def D9:Obj:=oN []
noncomputable def DA:Obj:=oT [(.str (S "self") 409),(.str (S "isjunk") 410),(.str (S "a") 411),(.str (S "b") 412),(.str (S "autojunk") 413)]
noncomputable def DB:Obj:=oT []
noncomputable def DC:Obj:=fN (fM q 5 1) (S "SequenceMatcher.__init__")
noncomputable def DD:Obj:=kF S "__init__" "SequenceMatcher.__init__" [406,407,408,415] [145,5,0,0,3,181,414,145] 154 true 155 156 157 158
noncomputable def DE:Obj:=fF (fM q 5 1) (S "SequenceMatcher.__init__") (r 153) (some 416) (.str (S "cpy313.difflib") 194) 159
noncomputable def DF:Obj:=oT []
noncomputable def DG:Obj:=oN []
noncomputable def DH:Obj:=oT [(.str (S "self") 421),(.str (S "a") 422),(.str (S "b") 423)]
noncomputable def DI:Obj:=oT []
noncomputable def DJ:Obj:=fN (fM q 5 2) (S "SequenceMatcher.set_seqs")
noncomputable def DK:Obj:=kF S "set_seqs" "SequenceMatcher.set_seqs" [418,419,420,425] [173,3,0,0,3,181,424,173] 161 true 162 163 164 165
noncomputable def DL:Obj:=fF (fM q 5 2) (S "SequenceMatcher.set_seqs") .none (some 426) (.str (S "cpy313.difflib") 194) 166
noncomputable def DM:Obj:=oT []
noncomputable def DN:Obj:=oN []
noncomputable def DO:Obj:=oT [(.str (S "self") 431),(.str (S "a") 432)]
noncomputable def DP:Obj:=oT []
noncomputable def DQ:Obj:=fN (fM q 5 3) (S "SequenceMatcher.set_seq1")
noncomputable def DR:Obj:=kF S "set_seq1" "SequenceMatcher.set_seq1" [428,429,430,434] [184,2,0,0,3,181,433,184] 168 true 169 170 171 172
noncomputable def DS:Obj:=fF (fM q 5 3) (S "SequenceMatcher.set_seq1") .none (some 435) (.str (S "cpy313.difflib") 194) 173
noncomputable def DT:Obj:=oT []
noncomputable def DU:Obj:=oN []
noncomputable def DV:Obj:=oT [(.str (S "self") 440),(.str (S "b") 441)]
noncomputable def DW:Obj:=oT []
noncomputable def DX:Obj:=fN (fM q 5 4) (S "SequenceMatcher.set_seq2")
noncomputable def DY:Obj:=kF S "set_seq2" "SequenceMatcher.set_seq2" [437,438,439,443] [209,2,0,0,3,181,442,209] 175 true 176 177 178 179
noncomputable def DZ:Obj:=fF (fM q 5 4) (S "SequenceMatcher.set_seq2") .none (some 444) (.str (S "cpy313.difflib") 194) 180
noncomputable def Ca:Obj:=oT []
noncomputable def Cb:Obj:=oN []
noncomputable def Cc:Obj:=oT [(.str (S "self") 449),(.str (S "b") 450),(.str (S "b2j") 451),(.str (S "i") 452),(.str (S "elt") 453),(.str (S "indices") 454),(.str (S "junk") 455),(.str (S "isjunk") 456),(.str (S "popular") 457),(.str (S "n") 458),(.str (S "ntest") 459),(.str (S "idxs") 460)]
noncomputable def Cd:Obj:=oT []
noncomputable def Ce:Obj:=fN (fM q 5 5) (S "SequenceMatcher.__chain_b")
noncomputable def Cf:Obj:=kF S "__chain_b" "SequenceMatcher.__chain_b" [446,447,448,462] [236,1,0,0,3,181,461,236] 182 true 183 184 185 186
noncomputable def Cg:Obj:=fF (fM q 5 5) (S "SequenceMatcher.__chain_b") .none none (.str (S "cpy313.difflib") 194) 187
noncomputable def Ch:Obj:=oT [(.int 0 464),.none,(.int 0 465),.none]
noncomputable def Ci:Obj:=oT []
noncomputable def Cj:Obj:=oN []
noncomputable def Ck:Obj:=oT [(.str (S "self") 469),(.str (S "alo") 470),(.str (S "ahi") 471),(.str (S "blo") 472),(.str (S "bhi") 473),(.str (S "a") 474),(.str (S "b") 475),(.str (S "b2j") 476),(.str (S "isbjunk") 477),(.str (S "besti") 478),(.str (S "bestj") 479),(.str (S "bestsize") 480),(.str (S "j2len") 481),(.str (S "nothing") 482),(.str (S "i") 483),(.str (S "j2lenget") 484),(.str (S "newj2len") 485),(.str (S "j") 486),(.str (S "k") 487)]
noncomputable def Cl:Obj:=oT []
noncomputable def Cm:Obj:=fN (fM q 5 6) (S "SequenceMatcher.find_longest_match")
noncomputable def Cn:Obj:=kF S "find_longest_match" "SequenceMatcher.find_longest_match" [466,467,468,489] [260,5,0,0,3,181,488,260] 190 true 191 192 193 194
noncomputable def Co:Obj:=fF (fM q 5 6) (S "SequenceMatcher.find_longest_match") (r 189) (some 490) (.str (S "cpy313.difflib") 194) 195
noncomputable def Cp:Obj:=oT []
noncomputable def Cq:Obj:=oN []
noncomputable def Cr:Obj:=oT [(.str (S "self") 495),(.str (S "la") 496),(.str (S "lb") 497),(.str (S "queue") 498),(.str (S "matching_blocks") 499),(.str (S "alo") 500),(.str (S "ahi") 501),(.str (S "blo") 502),(.str (S "bhi") 503),(.str (S "i") 504),(.str (S "j") 505),(.str (S "k") 506),(.str (S "x") 507),(.str (S "i1") 508),(.str (S "j1") 509),(.str (S "k1") 510),(.str (S "non_adjacent") 511),(.str (S "i2") 512),(.str (S "j2") 513),(.str (S "k2") 514)]
noncomputable def Ct:Obj:=oT []
noncomputable def Cu:Obj:=fN (fM q 5 7) (S "SequenceMatcher.get_matching_blocks")
noncomputable def Cv:Obj:=kF S "get_matching_blocks" "SequenceMatcher.get_matching_blocks" [492,493,494,516] [335,1,0,0,3,181,515,335] 197 true 198 199 200 201
noncomputable def Cw:Obj:=fF (fM q 5 7) (S "SequenceMatcher.get_matching_blocks") .none (some 517) (.str (S "cpy313.difflib") 194) 202
noncomputable def Cx:Obj:=oT []
noncomputable def Cy:Obj:=oN []
noncomputable def Cz:Obj:=oT [(.str (S "self") 522),(.str (S "i") 523),(.str (S "j") 524),(.str (S "answer") 525),(.str (S "ai") 526),(.str (S "bj") 527),(.str (S "size") 528),(.str (S "tag") 529)]
noncomputable def C0:Obj:=oT []
noncomputable def C1:Obj:=fN (fM q 5 8) (S "SequenceMatcher.get_opcodes")
noncomputable def C2:Obj:=kF S "get_opcodes" "SequenceMatcher.get_opcodes" [519,520,521,531] [383,1,0,0,3,181,530,383] 204 true 205 206 207 208
noncomputable def C3:Obj:=fF (fM q 5 8) (S "SequenceMatcher.get_opcodes") .none (some 532) (.str (S "cpy313.difflib") 194) 209
noncomputable def C4:Obj:=oT [(.int 3 534)]
noncomputable def C5:Obj:=oT []
noncomputable def C6:Obj:=oN []
noncomputable def C7:Obj:=oT [(.str (S "self") 538),(.str (S "n") 539)]
noncomputable def C8:Obj:=oT []
noncomputable def C9:Obj:=fN (fM q 5 9) (S "SequenceMatcher.get_grouped_opcodes")
noncomputable def CA:Obj:=kF S "get_grouped_opcodes" "SequenceMatcher.get_grouped_opcodes" [535,536,537,541] [430,2,0,0,3,181,540,430] 212 true 213 214 215 216
noncomputable def CB:Obj:=fF (fM q 5 9) (S "SequenceMatcher.get_grouped_opcodes") (r 211) none (.str (S "cpy313.difflib") 194) 217
noncomputable def CC:Obj:=oT []
noncomputable def CD:Obj:=oN []
noncomputable def CE:Obj:=oT [(.str (S "self") 546),(.str (S "matches") 547)]
noncomputable def CF:Obj:=oT []
noncomputable def CG:Obj:=fN (fM q 5 10) (S "SequenceMatcher.ratio")
noncomputable def CH:Obj:=kF S "ratio" "SequenceMatcher.ratio" [543,544,545,549] [433,1,0,0,3,181,548,433] 219 true 220 221 222 223
noncomputable def CJ:Obj:=fF (fM q 5 10) (S "SequenceMatcher.ratio") .none (some 550) (.str (S "cpy313.difflib") 194) 224
noncomputable def CK:Obj:=oT []
noncomputable def CL:Obj:=oN []
noncomputable def CM:Obj:=oT [(.str (S "self") 555)]
noncomputable def CN:Obj:=oT []
noncomputable def CO:Obj:=fN (fM q 5 11) (S "SequenceMatcher.quick_ratio")
noncomputable def CP:Obj:=kF S "quick_ratio" "SequenceMatcher.quick_ratio" [552,553,554,557] [457,1,0,0,3,181,556,457] 226 true 227 228 229 230
noncomputable def CQ:Obj:=fF (fM q 5 11) (S "SequenceMatcher.quick_ratio") .none none (.str (S "cpy313.difflib") 194) 231
noncomputable def CR:Obj:=oT []
noncomputable def CS:Obj:=oN []
noncomputable def CT:Obj:=oT [(.str (S "self") 562)]
noncomputable def CU:Obj:=oT []
noncomputable def CV:Obj:=fN (fM q 5 12) (S "SequenceMatcher.real_quick_ratio")
noncomputable def CW:Obj:=kF S "real_quick_ratio" "SequenceMatcher.real_quick_ratio" [559,560,561,564] [460,1,0,0,3,181,563,460] 233 true 234 235 236 237
noncomputable def CX:Obj:=fF (fM q 5 12) (S "SequenceMatcher.real_quick_ratio") .none none (.str (S "cpy313.difflib") 194) 238
noncomputable def CY:Obj:=oT [(.str (S "a") 566),(.str (S "autojunk") 567),(.str (S "b") 568),(.str (S "b2j") 569),(.str (S "bjunk") 570),(.str (S "bpopular") 571),(.str (S "fullbcount") 572),(.str (S "isjunk") 573),(.str (S "matching_blocks") 574),(.str (S "opcodes") 575)]
noncomputable def CZ:Obj:=dO P (.type "dict") none [e (S "__module__") 396 (.str (S "cpy313.difflib") 194),e (S "__firstlineno__") 400 (.int 70 399),e (S "__doc__") 402 (.str D 401),e (S "__init__") 417 (r 160),e (S "set_seqs") 427 (r 167),e (S "set_seq1") 436 (r 174),e (S "set_seq2") 445 (r 181),e (S "_SequenceMatcher__chain_b") 463 (r 188),e (S "find_longest_match") 491 (r 196),e (S "get_matching_blocks") 518 (r 203),e (S "get_opcodes") 533 (r 210),e (S "get_grouped_opcodes") 542 (r 218),e (S "ratio") 551 (r 225),e (S "quick_ratio") 558 (r 232),e (S "real_quick_ratio") 565 (r 239),e (S "__static_attributes__") 576 (r 240),e (S "__dict__") 578 (r 243),e (S "__weakref__") 580 (r 244)] 3 #[]
noncomputable def Ba:Obj:=⟨(.type "type"),none,(.cls ⟨(S "SequenceMatcher"),[(.type "object")],[(r 242),(.type "object")],241,(S "SequenceMatcher"),true,[],[],false,none,false⟩),#[none,none,(some (.str (S "SequenceMatcher") 389)),(some (.str (S "SequenceMatcher") 397)),(some (.builtin "object.__new__")),(some (.bool true))]⟩
noncomputable def Bb:Obj:=⟨(.type "getset_descriptor"),none,(.fields #[(.str (S "__dict__") 577),(r 242),(.builtin "function.__dict__"),(.builtin "function.__dict__#set")]),#[]⟩
noncomputable def Bc:Obj:=⟨(.type "getset_descriptor"),none,(.fields #[(.str (S "__weakref__") 579),(r 242),(.builtin "ExceptionGroup.__weakref__"),.none]),#[]⟩
noncomputable def Be:Obj:=⟨(.type "super"),none,(.fields #[(r 242),(r 242),(r 242)]),#[]⟩
noncomputable def Bf:Obj:=⟨(.type "builtin_function_or_method"),none,(.fields #[(.builtin "object.__init_subclass__"),(r 242)]),#[]⟩
noncomputable def Bg:Obj:=oT []
noncomputable def Bh:Obj:=oN []
noncomputable def Bi:Obj:=fN (fT q 7) (S "_law_text")
noncomputable def Bj:Obj:=kO S "_law_text" "_law_text" [585,586,587,589] [463,3,0,0,3,181,588,463] [(r 247),(.bool true),(r 248),.none,.none,.none,(r 249)]
noncomputable def Bk:Obj:=fF (fT q 7) (S "_law_text") .none none (.str (S "law_mt0012_03") 583) 250
noncomputable def Bl:Obj:=oT []
noncomputable def Bm:Obj:=oN []
noncomputable def Bn:Obj:=fN (fT q 8) (S "_law_owners")
noncomputable def Bo:Obj:=kO S "_law_owners" "_law_owners" [591,592,593,595] [470,4,0,0,3,181,594,470] [(r 252),(.bool true),(r 253),.none,.none,.none,(r 254)]
noncomputable def Bp:Obj:=fF (fT q 8) (S "_law_owners") .none none (.str (S "law_mt0012_03") 583) 255
noncomputable def Bq:Obj:=oT []
noncomputable def Br:Obj:=oN []
noncomputable def Bs:Obj:=fN (fT q 9) (S "_law_read")
noncomputable def Bt:Obj:=kO S "_law_read" "_law_read" [597,598,599,601] [490,5,0,0,3,181,600,490] [(r 257),(.bool true),(r 258),.none,.none,.none,(r 259)]
noncomputable def Bu:Obj:=fF (fT q 9) (S "_law_read") .none none (.str (S "law_mt0012_03") 583) 260
noncomputable def Bv:Obj:=oT []
noncomputable def Bw:Obj:=oN []
noncomputable def By:Obj:=fN (fT q 10) (S "law")
noncomputable def Bz:Obj:=kO S "law" "law" [603,604,605,607] [512,1,0,0,3,181,606,512] [(r 262),(.bool true),(r 263),.none,.none,.none,(r 264)]
noncomputable def B0:Obj:=fF (fT q 10) (S "law") .none none (.str (S "law_mt0012_03") 583) 265
noncomputable def ol0:List Obj:=[boot_o_0 P,boot_o_1 P,boot_o_2 P,o3 S P,boot_o_4 P,boot_o_5 P,boot_o_6 P,boot_o_7 P,boot_o_8 P,boot_o_9 P,boot_o_10 P,o11,o12,o13 S,o14 S,o15,o16,o17 S,o18,o19 S q,o20 S,o21 S q,o22,o23,o24 S P,o25,o26,o27 S,o28 S,o29,o30,o31 S,o32,o33 S q,o34 S,o35 S q,o36,o37,o38,o39 S]
noncomputable def ol1:List Obj:=[o40,o41 S q,o42 S,o43 S q,o44,o45,o46 S,o47,o48 S q,o49 S,o50 S q,o51,o52,o53 S,o54,o55 S q,o56 S,o57 S q,o58 S,o59 S P,o60 S,o61 S,o62 S,o63,o64,o65,o66,o67 S P,o68,o69,o70,o71 S,o72 S,o73,o74 S,o75 P,o76,o77,o78 S,o79]
noncomputable def ol2:List Obj:=[o80 S q,o81 S,o82 S q,o83,o84,o85 S,o86,o87 S q,o88 S,o89 S q,o90 S P,o91,o92 P,o93,o94 S,o95,o96 S,o97,o98 S q,o99 S,EF S q,EG,EH,EI S,EJ,EK S q,EL S,EM S q,EN,EO,EP S,EQ,ER S q,ES S,ET S q,EU,EV,EW S,EX,EY S q]
noncomputable def ol3:List Obj:=[EZ S,Da S q,Db S,Dc S P,Dd,De S P,Df S P,Dg,Dh S P,Di S P,Dj,Dk S P,Dl,Dm,Dn S P,Dp S,Dq,Dr,Ds,Dt,Du,Dv S,Dw,Dx S q,Dy S,Dz S q,D0,D1,D2 S D P,D3,D4,D5 S,D6 S,D7 S,D8,D9,DA S,DB,DC S q,DD S]
noncomputable def ol4:List Obj:=[DE S q,DF,DG,DH S,DI,DJ S q,DK S,DL S q,DM,DN,DO S,DP,DQ S q,DR S,DS S q,DT,DU,DV S,DW,DX S q,DY S,DZ S q,Ca,Cb,Cc S,Cd,Ce S q,Cf S,Cg S q,Ch,Ci,Cj,Ck S,Cl,Cm S q,Cn S,Co S q,Cp,Cq,Cr S]
noncomputable def ol5:List Obj:=[Ct,Cu S q,Cv S,Cw S q,Cx,Cy,Cz S,C0,C1 S q,C2 S,C3 S q,C4,C5,C6,C7 S,C8,C9 S q,CA S,CB S q,CC,CD,CE S,CF,CG S q,CH S,CJ S q,CK,CL,CM S,CN,CO S q,CP S,CQ S q,CR,CS,CT S,CU,CV S q,CW S,CX S q]
noncomputable def ol6:List Obj:=[CY S,CZ S D P,Ba S,Bb S,Bc S,Be,Bf,Bg,Bh,Bi S q,Bj S,Bk S q,Bl,Bm,Bn S q,Bo S,Bp S q,Bq,Br,Bs S q,Bt S,Bu S q,Bv,Bw,By S q,Bz S,B0 S q]
noncomputable def L8:List Obj:=ol0 S q P++(ol1 S q P++(ol2 S q P++(ol3 S q D P++(ol4 S q++(ol5 S q++(ol6 S q D P))))))
end
noncomputable def Nh:List Obj->List Obj×List Obj
 | []=>([],[])
 | a::l=>(a::(Nh l).2,(Nh l).1)
noncomputable def SX:Nat->List Obj->BT
 | 0,_=>.nil
 | _+1,[]=>.nil
 | n+1,a::l=>.node a (SX n (Nh l).1) (SX n (Nh l).2)
noncomputable def RL (p:Program):Env:={ scope:=p.main.scope,locals:=mainNs,globals:=mainNs,cells:=[],code:=.ref 13,frame:=some 14 }
noncomputable def B1:Pos:=⟨512,0,549,15⟩
end
section
theorem An {S:StrT} {D:Str} {q r:Program} (hS:S=strF) (hD:D=L7) (hq:q=Pk L7 (pwP strF)) (hr:r=pwP strF) (p:Program) (b:List Stmt) (w:World) (os:OsState) :
  segRunT treeTable p w 11 (some (.ref 6)) 1 2211 ⟨GE S w.params,15,{},⟨[]⟩,{},187,os⟩ (piecesOf q.main.body (RL q) (.body b (RL q)) ⟨0,0,0,0⟩ [topFrame ⟨0,0,0,0⟩])
   = some (.next,⟨SX 10 (L8 S r D w.params),267,{},⟨[]⟩,{},609,os⟩,.body b (RL q),B1):=by
 subst hS hD hq hr
 rw[GV,PySem.W.Fast.te10110043849684766642]
 kernel_rfl
end
section
noncomputable abbrev sO:StrT:=Str.ofString
noncomputable def qv:Program:={ pw with main:={ pw.main with body:=match pw.main.body with
 | [a0,_,a2,a3,a4,a5,_,a7,a8,a9,a10]=>[a0,a2,a3,a4,a5,a7,a8,a9,a10]
 | _=>[] } }
noncomputable def looseN:List Str:=["_tuplegetter", "Match", "SequenceMatcher"]
noncomputable def GF (P:Params):Heap:=EE Str.ofString P
noncomputable def Th (P:Params):Heap:=⟨⟨L8 Str.ofString pw RK P⟩,{}⟩
noncomputable def L9:Option Value:=some (.ref 6)
noncomputable abbrev U2:Code:=.body (behindTheImports pw) (RL pw)
noncomputable def V3:Pos:=⟨0,0,0,0⟩
theorem B2 (N:Nat) (hN:Nat.ble 600 N=true):∀ w:World,(fencedOpening treeTable pw w N).map (fun s=>(s.heap,s.gens,s.drawn,s.toks))=some (boot_heap w.params,Array.mk [],boot_drawn,boot_toks) :=
 boot_open (by kernel_rfl) hN (fun s=>by kernel_rfl)
theorem B3:∀ w:World,((boot_heap w.params).isNs mainGlobals&&(Array.mk []:Array GenState).size==0,(boot_heap w.params).objs.size,(boot_heap w.params).nsMap mainGlobals "__annotations__")=(true,11,L9):=by
 intro w
 kernel_rfl
theorem Ao (w:World) (os:OsState):topGo treeTable pw w 11 L9 12 ⟨boot_heap w.params,⟨[]⟩,boot_drawn,boot_toks,os⟩ (topStub pw)
  = some (⟨GF w.params,⟨[]⟩,{},187,os⟩,⟨denote treeTable U2,U2,V3,[topFrame V3]⟩):=by
 kernel_rfl
theorem GX (w:World) (os:OsState):segRun treeTable pw w 11 L9 1 1 ⟨GF w.params,⟨[]⟩,{},187,os⟩ (blockOf (behindTheImports pw) (RL pw) U2 V3 [topFrame V3])
  = some (.next,(⟨GE Str.ofString w.params,15,{},⟨[]⟩,{},187,os⟩:SharedT).abs,U2,V3):=by
 kernel_rfl
theorem Hg:behindTheImports pw=pw.main.body++[]:=by kernel_rfl
theorem Ap (w:World) (os:OsState):topRun treeTable pw w 11 L9 2 (⟨SX 10 (L8 Str.ofString pw RK w.params),267,{},⟨[]⟩,{},609,os⟩:SharedT).abs ⟨doneF .next,U2,B1,[topFrame V3]⟩
  = some ⟨Th w.params,⟨[]⟩,{},609,os⟩:=by
 kernel_rfl
noncomputable abbrev LC:Nat:=12+(1+(2211+2))
theorem Aq (w:World) (os:OsState):topRun treeTable pw w 11 L9 LC ⟨boot_heap w.params,⟨[]⟩,boot_drawn,boot_toks,os⟩ (topStub pw)
  = some ⟨Th w.params,⟨[]⟩,{},609,os⟩:=by
 refine go_top (Ao w os) (piece_block (q:=V3) (GX w os) ?_)
 have e:restOf (behindTheImports pw) (RL pw) U2 V3 [topFrame V3]=restOf (pw.main.body++[]) (RL pw) U2 V3 [topFrame V3]:=congrArg (fun b=>restOf b (RL pw) U2 V3 [topFrame V3]) Hg
 rw[e]
 exact piece_app (q:=V3) (segRun_of (An Nf Ng GW Tg _ _ w os)) (piece_nil (Ap w os))
noncomputable abbrev fo3 (P:Params):Obj:=o3 Str.ofString P
noncomputable abbrev Ar (P:Params):Obj:=o21 Str.ofString pw
noncomputable abbrev Au (P:Params):Obj:=o35 Str.ofString pw
noncomputable abbrev Av (P:Params):Obj:=o43 Str.ofString pw
noncomputable abbrev Aw (P:Params):Obj:=o50 Str.ofString pw
noncomputable abbrev Ax (P:Params):Obj:=o57 Str.ofString pw
noncomputable abbrev Ay (P:Params):Obj:=o60 Str.ofString
noncomputable abbrev GY (P:Params):Obj:=o82 Str.ofString pw
noncomputable abbrev GZ (P:Params):Obj:=o89 Str.ofString pw
noncomputable abbrev Az (P:Params):Obj:=o91
noncomputable abbrev B4 (P:Params):Obj:=EF Str.ofString pw
noncomputable abbrev B5 (P:Params):Obj:=EM Str.ofString pw
noncomputable abbrev B6 (P:Params):Obj:=ET Str.ofString pw
noncomputable abbrev B7 (P:Params):Obj:=Da Str.ofString pw
noncomputable abbrev GG (P:Params):Obj:=Dp Str.ofString
noncomputable abbrev B8 (P:Params):Obj:=Dq
noncomputable abbrev B9 (P:Params):Obj:=Dz Str.ofString pw
noncomputable abbrev LD (P:Params):Obj:=DE Str.ofString pw
noncomputable abbrev RM (P:Params):Obj:=DL Str.ofString pw
noncomputable abbrev Ni (P:Params):Obj:=DS Str.ofString pw
noncomputable abbrev Nj (P:Params):Obj:=DZ Str.ofString pw
noncomputable abbrev Nk (P:Params):Obj:=Cg Str.ofString pw
noncomputable abbrev Nl (P:Params):Obj:=Co Str.ofString pw
noncomputable abbrev Nm (P:Params):Obj:=Cw Str.ofString pw
noncomputable abbrev Nn (P:Params):Obj:=C3 Str.ofString pw
noncomputable abbrev BA (P:Params):Obj:=CB Str.ofString pw
noncomputable abbrev BB (P:Params):Obj:=CJ Str.ofString pw
noncomputable abbrev BC (P:Params):Obj:=CQ Str.ofString pw
noncomputable abbrev BD (P:Params):Obj:=CX Str.ofString pw
noncomputable abbrev RN (P:Params):Obj:=Ba Str.ofString
noncomputable abbrev No (P:Params):Obj:=Bk Str.ofString pw
noncomputable abbrev Np (P:Params):Obj:=Bp Str.ofString pw
noncomputable abbrev Nq (P:Params):Obj:=Bu Str.ofString pw
noncomputable abbrev LE (P:Params):Obj:=B0 Str.ofString pw
noncomputable def Zp (P:Params):Frag:=[(0,boot_o_0 P),(2,boot_o_2 P),(3,fo3 P),(11,o11),(12,o12),(13,o13 sO),(14,o14 sO),(15,o15),(16,o16),(17,o17 sO),(18,o18),(19,o19 sO pw),(20,o20 sO),(21,Ar P),(22,o22),(23,o23),(24,o24 sO P),(25,o25),(26,o26),(27,o27 sO),(28,o28 sO),(29,o29),(30,o30),(31,o31 sO),(32,o32),(33,o33 sO pw),(34,o34 sO),(35,Au P),(36,o36),(37,o37),(38,o38),(39,o39 sO),(40,o40),(41,o41 sO pw),(42,o42 sO),(43,Av P),(44,o44),(45,o45),(46,o46 sO),(47,o47),(48,o48 sO pw),(49,o49 sO),(50,Aw P),(51,o51),(52,o52),(53,o53 sO),(54,o54),(55,o55 sO pw),(56,o56 sO),(57,Ax P),(58,o58 sO),(59,o59 sO P),(60,Ay P),(61,o61 sO),(62,o62 sO),(63,o63),(64,o64),(65,o65),(66,o66),(67,o67 sO P),(68,o68),(69,o69),(70,o70),(71,o71 sO),(72,o72 sO),(73,o73),(74,o74 sO),(75,o75 P),(76,o76),(77,o77),(78,o78 sO),(79,o79),(80,o80 sO pw),(81,o81 sO),(82,GY P),(83,o83),(84,o84),(85,o85 sO),(86,o86),(87,o87 sO pw),(88,o88 sO),(89,GZ P),(90,o90 sO P),(91,Az P),(92,o92 P),(93,o93),(94,o94 sO),(95,o95),(96,o96 sO),(97,o97),(98,o98 sO pw),(99,o99 sO),(100,B4 P),(101,EG),(102,EH),(103,EI sO),(104,EJ),(105,EK sO pw),(106,EL sO),(107,B5 P),(108,EN),(109,EO),(110,EP sO),(111,EQ),(112,ER sO pw),(113,ES sO),(114,B6 P),(115,EU),(116,EV),(117,EW sO),(118,EX),(119,EY sO pw),(120,EZ sO),(121,B7 P),(122,Db sO),(123,Dc sO P),(124,Dd),(125,De sO P),(126,Df sO P),(127,Dg),(128,Dh sO P),(129,Di sO P),(130,Dj),(131,Dk sO P),(132,Dl),(133,Dm),(134,Dn sO P),(135,GG P),(136,B8 P),(137,Dr),(138,Ds),(139,Dt),(140,Du),(141,Dv sO),(142,Dw),(143,Dx sO pw),(144,Dy sO),(145,B9 P),(146,D0),(147,D1),(148,D2 sO RK P),(149,D3),(150,D4),(151,D5 sO),(152,D6 sO),(153,D7 sO),(154,D8),(155,D9),(156,DA sO),(157,DB),(158,DC sO pw),(159,DD sO),(160,LD P),(161,DF),(162,DG),(163,DH sO),(164,DI),(165,DJ sO pw),(166,DK sO),(167,RM P),(168,DM),(169,DN),(170,DO sO),(171,DP),(172,DQ sO pw),(173,DR sO),(174,Ni P),(175,DT),(176,DU),(177,DV sO),(178,DW),(179,DX sO pw),(180,DY sO),(181,Nj P),(182,Ca),(183,Cb),(184,Cc sO),(185,Cd),(186,Ce sO pw),(187,Cf sO),(188,Nk P),(189,Ch),(190,Ci),(191,Cj),(192,Ck sO),(193,Cl),(194,Cm sO pw),(195,Cn sO),(196,Nl P),(197,Cp),(198,Cq),(199,Cr sO),(200,Ct),(201,Cu sO pw),(202,Cv sO),(203,Nm P),(204,Cx),(205,Cy),(206,Cz sO),(207,C0),(208,C1 sO pw),(209,C2 sO),(210,Nn P),(211,C4),(212,C5),(213,C6),(214,C7 sO),(215,C8),(216,C9 sO pw),(217,CA sO),(218,BA P),(219,CC),(220,CD),(221,CE sO),(222,CF),(223,CG sO pw),(224,CH sO),(225,BB P),(226,CK),(227,CL),(228,CM sO),(229,CN),(230,CO sO pw),(231,CP sO),(232,BC P),(233,CR),(234,CS),(235,CT sO),(236,CU),(237,CV sO pw),(238,CW sO),(239,BD P),(240,CY sO),(241,CZ sO RK P),(242,RN P),(243,Bb sO),(244,Bc sO),(245,Be),(246,Bf),(247,Bg),(248,Bh),(249,Bi sO pw),(250,Bj sO),(251,No P),(252,Bl),(253,Bm),(254,Bn sO pw),(255,Bo sO),(256,Np P),(257,Bq),(258,Br),(259,Bs sO pw),(260,Bt sO),(261,Nq P),(262,Bv),(263,Bw),(264,By sO pw),(265,Bz sO),(266,LE P)]
noncomputable def Fa:List Addr:=0::2::3::(List.range 256).map (·+11)
noncomputable def hookF:Hook:=kHook Zp Fa (fun _=>by kernel_rfl)
noncomputable abbrev xtF:Shared->Bool:=fun s=>xlAt qv [] s&&recOk [] s
theorem BE (w:World) (os:OsState):(staticsOk (importedModules pw.main.body) (boot_heap w.params) (Th w.params)&&namesBound pw (Th w.params)&&gensDone ⟨Th w.params,⟨[]⟩,{},609,os⟩&&laidKept (boot_heap w.params) (Th w.params))=true:=by
 kernel_rfl
noncomputable abbrev endS (w:World) (os:OsState):Shared:=⟨Th w.params,⟨[]⟩,{},609,os⟩
theorem BF (w:World) (os:OsState):seen ((recsOf qv).map (·.name)) (ownsOf qv) [] { endS w os with gens:=#[] }=expectedOf qv:=by kernel_rfl
theorem BG (w:World) (os:OsState):(endS w os).heap.bltView=bltViewBooted:=by kernel_rfl
theorem BH (w:World) (os:OsState):((endS w os).heap.keysOk (looseW qv looseN) ((recsOf qv).map (·.name)) ((litsOf qv).map (·.1)) ((clssOf qv (looseW qv looseN)).map (·.name))&&(endS w os).heap.accountedOkI (importedModules pw.main.body)&&(endS w os).heap.isNs mainGlobals&&(endS w os).heap.isNs builtinsNs&&tablesOk qv (endS w os).heap&&xtF (endS w os)&&(if true then (endS w os).gens.size==0 else !leftWithCleanup (endS w os).gens))=true:=by kernel_rfl
theorem BI (w:World) (os:OsState):tabsOk qv (endS w os)=true:=by kernel_rfl
theorem BJ (w:World) (os:OsState):pinSeenD qv (drecsOf qv) (endS w os)=pinGoodD (drecsOf qv):=by kernel_rfl
theorem BK (w:World) (os:OsState):plainSeenE qv (looseW qv looseN) (endS w os)=plainGoodE qv (looseW qv looseN):=by kernel_rfl
theorem BL (w:World) (os:OsState):plainSeenD qv looseN (endS w os)=plainGoodD qv looseN:=by kernel_rfl
theorem BM (w:World) (os:OsState):wideSeen qv (endS w os)=wideGood qv:=by kernel_rfl
theorem Fb (w:World) (os:OsState):clsSeenW qv looseN (endS w os)=clsGoodW qv looseN:=by kernel_rfl
theorem Fc (w:World) (os:OsState):hookF.obs (endS w os)=hookF.val w:=by kernel_rfl
theorem leftF:LeftO pw qv looseN xtF hookF.obs hookF.val 4690 true :=
 LeftO.of_pieces (B2 4690 (by decide)) B3 Aq (by decide) (fun w=>by
  funext os
  refine looks_pair (BE w os) (looks_pair ?_ (Fc w os))
  exact looks_pair (BF w os) (looks_pair (BG w os) (looks_pair (BH w os) (looks_pair (BI w os) (looks_pair (BJ w os) (looks_pair (BK w os) (looks_pair (BL w os) (looks_pair (BM w os) (Fb w os)))))))))
end
section
noncomputable abbrev PH:=Addr->Option Obj
noncomputable def PH.le (V V':PH):Prop:=∀ a o,V a=some o->V' a=some o
theorem PH.le.refl (V:PH):V.le V:=fun _ _ e=>e
theorem PH.le.trans {V V' V'':PH} (x:V.le V') (y:V'.le V''):V.le V'':=fun a o e=>y a o (x a o e)
theorem LF {a c n:Nat} (h:c-a<n+1):c≤a+n:=Nat.sub_le_iff_le_add'.mp (le_of_lt_succ h)
theorem SY {n alo ahi bi k:Nat} (h:ahi-alo<n+1) (h1:alo≤bi) (h2:¬k=0) (h3:bi+k<ahi):ahi-(bi+k)<n :=
 Nat.sub_lt_left_of_lt_add (le_of_lt h3) (lt_of_le_of_lt (LF h) (Nat.add_lt_add_right (lt_of_le_of_lt h1 (lt_add_of_pos_right (Nat.pos_of_ne_zero h2))) n))
theorem SZ {n alo ahi bi k:Nat} (h:ahi-alo<n+1) (h1:alo<bi) (h2:¬k=0) (h3:bi+k≤ahi):bi-alo<n :=
 Nat.sub_lt_left_of_lt_add (le_of_lt h1) (lt_of_lt_of_le (lt_add_of_pos_right (Nat.pos_of_ne_zero h2)) (Nat.le_trans h3 (LF h)))
theorem UR {a i:Nat} (h:a≤i):0+1≤i+1-a:=Nat.le_sub_of_add_le (by rw[zero_add,add_comm];exact add_le_add_right h 1)
theorem Nr {R a i:Nat} (h:a≤i+1) (h1:R≤i+1-a):R+1≤i+1+1-a:=Nat.le_sub_of_add_le (by rw[add_right_comm];exact succ_le_succ (Nat.add_le_of_le_sub h h1))
theorem Fd {l r:Nat} (h:¬ l≥r):l≤(l+r)/2:=(Nat.le_div_iff_mul_le (by decide)).2 (by rw[Nat.mul_two];exact add_le_add_left (le_of_lt (lt_of_not_le h)) l)
theorem Fe {l r:Nat} (h:¬ l≥r):(l+r)/2<r:=(Nat.div_lt_iff_lt_mul (by decide)).2 (by rw[Nat.mul_two];exact Nat.add_lt_add_right (lt_of_not_le h) r)
theorem A0 {f l r:Nat} (h:r-l≤f+1) (e:¬ l≥r):(l+r)/2-l≤f:=le_of_lt_succ (lt_of_lt_of_le (Nat.sub_lt_sub_right (Fd e) (Fe e)) h)
theorem A1 {f l r:Nat} (h:r-l≤f+1) (e:¬ l≥r):r-((l+r)/2+1)≤f:=Nat.le_trans (Nat.sub_le_sub_left (succ_le_succ (Fd e)) r) (Nat.pred_le_pred h)
theorem Hh {r t:Nat} (h:1≤t):r-1-(t-1)-1=r-1-t:=by rw[Nat.sub_sub (r-1) (t-1) 1,sub_add_cancel h]
theorem Nu {c r a:Nat} (hr:0<r) (h:r≤c+1-a):a≤c+1-r :=
 Nat.le_sub_of_add_le (by rw[add_comm];exact Nat.add_le_of_le_sub (le_of_lt (Nat.lt_of_sub_pos (lt_of_lt_of_le hr h))) h)
theorem Nv {c r a hi:Nat} (h:r≤c+1-a) (hc:c<hi):c+1-r+r≤hi:=by
 rw[sub_add_cancel (Nat.le_trans h (sub_le _ _))];exact hc
theorem Nw {c r t:Nat} (h:r-1≤c) (ht:t<r):c-(r-1-t)=c+1-r+t:=by
 obtain ⟨d,rfl⟩:=Nat.exists_eq_add_of_lt ht
 obtain ⟨e,rfl⟩:=exists_eq_add_of_le (show t+d≤c from h)
 rw[show t+d+1-1-t=d from add_sub_cancel_left ..,Nat.add_sub_add_right,add_sub_cancel_left,add_right_comm,add_sub_cancel,add_comm]
theorem LG {alo ahi i k:Nat} (h1:alo≤i) (hk:¬k=0) (h2:i+k≤ahi):(2*(i-alo)+1)+(2*(ahi-(i+k))+1)≤2*(ahi-alo):=by
 obtain ⟨u,rfl⟩:=exists_eq_add_of_le h1
 obtain ⟨v,rfl⟩:=exists_eq_add_of_le h2
 have e:alo+u+k+v=alo+(u+k+v):=by rw[add_assoc,add_assoc,add_assoc u]
 rw[add_sub_cancel_left,add_sub_cancel_left,e,add_sub_cancel_left,Nat.add_add_add_comm,add_right_comm u,Nat.mul_add,Nat.mul_add]
 exact add_le_add_left (mul_le_mul_left 2 (Nat.pos_of_ne_zero hk)) _
theorem Mh {q n a b c x y:Nat} (hn:n=q+(c+1)) (hx:x≤a) (hy:y≤b) (h:a+b≤c):q+x+y<n:=by
 rw[hn,add_assoc]
 exact add_lt_add_left (lt_succ_of_le (Nat.le_trans (add_le_add hx hy) h)) q
theorem LH {c:Prop} [Decidable c] {x:Nat}:(if c then x else 0)≤x:=by split<;>simp
theorem Sm {i r:Nat} (h:r≤i+1):(i:Int)-r+1=((i+1-r:Nat):Int):=by
 rw[Int.ofNat_sub h,natCast_add,Int.sub_eq_add_neg,Int.add_right_comm,<-Int.sub_eq_add_neg];rfl
theorem Sn {i:Nat} (h:0<i):(i:Int)-1=((i-1:Nat):Int):=by rw[Int.ofNat_sub h];rfl
theorem ex1 {α:Sort _} {p:α->Prop} {G:Prop} (h:∃ a,p a) (k:∀ a,p a->G):G:=h.elim k
theorem ex2 {α:Sort _} {β:α->Sort _} {p:∀ a,β a->Prop} {G:Prop} (h:∃ a b,p a b) (k:∀ a b,p a b->G):G:=h.elim fun a h=>h.elim (k a)
theorem ex3 {α:Sort _} {β:α->Sort _} {γ:∀ a,β a->Sort _} {p:∀ a b,γ a b->Prop} {G:Prop} (h:∃ a b c,p a b c) (k:∀ a b c,p a b c->G):G:=h.elim fun a h=>ex2 h (k a)
theorem ex4 {α:Sort _} {β:α->Sort _} {γ:∀ a,β a->Sort _} {δ:∀ a b,γ a b->Sort _} {p:∀ a b c,δ a b c->Prop} {G:Prop} (h:∃ a b c d,p a b c d) (k:∀ a b c d,p a b c d->G):G:=h.elim fun a h=>ex3 h (k a)
theorem ex5 {α:Sort _} {β:α->Sort _} {γ:∀ a,β a->Sort _} {δ:∀ a b,γ a b->Sort _} {ε:∀ a b c,δ a b c->Sort _} {p:∀ a b c d,ε a b c d->Prop} {G:Prop} (h:∃ a b c d e,p a b c d e) (k:∀ a b c d e,p a b c d e->G):G:=h.elim fun a h=>ex4 h (k a)
theorem BN {α:Type}:∀ {l:List α},l.length=0->l=[]
 | [],_=>rfl
theorem LI {α:Type} {n:Nat}:∀ {l:List α},l.length=n+1->∃ a r,l=a::r∧r.length=n
 | a::r,h=>⟨a,r,rfl,Nat.succ.inj h⟩
theorem RO {α:Type} {l:List α} (h:l.length=1):∃ a0,l=[a0]:=by
 obtain ⟨a,r,rfl,h'⟩:=LI h
 exact ⟨a,by rw[BN h']⟩
theorem Mi {α:Type} {l:List α} (h:l.length=2):∃ a0 a1,l=[a0,a1]:=by
 obtain ⟨a,r,rfl,h'⟩:=LI h
 obtain ⟨a1,rfl⟩:=RO h'
 exact ⟨a,a1,rfl⟩
theorem Mj {α:Type} {l:List α} (h:l.length=3):∃ a0 a1 a2,l=[a0,a1,a2]:=by
 obtain ⟨a,r,rfl,h'⟩:=LI h
 obtain ⟨a1,a2,rfl⟩:=Mi h'
 exact ⟨a,a1,a2,rfl⟩
theorem Ff {α:Type} {l:List α} (h:l.length=4):∃ a0 a1 a2 a3,l=[a0,a1,a2,a3]:=by
 obtain ⟨a,r,rfl,h'⟩:=LI h
 obtain ⟨a1,a2,a3,rfl⟩:=Mj h'
 exact ⟨a,a1,a2,a3,rfl⟩
theorem BO {α:Type} {l:List α} (h:l.length=5):∃ a0 a1 a2 a3 a4,l=[a0,a1,a2,a3,a4]:=by
 obtain ⟨a,r,rfl,h'⟩:=LI h
 obtain ⟨a1,a2,a3,a4,rfl⟩:=Ff h'
 exact ⟨a,a1,a2,a3,a4,rfl⟩
set_option genInjectivity true in
inductive AV where
 | none
 | bool (b:Bool)
 | int (i:Int)
 | str (x:Str)
 | tup (l:List AV)
 | lst (l:List AV)
 | rng (a b:Int)
 | ptr (a:Addr)
 | raw (P:PH->Value->Prop)
mutual
noncomputable def Rep (V:PH):AV->Value->Prop
 | .none,v=>v=.none
 | .bool b,v=>v=.bool b
 | .int i,v=>∃ t,v=.int i t
 | .str x,v=>∃ t,v=.str x t
 | .tup l,v=>∃ a vs n,v=.ref a∧V a=some { cls:=.type "tuple",data:=.seq vs n }∧Zn V l vs.toList
 | .lst l,v=>∃ a vs n,v=.ref a∧V a=some { cls:=.type "list",data:=.seq vs n }∧Zn V l vs.toList
 | .rng a b,v=>∃ r x y z,v=.ref r∧V r=some { cls:=.type "range",data:=.fields #[.int a x,.int b y,.int 1 z] }
 | .ptr a,v=>v=.ref a
 | .raw P,v=>∀ V',V.le V'->P V' v
noncomputable def Zn (V:PH):List AV->List Value->Prop
 | [],vs=>vs=[]
 | d::ds,vs=>∃ v vs',vs=v::vs'∧Rep V d v∧Zn V ds vs'
end
mutual
theorem Rep.mono {V V':PH} (k:V.le V'):∀ (d:AV) (v:Value),Rep V d v->Rep V' d v
 | .none,_,h=>by exact h
 | .bool _,_,h=>by exact h
 | .int _,_,h=>by exact h
 | .str _,_,h=>by exact h
 | .ptr _,_,h=>by exact h
 | .tup l,v,h=>by
  obtain ⟨a,vs,n,e,o,r⟩:=h
  exact ⟨a,vs,n,e,k _ _ o,Zn.mono k l _ r⟩
 | .lst l,v,h=>by
  obtain ⟨a,vs,n,e,o,r⟩:=h
  exact ⟨a,vs,n,e,k _ _ o,Zn.mono k l _ r⟩
 | .rng _ _,v,h=>by
  obtain ⟨r,x,y,z,e,o⟩:=h
  exact ⟨r,x,y,z,e,k _ _ o⟩
 | .raw P,v,h=>by
  exact fun V'' k'=>h V'' (k.trans k')
theorem Zn.mono {V V':PH} (k:V.le V'):∀ (l:List AV) (vs:List Value),Zn V l vs->Zn V' l vs
 | [],_,h=>by exact h
 | d::ds,vs,h=>by
  obtain ⟨v,vs',e,r,rs⟩:=h
  exact ⟨v,vs',e,Rep.mono k d v r,Zn.mono k ds vs' rs⟩
end
theorem Zn.length {V:PH}:∀ {l:List AV} {vs:List Value},Zn V l vs->vs.length=l.length
 | [],_,h=>by subst h;rfl
 | d::ds,vs,h=>by
  obtain ⟨v,vs',rfl,_,rs⟩:=h
  simp[rs.length]
theorem Zn.nil {V:PH}:Zn V [] []:=by rfl
theorem Zn.cons {V:PH} {d:AV} {ds:List AV} {v:Value} {vs:List Value} (h:Rep V d v) (hs:Zn V ds vs):Zn V (d::ds) (v::vs):=by
 exact ⟨v,vs,rfl,h,hs⟩
theorem Zn.append {V:PH}:∀ {l l':List AV} {vs vs':List Value},Zn V l vs->Zn V l' vs'->Zn V (l++l') (vs++vs')
 | [],l',_,vs',h,h'=>by subst h;simpa using h'
 | d::ds,l',vs,vs',h,h'=>by
  obtain ⟨v,vs₁,rfl,r,rs⟩:=h
  exact .cons r (Zn.append rs h')
theorem Zn.get {V:PH}:∀ {l:List AV} {vs:List Value} {i:Nat} {d:AV},Zn V l vs->l[i]?=some d->∃ v,vs[i]?=some v∧Rep V d v
 | [],_,_,_,_,e=>by simp at e
 | d::ds,vs,i,d',h,e=>by
  obtain ⟨v,vs₁,rfl,r,rs⟩:=h
  cases i with
  | zero=>simp at e;subst e;exact ⟨v,rfl,r⟩
  | succ i=>simpa using Zn.get rs (by simpa using e)
theorem Zn.take {V:PH} {l:List AV} {vs:List Value} (h:Zn V l vs) (n:Nat):Zn V (l.take n) (vs.take n):=by
 induction n generalizing l vs with
 | zero=>simpa using Zn.nil
 | succ n ih =>
  cases l with
  | nil=>subst h;simpa using Zn.nil
  | cons d ds =>
   obtain ⟨v,vs₁,rfl,r,rs⟩:=h
   exact .cons r (ih rs)
theorem Zn.drop {V:PH} {l:List AV} {vs:List Value} (h:Zn V l vs) (n:Nat):Zn V (l.drop n) (vs.drop n):=by
 induction n generalizing l vs with
 | zero=>simpa using h
 | succ n ih =>
  cases l with
  | nil=>subst h;simpa using Zn.nil
  | cons d ds =>
   obtain ⟨v,vs₁,rfl,r,rs⟩:=h
   exact ih rs
theorem Zn.reverse {V:PH}:∀ {l:List AV} {vs:List Value},Zn V l vs->Zn V l.reverse vs.reverse
 | [],_,h=>by subst h;simpa using Zn.nil
 | d::ds,vs,h=>by
  obtain ⟨v,vs₁,rfl,r,rs⟩:=h
  rw[List.reverse_cons,List.reverse_cons]
  exact rs.reverse.append (.cons r .nil)
theorem Zn.of_forall {V:PH}:∀ {l:List AV} {vs:List Value},vs.length=l.length->(∀ (i:Nat) d v,l[i]?=some d->vs[i]?=some v->Rep V d v)->Zn V l vs
 | [],vs,e,_=>by have:vs=[]:=List.length_eq_zero_iff.mp e;subst this;exact .nil
 | d::ds,[],e,_=>by cases e
 | d::ds,v::vs,e,h=>.cons (h 0 d v rfl rfl) (Zn.of_forall (by simpa using e) fun i d' v' h1 h2=>h (i+1) d' v' (by simpa using h1) (by simpa using h2))
structure Fn where
 env:Env
 G:PH
 n₀:Nat
 cs:List Addr
 base:Shared
 A:Around
noncomputable abbrev Fn.names (F:Fn):List (Str×NameKind):=F.env.scope.names
noncomputable abbrev Fn.L (F:Fn):Addr:=F.env.locals
noncomputable abbrev Om:=List (Addr×(PH->Obj->Prop))
noncomputable def Fn.D (F:Fn) (om:Om):List Addr:=F.L::(F.cs++om.map (·.1))
noncomputable def Fn.view (F:Fn) (R:PH) (om:Om) (h:Heap):PH:=fun b=>if b∈F.D om∨(R b).isSome=true then none else if b<F.n₀ then F.G b else h.get? b
structure Fn.Ok (F:Fn):Prop where
 kind:F.env.scope.kind=.function
 handled:F.A.handled=none
 depth:F.A.depth≤600
 units:F.A.units≤5000
 nodup:(F.names.map (·.1)).Nodup
 low:F.n₀≤F.L
 lows:∀ c∈F.cs,F.n₀≤c
 cell:∀ x c,F.env.cells.lookup x=some c->c∈F.cs->∀ y,F.env.cells.lookup y=some c->x=y
inductive SlotAt (F:Fn) (R:PH) (h:Heap) (m:Str->Option Value) (V:PH) (x:Str) (d:AV):NameKind->Prop
 | loc {v:Value}:m x=some v->Rep V d v->SlotAt F R h m V x d .local
 | cel {c:Addr} {o:Obj} {v:Value}:F.env.cells.lookup x=some c->h.get? c=some o->o.data=.cell (some v)->Rep V d v->(c∈F.cs∨R c=some o)->SlotAt F R h m V x d .cell
 | fre {c:Addr} {o:Obj} {v:Value}:F.env.cells.lookup x=some c->h.get? c=some o->o.data=.cell (some v)->Rep V d v->R c=some o->SlotAt F R h m V x d .free
structure Sta (F:Fn) (R:PH) (sig:List (Option AV)) (om:Om) (tau:List (Value×AV)) (s:Shared):Prop where
 same:∃ h tk,s={ F.base with heap:=h,toks:=tk }
 nodup:(F.D om).Nodup
 g:∀ b o,F.G b=some o->b<F.n₀∧b∉F.D om∧s.heap.get? b=some o∧R b=none
 rf:∀ b o,R b=some o->b∉F.D om∧s.heap.get? b=some o
 cells:∀ c∈F.cs,∃ v,s.heap.IsCell c v
 opens:∀ p∈om,∃ o,s.heap.get? p.1=some o∧∀ V',(F.view R om s.heap).le V'->p.2 V' o
 temps:∀ p∈tau,Rep (F.view R om s.heap) p.2 p.1
 slots:∃ m,s.heap.Ns F.L m∧∀ (k:Nat) x kind d,F.names[k]?=some (x,kind)->sig[k]?=some (some d)->SlotAt F R s.heap m (F.view R om s.heap) x d kind
section
variable {F:Fn} {R:PH} {sig:List (Option AV)} {om:Om} {tau:List (Value×AV)} {s:Shared}
set_option tactic.hygienic true in
theorem V4 {h:Heap} {b:Addr} {o:Obj} (hg:∀ b o,F.G b=some o->h.get? b=some o) (e:F.view R om h b=some o):h.get? b=some o∧b∉F.D om∧R b=none:=by
 unfold Fn.view at e
 split at e
 ·cases e
 ·rename_i hb
  have hR:R b=none:=by
   cases q:R b with
   | none=>rfl
   | some o=>exact absurd (.inr (by rw[q];rfl)) hb
  split at e
  ·exact ⟨hg _ _ e,fun q=>hb (.inl q),hR⟩
  ·exact ⟨e,fun q=>hb (.inl q),hR⟩
theorem Sta.vget (x:Sta F R sig om tau s) {b:Addr} {o:Obj} (e:F.view R om s.heap b=some o):s.heap.get? b=some o:=(V4 (fun b o e=>(x.g b o e).2.2.1) e).1
theorem Sta.vnot (x:Sta F R sig om tau s) {b:Addr} {o:Obj} (e:F.view R om s.heap b=some o):b∉F.D om:=(V4 (fun b o e=>(x.g b o e).2.2.1) e).2.1
theorem SlotAt.mono {R':PH} {h h':Heap} {m:Str->Option Value} {V V':PH} {y:Str} {d:AV} {kind:NameKind} (x:SlotAt F R h m V y d kind) (k:V.le V')
  (hc:∀ c o,(c∈F.cs∨R c=some o)->h.get? c=some o->h'.get? c=some o) (hr:∀ c o,R c=some o->R' c=some o):SlotAt F R' h' m V' y d kind:=by
 cases x with
 | loc e r=>exact .loc e (r.mono k)
 | cel a b c r q=>exact .cel a (hc _ _ q b) c (r.mono k) (q.imp id (hr _ _))
 | fre a b c r q=>exact .fre a (hc _ _ (.inr q) b) c (r.mono k) (hr _ _ q)
set_option tactic.hygienic true in
theorem Fn.view_grow {h h':Heap} (k:∀ b o,h.get? b=some o->h'.get? b=some o):(F.view R om h).le (F.view R om h'):=fun b o e=>by
 unfold Fn.view at e ⊢
 split at e
 ·cases e
 ·rename_i hb
  rw[if_neg hb]
  split at e
  ·rename_i hlt;rw[if_pos hlt];exact e
  ·rename_i hlt;rw[if_neg hlt];exact k _ _ e
theorem Sta.grow (x:Sta F R sig om tau s) {h':Heap} {tk:Nat} (k:∀ b o,s.heap.get? b=some o->h'.get? b=some o):Sta F R sig om tau { s with heap:=h',toks:=tk }:=by
 have kv:(F.view R om s.heap).le (F.view R om h'):=F.view_grow k
 obtain ⟨h₀,tk₀,rfl⟩:=x.same
 refine ⟨⟨h',tk,rfl⟩,x.nodup,fun b o e=>⟨(x.g b o e).1,(x.g b o e).2.1,k _ _ (x.g b o e).2.2.1,(x.g b o e).2.2.2⟩,fun b o e=>⟨(x.rf b o e).1,k _ _ (x.rf b o e).2⟩,
  fun c hc=>let ⟨v,hv⟩:=x.cells c hc;⟨v,hv.keeps k⟩,fun p hp=>?_,fun p hp=>(x.temps p hp).mono kv,?_⟩
 ·obtain ⟨o,ho,hP⟩:=x.opens p hp
  exact ⟨o,k _ _ ho,fun V' hV=>hP V' (kv.trans hV)⟩
 ·obtain ⟨m,hm,hs⟩:=x.slots
  exact ⟨m,hm.keeps k,fun k' y kind d h1 h2=>(hs k' y kind d h1 h2).mono kv (fun c o _ e=>k _ _ e) fun _ _ e=>e⟩
theorem Sta.tok (x:Sta F R sig om tau s) (tk:Nat):Sta F R sig om tau { s with toks:=tk }:=x.grow (h':=s.heap) fun _ _ e=>e
theorem Sta.temp (x:Sta F R sig om tau s) {tau':List (Value×AV)} (h:∀ p∈tau',Rep (F.view R om s.heap) p.2 p.1):Sta F R sig om tau' s :=
 ⟨x.same,x.nodup,x.g,x.rf,x.cells,x.opens,h,x.slots⟩
theorem Sta.push (x:Sta F R sig om tau s) {v:Value} {d:AV} (h:Rep (F.view R om s.heap) d v):Sta F R sig om ((v,d)::tau) s :=
 x.temp fun p hp=>by rcases List.mem_cons.mp hp with rfl | hp;exact h;exact x.temps p hp
theorem Sta.pop {p:Value×AV} (x:Sta F R sig om (p::tau) s):Sta F R sig om tau s:=x.temp fun q hq=>x.temps q (mem_cons_of_mem _ hq)
theorem Sta.top {v:Value} {d:AV} (x:Sta F R sig om ((v,d)::tau) s):Rep (F.view R om s.heap) d v:=x.temps _ mem_cons_self
theorem Sta.top2 {v:Value} {d:AV} {p:Value×AV} (x:Sta F R sig om (p::(v,d)::tau) s):Rep (F.view R om s.heap) d v:=x.temps _ (mem_cons_of_mem _ mem_cons_self)
noncomputable def PH.put (R:PH) (a:Addr) (o:Obj):PH:=fun b=>if b=a then some o else R b
theorem PH.put_ne {R:PH} {a b:Addr} {o:Obj} (h:b≠a):R.put a o b=R b:=if_neg h
theorem PH.put_self {R:PH} {a:Addr} {o:Obj}:R.put a o a=some o:=if_pos rfl
set_option tactic.hygienic true in
theorem Fn.view_put {R:PH} {h h':Heap} {a:Addr} {o:Obj} (hk:∀ b o,b≠a->h.get? b=some o->h'.get? b=some o) (ha:F.view R om h a=none):(F.view R om h).le (F.view (R.put a o) om h'):=fun b ob e=>by
 have hne:b≠a:=fun q=>by rw[q,ha] at e;cases e
 unfold Fn.view at e ⊢
 rw[PH.put_ne hne]
 split at e
 ·cases e
 ·rename_i hb
  rw[if_neg hb]
  split at e
  ·rename_i q;rw[if_pos q];exact e
  ·rename_i q;rw[if_neg q];exact hk _ _ hne e
set_option tactic.hygienic true in
theorem Fn.view_unput {R:PH} {h h':Heap} {a:Addr} {o:Obj} (hk:∀ b o,b≠a->h.get? b=some o->h'.get? b=some o):(F.view (R.put a o) om h).le (F.view R om h'):=fun b ob e=>by
 have hne:b≠a:=fun q=>by
  subst q
  unfold Fn.view at e
  rw[if_pos (.inr (by rw[PH.put_self];rfl))] at e
  cases e
 unfold Fn.view at e ⊢
 rw[PH.put_ne hne] at e
 split at e
 ·cases e
 ·rename_i hb
  rw[if_neg hb]
  split at e
  ·rename_i q;rw[if_pos q];exact e
  ·rename_i q;rw[if_neg q];exact hk _ _ hne e
set_option tactic.hygienic true in
theorem Fn.view_reput {R:PH} {h h':Heap} {a:Addr} {o o':Obj} (hk:∀ b o,b≠a->h.get? b=some o->h'.get? b=some o):(F.view (R.put a o) om h).le (F.view (R.put a o') om h'):=fun b ob e=>by
 have hne:b≠a:=fun q=>by
  subst q
  unfold Fn.view at e
  rw[if_pos (.inr (by rw[PH.put_self];rfl))] at e
  cases e
 unfold Fn.view at e ⊢
 rw[PH.put_ne hne] at e ⊢
 split at e
 ·cases e
 ·rename_i hb
  rw[if_neg hb]
  split at e
  ·rename_i q;rw[if_pos q];exact e
  ·rename_i q;rw[if_neg q];exact hk _ _ hne e
end
end
section
section
variable {prog:Program} {w:World} {F:Fn} {R:PH} {sig:List (Option AV)} {om:Om} {tau:List (Value×AV)} {s:Shared}
theorem Sta.lt (x:Sta F R sig om tau s) {a:Addr} (h:a∈F.D om):a<s.heap.objs.size:=by
 unfold Fn.D at h
 rcases List.mem_cons.mp h with rfl | h
 ·obtain ⟨m,hm,_⟩:=x.slots;exact hm.lt
 ·rcases List.mem_append.mp h with h | h
  ·obtain ⟨v,hv⟩:=x.cells _ h;exact hv.lt
  ·obtain ⟨p,hp,rfl⟩:=List.mem_map.mp h
   obtain ⟨o,ho,_⟩:=x.opens p hp
   exact Heap.lt_size ho
theorem Sta.fresh (ok:F.Ok) (x:Sta F R sig om tau s) {n:Nat} (hn:s.heap.objs.size≤n):n∉F.D om∧¬ n<F.n₀:=by
 refine ⟨fun h=>lt_irrefl _ (lt_of_lt_of_le (x.lt h) hn),fun h=>?_⟩
 have h1:F.L<s.heap.objs.size:=x.lt (a:=F.L) (by simp[Fn.D])
 exact lt_irrefl _ (lt_of_lt_of_le (lt_of_le_of_lt (Nat.le_trans (le_of_lt h) ok.low) h1) hn)
theorem Sta.freshR (x:Sta F R sig om tau s) {n:Nat} (hn:s.heap.objs.size≤n):R n=none:=by
 cases q:R n with
 | none=>rfl
 | some o=>exact absurd (lt_of_lt_of_le (Heap.lt_size (x.rf _ _ q).2) hn) (lt_irrefl _)
theorem Sta.new_view (ok:F.Ok) (x:Sta F R sig om tau s) {h':Heap} {a:Addr} {o:Obj} (ha:s.heap.objs.size≤a) (e:h'.get? a=some o):F.view R om h' a=some o:=by
 obtain ⟨h1,h2⟩:=x.fresh ok ha
 unfold Fn.view
 rw[if_neg (by rw[x.freshR ha];simpa using h1),if_neg h2]
 exact e
theorem Sta.alloc (x:Sta F R sig om tau s) (o:Obj):Sta F R sig om tau { s with heap:=s.heap.push o }:=x.grow (tk:=s.toks) fun _ _ e=>Heap.get?_push_of_some o e
noncomputable def Ev (prog:Program) (w:World) (F:Fn) (sig:List (Option AV)) (om:Om) (e:Expr) (d:AV):Prop :=
 ∀ (R:PH) (tau:List (Value×AV)) (s:Shared) (Q:Value->Shared->Prop) (E:Value->Shared->Prop),Sta F R sig om tau s ->
  (∀ v s',Sta F R sig om ((v,d)::tau) s'->Q v s')->wpAny (model prog w) F.A (eval e F.env) Q E s
noncomputable def Op2 (prog:Program) (w:World) (F:Fn) (om:Om) (t:Value->Value->Sem Value) (d₁ d₂ d:AV):Prop :=
 ∀ (R:PH) (sig:List (Option AV)) (tau:List (Value×AV)) (v₁ v₂:Value) (s:Shared) (Q:Value->Shared->Prop) (E:Value->Shared->Prop),Sta F R sig om ((v₂,d₂)::(v₁,d₁)::tau) s ->
  (∀ v s',Sta F R sig om ((v,d)::tau) s'->Q v s')->wpAny (model prog w) F.A (t v₁ v₂) Q E s
noncomputable def Op1 (prog:Program) (w:World) (F:Fn) (om:Om) (t:Value->Sem Value) (d₁ d:AV):Prop :=
 ∀ (R:PH) (sig:List (Option AV)) (tau:List (Value×AV)) (v₁:Value) (s:Shared) (Q:Value->Shared->Prop) (E:Value->Shared->Prop),Sta F R sig om ((v₁,d₁)::tau) s ->
  (∀ v s',Sta F R sig om ((v,d)::tau) s'->Q v s')->wpAny (model prog w) F.A (t v₁) Q E s
noncomputable def Tru (prog:Program) (w:World) (F:Fn) (om:Om) (d:AV) (b:Bool):Prop :=
 ∀ (R:PH) (sig:List (Option AV)) (tau:List (Value×AV)) (v₁:Value) (s:Shared) (Q:Bool->Shared->Prop) (E:Value->Shared->Prop),Sta F R sig om ((v₁,d)::tau) s ->
  (∀ s',Sta F R sig om tau s'->Q b s')->wpAny (model prog w) F.A (truthy v₁) Q E s
noncomputable def Tst (prog:Program) (w:World) (F:Fn) (sig:List (Option AV)) (om:Om) (e:Expr) (b:Bool):Prop :=
 ∀ (R:PH) (tau:List (Value×AV)) (s:Shared) (Q:Bool->Shared->Prop) (E:Value->Shared->Prop),Sta F R sig om tau s ->
  (∀ s',Sta F R sig om tau s'->Q b s')->wpAny (model prog w) F.A (isTrue e F.env (eval e F.env)) Q E s
theorem Sta.tok1 (x:Sta F R sig om tau s):Sta F R sig om tau { s with toks:=s.toks+1 }:=x.tok _
theorem Sta.tok2 (x:Sta F R sig om tau s):Sta F R sig om tau { s with toks:=s.toks+1+1 }:=x.tok _
theorem ZR {V:PH} {i:Int} {t:Tok}:Rep V (.int i) (.int i t):=by exact ⟨_,rfl⟩
theorem ZJ {V:PH} {b:Bool}:Rep V (.bool b) (.bool b):=by rfl
theorem Xj {V:PH}:Rep V .none .none:=by rfl
theorem Ra {V:PH} {x:Str} {t:Tok}:Rep V (.str x) (.str x t):=by exact ⟨_,rfl⟩
theorem Z4 {i:Int} {k:Nat} {pos:Pos}:Ev prog w F sig om (.Constant (.int i) k pos) (.int i):=fun _ _ _ _ _ x h =>
 wpAny_Constant_int (h _ _ (x.tok1.push ZR))
theorem Hi {k:Nat} {pos:Pos}:Ev prog w F sig om (.Constant .none k pos) .none:=fun _ _ _ _ _ x h =>
 wpAny_Constant_none (h _ _ (x.push Xj))
theorem Nx {b:Bool} {k:Nat} {pos:Pos}:Ev prog w F sig om (.Constant (.bool b) k pos) (.bool b):=fun _ _ _ _ _ x h =>
 wpAny_Constant_bool (h _ _ (x.push ZJ))
theorem Uk {y:Str} {k:Nat} {pos:Pos}:Ev prog w F sig om (.Constant (.str y) k pos) (.str y):=fun _ _ _ _ _ x h =>
 wpAny_Constant_str (h _ _ (x.tok1.push Ra))
noncomputable def At (F:Fn) (x:Str) (k:Nat) (kind:NameKind):Prop :=
 F.names[k]?=some (x,kind)∧F.env.kindOf x=some kind∧(x==("__debug__" : Str))=false∧(x==("__classdict__" : Str))=false
theorem Y8 {x:Str} {kind:NameKind}:∀ {l:List (Str×NameKind)} {k:Nat},(l.map (·.1)).Nodup->l[k]?=some (x,kind)->l.lookup x=some kind
 | [],_,_,e=>by simp at e
 | (y,kd)::r,0,_,e=>by
  simp only[List.getElem?_cons_zero,Option.some.injEq,Prod.mk.injEq] at e
  obtain ⟨rfl,rfl⟩:=e
  simp
 | (y,kd)::r,k+1,hn,e=>by
  simp only[List.getElem?_cons_succ] at e
  rw[map_cons,nodup_cons] at hn
  have hne:x≠y:=by
   rintro rfl
   exact hn.1 (List.mem_map.mpr ⟨(x,kind),mem_of_getElem? e,rfl⟩)
  rw[lookup_cons]
  have:(x==y)=false:=by simpa using hne
  rw[this]
  exact Y8 hn.2 e
theorem At.of (ok:F.Ok) {x:Str} {k:Nat} {kind:NameKind} (e:F.names[k]?=some (x,kind)) (hd:((x==("__debug__" : Str)) || (x==("__classdict__" : Str)))=false):At F x k kind :=
 ⟨e,Y8 ok.nodup e,(Bool.or_eq_false_iff.mp hd).1,(Bool.or_eq_false_iff.mp hd).2⟩
theorem Ny (ok:F.Ok) {x:Str} {pos:Pos} {k:Nat} {kind:NameKind} {d:AV} (a:At F x k kind) (hs:sig[k]?=some (some d)):Ev prog w F sig om (.Name x pos) d:=fun R tau s Q E st h=>by
 refine wpAny_Name ?_ a.2.2.1
 obtain ⟨m,hm,sl⟩:=st.slots
 have:=sl k x kind d a.1 hs
 have hk:=a.2.1
 cases this with
 | loc e r=>exact wpAny_loadName_local ok.kind hk hm e (h _ _ (st.push r))
 | cel hc ho hd r _=>exact wpAny_loadName_cell ok.kind hk hc ⟨_,ho,hd⟩ (h _ _ (st.push r))
 | fre hc ho hd r _=>exact wpAny_loadName_free ok.kind hk hc ⟨_,ho,hd⟩ (h _ _ (st.push r)) a.2.2.2
noncomputable def Glo (F:Fn) (x:Str) (v:Value):Prop:=∀ h:Heap,(∀ b o,F.G b=some o->h.get? b=some o) ->
 ∃ mg,h.Ns F.env.globals mg∧(mg x=some v∨(mg x=none∧∃ mb,h.Ns F.env.builtins mb∧mb x=some v))
theorem Nz (ok:F.Ok) {x:Str} {pos:Pos} {k:Nat} {v:Value} (a:At F x k .globalImplicit) (g:Glo F x v):Ev prog w F sig om (.Name x pos) (.raw fun _ u=>u=v):=fun R tau s Q E st h=>by
 refine wpAny_Name ?_ a.2.2.1
 rw[loadName_read ok.kind a.2.1]
 have e:Sta F R sig om ((v,.raw fun _ u=>u=v)::tau) s:=st.push (fun _ _=>rfl)
 obtain ⟨mg,hg,hv | ⟨hn,mb,hb,hv⟩⟩:=g s.heap fun b o e=>(st.g b o e).2.2.1
 ·exact Calls.loadGlobal_global hg hv (h _ _ e)
 ·exact Calls.loadGlobal_builtin hg hn hb hv (h _ _ e)
theorem Zj {l r:Expr} {op:Operator} {pos:Pos} {d₁ d₂ d:AV} (h₁:Ev prog w F sig om l d₁) (h₂:Ev prog w F sig om r d₂) (o:Op2 prog w F om (binaryOp op) d₁ d₂ d) :
  Ev prog w F sig om (.BinOp l op r pos) d:=fun R tau s Q E st h =>
 wpAny_BinOp (h₁ R tau s _ _ st fun _ _ st₁=>h₂ R _ _ _ _ st₁ fun _ _ st₂=>o R sig tau _ _ _ _ _ st₂ h)
theorem V5 {x:Expr} {op:UnaryOp} {pos:Pos} {d₁ d:AV} (h₁:Ev prog w F sig om x d₁) (o:Op1 prog w F om (unaryOp op) d₁ d):Ev prog w F sig om (.UnaryOp op x pos) d:=fun R tau s Q E st h =>
 wpAny_UnaryOp (h₁ R tau s _ _ st fun _ _ st₁=>o R sig tau _ _ _ _ st₁ h)
theorem Fg {l r:Expr} {op:CmpOp} {pos:Pos} {d₁ d₂ d:AV} (h₁:Ev prog w F sig om l d₁) (h₂:Ev prog w F sig om r d₂) (o:Op2 prog w F om (compareOp op) d₁ d₂ d)
  (hm:behindInMarks op r=false:=by with_unfolding_all rfl):Ev prog w F sig om (.Compare l [op] [r] pos) d:=fun R tau s Q E st h =>
 wpAny_Compare1 (h₁ R tau s _ _ st fun _ _ st₁=>h₂ R _ _ _ _ st₁ fun _ _ st₂=>o R sig tau _ _ _ _ _ st₂ h) hm
theorem Pl {t b o:Expr} {pos:Pos} {d:AV} (ht:Tst prog w F sig om t true) (h:Ev prog w F sig om b d):Ev prog w F sig om (.IfExp t b o pos) d:=fun R tau s Q E st hq =>
 wpAny_IfExp (ht R tau s _ _ st fun _ st₁=>by rw[if_pos rfl];exact h R tau _ _ _ st₁ hq)
theorem RP {t b o:Expr} {pos:Pos} {d:AV} (ht:Tst prog w F sig om t false) (h:Ev prog w F sig om o d):Ev prog w F sig om (.IfExp t b o pos) d:=fun R tau s Q E st hq =>
 wpAny_IfExp (ht R tau s _ _ st fun _ st₁=>by rw[if_neg Bool.false_ne_true];exact h R tau _ _ _ st₁ hq)
theorem N0 {t b o:Expr} {pos:Pos} {c:Bool} {d₁ d₂:AV} (ht:Tst prog w F sig om t c) (h₁:c=true->Ev prog w F sig om b d₁) (h₂:c=false->Ev prog w F sig om o d₂):Ev prog w F sig om (.IfExp t b o pos) (if c then d₁ else d₂):=by
 cases c with
 | true=>exact Pl ht (h₁ rfl)
 | false=>exact RP ht (h₂ rfl)
theorem Hj {l r:Expr} {op:CmpOp} {pos:Pos} {d₁ d₂:AV} {b:Bool} (h₁:Ev prog w F sig om l d₁) (h₂:Ev prog w F sig om r d₂) (o:Op2 prog w F om (compareOp op) d₁ d₂ (.bool b))
  (hm:behindInMarks op r=false:=by with_unfolding_all rfl):Tst prog w F sig om (.Compare l [op] [r] pos) b:=fun R tau s Q E st h =>
 wpAny_isTrue_Compare1 (h₁ R tau s _ _ st fun _ _ st₁=>h₂ R _ _ _ _ st₁ fun _ _ st₂=>o R sig tau _ _ _ _ _ st₂ fun v s' st₃=>by
  have:=st₃.top
  subst this
  exact wpAny_truthy_bool (h _ st₃.pop)) hm
theorem Rb {x:Expr} {pos:Pos} {b:Bool} (h₁:Tst prog w F sig om x b):Tst prog w F sig om (.UnaryOp .Not x pos) (!b):=fun R tau s Q E st h =>
 wpAny_isTrue_Not (h₁ R tau s _ _ st fun _ st₁=>h _ st₁)
theorem Mk {e:Expr} {d:AV} {b:Bool} (h₁:Ev prog w F sig om e d) (t:Tru prog w F om d b)
  (he:∀ whole,isTrue e F.env whole=(do let v <-whole;standAt e.pos;holding [v] (truthy v)):=by intro _;rfl):Tst prog w F sig om e b:=fun R tau s Q E st h =>
 wpAny_isTrue_value (h₁ R tau s _ _ st fun _ _ st₁=>t R sig tau _ _ _ _ st₁ h) (he _)
noncomputable def W1 (prog:Program) (w:World) (F:Fn) (sig:List (Option AV)) (om:Om) (op:BoolOp) (es:List Expr) (b:Bool):Prop :=
 ∀ (R:PH) (tau:List (Value×AV)) (s:Shared) (Q:Bool->Shared->Prop) (E:Value->Shared->Prop),Sta F R sig om tau s ->
  (∀ s',Sta F R sig om tau s'->Q b s')->wpAny (model prog w) F.A (allTrue op es F.env) Q E s
theorem US:W1 prog w F sig om .And [] true:=fun R tau s Q E st h=>wpAny_allTrue_And_nil (h _ st)
theorem all_cons {e:Expr} {es:List Expr} {a b:Bool} (h₁:Tst prog w F sig om e a) (h₂:a=true->W1 prog w F sig om .And es b):W1 prog w F sig om .And (e::es) (a&&b):=fun R tau s Q E st h =>
 wpAny_allTrue_And_cons (h₁ R tau s _ _ st fun _ st₁=>by
  cases a with
  | true=>exact h₂ rfl R tau _ _ _ st₁ h
  | false=>exact h _ st₁)
theorem Rc:W1 prog w F sig om .Or [] false:=fun R tau s Q E st h=>wpAny_allTrue_Or_nil (h _ st)
theorem any_cons {e:Expr} {es:List Expr} {a b:Bool} (h₁:Tst prog w F sig om e a) (h₂:a=false->W1 prog w F sig om .Or es b):W1 prog w F sig om .Or (e::es) (a || b):=fun R tau s Q E st h =>
 wpAny_allTrue_Or_cons (h₁ R tau s _ _ st fun _ st₁=>by
  cases a with
  | true=>exact h _ st₁
  | false=>exact h₂ rfl R tau _ _ _ st₁ h)
theorem Xk {op:BoolOp} {es:List Expr} {pos:Pos} {b:Bool} (h₁:W1 prog w F sig om op es b):Tst prog w F sig om (.BoolOp op es pos) b:=fun R tau s Q E st h =>
 wpAny_isTrue_BoolOp (h₁ R tau s _ _ st h)
theorem YN {a b:Int}:Op2 prog w F om (binaryOp .Add) (.int a) (.int b) (.int (a+b)):=fun R sig tau v₁ v₂ s Q E st h=>by
 have h1:=st.top2;have h2:=st.top
 obtain ⟨t,rfl⟩:=h1;obtain ⟨u,rfl⟩:=h2
 exact wpAny_add_int (h _ _ (st.pop.pop.tok1.push ZR))
theorem Ti {a b:Int}:Op2 prog w F om (binaryOp .Sub) (.int a) (.int b) (.int (a-b)):=fun R sig tau v₁ v₂ s Q E st h=>by
 have h1:=st.top2;have h2:=st.top
 obtain ⟨t,rfl⟩:=h1;obtain ⟨u,rfl⟩:=h2
 exact P.sub_int (h _ _ (st.pop.pop.tok1.push ZR))
theorem Vs {a b:Int} (hm:IntMulOk a b):Op2 prog w F om (binaryOp .Mult) (.int a) (.int b) (.int (a*b)):=fun R sig tau v₁ v₂ s Q E st h=>by
 have h1:=st.top2;have h2:=st.top
 obtain ⟨t,rfl⟩:=h1;obtain ⟨u,rfl⟩:=h2
 exact P.mul_int (h _ _ (st.pop.pop.tok1.push ZR)) hm
theorem UT {a b:Int} (hb:b≠0) (hs:b.natAbs<1073741824):Op2 prog w F om (binaryOp .FloorDiv) (.int a) (.int b) (.int (a.fdiv b)):=fun R sig tau v₁ v₂ s Q E st h=>by
 have h1:=st.top2;have h2:=st.top
 obtain ⟨t,rfl⟩:=h1;obtain ⟨u,rfl⟩:=h2
 exact floordiv_int hb (h _ _ (st.pop.pop.tok1.push ZR)) (.inl (PyProof.noPylong_small hs))
theorem Tj {a b:Int} (hb:b≠0):Op2 prog w F om (binaryOp .Mod) (.int a) (.int b) (.int (a.fmod b)):=fun R sig tau v₁ v₂ s Q E st h=>by
 have h1:=st.top2;have h2:=st.top
 obtain ⟨t,rfl⟩:=h1;obtain ⟨u,rfl⟩:=h2
 exact mod_int' hb (h _ _ (st.pop.pop.tok1.push ZR))
theorem Tk {a:Int}:Op1 prog w F om (unaryOp .USub) (.int a) (.int (-a)):=fun R sig tau v₁ s Q E st h=>by
 have h1:=st.top
 obtain ⟨t,rfl⟩:=h1
 exact P.neg_int (h _ _ (st.pop.tok1.push ZR))
theorem WZ {a b:Int}:Op2 prog w F om (compareOp .Eq) (.int a) (.int b) (.bool (a==b)):=fun R sig tau v₁ v₂ s Q E st h=>by
 have h1:=st.top2;have h2:=st.top
 obtain ⟨t,rfl⟩:=h1;obtain ⟨u,rfl⟩:=h2
 exact P.eq_int (h _ _ (st.pop.pop.push ZJ))
theorem Va {a b:Int}:Op2 prog w F om (compareOp .NotEq) (.int a) (.int b) (.bool (a != b)):=fun R sig tau v₁ v₂ s Q E st h=>by
 have h1:=st.top2;have h2:=st.top
 obtain ⟨t,rfl⟩:=h1;obtain ⟨u,rfl⟩:=h2
 exact P.ne_int (h _ _ (st.pop.pop.push ZJ))
theorem Vb {a b:Int}:Op2 prog w F om (compareOp .Lt) (.int a) (.int b) (.bool (decide (a<b))):=fun R sig tau v₁ v₂ s Q E st h=>by
 have h1:=st.top2;have h2:=st.top
 obtain ⟨t,rfl⟩:=h1;obtain ⟨u,rfl⟩:=h2
 exact P.lt_int (h _ _ (st.pop.pop.push ZJ))
theorem So {a b:Int}:Op2 prog w F om (compareOp .Gt) (.int a) (.int b) (.bool (decide (a>b))):=fun R sig tau v₁ v₂ s Q E st h=>by
 have h1:=st.top2;have h2:=st.top
 obtain ⟨t,rfl⟩:=h1;obtain ⟨u,rfl⟩:=h2
 exact P.gt_int (h _ _ (st.pop.pop.push ZJ))
theorem Ml {a b:Int}:Op2 prog w F om (compareOp .GtE) (.int a) (.int b) (.bool (decide (a≥b))):=fun R sig tau v₁ v₂ s Q E st h=>by
 have h1:=st.top2;have h2:=st.top
 obtain ⟨t,rfl⟩:=h1;obtain ⟨u,rfl⟩:=h2
 exact P.ge_int (h _ _ (st.pop.pop.push ZJ))
theorem Hk {a:Int}:Tru prog w F om (.int a) (a != 0):=fun R sig tau v₁ s Q E st h=>by
 have h1:=st.top
 obtain ⟨t,rfl⟩:=h1
 exact P.truthy_int (h _ st.pop)
theorem X2 {a:Bool}:Tru prog w F om (.bool a) a:=fun R sig tau v₁ s Q E st h=>by
 have h1:=st.top
 subst h1
 exact wpAny_truthy_bool (h _ st.pop)
theorem Mm {a b:Str}:Op2 prog w F om (compareOp .Eq) (.str a) (.str b) (.bool (a.cps.toList==b.cps.toList)):=fun R sig tau v₁ v₂ s Q E st h=>by
 have h1:=st.top2;have h2:=st.top
 obtain ⟨t,rfl⟩:=h1;obtain ⟨u,rfl⟩:=h2
 exact P.eq_str (h _ _ (st.pop.pop.push ZJ))
theorem Mn {a b:Str}:Op2 prog w F om (compareOp .NotEq) (.str a) (.str b) (.bool (a.cps.toList != b.cps.toList)):=fun R sig tau v₁ v₂ s Q E st h=>by
 have h1:=st.top2;have h2:=st.top
 obtain ⟨t,rfl⟩:=h1;obtain ⟨u,rfl⟩:=h2
 exact P.ne_str (h _ _ (st.pop.pop.push ZJ))
noncomputable def EvL (prog:Program) (w:World) (F:Fn) (sig:List (Option AV)) (om:Om) (es:List Expr) (ds:List AV):Prop :=
 ∀ (pos:Pos) (R:PH) (tau:List (Value×AV)) (s:Shared) (Q:List Value->Shared->Prop) (E:Value->Shared->Prop),Sta F R sig om tau s ->
  (∀ vs s',vs.length=ds.length->Sta F R sig om ((vs.zip ds).reverse++tau) s'->Q vs s')->wpAny (model prog w) F.A (spliced (backTo pos (starEach es F.env))) Q E s
theorem Zq:EvL prog w F sig om [] []:=fun pos R tau s Q E st h=>wpAny_items_nil (h _ _ rfl (by simpa using st))
theorem LJ {e:Expr} {es:List Expr} {d:AV} {ds:List AV} (h₁:Ev prog w F sig om e d) (h₂:EvL prog w F sig om es ds)
  (he:starEach (e::es) F.env=(false,eval e F.env)::starEach es F.env:=by rfl):EvL prog w F sig om (e::es) (d::ds):=fun pos R tau s Q E st h =>
 wpAny_items_cons (h₁ R tau s _ _ st fun v s₁ st₁=>h₂ pos R _ _ _ _ st₁ fun vs s₂ hl st₂=>h _ _ (by simp[hl]) (by simpa using st₂)) he
theorem Tl {V:PH}:∀ {vs:List Value} {ds:List AV},vs.length=ds.length->(∀ p∈vs.zip ds,Rep V p.2 p.1)->Zn V ds vs
 | [],[],_,_=>.nil
 | v::vs,d::ds,hl,h=>.cons (h (v,d) (by simp)) (Tl (by simpa using hl) fun p hp=>h p (by simp[hp]))
 | [],_::_,hl,_=>by cases hl
 | _::_,[],hl,_=>by cases hl
theorem Sta.zip {vs:List Value} {ds:List AV} (hl:vs.length=ds.length) (st:Sta F R sig om ((vs.zip ds).reverse++tau) s):Zn (F.view R om s.heap) ds vs∧Sta F R sig om tau s :=
 ⟨Tl hl fun p hp=>st.temps p (by simp[hp]),st.temp fun p hp=>st.temps p (by simp[hp])⟩
theorem Xl (ok:F.Ok) {es:List Expr} {k:Nat} {pos:Pos} {ds:List AV} (h₁:EvL prog w F sig om es ds) (hsz:ds.length≤sizeLine):Ev prog w F sig om (.Tuple es k pos) (.tup ds):=fun R tau s Q E st h =>
 wpAny_Tuple (h₁ pos R tau s _ _ st fun vs s₁ hl st₁=>by
  obtain ⟨r,st₂⟩:=st₁.zip hl
  refine ⟨by rw[hl];exact hsz,h _ _ ((st₂.alloc _).push ?_)⟩
  refine ⟨_,vs.toArray,0,rfl,st₂.new_view ok (le_refl _) (Heap.get?_push_size _ rfl),?_⟩
  exact r.mono (F.view_grow fun _ _ e=>Heap.get?_push_of_some _ e))
theorem V6 (ok:F.Ok) {es:List Expr} {pos:Pos} {ds:List AV} (h₁:EvL prog w F sig om es ds) (hsz:ds.length≤sizeLine):Ev prog w F sig om (.List es pos) (.lst ds):=fun R tau s Q E st h =>
 wpAny_List (h₁ pos R tau s _ _ st fun vs s₁ hl st₁=>by
  obtain ⟨r,st₂⟩:=st₁.zip hl
  refine ⟨by rw[hl];exact hsz,h _ _ ((st₂.alloc _).push ?_)⟩
  refine ⟨_,vs.toArray,0,rfl,st₂.new_view ok (le_refl _) (Heap.get?_push_size _ rfl),?_⟩
  exact r.mono (F.view_grow fun _ _ e=>Heap.get?_push_of_some _ e))
end
end
section
mutual
inductive Cmp:Nat->AV->AV->Bool->Prop
 | int {n:Nat} (a b:Int):Cmp n (.int a) (.int b) (a==b)
 | str {n:Nat} (a b:Str):Cmp n (.str a) (.str b) (a==b)
 | bool {n:Nat} (a b:Bool):Cmp n (.bool a) (.bool b) (a==b)
 | none {n:Nat}:Cmp n .none .none true
 | lst {n:Nat} {l l':List AV} {b:Bool}:CmpL n l l' b->Cmp (n+1) (.lst l) (.lst l') b
 | len {n:Nat} {l l':List AV}:l.length≠l'.length->Cmp n (.lst l) (.lst l') false
 | tup {n:Nat} {l l':List AV} {b:Bool}:CmpL n l l' b->Cmp (n+1) (.tup l) (.tup l') b
inductive CmpL:Nat->List AV->List AV->Bool->Prop
 | nil {n:Nat}:CmpL n [] [] true
 | cons {n:Nat} {d d':AV} {l l':List AV} {b c:Bool}:Cmp n d d' b->CmpL n l l' c->CmpL n (d::l) (d'::l') (b&&c)
end
theorem CmpL.length {n:Nat} {l l':List AV} {b:Bool} (h:CmpL n l l' b):l.length=l'.length:=by
 induction l generalizing l' b with
 | nil=>cases h;rfl
 | cons d l ih=>cases h with | cons _ h=>simp[ih h]
set_option tactic.hygienic true in
theorem CmpL.places {n:Nat} {l l':List AV} {b:Bool} (h:CmpL n l l' b):∃ e:Nat->Bool,(List.range l.length).all e=b∧∀ (i:Nat) d d',l[i]?=some d->l'[i]?=some d'->Cmp n d d' (e i):=by
 induction l generalizing l' b with
 | nil=>cases h;exact ⟨fun _=>true,rfl,fun i d d' h=>by simp at h⟩
 | cons d l ih =>
  cases h with
  | cons c h =>
   obtain ⟨e,he,hp⟩:=ih h
   rename_i b₁ c₁
   refine ⟨fun i=>match i with | 0=>b₁ | i+1=>e i,?_,fun i x y h1 h2=>?_⟩
   ·rw[length_cons,List.range_succ_eq_map,List.all_cons,List.all_map]
    exact congrArg (b₁&&·) he
   ·cases i with
    | zero=>simp at h1 h2;subst h1 h2;exact c
    | succ i=>exact hp i x y (by simpa using h1) (by simpa using h2)
theorem CmpL.same_of {V:PH} {n:Nat} (ih:∀ {d d':AV} {b:Bool} {v:Value},Cmp n d d' b->Rep V d v->Rep V d' v->b=true) {l:List AV}:∀ {l':List AV} {b:Bool} {vs:List Value},CmpL n l l' b->Zn V l vs->Zn V l' vs->b=true:=by
 induction l with
 | nil=>intro l' b vs h _ _;cases h;rfl
 | cons d l ih2 =>
  intro l' b vs h r r'
  cases h with
  | cons c cs =>
   obtain ⟨v,vs₁,rfl,r,rs⟩:=r
   obtain ⟨v',vs₁',e,r',rs'⟩:=r'
   cases e
   rw[ih c r r',ih2 cs rs rs'];rfl
theorem Cmp.same_step {V:PH} {n:Nat} (ih:∀ m,n=m+1->∀ {d d':AV} {b:Bool} {v:Value},Cmp m d d' b->Rep V d v->Rep V d' v->b=true) {d d':AV} {b:Bool} {v:Value} (c:Cmp n d d' b) (h:Rep V d v) (h':Rep V d' v):b=true:=by
 cases c with
 | int a b=>obtain ⟨t,rfl⟩:=h;obtain ⟨u,e⟩:=h';cases e;exact beq_self_eq_true _
 | str a b=>obtain ⟨t,rfl⟩:=h;obtain ⟨u,e⟩:=h';cases e;exact beq_self_eq_true _
 | bool a b=>subst h;cases h';exact beq_self_eq_true _
 | none=>rfl
 | lst c =>
  obtain ⟨a,vs,n,rfl,o,r⟩:=h
  obtain ⟨a',vs',n',e,o',r'⟩:=h'
  cases e
  rw[o] at o'
  cases o'
  exact CmpL.same_of (ih _ rfl) c r r'
 | len c =>
  obtain ⟨a,vs,n,rfl,o,r⟩:=h
  obtain ⟨a',vs',n',e,o',r'⟩:=h'
  cases e
  rw[o] at o'
  cases o'
  exact absurd (r.length.symm.trans r'.length) c
 | tup c =>
  obtain ⟨a,vs,n,rfl,o,r⟩:=h
  obtain ⟨a',vs',n',e,o',r'⟩:=h'
  cases e
  rw[o] at o'
  cases o'
  exact CmpL.same_of (ih _ rfl) c r r'
theorem Cmp.same {V:PH} {n:Nat}:∀ {d d':AV} {b:Bool} {v:Value},Cmp n d d' b->Rep V d v->Rep V d' v->b=true:=by
 induction n with
 | zero=>exact Cmp.same_step fun m e=>by cases e
 | succ n ih=>exact Cmp.same_step fun m e=>by cases e;exact ih
section
variable {prog:Program} {w:World} {F:Fn} {R:PH} {sig:List (Option AV)} {om:Om} {tau:List (Value×AV)} {s:Shared}
noncomputable def W2 (V:PH) (h:Heap):Prop:=∀ b o,V b=some o->h.get? b=some o
theorem Sp {V:PH} {s:Shared} {A:Around} {l l':List AV} {vs vs':Array Value} {e:Nat->Bool} (r:Zn V l vs.toList) (r':Zn V l' vs'.toList) (f:∀ j d d' x x',l[j]?=some d->l'[j]?=some d'->Rep V d x->Rep V d' x'->SeqAt.EqAt A s x x' (e j)) :
  ∀ j (h1:j<vs.size) (h2:j<vs'.size),SeqAt.EqAt A s vs[j] vs'[j] (e j):=fun j q1 q2=>by
 have h1:=r.length
 have h2:=r'.length
 rw[length_toList] at h1 h2
 have hj:=getElem?_eq_getElem (Nat.lt_of_lt_of_eq q1 h1)
 have hj':=getElem?_eq_getElem (Nat.lt_of_lt_of_eq q2 h2)
 obtain ⟨x,hx,rx⟩:=r.get hj
 obtain ⟨x',hx',rx'⟩:=r'.get hj'
 rw[getElem?_toList,Array.getElem?_eq_getElem q1] at hx
 rw[getElem?_toList,Array.getElem?_eq_getElem q2] at hx'
 cases hx
 cases hx'
 exact f j _ _ _ _ hj hj' rx rx'
theorem LK {V:PH} {s:Shared} (hv:W2 V s.heap) (n:Nat):∀ {d d':AV} {b:Bool} {v v':Value} {A:Around},A.units+n<cLine->Cmp n d d' b->Rep V d v->Rep V d' v' ->
  SeqAt.RcAt A s v v' b∧SeqAt.RcNeAt A s v v' (!b)∧SeqAt.EqAt A s v v' b:=by
 induction n using Nat.strongRecOn with
 | _ n ih =>
  intro d d' b v v' A hu c h h'
  have hu0:A.units<cLine:=lt_of_le_of_lt (Nat.le_add_right _ _) hu
  cases c with
  | int a b =>
   obtain ⟨t,rfl⟩:=h;obtain ⟨u,rfl⟩:=h'
   exact ⟨SeqAt.RcAt.int_int _ _ _ _,SeqAt.RcNeAt.int_int _ _ _ _,SeqAt.EqAt.int_int _ _ _ _⟩
  | str a b =>
   obtain ⟨t,rfl⟩:=h;obtain ⟨u,rfl⟩:=h'
   exact ⟨SeqAt.RcAt.str_str _ _ _ _,SeqAt.RcNeAt.str_str _ _ _ _,SeqAt.EqAt.str_str _ _ _ _⟩
  | bool a b =>
   subst h;subst h'
   exact ⟨SeqAt.RcAt.bool_bool _ _,SeqAt.RcNeAt.bool_bool _ _,SeqAt.EqAt.bool_bool _ _⟩
  | none =>
   subst h;subst h'
   exact ⟨SeqAt.RcAt.none_none,SeqAt.RcNeAt.none_none,SeqAt.EqAt.same _⟩
  | len hl =>
   have hs:=h
   have hs':=h'
   obtain ⟨a,vs,k,rfl,o,r⟩:=h
   obtain ⟨a',vs',k',rfl,o',r'⟩:=h'
   have h1:=r.length
   have h2:=r'.length
   rw[length_toList] at h1 h2
   have hsz:(vs.size != vs'.size)=true:=bne_iff_ne.mpr fun q=>hl (h1.symm.trans (q.trans h2))
   have L:s.heap.IsList a vs:=⟨_,hv _ _ o,rfl,k,rfl⟩
   have L':s.heap.IsList a' vs':=⟨_,hv _ _ o',rfl,k',rfl⟩
   have rc:=SeqAt.RcAt.lists_lengths (A:=A) L L' hsz hu0
   refine ⟨rc,SeqAt.RcNeAt.lists_lengths L L' hsz hu0,?_⟩
   by_cases ha:a=a'
   ·subst ha
    exact absurd ((Cmp.len (n:=0) hl).same hs hs') Bool.false_ne_true
   ·exact SeqAt.EqAt.of_refs ha rc
  | lst cl =>
   have hs:=h
   have hs':=h'
   obtain ⟨a,vs,k,rfl,o,r⟩:=h
   obtain ⟨a',vs',k',rfl,o',r'⟩:=h'
   obtain ⟨e,he,hp⟩:=cl.places
   have h1:=r.length
   have h2:=r'.length
   rw[length_toList] at h1 h2
   have hel:=Sp (A:=A.in1) (s:=s) (e:=e) r r' fun j d d' x x' q q' rx rx'=>(ih _ (lt_succ_self _) (A:=A.in1) (by have h:=hu;rw[add_comm _ 1,<-add_assoc] at h;exact h) (hp j d d' q q') rx rx').2.2
   have L:s.heap.IsList a vs:=⟨_,hv _ _ o,rfl,k,rfl⟩
   have L':s.heap.IsList a' vs':=⟨_,hv _ _ o',rfl,k',rfl⟩
   have hsz:vs.size=vs'.size:=h1.trans (cl.length.trans h2.symm)
   have rc:=SeqAt.RcAt.lists (A:=A) (e:=e) L L' hsz hu0 hel
   have rn:=SeqAt.RcNeAt.lists (A:=A) (e:=e) L L' hsz hu0 hel
   have ee:(List.range vs.size).all e=b:=by rw[h1];exact he
   rw[ee] at rc
   refine ⟨rc,by first | (rw[ee] at rn;exact rn) | exact rn,?_⟩
   by_cases ha:a=a'
   ·subst ha
    rw[(Cmp.lst cl).same hs hs'];exact SeqAt.EqAt.same _
   ·exact SeqAt.EqAt.of_refs ha rc
  | tup cl =>
   have hs:=h
   have hs':=h'
   obtain ⟨a,vs,k,rfl,o,r⟩:=h
   obtain ⟨a',vs',k',rfl,o',r'⟩:=h'
   obtain ⟨e,he,hp⟩:=cl.places
   have h1:=r.length
   have h2:=r'.length
   rw[length_toList] at h1 h2
   have hel:=Sp (A:=A.in1) (s:=s) (e:=e) r r' fun j d d' x x' q q' rx rx'=>(ih _ (lt_succ_self _) (A:=A.in1) (by have h:=hu;rw[add_comm _ 1,<-add_assoc] at h;exact h) (hp j d d' q q') rx rx').2.2
   have L:s.heap.IsTuple a vs:=⟨_,hv _ _ o,rfl,k,rfl⟩
   have L':s.heap.IsTuple a' vs':=⟨_,hv _ _ o',rfl,k',rfl⟩
   have rc:=SeqAt.RcAt.tuples (A:=A) (e:=e) L L' hu0 hel
   have rn:=SeqAt.RcNeAt.tuples (A:=A) (e:=e) L L' hu0 hel
   have hsz:vs'.size=vs.size:=h2.trans (cl.length.symm.trans h1.symm)
   have ee:((List.range (min vs.size vs'.size)).all e&&vs.size==vs'.size)=b:=by
    rw[hsz,Nat.min_self,h1,he,beq_self_eq_true,Bool.and_true]
   rw[ee] at rc rn
   refine ⟨rc,rn,?_⟩
   by_cases ha:a=a'
   ·subst ha
    rw[(Cmp.tup cl).same hs hs'];exact SeqAt.EqAt.same _
   ·exact SeqAt.EqAt.of_refs ha rc
end
end
section
section
variable {prog:Program} {w:World} {F:Fn} {R:PH} {sig:List (Option AV)} {om:Om} {tau:List (Value×AV)} {s:Shared}
theorem Sta.viewIn (x:Sta F R sig om tau s):W2 (F.view R om s.heap) s.heap:=fun _ _ e=>x.vget e
theorem Tn (ok:F.Ok) {n:Nat} (h:n≤1000):F.A.units+n<cLine:=by have:=ok.units;unfold cLine;lia
theorem BP (ok:F.Ok) {n:Nat} {d d':AV} {b:Bool} (c:Cmp n d d' b) (hn:n≤1000:=by decide):Op2 prog w F om (compareOp .Eq) d d' (.bool b):=fun R sig tau v₁ v₂ s Q E st h =>
 (LK st.viewIn n (A:=F.A) (Tn ok hn) c st.top2 st.top).1 prog w E _ (h _ _ (st.pop.pop.push ZJ))
theorem RQ (ok:F.Ok) {n:Nat} {d d':AV} {b:Bool} (c:Cmp n d d' b) (hn:n≤1000:=by decide):Op2 prog w F om (compareOp .NotEq) d d' (.bool (!b)):=fun R sig tau v₁ v₂ s Q E st h =>
 (LK st.viewIn n (A:=F.A) (Tn ok hn) c st.top2 st.top).2.1 prog w E _ (h _ _ (st.pop.pop.push ZJ))
theorem To {d:AV} {b:Bool} (hd:∀ V v,Rep V d v->(v==.none)=b):Op2 prog w F om (compareOp .Is) d .none (.bool b):=fun R sig tau v₁ v₂ s Q E st h=>by
 have h2:=st.top
 subst h2
 refine is_none ?_
 rw[hd _ _ st.top2]
 exact h _ _ (st.pop.pop.push ZJ)
theorem Xx {d:AV} {b:Bool} (hd:∀ V v,Rep V d v->(v==.none)=b):Op2 prog w F om (compareOp .IsNot) d .none (.bool (!b)):=fun R sig tau v₁ v₂ s Q E st h=>by
 have h2:=st.top
 subst h2
 refine isNot_none ?_
 rw[hd _ _ st.top2]
 exact h _ _ (st.pop.pop.push ZJ)
theorem Sta.newList (ok:F.Ok) (x:Sta F R sig om tau s) {l:List AV} {vs:Array Value} {h':Heap} {a:Addr} {n tk:Nat} (ha:s.heap.objs.size≤a) (k:∀ b o,s.heap.get? b=some o->h'.get? b=some o)
  (e:h'.get? a=some { cls:=.type "list",data:=.seq vs n }) (r:Zn (F.view R om s.heap) l vs.toList):Sta F R sig om ((.ref a,.lst l)::tau) { s with heap:=h',toks:=tk }:=by
 refine (x.grow k).push ?_
 exact ⟨a,vs,n,rfl,x.new_view ok ha e,r.mono (F.view_grow k)⟩
theorem Sta.newTup (ok:F.Ok) (x:Sta F R sig om tau s) {l:List AV} {vs:Array Value} {h':Heap} {a:Addr} {n tk:Nat} (ha:s.heap.objs.size≤a) (k:∀ b o,s.heap.get? b=some o->h'.get? b=some o)
  (e:h'.get? a=some { cls:=.type "tuple",data:=.seq vs n }) (r:Zn (F.view R om s.heap) l vs.toList):Sta F R sig om ((.ref a,.tup l)::tau) { s with heap:=h',toks:=tk }:=by
 refine (x.grow k).push ?_
 exact ⟨a,vs,n,rfl,x.new_view ok ha e,r.mono (F.view_grow k)⟩
theorem LL (ok:F.Ok) {l l':List AV} (hsz:l.length+l'.length≤sizeLine):Op2 prog w F om (binaryOp .Add) (.lst l) (.lst l') (.lst (l++l')):=fun R sig tau v₁ v₂ s Q E st h=>by
 have h1:=st.top2;have h2:=st.top
 obtain ⟨a,vs,n,rfl,o,r⟩:=h1
 obtain ⟨a',vs',n',rfl,o',r'⟩:=h2
 have e1:=r.length;have e2:=r'.length
 simp only[length_toList] at e1 e2
 refine P.add_list (st.vget o) (st.vget o') ?_ (by lia)
 exact h _ _ (st.pop.pop.newList ok (le_refl _) (fun _ _ e=>Heap.get?_push_of_some _ e) (Heap.get?_push_size _ rfl) (by rw[Array.toList_append];exact r.append r'))
theorem Zz {value slice:Expr} {pos:Pos} {d₁ d₂ d:AV} (h₁:Ev prog w F sig om value d₁) (h₂:Ev prog w F sig om slice d₂) (o:Op2 prog w F om (subscriptTail value slice) d₁ d₂ d) :
  Ev prog w F sig om (.Subscript value slice pos) d:=fun R tau s Q E st h =>
 Subscript_ (h₁ R tau s _ _ st fun _ _ st₁=>h₂ R _ _ _ _ st₁ fun _ _ st₂=>o R sig tau _ _ _ _ _ st₂ h)
noncomputable def W3 (slice:Expr):Prop:=∀ o i,subscripted slice false o i=operate [o,i] (getItem o i)
theorem Xb {value slice:Expr} {l:List AV} {k:Int} {d:AV} (hn:W3 slice) (h0:0≤k) (hk:k<2 ^ 63) (hd:l[k.toNat]?=some d):Op2 prog w F om (subscriptTail value slice) (.lst l) (.int k) d:=fun R sig tau v₁ v₂ s Q E st h=>by
 have h1:=st.top2;have h2:=st.top
 obtain ⟨a,vs,n,rfl,o,r⟩:=h1
 obtain ⟨t,rfl⟩:=h2
 obtain ⟨v,hv,rv⟩:=r.get hd
 have L:s.heap.IsList a vs:=⟨_,st.vget o,rfl,n,rfl⟩
 exact tail_any L.typeIs slot_list_getitem.lookup (wpAny_getItem_list L h0 hk (by simpa using hv) (h _ _ (st.pop.pop.push rv))) (hn _ _)
noncomputable def Xm (lo hi st:Option Int):AV:=.raw fun V v=>∃ a n vl vu vs,v=.ref a∧V a=some { cls:=.type "slice",data:=.fields #[vl,vu,vs],dict:=n }∧IsPart vl lo∧IsPart vu hi∧IsPart vs st
noncomputable def EvP (prog:Program) (w:World) (F:Fn) (sig:List (Option AV)) (om:Om) (e:Option Expr) (k:Option Int):Prop:=match e,k with
 | none,none=>True
 | some e,some k=>Ev prog w F sig om e (.int k)
 | _,_=>False
theorem EvP.run {e:Option Expr} {k:Option Int} (p:EvP prog w F sig om e k) (st:Sta F R sig om tau s) {Q:Value->Shared->Prop} {E:Value->Shared->Prop}
  (h:∀ v s',IsPart v k->Sta F R sig om tau s'->Q v s'):wpAny (model prog w) F.A (evalPart e F.env) Q E s:=by
 cases e with
 | none=>cases k with
  | none=>rw[evalPart_none];exact wpAny_pure (h _ _ .none st)
  | some k=>exact p.elim
 | some e=>cases k with
  | none=>exact p.elim
  | some k =>
   rw[evalPart_some]
   refine p R tau s _ _ st fun v s' st'=>?_
   have:=st'.top
   obtain ⟨t,rfl⟩:=this
   exact h _ _ (.int _ _) st'.pop
theorem V7 (ok:F.Ok) {lower upper step:Option Expr} {p:Pos} {lo hi st:Option Int} (h₁:EvP prog w F sig om lower lo) (h₂:EvP prog w F sig om upper hi) (h₃:EvP prog w F sig om step st) :
  Ev prog w F sig om (.Slice lower upper step p) (Xm lo hi st):=fun R tau s Q E x h =>
 wpAny_Slice (h₁.run x fun vl s₁ p₁ x₁=>h₂.run x₁ fun vu s₂ p₂ x₂=>h₃.run x₂ fun vs s₃ p₃ x₃=>by
  refine h _ _ ((x₃.alloc _).push ?_)
  simp only[Xm]
  exact fun V' kV=>⟨_,_,vl,vu,vs,rfl,kV _ _ (x₃.new_view ok (le_refl _) (Heap.get?_push_size _ rfl)),p₁,p₂,p₃⟩)
noncomputable def LM (slice:Expr):Prop:=∀ o i,∃ ops,subscripted slice false o i=operate ops (getItem o i)
theorem W4 (ok:F.Ok) {value slice:Expr} {l l':List AV} {lo hi st:Option Int} (hn:LM slice) (h0:st≠some 0) (hsz:l.length≤sizeLine)
  (hp:∀ V (vs:Array Value),Zn V l vs.toList->Zn V l' (slicePick vs lo hi st).toList):Op2 prog w F om (subscriptTail value slice) (.lst l) (Xm lo hi st) (.lst l'):=fun R sig tau v₁ v₂ s Q E x h=>by
 have h1:=x.top2;have h2:=x.top
 simp only[Xm] at h1 h2
 obtain ⟨a,vs,n,rfl,o,r⟩:=h1
 obtain ⟨b,nb,vl,vu,vst,rfl,ob,p1,p2,p3⟩:=h2 _ (PH.le.refl _)
 have L:s.heap.IsList a vs:=⟨_,x.vget o,rfl,n,rfl⟩
 have e:=r.length
 simp only[length_toList] at e
 obtain ⟨ops,ho⟩:=hn (.ref a) (.ref b)
 refine tail_any L.typeIs slot_list_getitem.lookup (wpAny_getItem_list_slice L ⟨_,x.vget ob,rfl,rfl⟩ p1 p2 p3 h0 ?_ (by lia)) ho
 exact h _ _ (x.pop.pop.newList ok (le_refl _) (fun _ _ e=>Heap.get?_push_of_some _ e) (Heap.get?_push_size _ rfl) (hp _ _ r))
theorem Mo {b:Nat} {l:List AV}:∀ V (vs:Array Value),Zn V l vs.toList->Zn V (l.take b) (slicePick vs none (some (b:Int)) none).toList:=fun V vs r=>by
 rw[slicePick_upto'];exact r.take b
theorem Mp {a:Nat} {l:List AV}:∀ V (vs:Array Value),Zn V l vs.toList->Zn V (l.drop a) (slicePick vs (some (a:Int)) none none).toList:=fun V vs r=>by
 rw[slicePick_from'];exact r.drop a
theorem Re {a b:Nat} {l:List AV}:∀ V (vs:Array Value),Zn V l vs.toList->Zn V ((l.take b).drop a) (slicePick vs (some (a:Int)) (some (b:Int)) none).toList:=fun V vs r=>by
 have e:=r.length
 simp only[length_toList] at e
 rw[slicePick_plain]
 simp only[Option.elim,clipAt_nat]
 have e':List.take (min b vs.size-min a vs.size) (List.drop (min a vs.size) vs.toList)=List.drop a (List.take b vs.toList):=by
  rw[List.drop_take]
  by_cases h1:a≤vs.size
  ·rw[min_eq_left h1]
   by_cases h2:b≤vs.size
   ·rw[min_eq_left h2]
   ·rw[Nat.min_eq_right (by lia),List.take_of_length_le (by simp),List.take_of_length_le (by simp;lia)]
  ·have ha:vs.size≤a:=by lia
   rw[show min a vs.size=vs.size from Nat.min_eq_right ha,List.drop_of_length_le (l:=vs.toList) (i:=vs.size) (by simp),List.drop_of_length_le (l:=vs.toList) (i:=a) (by simpa using ha)];simp
 rw[e']
 exact (r.take b).drop a
theorem LN {l:List AV}:∀ V (vs:Array Value),Zn V l vs.toList->Zn V l.reverse (slicePick vs none none (some (-1))).toList:=fun V vs r=>by
 rw[krv_pick];exact r.reverse
noncomputable def X9 (prog:Program) (w:World) (F:Fn) (f:Value):Prop:=∀ h:Heap,(∀ b o,F.G b=some o->h.get? b=some o)->∃ k,(k=Keeper.frame∨k=Keeper.machine∨k=Keeper.boundFrame)∧Looks (model prog w) h (keeperOf f) k
theorem Zs {id:String}:X9 prog w F (.builtin id):=fun h _=>⟨.machine,.inr (.inl rfl),Looks.of_pure rfl⟩
theorem Zx {T:String}:X9 prog w F (.type T):=fun h _=>⟨.machine,.inr (.inl rfl),Looks.of_pure rfl⟩
noncomputable def OpC (prog:Program) (w:World) (F:Fn) (om:Om) (f:Value) (ds:List AV) (d:AV):Prop :=
 ∀ (R:PH) (sig:List (Option AV)) (tau:List (Value×AV)) (vs:List Value) (s:Shared) (Q:Value->Shared->Prop) (E:Value->Shared->Prop),vs.length=ds.length->Sta F R sig om ((vs.zip ds).reverse++tau) s ->
  (∀ v s',Sta F R sig om ((v,d)::tau) s'->Q v s')->wpAny (model prog w) F.A (call f vs) Q E s
theorem Wq {f:Value} {ts:List (Bool×Sem Value)} {Q:Args->Shared->Prop} {E:Value->Shared->Prop} (hp:ts.any (·.1)=false) (h:wpAny (model prog w) F.A (spliced ts) (fun vs s₁=>Q ⟨vs,[]⟩ s₁) E s) :
  wpAny (model prog w) F.A (evalArgs f true ts []) Q E s:=by
 cases ts with
 | nil =>
  unfold evalArgs
  show wpAny _ _ (spliced [] >>= _) Q E s
  refine wpAny_bind (wpAny_mono h (fun vs s' h'=>?_) fun _ _ x=>x)
  refine wpAny_bind (wpAny_pure (wpAny_holding ?_))
  exact wpAny_bind (wpAny_pure (wpAny_bind (wpAny_pure (wpAny_pure h'))))
 | cons t r =>
  obtain ⟨b,x⟩:=t
  cases b with
  | true=>simp at hp
  | false=>exact Calls.evalArgs_plain h
theorem Hl {func:Expr} {args:List Expr} {pos:Pos} {f:Value} {ds:List AV} {d:AV} (h₁:Ev prog w F sig om func (.raw fun _ u=>u=f)) (c:X9 prog w F f) (h₂:EvL prog w F sig om args ds) (o:OpC prog w F om f ds d)
  (hc:eval (.Call func args [] pos) F.env=(do callWith pos (<-eval func F.env) [] (backTo pos (starEach args F.env)) (backToKw pos (keywordEach [] F.env))):=by rfl)
  (hp:(backTo pos (starEach args F.env)).any (·.1)=false:=by rfl) :
  Ev prog w F sig om (.Call func args [] pos) d:=fun R tau s Q E st h=>by
 rw[hc]
 refine wpAny_bind (h₁ R tau s _ _ st fun v s₁ st₁=>?_)
 have:=st₁.top
 obtain rfl:=this _ (PH.le.refl _)
 refine callWith_of (P:=fun h=>∀ b o,F.G b=some o->h.get? b=some o) (by show ((backTo pos (starEach args F.env)).any (·.1) || false)=false;rw[hp];rfl) c (Wq hp (h₂ pos R tau s₁ _ _ st₁.pop fun vs s₂ hv st₂=>?_))
 exact ⟨fun b o e=>(st₂.g b o e).2.2.1,o R sig tau vs s₂ _ _ hv st₂ h⟩
theorem Tp {vs:List Value} {d₁ d₂:AV} (h:vs.length=[d₁,d₂].length) (st:Sta F R sig om ((vs.zip [d₁,d₂]).reverse++tau) s):∃ v₁ v₂,vs=[v₁,v₂]∧Sta F R sig om ((v₂,d₂)::(v₁,d₁)::tau) s:=by
 obtain ⟨v₁,v₂,rfl⟩:=Mi h
 exact ⟨v₁,v₂,rfl,st⟩
theorem Wk {vs:List Value} {d₁:AV} (h:vs.length=[d₁].length) (st:Sta F R sig om ((vs.zip [d₁]).reverse++tau) s):∃ v₁,vs=[v₁]∧Sta F R sig om ((v₁,d₁)::tau) s:=by
 obtain ⟨v₁,rfl⟩:=RO h
 exact ⟨v₁,rfl,st⟩
theorem Tq {l:List AV} (hl:l.length<2 ^ 62):OpC prog w F om (.builtin "len") [.lst l] (.int l.length):=fun R sig tau vs s Q E hv st h=>by
 obtain ⟨v,rfl,st⟩:=Wk hv st
 have h1:=st.top
 obtain ⟨a,vs,n,rfl,o,r⟩:=h1
 have e:=r.length
 simp only[length_toList] at e
 refine Calls.call_len_list (items:=vs) ⟨_,st.vget o,rfl,n,rfl⟩ (by lia) ?_
 rw[e]
 exact h _ _ (st.pop.tok2.push ZR)
theorem GH {a b:Int} (ok:F.Ok):OpC prog w F om (.builtin "max") [.int a,.int b] (.int (max a b)):=fun R sig tau vs s Q E hv st h=>by
 obtain ⟨v₁,v₂,rfl,st⟩:=Tp hv st
 have h1:=st.top2;have h2:=st.top
 obtain ⟨t,rfl⟩:=h1;obtain ⟨u,rfl⟩:=h2
 refine max_two_ints ok.handled fun h' tk hk=>?_
 have:=(st.pop.pop.grow (tk:=tk) hk)
 split
 ·rw[Int.max_eq_right (by lia)] at h;exact h _ _ (this.push ZR)
 ·rw[Int.max_eq_left (by lia)] at h;exact h _ _ (this.push ZR)
theorem N1 {a b:Int} (ok:F.Ok):OpC prog w F om (.builtin "min") [.int a,.int b] (.int (min a b)):=fun R sig tau vs s Q E hv st h=>by
 obtain ⟨v₁,v₂,rfl,st⟩:=Tp hv st
 have h1:=st.top2;have h2:=st.top
 obtain ⟨t,rfl⟩:=h1;obtain ⟨u,rfl⟩:=h2
 refine min_two_ints ok.handled fun h' tk hk=>?_
 have:=(st.pop.pop.grow (tk:=tk) hk)
 split
 ·rw[Int.min_eq_right (by lia)] at h;exact h _ _ (this.push ZR)
 ·rw[Int.min_eq_left (by lia)] at h;exact h _ _ (this.push ZR)
theorem YC {n:Int} (ok:F.Ok):OpC prog w F om (.type "range") [.int n] (.rng 0 n):=fun R sig tau vs s Q E hv st h=>by
 obtain ⟨v,rfl,st⟩:=Wk hv st
 have h1:=st.top
 obtain ⟨t,rfl⟩:=h1
 refine call_range_1 (h _ _ ((st.pop.grow (fun _ _ e=>Heap.get?_push_of_some _ e)).push ?_))
 exact ⟨_,_,_,_,rfl,st.new_view ok (le_refl _) (Heap.get?_push_size _ rfl)⟩
theorem RS {a b:Int} (ok:F.Ok):OpC prog w F om (.type "range") [.int a,.int b] (.rng a b):=fun R sig tau vs s Q E hv st h=>by
 obtain ⟨v₁,v₂,rfl,st⟩:=Tp hv st
 have h1:=st.top2;have h2:=st.top
 obtain ⟨t,rfl⟩:=h1;obtain ⟨u,rfl⟩:=h2
 refine call_range_2 (h _ _ ((st.pop.pop.grow (fun _ _ e=>Heap.get?_push_of_some _ e)).push ?_))
 exact ⟨_,_,_,_,rfl,st.new_view ok (le_refl _) (Heap.get?_push_size _ rfl)⟩
end
end
section
inductive Out where
 | nxt (sig:List (Option AV)) (om:Om)
 | brk (sig:List (Option AV)) (om:Om)
 | cnt (sig:List (Option AV)) (om:Om)
 | ret (d:AV) (sig:List (Option AV)) (om:Om)
noncomputable def Sq (F:Fn) (R:PH) (tau:List (Value×AV)):Out->Flow->Shared->Prop
 | .nxt sig om,.next,s=>Sta F R sig om tau s
 | .brk sig om,.brk,s=>Sta F R sig om tau s
 | .cnt sig om,.cont,s=>Sta F R sig om tau s
 | .ret d sig om,.ret v,s=>Sta F R sig om ((v,d)::tau) s
 | _,_,_=>False
section
variable {prog:Program} {w:World} {F:Fn} {R:PH} {sig sig':List (Option AV)} {om om':Om} {tau:List (Value×AV)} {s:Shared}
noncomputable def Ex1 (prog:Program) (w:World) (F:Fn) (sig:List (Option AV)) (om:Om) (st:Stmt) (P:Out->Prop):Prop :=
 ∀ (R:PH) (tau:List (Value×AV)) (s:Shared) (Q:Flow->Shared->Prop) (E:Value->Shared->Prop),Sta F R sig om tau s ->
  (∀ o f s',P o->Sq F R tau o f s'->Q f s')->wpAny (model prog w) F.A (exec st F.env) Q E s
noncomputable def Ex (prog:Program) (w:World) (F:Fn) (sig:List (Option AV)) (om:Om) (sts:List Stmt) (P:Out->Prop):Prop :=
 ∀ (R:PH) (tau:List (Value×AV)) (s:Shared) (Q:Flow->Shared->Prop) (E:Value->Shared->Prop),Sta F R sig om tau s ->
  (∀ o f s',P o->Sq F R tau o f s'->Q f s')->wpAny (model prog w) F.A (execs sts F.env) Q E s
theorem Zk {P:Out->Prop} (h:P (.nxt sig om)):Ex prog w F sig om [] P:=fun R tau s Q E st hq=>wpAny_execs_nil (hq _ _ _ h st)
theorem Zw {st:Stmt} {rest:List Stmt} {P₁ P:Out->Prop} (h₁:Ex1 prog w F sig om st P₁)
  (h₂:∀ o,P₁ o->match o with | .nxt sig' om'=>Ex prog w F sig' om' rest P | o=>P o):Ex prog w F sig om (st::rest) P:=fun R tau s Q E x hq =>
 wpAny_execs_cons (h₁ R tau s _ _ x fun o f s' ho hl=>by
  have:=h₂ o ho
  cases o<;>cases f<;>first
   | exact False.elim hl
   | exact this R tau s' _ _ hl hq
   | exact hq _ _ _ this hl)
theorem Z1 {st:Stmt} {rest:List Stmt} {P:Out->Prop} (h₁:Ex1 prog w F sig om st (·=.nxt sig' om')) (h₂:Ex prog w F sig' om' rest P):Ex prog w F sig om (st::rest) P :=
 Zw h₁ fun o ho=>by subst ho;exact h₂
theorem N2 {st:List Stmt} {P P':Out->Prop} (h:Ex prog w F sig om st P) (k:∀ o,P o->P' o):Ex prog w F sig om st P':=fun R tau s Q E x hq=>h R tau s Q E x fun o f s' ho=>hq o f s' (k o ho)
theorem Mq {e:Expr} {pos:Pos} {d:AV} {P:Out->Prop} (h:Ev prog w F sig om e d) (hp:P (.ret d sig om)):Ex1 prog w F sig om (.Return (some e) pos) P:=fun R tau s Q E x hq =>
 wpAny_Return_some (h R tau s _ _ x fun v s' x'=>hq _ _ _ hp x')
theorem WI {pos:Pos} {P:Out->Prop} (hp:P (.ret .none sig om)):Ex1 prog w F sig om (.Return none pos) P:=fun R tau s Q E x hq =>
 wpAny_Return_none (hq _ _ _ hp (x.push Xj))
theorem LP {pos:Pos} {P:Out->Prop} (hp:P (.brk sig om)):Ex1 prog w F sig om (.Break pos) P:=fun R tau s Q E x hq=>wpAny_Break (hq _ _ _ hp x)
theorem RT {pos:Pos} {P:Out->Prop} (hp:P (.cnt sig om)):Ex1 prog w F sig om (.Continue pos) P:=fun R tau s Q E x hq=>wpAny_Continue (hq _ _ _ hp x)
theorem Fh {x:Str} {k:Nat} {p pos:Pos} {P:Out->Prop} (hp:P (.nxt sig om)) (hi:interactive F.env=false:=by rfl):Ex1 prog w F sig om (.Expr (.Constant (.str x) k p) pos) P:=fun R tau s Q E st hq =>
 wpAny_Expr (Uk R tau s _ _ st fun v s' st'=>by
  have:=st'.top
  obtain ⟨t,rfl⟩:=this
  exact hq _ _ _ hp st'.pop) hi rfl
theorem V8 {t:Expr} {body orelse:List Stmt} {pos:Pos} {b:Bool} {P:Out->Prop} (ht:Tst prog w F sig om t b) (h₁:b=true->Ex prog w F sig om body P) (h₂:b=false->Ex prog w F sig om orelse P) :
  Ex1 prog w F sig om (.If t body orelse pos) P:=fun R tau s Q E x hq =>
 wpAny_If (ht R tau s _ _ x fun s' x'=>by
  cases b with
  | true=>exact h₁ rfl R tau s' _ _ x' hq
  | false=>exact h₂ rfl R tau s' _ _ x' hq)
theorem Fn.D_nodup_L (h:(F.D om).Nodup):F.L∉F.cs∧F.L∉om.map (·.1):=by
 unfold Fn.D at h
 rw[nodup_cons,mem_append,not_or] at h
 exact h.1
set_option tactic.hygienic true in
theorem Ym {a:Addr} {h h':Heap} (ha:a∈F.D om) (hs:Heap.SameBut a h h'):(F.view R om h).le (F.view R om h'):=fun b o e=>by
 unfold Fn.view at e ⊢
 split at e
 ·cases e
 ·rename_i hb
  rw[if_neg hb]
  split at e
  ·rename_i q;rw[if_pos q];exact e
  ·rename_i q;rw[if_neg q];exact hs.extBut b o (fun e'=>hb (.inl (e'▸ha))) e
theorem N5 (ok:F.Ok) {k k':Nat} {x y:Str} {kd kd':NameKind} (h:F.names[k]?=some (x,kd)) (h':F.names[k']?=some (y,kd')) (hne:k'≠k):y≠x:=by
 rintro rfl
 have hn:=ok.nodup
 rw[List.nodup_iff_pairwise_ne,List.pairwise_iff_getElem] at hn
 obtain ⟨h1,e1⟩:=List.getElem?_eq_some_iff.mp h
 obtain ⟨h2,e2⟩:=List.getElem?_eq_some_iff.mp h'
 rcases Nat.lt_or_gt_of_ne hne with q | q
 ·exact hn k' k (by simpa using h2) (by simpa using h1) q (by rw[getElem_map,getElem_map,e1,e2])
 ·exact hn k k' (by simpa using h1) (by simpa using h2) q (by rw[getElem_map,getElem_map,e1,e2])
theorem Sta.but (x:Sta F R sig om tau s) {a:Addr} {h':Heap} (ha:a∈F.D om) (hs:Heap.SameBut a s.heap h') :
  (∀ b o,F.G b=some o->b<F.n₀∧b∉F.D om∧h'.get? b=some o∧R b=none)∧(∀ b o,R b=some o->b∉F.D om∧h'.get? b=some o)∧(∀ p∈tau,Rep (F.view R om h') p.2 p.1) :=
 ⟨fun b o e=>⟨(x.g b o e).1,(x.g b o e).2.1,hs.extBut b o (fun q=>(x.g b o e).2.1 (q▸ha)) (x.g b o e).2.2.1,(x.g b o e).2.2.2⟩,fun b o e=>⟨(x.rf b o e).1,hs.extBut b o (fun q=>(x.rf b o e).1 (q▸ha)) (x.rf b o e).2⟩,
  fun p hp=>(x.temps p hp).mono (Ym ha hs)⟩
theorem Sta.storeLocal (ok:F.Ok) (x:Sta F R sig om tau s) {k:Nat} {y:Str} {v:Value} {d:AV} {m:Str->Option Value} {h':Heap} {tk:Nat} (hk:F.names[k]?=some (y,.local)) (r:Rep (F.view R om s.heap) d v)
  (hm:s.heap.Ns F.L m) (hm':h'.Ns F.L fun z=>if z=y then some v else m z) (hs:Heap.SameBut F.L s.heap h'):Sta F R (sig.set k (some d)) om tau { s with heap:=h',toks:=tk }:=by
 have ha:F.L∈F.D om:=by simp[Fn.D]
 obtain ⟨b1,b2,b3⟩:=x.but ha hs
 obtain ⟨h₀,tk₀,rfl⟩:=x.same
 have kv:=Ym (F:=F) (R:=R) (om:=om) ha hs
 obtain ⟨n1,n2⟩:=Fn.D_nodup_L x.nodup
 refine ⟨⟨h',tk,rfl⟩,x.nodup,b1,b2,fun c hc=>?_,fun p hp=>?_,b3,?_⟩
 ·obtain ⟨u,hu⟩:=x.cells c hc
  exact ⟨u,hu.sameBut hs fun e=>n1 (e▸hc)⟩
 ·obtain ⟨o,ho,hP⟩:=x.opens p hp
  exact ⟨o,hs.extBut _ _ (fun e=>n2 (e▸mem_map_of_mem hp)) ho,fun V' hV=>hP V' (kv.trans hV)⟩
 ·obtain ⟨m₀,hm₀,sl⟩:=x.slots
  refine ⟨_,hm',fun k' z kind d' h1 h2=>?_⟩
  by_cases hkk:k'=k
  ·subst hkk
   rw[hk] at h1
   obtain ⟨rfl,rfl⟩:=Prod.mk.inj (Option.some.inj h1)
   obtain ⟨hlt,e⟩:=List.getElem?_eq_some_iff.mp h2
   have hlt':k'<sig.length:=by simpa using hlt
   have:d'=d:=by
    rw[List.getElem_set_self] at e;exact (Option.some.inj e).symm
   subst this
   exact .loc (by simp) (r.mono kv)
  ·rw[List.getElem?_set_ne (Ne.symm hkk)] at h2
   have hz:=N5 ok hk h1 hkk
   have em:∀ z,m₀ z=m z:=fun z=>by
    obtain ⟨o,es,ep,e1,e2,_,e4⟩:=hm₀
    obtain ⟨o',es',ep',f1,f2,_,f4⟩:=hm
    rw[e1] at f1;cases f1
    rw[e2] at f2;cases f2
    rw[<-e4,<-f4]
   cases sl k' z kind d' h1 h2 with
   | loc e r=>exact .loc (by simp only[if_neg hz];rw[<-em];exact e) (r.mono kv)
   | cel a b c r q =>
    refine .cel a (hs.extBut _ _ ?_ b) c (r.mono kv) q
    rintro rfl
    rcases q with q | q
    ·exact n1 q
    ·exact (x.rf _ _ q).1 ha
   | fre a b c r q=>exact .fre a (hs.extBut _ _ (fun e=>(x.rf _ _ q).1 (e▸ha)) b) c (r.mono kv) q
theorem Sta.storeCell (ok:F.Ok) (x:Sta F R sig om tau s) {k:Nat} {y:Str} {c:Addr} {v:Value} {d:AV} {h':Heap} {tk:Nat} (hk:F.names[k]?=some (y,.cell)) (r:Rep (F.view R om s.heap) d v)
  (hc:F.env.cells.lookup y=some c) (hcs:c∈F.cs) (hv:h'.IsCell c (some v)) (hs:Heap.SameBut c s.heap h'):Sta F R (sig.set k (some d)) om tau { s with heap:=h',toks:=tk }:=by
 have ha:c∈F.D om:=by simp[Fn.D,hcs]
 obtain ⟨b1,b2,b3⟩:=x.but ha hs
 obtain ⟨h₀,tk₀,rfl⟩:=x.same
 have kv:=Ym (F:=F) (R:=R) (om:=om) ha hs
 obtain ⟨n1,n2⟩:=Fn.D_nodup_L x.nodup
 have nd:=x.nodup
 unfold Fn.D at nd
 rw[nodup_cons] at nd
 have n3:∀ p∈om,p.1≠c:=fun p hp e=>by
  have:=(List.nodup_append.mp nd.2).2.2 c hcs p.1 (mem_map_of_mem hp)
  exact this e.symm
 refine ⟨⟨h',tk,rfl⟩,x.nodup,b1,b2,fun c' hc'=>?_,fun p hp=>?_,b3,?_⟩
 ·by_cases e:c'=c
  ·subst e;exact ⟨_,hv⟩
  ·obtain ⟨u,hu⟩:=x.cells c' hc'
   exact ⟨u,hu.sameBut hs e⟩
 ·obtain ⟨o,ho,hP⟩:=x.opens p hp
  exact ⟨o,hs.extBut _ _ (n3 p hp) ho,fun V' hV=>hP V' (kv.trans hV)⟩
 ·obtain ⟨m₀,hm₀,sl⟩:=x.slots
  refine ⟨m₀,hm₀.sameBut hs (fun e=>n1 (e▸hcs)),fun k' z kind d' h1 h2=>?_⟩
  by_cases hkk:k'=k
  ·subst hkk
   rw[hk] at h1
   obtain ⟨rfl,rfl⟩:=Prod.mk.inj (Option.some.inj h1)
   obtain ⟨hlt,e⟩:=List.getElem?_eq_some_iff.mp h2
   have:d'=d:=by
    rw[List.getElem_set_self] at e;exact (Option.some.inj e).symm
   subst this
   obtain ⟨o,ho,hd⟩:=hv
   exact .cel hc ho hd (r.mono kv) (.inl hcs)
  ·rw[List.getElem?_set_ne (Ne.symm hkk)] at h2
   have hz:=N5 ok hk h1 hkk
   cases sl k' z kind d' h1 h2 with
   | loc e r=>exact .loc e (r.mono kv)
   | cel a b e r q =>
    refine .cel a (hs.extBut _ _ ?_ b) e (r.mono kv) q
    rintro rfl
    exact hz (ok.cell _ _ hc hcs _ a).symm
   | fre a b e r q=>exact .fre a (hs.extBut _ _ (fun e=>(x.rf _ _ q).1 (e▸ha)) b) e (r.mono kv) q
noncomputable def Xc (F:Fn) (x:Str) (k:Nat):Prop:=At F x k .local∨(At F x k .cell∧∃ c,F.env.cells.lookup x=some c∧c∈F.cs)
theorem Xu (ok:F.Ok) {x:Str} {k:Nat} {v:Value} {d:AV} (a:Xc F x k) (st:Sta F R sig om tau s) (r:Rep (F.view R om s.heap) d v) {Q:Unit->Shared->Prop} {E:Value->Shared->Prop}
  (h:∀ s',Sta F R (sig.set k (some d)) om tau s'->Q () s'):wpAny (model prog w) F.A (storeName F.env x v) Q E s:=by
 rcases a with a | ⟨a,c,hc,hcs⟩
 ·obtain ⟨m,hm,_⟩:=st.slots
  exact wpAny_storeName_local a.2.1 hm (fun h' hm' hs=>h _ (st.storeLocal ok a.1 r hm hm' hs)) (by rw[ok.kind];rfl)
 ·obtain ⟨u,hu⟩:=st.cells c hcs
  refine wpAny_storeName_cell ok.kind a.2.1 hc hu fun h' hv hs=>h _ ?_
  exact st.storeCell (tk:=s.toks) ok a.1 r hc hcs hv hs
noncomputable def As (prog:Program) (w:World) (F:Fn) (om:Om) (target:Expr) (d:AV) (sig sig':List (Option AV)):Prop :=
 ∀ (R:PH) (tau:List (Value×AV)) (v:Value) (s:Shared) (Q:Unit->Shared->Prop) (E:Value->Shared->Prop),Sta F R sig om ((v,d)::tau) s ->
  (∀ s',Sta F R sig' om ((v,d)::tau) s'->Q () s')->wpAny (model prog w) F.A (assign target F.env v) Q E s
theorem Zf (ok:F.Ok) {x:Str} {pos:Pos} {k:Nat} {d:AV} (a:Xc F x k):As prog w F om (.Name x pos) d sig (sig.set k (some d)):=fun R tau v s Q E st h =>
 wpAny_assign_Name (Xu ok a st st.top h)
noncomputable def AsL (prog:Program) (w:World) (F:Fn) (om:Om) (ts:List Expr) (ds:List AV) (sig sig':List (Option AV)):Prop :=
 ∀ (R:PH) (tau:List (Value×AV)) (vs:List Value) (s:Shared) (Q:Unit->Shared->Prop) (E:Value->Shared->Prop),vs.length=ds.length->Sta F R sig om ((vs.zip ds)++tau) s ->
  (∀ s',Sta F R sig' om tau s'->Q () s')->wpAny (model prog w) F.A (assignInOrder ((assignEach ts F.env).map (·.2)) vs) Q E s
theorem Xn:AsL prog w F om [] [] sig sig:=fun R tau vs s Q E hl st h=>by
 have:vs=[]:=List.length_eq_zero_iff.mp hl
 subst this
 exact assignInOrder_nil (h _ st)
theorem Zl {sig₁:List (Option AV)} {t:Expr} {ts:List Expr} {d:AV} {ds:List AV} (h₁:As prog w F om t d sig sig₁) (h₂:AsL prog w F om ts ds sig₁ sig')
  (he:assignEach (t::ts) F.env=(false,assign t F.env)::assignEach ts F.env:=by rfl):AsL prog w F om (t::ts) (d::ds) sig sig':=fun R tau vs s Q E hl st h=>by
 cases vs with
 | nil=>cases hl
 | cons v vs =>
  rw[he]
  refine assignInOrder_cons (h₁ R ((vs.zip ds)++tau) v s _ _ (by simpa using st) fun s' st'=>h₂ R tau vs s' _ _ (by simpa using hl) st'.pop h)
theorem Sta.ext (x:Sta F R sig om tau s) {h':Heap} {tk:Nat} (he:Heap.ExtBut s.heap.objs.size s.heap h'):Sta F R sig om tau { s with heap:=h',toks:=tk } :=
 x.grow fun b o e=>he b o (fun q=>lt_irrefl _ (q▸Heap.lt_size e)) e
theorem Tr (ok:F.Ok) {v:Value} {ds:List AV} {n:Nat} (hn:n=ds.length) (st:Sta F R sig om ((v,.tup ds)::tau) s) {Q:List Value->Shared->Prop} {E:Value->Shared->Prop}
  (h:∀ vs s',vs.length=ds.length->Sta F R sig om ((vs.zip ds)++(v,.tup ds)::tau) s'->Q vs s'):wpAny (model prog w) F.A (unpackItems v n none) Q E s:=by
 have h1:=st.top
 obtain ⟨a,vs,k,rfl,o,r⟩:=h1
 have e:=r.length
 simp only[length_toList] at e
 rw[hn,<-e]
 refine wpAny_unpackItems_tuple ok.handled ⟨_,st.vget o,rfl,k,rfl⟩ fun h' he=>?_
 have st':=st.ext (tk:=s.toks) he
 refine h _ _ (by simpa using e) (st'.temp fun p hp=>?_)
 rcases List.mem_append.mp hp with hp | hp
 ·have r':=r.mono (F.view_grow (R:=R) (om:=om) fun b o e=>he b o (fun q=>lt_irrefl _ (q▸Heap.lt_size e)) e)
  obtain ⟨i,hi,e'⟩:=getElem_of_mem hp
  rw[getElem_zip] at e'
  subst e'
  obtain ⟨u,hu,ru⟩:=r'.get (i:=i) (d:=ds[i]'(by simp at hi;lia)) (by simp)
  have:u=vs.toList[i]'(by simp at hi ⊢;lia):=by
   rw[getElem?_eq_getElem (by simp at hi ⊢;lia)] at hu;exact (Option.some.inj hu).symm
  subst this
  exact ru
 ·exact st'.temps p hp
theorem XT (ok:F.Ok) {ts:List Expr} {k:Nat} {pos:Pos} {ds:List AV} (h:AsL prog w F om ts ds sig sig') (hl:ts.length=ds.length)
  (hf:(assignEach ts F.env).findIdx? (·.1)=none:=by rfl) (hle:(assignEach ts F.env).length=ts.length:=by rfl):As prog w F om (.Tuple ts k pos) (.tup ds) sig sig':=fun R tau v s Q E st hq=>by
 show wpAny _ _ (do standAt pos;unpack v (assignEach ts F.env)) Q E s
 refine wpAny_bind (wpAny_standAt ?_)
 unfold unpack
 rw[hf,hle]
 refine wpAny_bind (wpAny_holding (Tr ok hl st fun vs s' hv st'=>?_))
 exact h R _ vs s' _ _ hv st' hq
theorem Xd (ok:F.Ok) {x:Str} {p pos:Pos} {e:Expr} {k:Nat} {d:AV} (a:Xc F x k) (h:Ev prog w F sig om e d)
  (hs:swapsWith e (some (.Name x p)) pos.line F.env=pure false:=by rfl):Ex1 prog w F sig om (.Assign [.Name x p] e pos) (·=.nxt (sig.set k (some d)) om):=fun R tau s Q E st hq =>
 wpAny_Assign_Name (h R tau s _ _ st fun v s' st'=>Xu ok a st' st'.top fun s'' st''=>hq _ _ _ rfl st''.pop) hs
theorem UJ {ts:List Expr} {k:Nat} {tp pos:Pos} {e:Expr} {d:AV} (h:Ev prog w F sig om e d) (a:As prog w F om (.Tuple ts k tp) d sig sig')
  (hs:swapsWithSole [.Tuple ts k tp] e pos.line F.env=pure false:=by rfl) (hw:swappedStores [.Tuple ts k tp] e F.env=pure none:=by rfl):Ex1 prog w F sig om (.Assign [.Tuple ts k tp] e pos) (·=.nxt sig' om):=fun R tau s Q E st hq =>
 Assign_Tuple (h R tau s _ _ st fun v s' st'=>a R tau v s' _ _ st' fun s'' st''=>hq _ _ _ rfl st''.pop) hs hw
inductive StL (F:Fn):List Str->List AV->List (Option AV)->List (Option AV)->Prop
 | nil {sig:List (Option AV)}:StL F [] [] sig sig
 | cons {x:Str} {xs:List Str} {k:Nat} {d:AV} {ds:List AV} {sig sig':List (Option AV)}:Xc F x k->StL F xs ds (sig.set k (some d)) sig'->StL F (x::xs) (d::ds) sig sig'
theorem Ts (ok:F.Ok):∀ {xs:List Str} {ds:List AV} {sig sig':List (Option AV)} {vs:List Value} {tau:List (Value×AV)} {s:Shared} {Q:Unit->Shared->Prop} {E:Value->Shared->Prop},StL F xs ds sig sig'->vs.length=ds.length ->
  Sta F R sig om ((vs.zip ds)++tau) s->(∀ s',Sta F R sig' om tau s'->Q () s')->wpAny (model prog w) F.A (assignInOrder (xs.map fun n=>bindName F.env n) vs) Q E s
 | _,_,_,_,vs,_,_,_,_,.nil,hl,st,h=>by
  have:vs=[]:=List.length_eq_zero_iff.mp hl
  subst this
  exact assignInOrder_nil (h _ st)
 | _,_,_,_,[],_,_,_,_,.cons _ _,hl,_,_=>by cases hl
 | _,_,_,_,v::vs,tau,s,Q,E,.cons a r,hl,st,h=>by
  refine assignInOrder_cons (wpAny_bindName (Xu ok a (tau:=_) (st:Sta F R _ om ((v,_)::(vs.zip _++tau)) s) (st:Sta F R _ om ((v,_)::(vs.zip _++tau)) s).top fun s' st'=>?_))
  exact Ts ok r (by simpa using hl) st'.pop h
theorem Wi (ok:F.Ok) {ts:List Expr} {k:Nat} {tp pos:Pos} {e:Expr} {ds:List AV} {names:List Str} (h:Ev prog w F sig om e (.tup ds)) (hn:names.length=ds.length) (r:StL F names.reverse ds.reverse sig sig')
  (hs:swapsWithSole [.Tuple ts k tp] e pos.line F.env=pure false:=by rfl) (hw:swappedStores [.Tuple ts k tp] e F.env=pure (some names):=by rfl):Ex1 prog w F sig om (.Assign [.Tuple ts k tp] e pos) (·=.nxt sig' om):=fun R tau s Q E st hq =>
 Assign_Tuple_swapped (h R tau s _ _ st fun v s' st'=>Tr ok hn st' fun vs s'' hv st''=>Ts ok r (by simpa using hv) (tau:=(v,.tup ds)::tau) (st''.temp fun p hp=>by
  rcases List.mem_append.mp hp with hp | hp
  ·rw[show vs.reverse.zip ds.reverse=(vs.zip ds).reverse from (List.reverse_zipWith hv).symm] at hp
   exact st''.temps p (List.mem_append_left _ (List.mem_reverse.mp hp))
  ·exact st''.temps p (List.mem_append_right _ hp)) fun s₃ st₃=>hq _ _ _ rfl st₃.pop) hs hw
end
end
section
section
variable {prog:Program} {w:World} {F:Fn} {R:PH} {sig sig':List (Option AV)} {om om':Om} {tau:List (Value×AV)} {s:Shared}
theorem Sta.move (x:Sta F R sig om tau s) {R':PH} {h':Heap} {tk:Nat} (kv:(F.view R om s.heap).le (F.view R' om h')) (hg:∀ b o,F.G b=some o->h'.get? b=some o∧R' b=none)
  (hr:∀ b o,R' b=some o->b∉F.D om∧h'.get? b=some o) (hD:∀ b o,b∈F.D om->s.heap.get? b=some o->h'.get? b=some o) (hc:∀ c o,R c=some o->(∃ v,o.data=.cell v)->R' c=some o):Sta F R' sig om tau { s with heap:=h',toks:=tk }:=by
 obtain ⟨h₀,tk₀,rfl⟩:=x.same
 refine ⟨⟨h',tk,rfl⟩,x.nodup,fun b o e=>⟨(x.g b o e).1,(x.g b o e).2.1,hg b o e⟩,hr,fun c hcs=>?_,fun p hp=>?_,fun p hp=>(x.temps p hp).mono kv,?_⟩
 ·obtain ⟨v,o,ho,hd⟩:=x.cells c hcs
  exact ⟨v,o,hD c o (by simp[Fn.D,hcs]) ho,hd⟩
 ·obtain ⟨o,ho,hP⟩:=x.opens p hp
  exact ⟨o,hD _ _ (by simp only[Fn.D,mem_cons,mem_append];exact .inr (.inr (mem_map_of_mem hp))) ho,fun V' hV=>hP V' (kv.trans hV)⟩
 ·obtain ⟨m,hm,sl⟩:=x.slots
  refine ⟨m,hm.at' fun o e=>hD _ o (by simp[Fn.D]) e,fun k y kind d h1 h2=>?_⟩
  cases sl k y kind d h1 h2 with
  | loc e r=>exact .loc e (r.mono kv)
  | cel a b c r q =>
   rcases q with q | q
   ·exact .cel a (hD _ _ (by simp[Fn.D,q]) b) c (r.mono kv) (.inl q)
   ·have:=hc _ _ q ⟨_,c⟩
    exact .cel a (hr _ _ this).2 c (r.mono kv) (.inr this)
  | fre a b c r q =>
   have:=hc _ _ q ⟨_,c⟩
   exact .fre a (hr _ _ this).2 c (r.mono kv) this
theorem Sta.view_none (ok:F.Ok) (x:Sta F R sig om tau s) {a:Addr} (ha:s.heap.objs.size≤a):F.view R om s.heap a=none:=by
 cases e:F.view R om s.heap a with
 | none=>rfl
 | some o=>exact absurd (lt_of_lt_of_le (Heap.lt_size (x.vget e)) ha) (lt_irrefl _)
theorem Sta.hide (ok:F.Ok) (x:Sta F R sig om tau s) (o:Obj) (hf:o.isFreed=false):Sta F (R.put s.heap.objs.size o) sig om tau { s with heap:=s.heap.push o }:=by
 have k:∀ b o',s.heap.get? b=some o'->(s.heap.push o).get? b=some o':=fun b o' e=>Heap.get?_push_of_some _ e
 refine x.move (tk:=s.toks) (Fn.view_put (fun b o _ e=>k b o e) (x.view_none ok (le_refl _))) (fun b o' e=>⟨k _ _ (x.g b o' e).2.2.1,?_⟩) (fun b o' e=>?_) (fun b o' _ e=>k _ _ e) fun c o' e _=>?_
 ·rw[PH.put_ne (fun q=>by subst q;exact absurd (Heap.lt_size (x.g _ _ e).2.2.1) (lt_irrefl _))]
  exact (x.g b o' e).2.2.2
 ·by_cases q:b=s.heap.objs.size
  ·subst q
   rw[PH.put_self] at e;cases e
   exact ⟨(x.fresh ok (le_refl _)).1,Heap.get?_push_size _ hf⟩
  ·rw[PH.put_ne q] at e
   exact ⟨(x.rf _ _ e).1,k _ _ (x.rf _ _ e).2⟩
 ·rw[PH.put_ne (fun q=>by subst q;exact absurd (Heap.lt_size (x.rf _ _ e).2) (lt_irrefl _))];exact e
theorem Sta.rehide {a:Addr} {o o':Obj} (x:Sta F (R.put a o) sig om tau s) (hn:∀ ob,R a=some ob->¬ ∃ v,ob.data=.cell v) {h':Heap} {tk:Nat} (hk:∀ b o,b∉[a]->s.heap.get? b=some o->h'.get? b=some o) (ho:h'.get? a=some o')
  (hc:¬ ∃ v,o.data=.cell v):Sta F (R.put a o') sig om tau { s with heap:=h',toks:=tk }:=by
 have hk':∀ b o,b≠a->s.heap.get? b=some o->h'.get? b=some o:=fun b o hb=>hk b o (by simpa using hb)
 refine x.move (tk:=tk) (Fn.view_reput hk') (fun b ob e=>?_) (fun b ob e=>?_) (fun b ob hb e=>hk' b ob (fun q=>?_) e) fun c ob e hcell=>?_
 ·have g:=(x.g b ob e)
  have hne:b≠a:=fun q=>by have:=g.2.2.2;rw[q,PH.put_self] at this;cases this
  refine ⟨hk' _ _ hne g.2.2.1,?_⟩
  rw[PH.put_ne hne];have:=g.2.2.2;rw[PH.put_ne hne] at this;exact this
 ·by_cases q:b=a
  ·subst q
   rw[PH.put_self] at e;cases e
   exact ⟨(x.rf b o PH.put_self).1,ho⟩
  ·rw[PH.put_ne q] at e
   have:=x.rf b ob (by rw[PH.put_ne q];exact e)
   exact ⟨this.1,hk' _ _ q this.2⟩
 ·subst q;exact (x.rf b o PH.put_self).1 hb
 ·by_cases q:c=a
  ·subst q
   rw[PH.put_self] at e;cases e
   exact absurd hcell hc
  ·rw[PH.put_ne q] at e ⊢;exact e
theorem Sta.unhide {a:Addr} {o:Obj} (x:Sta F (R.put a o) sig om tau s) (hR:R a=none) (hc:¬ ∃ v,o.data=.cell v):Sta F R sig om tau s:=by
 have:=x.move (R':=R) (h':=s.heap) (tk:=s.toks) (Fn.view_unput fun _ _ _ e=>e) (fun b ob e=>?_) (fun b ob e=>?_) (fun _ _ _ e=>e) fun c ob e hcell=>?_
 ·exact this
 ·have g:=(x.g b ob e)
  have hne:b≠a:=fun q=>by have:=g.2.2.2;rw[q,PH.put_self] at this;cases this
  refine ⟨g.2.2.1,?_⟩
  have:=g.2.2.2;rw[PH.put_ne hne] at this;exact this
 ·have hne:b≠a:=fun q=>by rw[q,hR] at e;cases e
  exact x.rf b ob (by rw[PH.put_ne hne];exact e)
 ·by_cases q:c=a
  ·subst q
   rw[PH.put_self] at e;cases e
   exact absurd hcell hc
  ·rw[PH.put_ne q] at e;exact e
noncomputable def W5:List String:=["enumerate", "zip", "dict_itemiterator", "dict_reverseitemiterator", "odict_iterator", "itertools.zip_longest", "itertools.pairwise"]
structure Src (prog:Program) (w:World) (A:Around) (xs:List AV) (d':AV) (v:Value) (I:Addr) (P:Nat->Value->Prop) (St:Nat->Heap->Prop):Prop where
 walks:∃ fp,Walks prog w A I fp [I] xs.length P St∧∀ b∈fp,b≠I->∀ V V',Rep V d' v->Rep V' d' v->∃ o,V b=some o∧V' b=some o
 item:∀ V i v' x,Rep V d' v->P i v'->xs[i]?=some x->Rep V x v'
 obj:∀ i h,St i h->∃ o c vs,h.get? I=some o∧o.cls=.type c∧o.data=.fields vs∧W5.contains c=false
noncomputable def Itr (prog:Program) (w:World) (F:Fn) (om:Om) (d:AV) (xs:List AV):Prop :=
 ∀ (R:PH) (sig:List (Option AV)) (tau:List (Value×AV)) (v:Value) (s:Shared) (Q:Value->Shared->Prop) (E:Value->Shared->Prop),Sta F R sig om ((v,d)::tau) s ->
  (∀ I d' P St o s',Src prog w F.A xs d' v I P St->R I=none->s.heap.objs.size≤I->St 0 s'.heap->s'.heap.get? I=some o->Sta F (R.put I o) sig om ((v,d')::(v,d)::tau) s'->Q (.ref I) s')->wpAny (model prog w) F.A (pyIter v) Q E s
theorem YD (ok:F.Ok) {l:List AV}:Itr prog w F om (.lst l) l:=fun R sig tau v s Q E st h=>by
 have h1:=st.top
 obtain ⟨a,vs,n,rfl,o,r⟩:=h1
 have e:=r.length
 simp only[length_toList] at e
 have L:s.heap.IsList a vs:=⟨_,st.vget o,rfl,n,rfl⟩
 have hlt:=Heap.lt_size (st.vget o)
 refine wpAny_pyIter_list L ?_
 refine h s.heap.objs.size (.raw fun V u=>u=.ref a∧V a=some { cls:=.type "list",data:=.seq vs n }∧Zn V l vs.toList) _ _ _ _ ⟨⟨_,e▸Walks.list ok.handled s.heap.objs.size a (ne_of_lt hlt) vs,?_⟩,?_,?_⟩ (st.freshR (le_refl _)) (le_refl _) ⟨⟨_,Heap.get?_push_size _ rfl,rfl,rfl⟩,L.push _⟩ (Heap.get?_push_size _ rfl)
  ((st.push (v:=.ref a) ?_).hide ok _ rfl)
 ·intro b hb hne V V' q q'
  have:b=a:=by simpa [hne] using hb
  subst this
  exact ⟨_,(q V (PH.le.refl _)).2.1,(q' V' (PH.le.refl _)).2.1⟩
 ·intro V i v' x q hi hx
  obtain ⟨u,hu,ru⟩:=(q V (PH.le.refl _)).2.2.get hx
  have hi':vs[i]?=some v':=hi
  have:u=v':=by simpa [hi'] using hu.symm
  subst this
  exact ru
 ·intro i h st'
  obtain ⟨o,ho,hc,hd⟩:=st'.1
  exact ⟨o,_,_,ho,hc,hd,by decide⟩
 ·exact fun V' hV=>⟨rfl,hV _ _ o,r.mono hV⟩
theorem V9 (ok:F.Ok) {l:List AV}:Itr prog w F om (.tup l) l:=fun R sig tau v s Q E st h=>by
 have h1:=st.top
 obtain ⟨a,vs,n,rfl,o,r⟩:=h1
 have e:=r.length
 simp only[length_toList] at e
 have L:s.heap.IsTuple a vs:=⟨_,st.vget o,rfl,n,rfl⟩
 have hlt:=Heap.lt_size (st.vget o)
 refine wpAny_pyIter_tuple L ?_
 refine h s.heap.objs.size (.raw fun V u=>u=.ref a∧V a=some { cls:=.type "tuple",data:=.seq vs n }∧Zn V l vs.toList) _ _ _ _ ⟨⟨_,e▸Walks.tuple ok.handled s.heap.objs.size a (ne_of_lt hlt) vs,?_⟩,?_,?_⟩ (st.freshR (le_refl _)) (le_refl _) ⟨⟨_,Heap.get?_push_size _ rfl,rfl,rfl⟩,L.push _⟩ (Heap.get?_push_size _ rfl)
  ((st.push (v:=.ref a) ?_).hide ok _ rfl)
 ·intro b hb hne V V' q q'
  have:b=a:=by simpa [hne] using hb
  subst this
  exact ⟨_,(q V (PH.le.refl _)).2.1,(q' V' (PH.le.refl _)).2.1⟩
 ·intro V i v' x q hi hx
  obtain ⟨u,hu,ru⟩:=(q V (PH.le.refl _)).2.2.get hx
  have hi':vs[i]?=some v':=hi
  have:u=v':=by simpa [hi'] using hu.symm
  subst this
  exact ru
 ·intro i h st'
  obtain ⟨o,ho,hc,hd⟩:=st'.1
  exact ⟨o,_,_,ho,hc,hd,by decide⟩
 ·exact fun V' hV=>⟨rfl,hV _ _ o,r.mono hV⟩
noncomputable def ZC (a b:Int):List AV:=(List.range (b-a).toNat).map fun i=>.int (a+(i:Nat))
theorem UU (ok:F.Ok) {a b:Int} (ha:-(2 ^ 62)≤a) (ha':a<2 ^ 62) (hb:-(2 ^ 62)≤b) (hb':b<2 ^ 62):Itr prog w F om (.rng a b) (ZC a b):=fun R sig tau v s Q E st h=>by
 have h1:=st.top
 obtain ⟨r,x,y,z,rfl,o⟩:=h1
 have hsz:Builtin.Range.rangeSize a b 1=(((b-a).toNat:Nat):Int):=by
  rw[rangeSize_one];split<;>omega
 refine wpAny_pyIter_range (st.vget o) (small_one ha ha' hb hb') ?_
 rw[hsz]
 have hlen:(ZC a b).length=(b-a).toNat:=by simp[ZC]
 refine h s.heap.objs.size (.raw fun _ _=>True) (fun i v=>∃ t,v=.int (a+i*1) t) _ _ _ ⟨⟨_,hlen▸Walks.range ok.handled s.heap.objs.size a 1 (b-a).toNat,?_⟩,?_,?_⟩ (st.freshR (le_refl _)) (le_refl _) ?_ (Heap.get?_push_size _ rfl)
  ((st.push (v:=.ref r) (by exact fun _ _=>trivial)).hide ok _ rfl)
 ·intro b hb hne;exact absurd (by simpa using hb) hne
 ·rintro V i v' x' _ ⟨t,rfl⟩ hx
  obtain ⟨hi,e⟩:=List.getElem?_eq_some_iff.mp hx
  simp only[ZC,getElem_map,List.getElem_range] at e
  subst e
  rw[Int.mul_one]
  exact ZR
 ·intro i h st'
  exact ⟨_,_,_,st',rfl,rfl,by decide⟩
 ·show IsRangeIter _ _ (a+((0:Nat):Int)*1) ((((ZC a b).length:Nat):Int)-((0:Nat):Int)) 1
  rw[hlen,show a+((0:Nat):Int)*1=a by omega,show (((b-a).toNat:Nat):Int)-((0:Nat):Int)=(((b-a).toNat:Nat):Int) by omega]
  exact Heap.get?_push_size _ rfl
set_option tactic.hygienic true in
theorem LQ {target:Expr} {I:Addr} {v:Value} {o:Obj} {c:String} {vs:Array Value} (ho:s.heap.get? I=some o) (hc:o.cls=.type c) (hd:o.data=.fields vs) (hn:W5.contains c=false) {Q:Unit->Shared->Prop} {E:Value->Shared->Prop} (h:Q () s) :
  wpAny (model prog w) F.A (letOwnedTupleGo target (.ref I) v) Q E s:=by
 have key:∀ a:Addr,wpAny (model prog w) F.A (letOwnedTupleGo (.Tuple [] 0 ⟨0,0,0,0⟩) (.ref I) (.ref a)) Q E s:=fun a=>by
  show wpAny _ _ (load I >>= _) _ _ _
  refine wpAny_bind (wpAny_load ho ?_)
  rw[hc,hd]
  dsimp only
  have:W5.contains c=false:=hn
  unfold W5 at this
  rw[this,Bool.false_and,if_neg Bool.false_ne_true]
  exact wpAny_pure h
 have key':∀ v:Value,wpAny (model prog w) F.A (letOwnedTupleGo (.Tuple [] 0 ⟨0,0,0,0⟩) (.ref I) v) Q E s:=fun v=>by
  cases v
  case ref a=>exact key a
  all_goals exact wpAny_pure h
 cases target
 case Tuple=>exact key' v
 case List=>exact key' v
 all_goals exact wpAny_pure h
theorem Wr {o:Obj} {vs:Array Value} (h:o.data=.fields vs):¬ ∃ v,o.data=.cell v:=by rintro ⟨v,e⟩;rw[h] at e;cases e
theorem RU (ok:F.Ok) {target:Expr} {body:List Stmt} {d:AV} {v:Value} {xs:List AV} {P:Out->Prop} {Q:Flow->Shared->Prop} {E:Value->Shared->Prop} (it:Itr prog w F om d xs) (Inv:Nat->List (Option AV)->Om->Prop) (h0:Inv 0 sig om)
  (turn:∀ (i:Nat) (x:AV) sig om,xs[i]?=some x->Inv i sig om->∃ sig₁,As prog w F om target x sig sig₁∧Ex prog w F sig₁ om body fun o=>match o with
   | .nxt sig' om'=>Inv (i+1) sig' om'
   | .cnt sig' om'=>Inv (i+1) sig' om'
   | .brk sig' om'=>P (.nxt sig' om')
   | .ret d sig' om'=>P (.ret d sig' om'))
  (done:∀ sig om,Inv xs.length sig om->P (.nxt sig om))
  (st:Sta F R sig om ((v,d)::tau) s) (hq:∀ o f s',P o->Sq F R tau o f s'->Q f s') :
  wpAny (model prog w) F.A (pyIter v) (fun it s₂=>codeAny (model prog w) F.A (.forLoop target it body [] F.env) (fun r s'=>match r with | .ok f=>Q f s' | .error e=>cameBackBy (model prog w) F.A F.env E e s') s₂) E s:=by
 refine it R sig tau v s _ _ st fun I d' PP St o s₂ src hR hI hst ho st₂=>?_
 obtain ⟨⟨fp,W,hfp⟩,hitem,hobj⟩:=src
 refine codeAny_loop' rfl (fun n s'=>∃ i sig om o,i≤xs.length∧n=xs.length+1-i∧Inv i sig om∧St i s'.heap∧s'.heap.get? I=some o∧Sta F (R.put I o) sig om ((v,d')::(v,d)::tau) s') (fun n s' hI'=>?_) (xs.length+1)
  ⟨0,sig,om,o,zero_le _,rfl,h0,hst,ho,st₂⟩
 obtain ⟨i,sig,om,o,hi,rfl,inv,hst,ho,st⟩:=hI'
 show wpAny _ _ ((forTurn target (.ref I) body [] F.env).onRaise (fun x=>do noteFrame x F.env;theTreesLotGoes x)) _ _ s'
 refine wpAny_noted ?_
 unfold forTurn
 refine wpAny_bind (wpAny_standAt (wpAny_bind (wpAny_onRaise ?_)))
 have oc:¬ ∃ v,o.data=.cell v:=by
  obtain ⟨o',c,vs,e1,_,e3,_⟩:=hobj i _ hst
  rw[ho] at e1;cases e1
  exact Wr e3
 by_cases hlt:i<xs.length
 ·refine W.item i s' _ _ hlt hst fun v' h' tk hP hst' hk=>?_
  obtain ⟨o',c,vs,e1,e2,e3,e4⟩:=hobj _ _ hst'
  have st':=st.rehide (tk:=tk) (fun ob e=>by rw[hR] at e;cases e) hk e1 oc
  refine wpAny_bind (LQ (s:={ s' with heap:=h',toks:=tk }) e1 e2 e3 e4 ?_)
  have rx:Rep (F.view (R.put I o') om h') (xs[i]) v':=hitem _ i v' _ st'.top hP (by simp[hlt])
  obtain ⟨sig₁,as,ex⟩:=turn i xs[i] sig om (by simp[hlt]) inv
  refine wpAny_bind (as (R.put I o') _ v' _ _ _ (st'.push rx) fun s₃ st₃=>?_)
  refine wpAny_bind (ex (R.put I o') _ s₃ _ _ st₃.pop fun out f s₄ hout hl=>?_)
  have goes:∀ sig' om',Inv (i+1) sig' om'->Sta F (R.put I o') sig' om' ((v,d')::(v,d)::tau) s₄->∃ m,m<xs.length+1-i∧∃ i sig om o,i≤xs.length∧m=xs.length+1-i∧Inv i sig om∧St i s₄.heap∧s₄.heap.get? I=some o∧Sta F (R.put I o) sig om ((v,d')::(v,d)::tau) s₄:=fun sig' om' hinv st₄=>by
   have hI₄:s₄.heap.get? I=some o':=(st₄.rf I o' PH.put_self).2
   refine ⟨xs.length+1-(i+1),Nat.sub_lt_sub_left (lt_succ_of_lt hlt) (lt_succ_self i),i+1,sig',om',o',hlt,rfl,hinv,W.frame _ _ _ hst' fun b hb ob e=>?_,hI₄,st₄⟩
   by_cases hbI:b=I
   ·subst hbI;rw[e1] at e;cases e;exact hI₄
   ·obtain ⟨ob',q1,q2⟩:=hfp b hb hbI _ _ st'.top st₄.top
    have:=st'.vget q1
    rw[show ({ s' with heap:=h',toks:=tk }:Shared).heap.get? b=some ob from e] at this
    cases this
    exact st₄.vget q2
  have ends:∀ sig' om',Sta F (R.put I o') sig' om' ((v,d')::(v,d)::tau) s₄->Sta F R sig' om' tau s₄:=fun sig' om' st₄=>(st₄.unhide hR (Wr e3)).pop.pop
  cases out<;>cases f<;>first | exact False.elim hl | change Sta _ _ _ _ _ _ at hl
  ·exact wpAny_pure (.inl ⟨rfl,goes _ _ hout hl⟩)
  ·exact wpAny_pure (hq (.nxt _ _) .next _ hout (ends _ _ hl))
  ·exact wpAny_pure (.inl ⟨rfl,goes _ _ hout hl⟩)
  ·refine wpAny_pure (hq (.ret _ _ _) (.ret _) _ hout ?_)
   show Sta F R _ _ ((_,_)::tau) s₄
   have:=hl.unhide hR (Wr e3)
   exact this.temp fun p hp=>this.temps p (by rcases List.mem_cons.mp hp with rfl | hp<;>simp[*])
 ·have hi':i=xs.length:=by omega
  subst hi'
  refine W.done s' _ _ hst fun h' tk hk=>?_
  refine wpAny_pure (.inr ⟨rfl,codeAny_block (wpAny_execs_nil ?_)⟩)
  have st':Sta F R sig om ((v,d')::(v,d)::tau) { s' with heap:=h',toks:=tk }:=by
   refine st.move (tk:=tk) (Fn.view_unput fun b o hb e=>hk b o (by simpa using hb) e) (fun b ob e=>?_) (fun b ob e=>?_) (fun b ob hb e=>hk b ob (fun q=>?_) e) fun c ob e hcell=>?_
   ·have g:=(st.g b ob e)
    have hne:b≠I:=fun q=>by have:=g.2.2.2;rw[q,PH.put_self] at this;cases this
    refine ⟨hk _ _ (by simpa using hne) g.2.2.1,?_⟩
    have:=g.2.2.2;rw[PH.put_ne hne] at this;exact this
   ·have hne:b≠I:=fun q=>by rw[q,hR] at e;cases e
    have:=st.rf b ob (by rw[PH.put_ne hne];exact e)
    exact ⟨this.1,hk _ _ (by simpa using hne) this.2⟩
   ·have:b=I:=by simpa using q
    subst this;exact (st.rf b o PH.put_self).1 hb
   ·by_cases q:c=I
    ·subst q
     rw[PH.put_self] at e;cases e
     exact absurd hcell oc
    ·rw[PH.put_ne q] at e;exact e
  exact hq (.nxt sig om) .next _ (done _ _ inv) st'.pop.pop
theorem ex_for (ok:F.Ok) {target iter:Expr} {body:List Stmt} {pos:Pos} {d:AV} {xs:List AV} {P:Out->Prop} (h₁:Ev prog w F sig om iter d) (it:Itr prog w F om d xs) (Inv:Nat->List (Option AV)->Om->Prop) (h0:Inv 0 sig om)
  (turn:∀ (i:Nat) (x:AV) sig om,xs[i]?=some x->Inv i sig om->∃ sig₁,As prog w F om target x sig sig₁∧Ex prog w F sig₁ om body fun o=>match o with
   | .nxt sig' om'=>Inv (i+1) sig' om'
   | .cnt sig' om'=>Inv (i+1) sig' om'
   | .brk sig' om'=>P (.nxt sig' om')
   | .ret d sig' om'=>P (.ret d sig' om'))
  (done:∀ sig om,Inv xs.length sig om->P (.nxt sig om))
  (hs:∀ x,foldedSetIterable iter F.env x=pure x:=by intro _;rfl):Ex1 prog w F sig om (.For target iter body [] pos) P:=fun R tau s Q E st hq =>
 wpAny_For (h₁ R tau s _ _ st fun v s₁ st₁=>RU ok it Inv h0 turn done st₁ hq) hs
end
end
section
noncomputable def Zc (l:List AV):PH->Obj->Prop:=fun V o=>∃ vs n,o={ cls:=.type "list",data:=.seq vs n }∧Zn V l vs.toList
inductive OmUpd:Om->Addr->(PH->Obj->Prop)->(PH->Obj->Prop)->Om->Prop
 | here {a:Addr} {P P':PH->Obj->Prop} {om:Om}:OmUpd ((a,P)::om) a P P' ((a,P')::om)
 | there {a:Addr} {P P':PH->Obj->Prop} {om om':Om} {q:Addr×(PH->Obj->Prop)}:OmUpd om a P P' om'->OmUpd (q::om) a P P' (q::om')
theorem OmUpd.addrs {om om':Om} {a:Addr} {P P':PH->Obj->Prop} (h:OmUpd om a P P' om'):om'.map (·.1)=om.map (·.1):=by
 induction h with
 | here=>rfl
 | there _ ih=>simp[ih]
theorem OmUpd.mem {om om':Om} {a:Addr} {P P':PH->Obj->Prop} (h:OmUpd om a P P' om'):(a,P)∈om:=by
 induction h with
 | here=>simp
 | there _ ih=>simp[ih]
theorem OmUpd.other {om om':Om} {a:Addr} {P P':PH->Obj->Prop} (h:OmUpd om a P P' om'):∀ p∈om',p=(a,P')∨p∈om:=by
 induction h with
 | here=>intro p hp;rcases List.mem_cons.mp hp with rfl | hp;exact .inl rfl;exact .inr (by simp[hp])
 | there _ ih =>
  intro p hp
  rcases List.mem_cons.mp hp with rfl | hp
  ·exact .inr (by simp)
  ·rcases ih p hp with q | q
   ·exact .inl q
   ·exact .inr (by simp[q])
section
variable {prog:Program} {w:World} {F:Fn} {R:PH} {sig sig':List (Option AV)} {om om':Om} {tau:List (Value×AV)} {s:Shared}
theorem OmUpd.D {a:Addr} {P P':PH->Obj->Prop} (h:OmUpd om a P P' om'):F.D om'=F.D om:=by unfold Fn.D;rw[h.addrs]
theorem OmUpd.view {a:Addr} {P P':PH->Obj->Prop} (h:OmUpd om a P P' om') (hp:Heap):F.view R om' hp=F.view R om hp:=by unfold Fn.view;rw[h.D]
theorem OmUpd.inD {a:Addr} {P P':PH->Obj->Prop} (h:OmUpd om a P P' om'):a∈F.D om:=by
 unfold Fn.D
 simp only[mem_cons,mem_append]
 exact .inr (.inr (mem_map_of_mem h.mem))
theorem Sta.upd {a:Addr} {P P':PH->Obj->Prop} (x:Sta F R sig om tau s) (u:OmUpd om a P P' om') {h':Heap} {o':Obj} {tk:Nat} (hs:Heap.SameBut a s.heap h') (ho:h'.get? a=some o') (hP:∀ V',(F.view R om h').le V'->P' V' o') :
  Sta F R sig om' tau { s with heap:=h',toks:=tk }:=by
 have ha:a∈F.D om:=u.inD
 obtain ⟨b1,b2,b3⟩:=x.but ha hs
 have kv:=Ym (F:=F) (R:=R) (om:=om) ha hs
 obtain ⟨h₀,tk₀,rfl⟩:=x.same
 have nd:=x.nodup
 unfold Fn.D at nd
 rw[nodup_cons,mem_append,not_or] at nd
 obtain ⟨⟨nL1,nL2⟩,nd2⟩:=nd
 have hmem:a∈om.map (·.1):=mem_map_of_mem u.mem
 have hL:F.L≠a:=fun e=>nL2 (e▸hmem)
 have hcs:∀ c∈F.cs,c≠a:=fun c hc=>(List.nodup_append.mp nd2).2.2 c hc a hmem
 refine ⟨⟨h',tk,rfl⟩,by rw[u.D];exact x.nodup,fun b o e=>by rw[u.D];exact b1 b o e,fun b o e=>by rw[u.D];exact b2 b o e,fun c hc=>?_,fun p hp=>?_,fun p hp=>by rw[u.view];exact b3 p hp,?_⟩
 ·obtain ⟨v,hv⟩:=x.cells c hc
  exact ⟨v,hv.sameBut hs (hcs c hc)⟩
 ·rw[u.view]
  rcases u.other p hp with rfl | hp'
  ·exact ⟨o',ho,hP⟩
  ·by_cases q:p.1=a
   ·-- the same address: the entry is the changed one or the same predicate
    have hnd:(om'.map (·.1)).Nodup:=by rw[u.addrs];exact (List.nodup_append.mp nd2).2.1
    have hin:(a,P')∈om':=by
     clear hp hp' ho hP hs b1 b2 b3 kv x ha hmem hL hcs nL1 nL2 nd2 hnd q
     induction u with
     | here=>simp
     | there _ ih=>simp[ih]
    have:p=(a,P'):=by
     obtain ⟨i,hi,ei⟩:=getElem_of_mem hp
     obtain ⟨j,hj,ej⟩:=getElem_of_mem hin
     have:i=j:=by
      rw[List.nodup_iff_pairwise_ne,List.pairwise_iff_getElem] at hnd
      rcases Nat.lt_trichotomy i j with l | l | l
      ·exact absurd (by rw[getElem_map,getElem_map,ei,ej,q]) (hnd i j (by simpa using hi) (by simpa using hj) l)
      ·exact l
      ·exact absurd (by rw[getElem_map,getElem_map,ei,ej,q]) (hnd j i (by simpa using hj) (by simpa using hi) l)
     subst this
     rw[<-ei,<-ej]
    subst this
    exact ⟨o',ho,hP⟩
   ·obtain ⟨o,ho',hP'⟩:=x.opens p hp'
    exact ⟨o,hs.extBut _ _ q ho',fun V' hV=>hP' V' (kv.trans hV)⟩
 ·obtain ⟨m,hm,sl⟩:=x.slots
  refine ⟨m,hm.sameBut hs hL,fun k y kind d h1 h2=>?_⟩
  rw[u.view]
  cases sl k y kind d h1 h2 with
  | loc e r=>exact .loc e (r.mono kv)
  | cel e b c r q =>
   refine .cel e (hs.extBut _ _ ?_ b) c (r.mono kv) q
   rcases q with q | q
   ·exact hcs _ q
   ·exact fun z=>(x.rf _ _ q).1 (z▸ha)
  | fre e b c r q=>exact .fre e (hs.extBut _ _ (fun z=>(x.rf _ _ q).1 (z▸ha)) b) c (r.mono kv) q
set_option tactic.hygienic true in
theorem Sta.openNew (ok:F.Ok) (x:Sta F R sig om tau s) {P:PH->Obj->Prop} (o:Obj) (hf:o.isFreed=false) (hP:∀ V',(F.view R om s.heap).le V'->P V' o) :
  Sta F R sig ((s.heap.objs.size,P)::om) tau { s with heap:=s.heap.push o }:=by
 have k:∀ b o',s.heap.get? b=some o'->(s.heap.push o).get? b=some o':=fun b o' e=>Heap.get?_push_of_some _ e
 obtain ⟨f1,f2⟩:=x.fresh ok (le_refl s.heap.objs.size)
 have hD:∀ b,b∈F.D ((s.heap.objs.size,P)::om)↔b=s.heap.objs.size∨b∈F.D om:=fun b=>by
  unfold Fn.D
  simp only[map_cons,mem_cons,mem_append]
  constructor
  ·rintro (h | h | h | h)
   ·exact .inr (.inl h)
   ·exact .inr (.inr (.inl h))
   ·exact .inl h
   ·exact .inr (.inr (.inr h))
  ·rintro (h | h | h | h)
   ·exact .inr (.inr (.inl h))
   ·exact .inl h
   ·exact .inr (.inl h)
   ·exact .inr (.inr (.inr h))
 have hlt:∀ b o',s.heap.get? b=some o'->b≠s.heap.objs.size:=fun b o' e q=>lt_irrefl _ (q▸Heap.lt_size e)
 have kv:(F.view R om s.heap).le (F.view R ((s.heap.objs.size,P)::om) (s.heap.push o)):=fun b o' e=>by
  have hb:=x.vget e
  have hn:=x.vnot e
  unfold Fn.view at e ⊢
  split at e
  ·cases e
  ·rename_i q
   rw[if_neg (fun z=>q (z.imp (fun z=>((hD b).mp z).resolve_left (hlt b o' hb)) id))]
   split at e
   ·rename_i z;rw[if_pos z];exact e
   ·rename_i z;rw[if_neg z];exact k _ _ e
 obtain ⟨h₀,tk₀,rfl⟩:=x.same
 refine ⟨⟨_,tk₀,rfl⟩,?_,fun b o' e=>⟨(x.g b o' e).1,fun z=>?_,k _ _ (x.g b o' e).2.2.1,(x.g b o' e).2.2.2⟩,fun b o' e=>⟨fun z=>?_,k _ _ (x.rf b o' e).2⟩,fun c hc=>?_,fun p hp=>?_,fun p hp=>(x.temps p hp).mono kv,?_⟩
 ·have nd:=x.nodup
  unfold Fn.D at nd f1 ⊢
  simp only[map_cons,nodup_cons,mem_append,mem_cons,not_or,nodup_append] at nd f1 ⊢
  refine ⟨⟨nd.1.1,fun q=>f1.1 q.symm,nd.1.2⟩,nd.2.1,⟨f1.2.2,nd.2.2.1⟩,fun a ha b hb=>?_⟩
  rcases hb with rfl | hb
  ·rintro rfl;exact f1.2.1 ha
  ·exact nd.2.2.2 a ha b hb
 ·exact ((hD b).mp z).elim (fun q=>hlt b o' (x.g b o' e).2.2.1 q) (x.g b o' e).2.1
 ·exact ((hD b).mp z).elim (fun q=>hlt b o' (x.rf b o' e).2 q) (x.rf b o' e).1
 ·obtain ⟨v,hv⟩:=x.cells c hc;exact ⟨v,hv.keeps k⟩
 ·rcases List.mem_cons.mp hp with rfl | hp
  ·exact ⟨o,Heap.get?_push_size _ hf,fun V' hV=>hP V' (kv.trans hV)⟩
  ·obtain ⟨o',ho',hP'⟩:=x.opens p hp
   exact ⟨o',k _ _ ho',fun V' hV=>hP' V' (kv.trans hV)⟩
 ·obtain ⟨m,hm,sl⟩:=x.slots
  exact ⟨m,hm.keeps k,fun k' y kind d h1 h2=>(sl k' y kind d h1 h2).mono kv (fun c o' _ e=>k _ _ e) fun _ _ e=>e⟩
inductive OmDel:Om->Addr->(PH->Obj->Prop)->Om->Prop
 | here {a:Addr} {P:PH->Obj->Prop} {om:Om}:OmDel ((a,P)::om) a P om
 | there {a:Addr} {P:PH->Obj->Prop} {om om':Om} {q:Addr×(PH->Obj->Prop)}:OmDel om a P om'->OmDel (q::om) a P (q::om')
theorem OmDel.perm {a:Addr} {P:PH->Obj->Prop} (h:OmDel om a P om'):om.Perm ((a,P)::om'):=by
 induction h with
 | here=>exact List.Perm.refl _
 | there _ ih=>exact (List.Perm.cons _ ih).trans (List.Perm.swap _ _ _)
noncomputable def EvX (prog:Program) (w:World) (F:Fn) (sig:List (Option AV)) (om:Om) (e:Expr) (P:AV->Om->Prop):Prop :=
 ∀ (R:PH) (tau:List (Value×AV)) (s:Shared) (Q:Value->Shared->Prop) (E:Value->Shared->Prop),Sta F R sig om tau s ->
  (∀ v d om' s',P d om'->Sta F R sig om' ((v,d)::tau) s'->Q v s')->wpAny (model prog w) F.A (eval e F.env) Q E s
theorem Wl {e:Expr} {d:AV} {P:AV->Om->Prop} (h:Ev prog w F sig om e d) (hp:P d om):EvX prog w F sig om e P:=fun R tau s Q E x hq=>h R tau s Q E x fun v s' x'=>hq v d om s' hp x'
theorem Yn (ok:F.Ok) {es:List Expr} {pos:Pos} {ds:List AV} {P:AV->Om->Prop} (h:EvL prog w F sig om es ds) (hsz:ds.length≤sizeLine) (hp:∀ a,F.n₀≤a->P (.ptr a) ((a,Zc ds)::om)):EvX prog w F sig om (.List es pos) P:=fun R tau s Q E x hq =>
 wpAny_List (h pos R tau s _ _ x fun vs s₁ hl x₁=>by
  obtain ⟨r,x₂⟩:=x₁.zip hl
  refine ⟨by rw[hl];exact hsz,hq _ _ _ _ (hp s₁.heap.objs.size ?_) ((x₂.openNew ok _ rfl ?_).push (by rfl))⟩
  ·exact Nat.not_lt.mp (x₂.fresh ok (le_refl _)).2
  ·exact fun V' hV=>⟨_,_,rfl,r.mono hV⟩)
noncomputable def RV (prog:Program) (w:World) (F:Fn) (sig:List (Option AV)) (om:Om) (es:List Expr) (P:List AV->Om->Prop):Prop :=
 ∀ (pos:Pos) (R:PH) (tau:List (Value×AV)) (s:Shared) (Q:List Value->Shared->Prop) (E:Value->Shared->Prop),Sta F R sig om tau s ->
  (∀ vs ds om' s',P ds om'->vs.length=ds.length->Sta F R sig om' ((vs.zip ds).reverse++tau) s'->Q vs s')->wpAny (model prog w) F.A (spliced (backTo pos (starEach es F.env))) Q E s
theorem XU {P:List AV->Om->Prop} (hp:P [] om):RV prog w F sig om [] P:=fun pos R tau s Q E st h=>wpAny_items_nil (h _ _ _ _ hp rfl (by simpa using st))
theorem Yo {e:Expr} {es:List Expr} {P₁:AV->Om->Prop} {P:List AV->Om->Prop} (h₁:EvX prog w F sig om e P₁) (h₂:∀ d om',P₁ d om'->RV prog w F sig om' es fun ds om''=>P (d::ds) om'')
  (he:starEach (e::es) F.env=(false,eval e F.env)::starEach es F.env:=by rfl):RV prog w F sig om (e::es) P:=fun pos R tau s Q E st h =>
 wpAny_items_cons (h₁ R tau s _ _ st fun v d om' s₁ hp st₁=>h₂ d om' hp pos R _ _ _ _ st₁ fun vs ds om'' s₂ hp' hl st₂=>h _ _ _ _ hp' (by simp[hl]) (by simpa using st₂)) he
theorem Ul (ok:F.Ok) {es:List Expr} {k:Nat} {pos:Pos} {P:AV->Om->Prop} (h:RV prog w F sig om es fun ds om'=>ds.length≤sizeLine∧P (.tup ds) om'):EvX prog w F sig om (.Tuple es k pos) P:=fun R tau s Q E x hq =>
 wpAny_Tuple (h pos R tau s _ _ x fun vs ds om' s₁ hp hl x₁=>by
  obtain ⟨r,x₂⟩:=x₁.zip hl
  exact ⟨by rw[hl];exact hp.1,hq _ _ _ _ hp.2 (x₂.newTup ok (le_refl _) (fun _ _ e=>Heap.get?_push_of_some _ e) (Heap.get?_push_size _ rfl) r)⟩)
theorem Pn (ok:F.Ok) {x:Str} {p pos:Pos} {e:Expr} {k:Nat} {P:AV->Om->Prop} (a:Xc F x k) (h:EvX prog w F sig om e P)
  (hs:swapsWith e (some (.Name x p)) pos.line F.env=pure false:=by rfl):Ex1 prog w F sig om (.Assign [.Name x p] e pos) (fun o=>∃ d om',P d om'∧o=.nxt (sig.set k (some d)) om'):=fun R tau s Q E st hq =>
 wpAny_Assign_Name (h R tau s _ _ st fun v d om' s' hp st'=>Xu ok a st' st'.top fun s'' st''=>hq _ _ _ ⟨d,om',hp,rfl⟩ st''.pop) hs
theorem Yp {ts:List Expr} {k:Nat} {tp pos:Pos} {e:Expr} {P:AV->Om->Prop} {P':Out->Prop} (h:EvX prog w F sig om e P) (a:∀ d om',P d om'->∃ sig',As prog w F om' (.Tuple ts k tp) d sig sig'∧P' (.nxt sig' om'))
  (hs:swapsWithSole [.Tuple ts k tp] e pos.line F.env=pure false:=by rfl) (hw:swappedStores [.Tuple ts k tp] e F.env=pure none:=by rfl):Ex1 prog w F sig om (.Assign [.Tuple ts k tp] e pos) P':=fun R tau s Q E st hq =>
 Assign_Tuple (h R tau s _ _ st fun v d om' s' hp st'=>by
  obtain ⟨sig',as,hp'⟩:=a d om' hp
  exact as R tau v s' _ _ st' fun s'' st''=>hq _ _ _ hp' st''.pop) hs hw
end
end
section
section
variable {prog:Program} {w:World} {F:Fn} {R:PH} {sig sig':List (Option AV)} {om om':Om} {tau:List (Value×AV)} {s:Shared}
theorem Sta.openList (x:Sta F R sig om tau s) {a:Addr} {l:List AV} (h:(a,Zc l)∈om):∃ vs n,IsL s.heap a vs n∧Zn (F.view R om s.heap) l vs.toList∧vs.size=l.length:=by
 obtain ⟨o,ho,hP⟩:=x.opens _ h
 obtain ⟨vs,n,rfl,r⟩:=hP _ (PH.le.refl _)
 exact ⟨vs,n,ho,r,by have:=r.length;simpa using this⟩
theorem Zc.upd {V:PH} {l:List AV} {vs:Array Value} {n:Nat} (r:Zn V l vs.toList):∀ V',V.le V'->Zc l V' { cls:=.type "list",data:=.seq vs n }:=fun V' hV=>⟨vs,n,rfl,r.mono hV⟩
theorem W6 {h:Heap} {a:Addr} {vs:Array Value} {n:Nat} (hl:IsL h a vs n) (f:Array Value->Array Value):∃ n',(h.update a (Obj.mapSeq f)).get? a=some { cls:=.type "list",data:=.seq (f vs) n' }:=⟨_,hl.update f⟩
theorem RW {a:Addr} {vs:Array Value} {n:Nat} {pl:Sem Bool} (hl:IsL s.heap a vs n) {Q:Value×List Value->Shared->Prop} {E:Value->Shared->Prop} (h:Q (.builtin "list.append",[.ref a]) s):wpAny (model prog w) F.A (getMethod (.ref a) "append" pl) Q E s :=
 Calls.getMethod_list_append hl rfl rfl h
theorem Um:typeOf (.builtin "list.extend")=pure (.type "method_descriptor"):=by first | kernel_rfl | rfl
theorem Sb:typeOf (.builtin "list.pop")=pure (.type "method_descriptor"):=by first | kernel_rfl | rfl
theorem RX {a:Addr} {vs:Array Value} {n:Nat} {pl:Sem Bool} (hl:IsL s.heap a vs n) {Q:Value×List Value->Shared->Prop} {E:Value->Shared->Prop} (h:Q (.builtin "list.extend",[.ref a]) s):wpAny (model prog w) F.A (getMethod (.ref a) "extend" pl) Q E s :=
 getMethod_list_of PySem.F.slot_list_extend Um hl.isList ⟨_,hl,rfl⟩ h
theorem LR {a:Addr} {vs:Array Value} {n:Nat} {pl:Sem Bool} (hl:IsL s.heap a vs n) {Q:Value×List Value->Shared->Prop} {E:Value->Shared->Prop} (h:Q (.builtin "list.pop",[.ref a]) s):wpAny (model prog w) F.A (getMethod (.ref a) "pop" pl) Q E s :=
 getMethod_list_of PySem.F.slot_list_pop Sb hl.isList ⟨_,hl,rfl⟩ h
theorem ZE (ok:F.Ok) {o e:Expr} {apos pos:Pos} {a:Addr} {l:List AV} {d:AV} {P:AV->Om->Prop} (h₁:Ev prog w F sig om o (.ptr a)) (h₂:Ev prog w F sig om e d) (u:OmUpd om a (Zc l) (Zc (l++[d])) om') (hsz:l.length≤sizeLine) (hp:P .none om')
  (pl:Sem Bool) (he:eval (.Call (.Attribute o "append" apos) [e] [] pos) F.env=(do
   let ov <-eval o F.env
   standAt apos.atName
   let (f,first) <-holding [ov] (getMethod ov "append" pl)
   callWith pos f first (backTo pos (starEach [e] F.env)) []):=by rfl)
  (hs:backTo pos (starEach [e] F.env)=[(false,eval e F.env)]:=by rfl):EvX prog w F sig om (.Call (.Attribute o "append" apos) [e] [] pos) P:=fun R tau s Q E st hq=>by
 refine MethodCall_ (pl:=pl) (h₁ R tau s _ _ st fun v s₁ st₁=>?_) he
 have h1:=st₁.top
 subst h1
 obtain ⟨vs,n,hl,r,e1⟩:=st₁.openList u.mem
 refine RW hl ?_
 dsimp only
 rw[hs]
 refine PySem.P.append_list (h₂ R tau s₁ _ _ st₁.pop fun v s₂ st₂=>?_)
 obtain ⟨vs₂,n₂,hl₂,r₂,e₂⟩:=st₂.openList u.mem
 refine ⟨vs₂,n₂,by lia,hl₂,?_⟩
 obtain ⟨n',ho'⟩:=W6 hl₂ fun xs=>xs.push v
 have hsb:Heap.SameBut a s₂.heap (s₂.heap.update a (Obj.mapSeq fun xs=>xs.push v)):=Heap.SameBut.update ..
 refine hq _ _ _ _ hp ((st₂.pop.upd (tk:=s₂.toks) u hsb ho' (Zc.upd ?_)).push Xj)
 have kv:=Ym (F:=F) (R:=R) (om:=om) u.inD hsb
 rw[Array.toList_push]
 exact (r₂.mono kv).append (.cons (st₂.top.mono kv) .nil)
theorem Yj (ok:F.Ok) {o e:Expr} {apos pos:Pos} {a:Addr} {l l':List AV} {P:AV->Om->Prop} (h₁:Ev prog w F sig om o (.ptr a)) (h₂:Ev prog w F sig om e (.lst l')) (u:OmUpd om a (Zc l) (Zc (l++l')) om') (hsz:l.length+l'.length≤1000000) (hp:P .none om')
  (pl:Sem Bool) (he:eval (.Call (.Attribute o "extend" apos) [e] [] pos) F.env=(do
   let ov <-eval o F.env
   standAt apos.atName
   let (f,first) <-holding [ov] (getMethod ov "extend" pl)
   callWith pos f first (backTo pos (starEach [e] F.env)) []):=by rfl)
  (hs:backTo pos (starEach [e] F.env)=[(false,eval e F.env)]:=by rfl):EvX prog w F sig om (.Call (.Attribute o "extend" apos) [e] [] pos) P:=fun R tau s Q E st hq=>by
 refine MethodCall_ (pl:=pl) (h₁ R tau s _ _ st fun v s₁ st₁=>?_) he
 have h1:=st₁.top
 subst h1
 obtain ⟨vs,n,hl,r,e1⟩:=st₁.openList u.mem
 refine RX hl ?_
 dsimp only
 rw[hs]
 refine PySem.P.extend_list (h₂ R tau s₁ _ _ st₁.pop fun v s₂ st₂=>?_)
 obtain ⟨vs₂,n₂,hl₂,r₂,e₂⟩:=st₂.openList u.mem
 have h2:=st₂.top
 obtain ⟨b,vs',n',rfl,o',r'⟩:=h2
 have e':=r'.length
 simp only[length_toList] at e'
 have hs1:(1000000:Nat)≤sizeLine:=by decide
 refine ⟨b,vs₂,vs',n₂,n',by lia,by lia,?_,rfl,hl₂,st₂.vget o',?_⟩
 ·unfold Builtin.List.listTooLong
  simp only[Bool.and_eq_true,Bool.not_eq_true,not_and,decide_eq_true_eq]
  intro _
  first
   | lia
   | (simp only[decide_eq_false_iff_not];lia)
 obtain ⟨n',ho'⟩:=W6 hl₂ fun xs=>xs++vs'
 have hsb:Heap.SameBut a s₂.heap (s₂.heap.update a (Obj.mapSeq fun xs=>xs++vs')):=Heap.SameBut.update ..
 refine hq _ _ _ _ hp ((st₂.pop.upd (tk:=s₂.toks) u hsb ho' (Zc.upd ?_)).push Xj)
 have kv:=Ym (F:=F) (R:=R) (om:=om) u.inD hsb
 rw[Array.toList_append]
 exact (r₂.mono kv).append (r'.mono kv)
theorem LS {e:Expr} {pos:Pos} {P:AV->Om->Prop} (h:EvX prog w F sig om e P) (hi:interactive F.env=false:=by rfl) (hs:swapsWith e none pos.line F.env=pure false:=by rfl) :
  Ex1 prog w F sig om (.Expr e pos) (fun o=>∃ d om',P d om'∧o=.nxt sig om'):=fun R tau s Q E st hq =>
 wpAny_Expr_any (h R tau s _ _ st fun v d om' s' hp st'=>hq _ _ _ ⟨d,om',hp,rfl⟩ st'.pop) hi hs
theorem Hm (ok:F.Ok) {o:Expr} {apos pos:Pos} {a:Addr} {l:List AV} {d:AV} {P:AV->Om->Prop} (h₁:Ev prog w F sig om o (.ptr a)) (u:OmUpd om a (Zc (l++[d])) (Zc l) om') (hsz:l.length+1≤sizeLine) (hp:P d om')
  (pl:Sem Bool) (he:eval (.Call (.Attribute o "pop" apos) [] [] pos) F.env=(do
   let ov <-eval o F.env
   standAt apos.atName
   let (f,first) <-holding [ov] (getMethod ov "pop" pl)
   callWith pos f first (backTo pos (starEach [] F.env)) []):=by rfl)
  (hs:backTo pos (starEach [] F.env)=[]:=by rfl):EvX prog w F sig om (.Call (.Attribute o "pop" apos) [] [] pos) P:=fun R tau s Q E st hq=>by
 refine MethodCall_ (pl:=pl) (h₁ R tau s _ _ st fun v s₁ st₁=>?_) he
 have h1:=st₁.top
 subst h1
 obtain ⟨vs,n,hl,r,e1⟩:=st₁.openList u.mem
 refine LR hl ?_
 dsimp only
 rw[hs]
 rw[length_append,length_singleton] at e1
 obtain ⟨y,hy,ry⟩:=r.get (i:=l.length) (d:=d) (by simp)
 refine PySem.P.pop_list (y:=y) hl (by rw[e1];simpa using hy) ?_ (by lia)
 obtain ⟨n',ho'⟩:=W6 hl fun xs=>xs.eraseIdxIfInBounds (vs.size-1)
 have hsb:Heap.SameBut a s₁.heap (s₁.heap.update a (Obj.mapSeq fun xs=>xs.eraseIdxIfInBounds (vs.size-1))):=Heap.SameBut.update ..
 have kv:=Ym (F:=F) (R:=R) (om:=om) u.inD hsb
 refine hq _ _ _ _ hp ((st₁.pop.upd (tk:=s₁.toks) u hsb ho' (Zc.upd ?_)).push ?_)
 ·have:(vs.eraseIdxIfInBounds (vs.size-1)).toList=vs.toList.take l.length:=by
   obtain ⟨vl⟩:=vs
   have e2:vl.length=l.length+1:=e1
   show (Array.eraseIdxIfInBounds ⟨vl⟩ (vl.length-1)).toList=vl.take l.length
   rw[show vl.length-1=l.length by lia]
   rw[Array.eraseIdxIfInBounds,dif_pos (show l.length<(Array.mk vl).size by show l.length<vl.length;lia),Array.toList_eraseIdx]
   show vl.eraseIdx l.length=vl.take l.length
   rw[List.eraseIdx_eq_take_drop_succ,List.drop_of_length_le (by lia),append_nil]
  rw[this]
  have:=(r.mono kv).take l.length
  rw[List.take_left'  rfl] at this
  exact this
 ·rw[u.view];exact ry.mono kv
theorem Mr {value slice:Expr} {a:Addr} {l:List AV} {k:Int} {d:AV} (hm:(a,Zc l)∈om) (hn:W3 slice) (h0:0≤k) (hk:k<2 ^ 63) (hd:l[k.toNat]?=some d):Op2 prog w F om (subscriptTail value slice) (.ptr a) (.int k) d:=fun R sig tau v₁ v₂ s Q E st h=>by
 have h1:=st.top2;have h2:=st.top
 subst h1
 obtain ⟨t,rfl⟩:=h2
 obtain ⟨vs,n,hl,r,e1⟩:=st.openList hm
 obtain ⟨v,hv,rv⟩:=r.get hd
 exact tail_any hl.isList.typeIs slot_list_getitem.lookup (wpAny_getItem_list hl.isList h0 hk (by simpa using hv) (h _ _ (st.pop.pop.push rv))) (hn _ _)
theorem Vn {value slice:Expr} {a:Addr} {l:List AV} {k:Int} {d:AV} (hm:(a,Zc l)∈om) (hn:W3 slice) (h0:k<0) (h1:-(l.length:Int)≤k) (hk:-(2 ^ 63)≤k) (hd:l[(k+l.length).toNat]?=some d) :
  Op2 prog w F om (subscriptTail value slice) (.ptr a) (.int k) d:=fun R sig tau v₁ v₂ s Q E st h=>by
 have q1:=st.top2;have q2:=st.top
 subst q1
 obtain ⟨t,rfl⟩:=q2
 obtain ⟨vs,n,hl,r,e1⟩:=st.openList hm
 obtain ⟨v,hv,rv⟩:=r.get hd
 exact tail_any hl.isList.typeIs slot_list_getitem.lookup (wpAny_getItem_list_neg hl.isList h0 (by rw[e1];exact h1) hk (by rw[e1];simpa using hv) (h _ _ (st.pop.pop.push rv))) (hn _ _)
theorem c_len_open {a:Addr} {l:List AV} (hm:(a,Zc l)∈om) (hl:l.length<2 ^ 62):OpC prog w F om (.builtin "len") [.ptr a] (.int l.length):=fun R sig tau vs s Q E hv st h=>by
 obtain ⟨v,rfl,st⟩:=Wk hv st
 have h1:=st.top
 subst h1
 obtain ⟨vs,n,hl',r,e1⟩:=st.openList hm
 refine Calls.call_len_list (items:=vs) hl'.isList (by lia) ?_
 rw[e1]
 exact h _ _ (st.pop.tok2.push ZR)
theorem LT {a:Addr} {l:List AV} (hm:(a,Zc l)∈om) (hl:l.length<2 ^ 62):Tru prog w F om (.ptr a) (!l.isEmpty):=fun R sig tau v₁ s Q E st h=>by
 have h1:=st.top
 subst h1
 obtain ⟨vs,n,hl',r,e1⟩:=st.openList hm
 refine wpAny_truthy_list hl'.isList (by lia) ?_
 have:(!vs.isEmpty)=(!l.isEmpty):=by
  cases l with
  | nil=>simp at e1;subst e1;rfl
  | cons d l =>
   have:vs.isEmpty=false:=by
    cases q:vs.isEmpty with
    | false=>rfl
    | true=>rw[Array.isEmpty_iff] at q;subst q;simp at e1
   rw[this];rfl
 rw[this]
 exact h _ st.pop.tok2
end
end
section
noncomputable def ext (G:PH) (n:Nat) (h':Heap):PH:=fun b=>if b<n then G b else h'.get? b
structure Room (A:Around) (n:Nat):Prop where
 handled:A.handled=none
 depth:A.depth+n≤600
 units:A.units+20*n≤5000
theorem Room.mono {A:Around} {n m:Nat} (h:Room A n) (hm:m≤n):Room A m:=⟨h.handled,Nat.le_trans (add_le_add_left hm _) h.depth,Nat.le_trans (add_le_add_left (mul_le_mul_left 20 hm) _) h.units⟩
theorem Room.deeper {A:Around} {n:Nat} (h:Room A (n+1)) (env:Env):Room (A.deeper env) n :=
 ⟨h.handled,(add_right_comm A.depth 1 n).symm▸h.depth,Nat.le_trans (le_of_eq (add_assoc A.units 3 _)) (Nat.le_trans (add_le_add_left (Nat.le_trans (add_le_add_right (show 3≤20 by decide) (20*n)) (le_of_eq (add_comm 20 (20*n)))) _) h.units)⟩
theorem Room.le {A:Around} {n:Nat} (h:Room A n):A.depth≤600∧A.units≤5000:=⟨Nat.le_trans (Nat.le_add_right _ _) h.depth,Nat.le_trans (Nat.le_add_right _ _) h.units⟩
theorem Room.lim {A:Around} {n:Nat} (h:Room A n):A.depth<recursionLimit:=lt_of_le_of_lt h.le.1 (by decide)
noncomputable def WJ (prog:Program) (w:World) (B:PH->Prop) (n:Nat) (f:Value) (ds:List AV) (d:AV):Prop :=
 ∀ (A:Around) (G:PH) (s:Shared) (vs:List Value) (Q:Value->Shared->Prop) (E:Value->Shared->Prop),Room A n->B G->W2 G s.heap->Zn G ds vs ->
  (∀ v h' tk,(∀ b o,s.heap.get? b=some o->h'.get? b=some o)->Rep (ext G s.heap.objs.size h') d v->Q v { s with heap:=h',toks:=tk })->wpAny (model prog w) A (call f vs) Q E s
noncomputable def WK (prog:Program) (w:World) (B:PH->Prop) (n:Nat) (f:Value) (ds:List AV) (d:AV):Prop :=
 ∀ (A:Around) (G:PH) (s:Shared) (vs:List Value) (Q:Value->Shared->Prop) (E:Value->Shared->Prop),Room A n->B G->W2 G s.heap->Zn G ds vs ->
  (∀ v h' tk,(∀ b o,s.heap.get? b=some o->h'.get? b=some o)->Rep (ext G s.heap.objs.size h') d v->Q v { s with heap:=h',toks:=tk }) ->
  codeAny (model prog w) A (.call f ⟨vs,[]⟩) (fun r s'=>match r with | .ok (.ret v)=>Q v s' | .ok _=>False | .error e=>E e s') s
theorem WK.fn {prog:Program} {w:World} {B:PH->Prop} {n:Nat} {f:Value} {ds:List AV} {d:AV} (h:WK prog w B n f ds d):WJ prog w B n f ds d:=fun A G s vs Q E hr hB hG r hq=>wpAny_call (h A G s vs Q E hr hB hG r hq)
section
variable {prog:Program} {w:World} {F:Fn} {R:PH} {sig sig':List (Option AV)} {om om':Om} {tau:List (Value×AV)} {s:Shared}
theorem Fn.G_view (x:Sta F R sig om tau s):F.G.le (F.view R om s.heap):=fun b o e=>by
 obtain ⟨h1,h2,h3,h4⟩:=x.g b o e
 unfold Fn.view
 rw[if_neg (by rw[h4];simpa using h2),if_pos h1]
 exact e
set_option tactic.hygienic true in
theorem Rf (ok:F.Ok) {B:PH->Prop} {n:Nat} {f:Value} {ds:List AV} {d:AV} (hB:B F.G) (mono:∀ V V',V.le V'->B V->B V') (room:Room F.A n) (h:WJ prog w B n f ds d):OpC prog w F om f ds d:=fun R sig tau vs s Q E hv st hq=>by
 obtain ⟨r,st'⟩:=st.zip hv
 refine h F.A (F.view R om s.heap) s vs _ _ room (mono _ _ (Fn.G_view st') hB) st'.viewIn r fun v h' tk k rv=>?_
 refine hq _ _ ((st'.grow k).push (rv.mono fun b o e=>?_))
 unfold ext at e
 split at e
 ·exact F.view_grow k b o e
 ·rename_i hlt
  exact st'.new_view ok (Nat.not_lt.mp hlt) e
noncomputable def YO (names:List (Str×NameKind)) (ps:List Str) (ds:List AV):List (Option AV):=names.map fun x=>(ps.zip ds).lookup x.1
theorem Vt {x:Str} {d:AV}:∀ {ps:List Str} {ds:List AV},(ps.zip ds).lookup x=some d->∃ j:Nat,ps[j]?=some x∧ds[j]?=some d
 | [],_,h=>by simp at h
 | _::_,[],h=>by simp at h
 | p::ps,d'::ds,h=>by
  rw[List.zip_cons_cons,lookup_cons] at h
  cases q:x==p with
  | true=>rw[q] at h;simp only[Option.some.injEq] at h;subst h;exact ⟨0,by simp[beq_iff_eq.mp q],rfl⟩
  | false =>
   rw[q] at h
   obtain ⟨j,h1,h2⟩:=Vt h
   exact ⟨j+1,by simpa using h1,by simpa using h2⟩
theorem Vc {kindOf:Str->Option NameKind} {x:Str}:∀ {binds:List (Str×Value)} {m:Str->Option Value},x∉binds.map (·.1)->bindL kindOf binds m x=m x∧bindC kindOf binds m x=m x
 | [],m,_=>⟨rfl,rfl⟩
 | (n,v)::r,m,h=>by
  simp only[map_cons,mem_cons,not_or] at h
  unfold bindL bindC
  refine ⟨(Vc h.2).1.trans ?_,(Vc h.2).2.trans ?_⟩
  ·split
   ·simp[h.1]
   ·rfl
  ·split
   ·rfl
   ·simp[h.1]
theorem Rg {kindOf:Str->Option NameKind} {x:Str} {v:Value}:∀ {binds:List (Str×Value)} {m m':Str->Option Value} {j:Nat},(binds.map (·.1)).Nodup->binds[j]?=some (x,v) ->
  (kindOf x=some .local->bindL kindOf binds m x=some v)∧(kindOf x=some .cell->bindC kindOf binds m' x=some v)
 | [],_,_,_,_,h=>by simp at h
 | (n,u)::r,m,m',0,hn,h=>by
  simp only[List.getElem?_cons_zero,Option.some.injEq,Prod.mk.injEq] at h
  obtain ⟨rfl,rfl⟩:=h
  rw[map_cons,nodup_cons] at hn
  unfold bindL bindC
  refine ⟨fun hk=>(Vc hn.1).1.trans ?_,fun hk=>(Vc hn.1).2.trans ?_⟩
  ·rw[if_pos hk];simp
  ·rw[if_neg (by rw[hk];decide)];simp
 | (n,u)::r,m,m',j+1,hn,h=>by
  rw[map_cons,nodup_cons] at hn
  simp only[List.getElem?_cons_succ] at h
  unfold bindL bindC
  exact Rg hn.2 h
theorem XV:∀ (names:List (Str×NameKind)) (n:Nat) (acc:List (Str×Addr)),(cellsFrom n names acc).map (·.1)=((names.filter fun x=>x.2==.cell).map (·.1)).reverse++acc.map (·.1)
 | [],_,_=>rfl
 | (x,k)::r,n,acc=>by
  rw[show cellsFrom n ((x,k)::r) acc=if k==.cell then cellsFrom (n+1) r ((x,n)::acc) else cellsFrom n r acc from rfl]
  by_cases hk:(k==.cell)=true
  ·rw[if_pos hk,XV r,List.filter_cons_of_pos (by simpa using hk)]
   simp
  ·rw[if_neg hk,XV r,List.filter_cons_of_neg (by simpa using hk)]
theorem XA {x:Str} {c:Addr}:∀ {l:List (Str×Addr)},(l.map (·.1)).Nodup->(x,c)∈l->l.lookup x=some c
 | [],_,h=>nomatch h
 | (y,d)::r,hn,h=>by
  rw[map_cons,nodup_cons] at hn
  rw[lookup_cons]
  rcases List.mem_cons.mp h with e | h
  ·cases e;simp
  ·have:(x==y)=false:=by
    simp only[beq_eq_false_iff_ne,ne_eq]
    intro e
    exact hn.1 (List.mem_map.mpr ⟨(x,c),h,e⟩)
   rw[this]
   exact XA hn.2 h
noncomputable def Zd (fd:FuncData) (f:Addr) (A:Around) (G:PH) (s:Shared):Fn :=
 ⟨callEnvC fd s.heap.objs.size f,G,s.heap.objs.size,(callEnvC fd s.heap.objs.size f).cells.map (·.2),s,A.deeper (callEnvC fd s.heap.objs.size f)⟩
noncomputable def hid (G:PH) (h:Heap):PH:=fun b=>if (G b).isSome then none else h.get? b
theorem RY {G:PH} {h:Heap} {b:Addr} {o:Obj} (e:G b=some o):hid G h b=none:=by unfold hid;rw[e];rfl
theorem N6 {G:PH} {h:Heap} {b:Addr} {o:Obj} (e:hid G h b=some o):h.get? b=some o:=by
 unfold hid at e
 split at e
 ·cases e
 ·exact e
structure DefOk (fd:FuncData) (ps:List Str):Prop where
 kind:fd.scope.kind=.function
 names:(fd.scope.names.map (·.1)).Nodup
 nofree:∀ y∈fd.scope.names,y.2≠.free
 nodup:ps.Nodup
 pk:∀ x∈ps,fd.scope.names.lookup x=some .local∨fd.scope.names.lookup x=some .cell
theorem U3 {fd:FuncData} {ps:List Str} (ok:DefOk fd ps) {n f:Addr}:((callEnvC fd n f).cells.map (·.1)).Nodup:=by
 show ((cellsFrom (n+1) fd.scope.names []).map (·.1)).Nodup
 rw[XV]
 simp only[List.map_nil,append_nil]
 rw[List.reverse_perm _ |>.nodup_iff]
 exact (ok.names.sublist ((List.filter_sublist).map _))
theorem LU {fd:FuncData} {ps:List Str} (ok:DefOk fd ps) {f:Addr} {A:Around} {G:PH} {s:Shared} {n:Nat} (hr:Room A (n+1)) (ap:(callEnvC fd s.heap.objs.size f).cells.Pairwise fun x y=>x.2≠y.2)
  (ab:∀ n c,(n,c)∈(callEnvC fd s.heap.objs.size f).cells->s.heap.objs.size<c):(Zd fd f A G s).Ok:=by
 have hr':=hr.deeper (callEnvC fd s.heap.objs.size f)
 refine ⟨ok.kind,hr'.handled,hr'.le.1,hr'.le.2,ok.names,le_refl _,fun c hc=>?_,fun x c h1 _ y h2=>name_of_addr ap (mem_of_lookup h1) (mem_of_lookup h2)⟩
 obtain ⟨⟨n,c'⟩,h1,h2⟩:=List.mem_map.mp hc
 cases h2
 exact le_of_lt (ab n _ h1)
theorem Ms {fd:FuncData} {f:Addr} {A:Around} {G:PH} {s s₁:Shared} {vs:List Value} {ds:List AV} {ps:List Str} (ok:DefOk fd ps)
  (hG:W2 G s.heap) (r:Zn G ds vs) (hlen:ps.length=ds.length)
  (x:InCallC s (callEnvC fd s.heap.objs.size f).locals (bindL (callEnvC fd s.heap.objs.size f).kindOf (ps.zip vs) fun _=>none) (callEnvC fd s.heap.objs.size f).cells (bindC (callEnvC fd s.heap.objs.size f).kindOf (ps.zip vs) fun _=>none) s₁) :
  Sta (Zd fd f A G s) (hid G s.heap) (YO fd.scope.names ps ds) [] [] s₁:=by
 have hvl:=r.length
 have ab:∀ n c,(n,c)∈(callEnvC fd s.heap.objs.size f).cells->s.heap.objs.size<c:=x.above
 have hm:∀ c∈(callEnvC fd s.heap.objs.size f).cells.map (·.2),∃ n,(n,c)∈(callEnvC fd s.heap.objs.size f).cells:=fun c hc=>by
  obtain ⟨⟨n,c'⟩,h1,h2⟩:=List.mem_map.mp hc
  cases h2
  exact ⟨n,h1⟩
 have notD:∀ b,b<s.heap.objs.size->b∉(Zd fd f A G s).D []:=fun b hb h=>by
  unfold Fn.D at h
  simp only[List.map_nil,append_nil,mem_cons] at h
  rcases h with h | h
  ·have:b=s.heap.objs.size:=h
   exact lt_irrefl _ (this▸hb)
  ·obtain ⟨n,hn⟩:=hm b h
   exact lt_irrefl _ (lt_trans (ab n b hn) hb)
 have kv:G.le ((Zd fd f A G s).view (hid G s.heap) [] s₁.heap):=fun b o e=>by
  have hb:b<s.heap.objs.size:=Heap.lt_size (hG _ _ e)
  unfold Fn.view
  rw[if_neg (by rw[RY e];simpa using notD b hb),if_pos (show b<(Zd fd f A G s).n₀ from hb)]
  exact e
 refine ⟨x.toInCall.same,?_,fun b o e=>⟨Heap.lt_size (hG _ _ e),notD b (Heap.lt_size (hG _ _ e)),x.toInCall.keep _ _ (hG _ _ e),RY e⟩,fun b o e=>⟨notD b (Heap.lt_size (N6 e)),x.toInCall.keep _ _ (N6 e)⟩,fun c hc=>?_,fun p hp=>(nomatch hp),fun p hp=>(nomatch hp),?_⟩
 ·unfold Fn.D
  simp only[List.map_nil,append_nil]
  rw[nodup_cons]
  refine ⟨fun h=>?_,?_⟩
  ·obtain ⟨n,hn⟩:=hm _ h
   exact lt_irrefl _ (ab n _ hn)
  ·show ((callEnvC fd s.heap.objs.size f).cells.map (·.2)).Nodup
   rw[List.nodup_iff_pairwise_ne,List.pairwise_map]
   exact x.apart
 ·obtain ⟨n,hn⟩:=hm c hc
  exact ⟨_,x.cell n c (XA (U3 ok) hn)⟩
 ·refine ⟨_,x.toInCall.ns,fun k y kind d h1 h2=>?_⟩
  have h1':fd.scope.names[k]?=some (y,kind):=h1
  unfold YO at h2
  rw[getElem?_map,h1'] at h2
  simp only[Option.map_some,Option.some.injEq] at h2
  obtain ⟨j,hj1,hj2⟩:=Vt h2
  obtain ⟨v,hv,rv⟩:=r.get hj2
  have hb:(ps.zip vs)[j]?=some (y,v):=by
   rw[List.getElem?_zip_eq_some];exact ⟨hj1,hv⟩
  have hnd:((ps.zip vs).map (·.1)).Nodup:=by
   rw[List.map_fst_zip (by lia)];exact ok.nodup
  have hkind:(callEnvC fd s.heap.objs.size f).kindOf y=some kind:=Y8 ok.names h1'
  have hb2:=Rg (kindOf:=(callEnvC fd s.heap.objs.size f).kindOf) (m:=fun _=>none) (m':=fun _=>none) hnd hb
  have hkd:kind=.local∨kind=.cell:=by
   have:fd.scope.names.lookup y=some kind:=hkind
   rcases ok.pk y (mem_of_getElem? hj1) with q | q<;>rw[this] at q<;>cases q
   ·exact .inl rfl
   ·exact .inr rfl
  rcases hkd with rfl | rfl
  ·exact .loc (hb2.1 hkind) (rv.mono kv)
  ·obtain ⟨c,hc⟩:=Option.isSome_iff_exists.mp (cellsFrom_some (x:=y) fd.scope.names (s.heap.objs.size+1) [] (.inl hkind))
   have hc':(callEnvC fd s.heap.objs.size f).cells.lookup y=some c:=hc
   have hcell:=x.cell y c hc'
   rw[hb2.2 hkind] at hcell
   obtain ⟨o,ho,hd⟩:=hcell
   exact .cel hc' ho hd (rv.mono kv) (.inl (List.mem_map.mpr ⟨(y,c),mem_of_lookup hc',rfl⟩))
structure DefAt (fd:FuncData) (body:List Stmt) (f:Addr) (V:PH):Prop where
 obj:∃ o,V f=some o∧o.data=.func fd
 code:∃ c o vs t,fd.code=.ref c∧V c=some o∧o.data=.fields vs∧vs[1]?=some (.str fd.qualname t)
 lim:∃ o es ep,V cStatics=some o∧o.data=.dict es ep∧StrKeys es∧nsFind es "sys.recursionlimit" = none
 body:fd.body=.stmts body
 clo:fd.closure=[]
set_option tactic.hygienic true in
theorem XM {fd:FuncData} {body:List Stmt} {f:Addr} {ps:List Str} {ds:List AV} {d:AV} {n:Nat} {B:PH->Prop} (ok:DefOk fd ps) (hat:∀ V,B V->DefAt fd body f V) (hlen:ps.length=ds.length)
  (hbind:∀ vs:List Value,vs.length=ds.length->bindArgs fd ⟨vs,[]⟩=pure (ps.zip vs))
  (h:∀ (A:Around) (G:PH) (s:Shared),B G->Room (A.deeper (callEnvC fd s.heap.objs.size f)) n->(Zd fd f A G s).Ok->Ex prog w (Zd fd f A G s) (YO fd.scope.names ps ds) [] body fun o=>match o with | .ret d' _ _=>d'=d | .nxt _ _=>d=.none | _=>False)
  (hco:fd.scope.isCoroutine=false:=by rfl) (hgen:fd.scope.isGenerator=false:=by rfl):WK prog w B (n+1) (.ref f) ds d:=fun A G s vs Q E hr hB hG r hq=>by
 obtain ⟨⟨o,ho,hd⟩,⟨c,oc,cvs,t,hc1,hc2,hc3,hc4⟩,⟨ol,es,ep,hl1,hl2,hl3,hl4⟩,hbody,hclo⟩:=hat G hB
 have hvl:=r.length
 refine (codeAny_call_cells (fd:=fd) hr.lim (hG _ _ ho) hd ⟨_,⟨ol,es,ep,hG _ _ hl1,hl2,hl3,fun _=>rfl⟩,hl4⟩ ⟨c,oc,cvs,t,hc1,hG _ _ hc2,hc3,hc4⟩ hbody (hbind vs hvl) hclo (fun x hx=>?_) (fun s₁ x=>?_) hco hgen ok.kind)
 ·have hx':x.1∈ps:=by
   obtain ⟨i,hi,e⟩:=getElem_of_mem hx
   rw[getElem_zip] at e
   rw[<-e]
   exact getElem_mem _
  rcases ok.pk x.1 hx' with q | q
  ·exact .inl q
  ·exact .inr ⟨q,cellsFrom_some fd.scope.names _ [] (.inl q)⟩
 ·have fok:=LU ok hr x.apart x.above (G:=G)
  have st:=Ms (A:=A) ok hG r hlen x
  have fin:∀ (v:Value) (sig':List (Option AV)) (om':Om) (s':Shared),Sta (Zd fd f A G s) (hid G s.heap) sig' om' [(v,d)] s'->Q v s':=fun v sig' om' s' st'=>by
   have hsame:=st'.same
   obtain ⟨h',tk,rfl⟩:=hsame
   refine hq v h' tk (fun b ob e=>?_) (st'.top.mono fun b ob e=>?_)
   ·cases q:G b with
    | some og =>
     have:=hG _ _ q
     rw[e] at this;cases this
     exact (st'.g b _ q).2.2.1
    | none=>exact (st'.rf b ob (by unfold hid;rw[q];exact e)).2
   ·unfold ext
    have:=st'.vget e
    unfold Fn.view at e
    split at e
    ·cases e
    ·split at e
     ·rename_i hlt;rw[if_pos (show b<s.heap.objs.size from hlt)];exact e
     ·rename_i hlt;rw[if_neg (show ¬ b<s.heap.objs.size from hlt)];exact this
  refine h A G s hB (hr.deeper _) fok (hid G s.heap) [] s₁ _ _ st fun out fl s' ho hl=>?_
  cases out<;>cases fl<;>first | exact False.elim hl | change Sta _ _ _ _ _ _ at hl
  ·rename_i sig' om'
   obtain rfl:=ho
   exact fin _ sig' om' s' (hl.push Xj)
  ·exact ho.elim
  ·exact ho.elim
  ·rename_i d' sig' om' v
   obtain rfl:=ho
   exact fin v sig' om' s' hl
end
end
section
section
variable {prog:Program} {w:World} {F:Fn} {R:PH} {sig sig':List (Option AV)} {om om':Om} {tau:List (Value×AV)} {s:Shared}
theorem Sta.unhideBut {a:Addr} {o:Obj} (st:Sta F (R.put a o) sig om tau s) (hR:R a=none) (hc:¬ ∃ v,o.data=.cell v) {h':Heap} {tk:Nat} (hk:∀ b o,b≠a->s.heap.get? b=some o->h'.get? b=some o):Sta F R sig om tau { s with heap:=h',toks:=tk }:=by
 refine st.move (tk:=tk) (Fn.view_unput hk) (fun b ob e=>?_) (fun b ob e=>?_) (fun b ob hb e=>hk b ob (fun q=>?_) e) fun c ob e hcell=>?_
 ·have g:=(st.g b ob e)
  have hne:b≠a:=fun q=>by have:=g.2.2.2;rw[q,PH.put_self] at this;cases this
  refine ⟨hk _ _ hne g.2.2.1,?_⟩
  have:=g.2.2.2;rw[PH.put_ne hne] at this;exact this
 ·have hne:b≠a:=fun q=>by rw[q,hR] at e;cases e
  have:=st.rf b ob (by rw[PH.put_ne hne];exact e)
  exact ⟨this.1,hk _ _ hne this.2⟩
 ·subst q;exact (st.rf b o PH.put_self).1 hb
 ·by_cases q:c=a
  ·subst q
   rw[PH.put_self] at e;cases e
   exact absurd hcell hc
  ·rw[PH.put_ne q] at e;exact e
theorem N7 {F:Fn} {R:PH} {om:Om} {h:Heap} {b:Addr} {ob:Obj} (h1:b∉F.D om) (h2:R b=none) (h3:b<F.n₀) (e:F.G b=some ob):F.view R om h b=some ob:=by
 unfold Fn.view
 rw[if_neg (by rw[h2];simpa using h1),if_pos h3]
 exact e
set_option tactic.hygienic true in
theorem ZN {F:Fn} {R:PH} {om:Om} {h:Heap} {b:Addr} {ob:Obj} (e:F.view R om h b=some ob):b∉F.D om∧R b=none∧((b<F.n₀∧F.G b=some ob)∨(¬ b<F.n₀∧h.get? b=some ob)):=by
 unfold Fn.view at e
 split at e
 ·cases e
 ·rename_i q
  simp only[not_or] at q
  refine ⟨q.1,?_,?_⟩
  ·cases z:R b with
   | none=>rfl
   | some o=>rw[z] at q;exact absurd rfl q.2
  ·split at e
   ·rename_i z;exact .inl ⟨z,e⟩
   ·rename_i z;exact .inr ⟨z,e⟩
noncomputable def Z5 (F:Fn) (scope:Scope) (cl:List (Str×Addr)) (V:PH) (n C:Addr):Fn:=⟨compEnvC scope cl C F.env,V,n,[],F.base,F.A⟩
noncomputable def Yw (V:PH) (om:Om) (I:Addr) (h:Heap):PH:=fun b=>if (V b).isSome=true∨b∈om.map (·.1)∨b=I then none else h.get? b
set_option tactic.hygienic true in
theorem RZ {V:PH} {I:Addr} {h:Heap} {b:Addr} {o:Obj} (e:Yw V om I h b=some o):h.get? b=some o∧V b=none∧b∉om.map (·.1)∧b≠I:=by
 unfold Yw at e
 split at e
 ·cases e
 ·rename_i q
  simp only[not_or] at q
  refine ⟨e,?_,q.2.1,q.2.2⟩
  cases z:V b with
  | none=>rfl
  | some o=>rw[z] at q;exact absurd rfl q.1
theorem Vu {V:PH} {I:Addr} {h:Heap} {b:Addr} {o:Obj} (e:h.get? b=some o) (h1:V b=none) (h2:b∉om.map (·.1)) (h3:b≠I):Yw V om I h b=some o:=by
 unfold Yw
 rw[if_neg (by rw[h1];simp[h2,h3])]
 exact e
noncomputable def Qa (F:Fn) (sig:List (Option AV)) (scope:Scope) (cl:List (Str×Addr)) (cap:List (Option AV)):Prop :=
 ∀ (j:Nat) x kind d,(relabel scope F.env).names[j]?=some (x,kind)->cap[j]?=some (some d)->(kind=.cell∨kind=.free)∧∃ (k:Nat) (kind':NameKind),F.names[k]?=some (x,kind')∧(kind'=.cell∨kind'=.free)∧sig[k]?=some (some d)∧cl.lookup x=F.env.cells.lookup x
theorem Hn (ok:F.Ok) {scope:Scope} {cl:List (Str×Addr)} {cap:List (Option AV)} {I:Addr} {o:Obj} (x:Sta F (R.put I o) sig om tau s) (hoc:¬ ∃ v,o.data=.cell v) (hcap:Qa F sig scope cl cap)
  {h₁:Heap} {tk:Nat} (hns:h₁.Ns (s.heap.objs.size+1) fun _=>none) (hk:∀ b o,s.heap.get? b=some o->h₁.get? b=some o) (hacc:h₁.get? s.heap.objs.size=some { cls:=.type "list",data:=.seq #[] 0 }) :
  Sta (Z5 F scope cl (F.view (R.put I o) om s.heap) s.heap.objs.size (s.heap.objs.size+1)) ((Yw (F.view (R.put I o) om s.heap) om I s.heap).put I o) cap ((s.heap.objs.size,Zc [])::om) tau { s with heap:=h₁,toks:=tk }:=by
 have hI:=x.rf I o PH.put_self
 have hlt:∀ b ob,s.heap.get? b=some ob->b<s.heap.objs.size:=fun b ob e=>Heap.lt_size e
 have omD:∀ b,b∈om.map (·.1)->b∈F.D om:=fun b hb=>by unfold Fn.D;simp only[mem_cons,mem_append];exact .inr (.inr hb)
 have inD:∀ b,b∈Fn.D (Z5 F scope cl (F.view (R.put I o) om s.heap) s.heap.objs.size (s.heap.objs.size+1)) ((s.heap.objs.size,Zc [])::om)↔b=s.heap.objs.size+1∨b=s.heap.objs.size∨b∈om.map (·.1):=fun b=>by
  unfold Fn.D
  show b∈(s.heap.objs.size+1)::([]++(s.heap.objs.size::om.map (·.1)))↔_
  simp
 have notD:∀ b,b<s.heap.objs.size->b∉om.map (·.1)->b∉Fn.D (Z5 F scope cl (F.view (R.put I o) om s.heap) s.heap.objs.size (s.heap.objs.size+1)) ((s.heap.objs.size,Zc [])::om):=fun b hb ho q=>by
  rcases (inD b).mp q with q | q | q
  ·exact absurd hb (by rw[q];exact Nat.not_lt.mpr (le_succ _))
  ·exact absurd hb (by rw[q];exact lt_irrefl _)
  ·exact ho q
 have vI:F.view (R.put I o) om s.heap I=none:=by
  cases e:F.view (R.put I o) om s.heap I with
  | none=>rfl
  | some ob=>have:=(V4 (fun b o e=>(x.g b o e).2.2.1) e).2.2;rw[PH.put_self] at this;cases this
 have g:∀ b ob,F.view (R.put I o) om s.heap b=some ob->b<s.heap.objs.size∧b∉Fn.D (Z5 F scope cl (F.view (R.put I o) om s.heap) s.heap.objs.size (s.heap.objs.size+1)) ((s.heap.objs.size,Zc [])::om)∧h₁.get? b=some ob∧(Yw (F.view (R.put I o) om s.heap) om I s.heap).put I o b=none:=fun b ob e=>by
  have hb:=x.vget e
  have hn:=x.vnot e
  refine ⟨hlt _ _ hb,notD b (hlt _ _ hb) (fun q=>hn (omD b q)),hk _ _ hb,?_⟩
  rw[PH.put_ne (fun q=>by rw[q,vI] at e;cases e)]
  unfold Yw
  rw[if_pos (.inl (by rw[e];rfl))]
 have kv:(F.view (R.put I o) om s.heap).le (Fn.view (Z5 F scope cl (F.view (R.put I o) om s.heap) s.heap.objs.size (s.heap.objs.size+1)) ((Yw (F.view (R.put I o) om s.heap) om I s.heap).put I o) ((s.heap.objs.size,Zc [])::om) h₁):=fun b ob e=>by
  obtain ⟨g1,g2,g3,g4⟩:=g b ob e
  exact N7 g2 g4 g1 e
 obtain ⟨h₀,tk₀,rfl⟩:=x.same
 refine ⟨⟨h₁,tk,rfl⟩,?_,g,fun b ob e=>?_,fun c hc=>(nomatch hc),fun p hp=>?_,fun p hp=>(x.temps p hp).mono kv,⟨fun _=>none,hns,fun j y kind d h1 h2=>?_⟩⟩
 ·show ((h₀.objs.size+1)::([]++(h₀.objs.size::om.map (·.1)))).Nodup
  have hom:∀ b∈om.map (·.1),b<h₀.objs.size:=fun b hb=>x.lt (omD b hb)
  have nd:=x.nodup
  unfold Fn.D at nd
  rw[nodup_cons] at nd
  rw[nil_append,nodup_cons,nodup_cons]
  refine ⟨fun q=>?_,fun q=>lt_irrefl _ (hom _ q),(List.nodup_append.mp nd.2).2.1⟩
  rcases List.mem_cons.mp q with q | q
  ·exact absurd q (Nat.succ_ne_self _)
  ·exact absurd (hom _ q) (Nat.not_lt.mpr (le_succ _))
 ·by_cases q:b=I
  ·subst q
   rw[PH.put_self] at e;cases e
   exact ⟨notD b (hlt _ _ hI.2) (fun z=>hI.1 (omD b z)),hk _ _ hI.2⟩
  ·rw[PH.put_ne q] at e
   obtain ⟨e1,e2,e3,e4⟩:=RZ e
   exact ⟨notD b (hlt _ _ e1) e3,hk _ _ e1⟩
 ·rcases List.mem_cons.mp hp with rfl | hp
  ·exact ⟨_,hacc,fun V' hV=>⟨_,_,rfl,.nil⟩⟩
  ·obtain ⟨ob,ho,hP⟩:=x.opens p hp
   exact ⟨ob,hk _ _ ho,fun V' hV=>hP V' (kv.trans hV)⟩
 ·obtain ⟨hkind,k,kind',c1,c2,c3,c4⟩:=hcap j y kind d h1 h2
  obtain ⟨m,hm,sl⟩:=x.slots
  have body:∀ (c:Addr) (ob:Obj) (v:Value),F.env.cells.lookup y=some c->h₀.get? c=some ob->ob.data=.cell (some v)->Rep (F.view (R.put I o) om h₀) d v->(c∈F.cs∨(R.put I o) c=some ob) ->
    SlotAt (Z5 F scope cl (F.view (R.put I o) om h₀) h₀.objs.size (h₀.objs.size+1)) ((Yw (F.view (R.put I o) om h₀) om I h₀).put I o) h₁ (fun _=>none)
     (Fn.view (Z5 F scope cl (F.view (R.put I o) om h₀) h₀.objs.size (h₀.objs.size+1)) ((Yw (F.view (R.put I o) om h₀) om I h₀).put I o) ((h₀.objs.size,Zc [])::om) h₁) y d kind:=fun c ob v e1 e2 e3 r q=>by
   have hcI:c≠I:=fun z=>by
    subst z
    rcases q with q | q
    ·exact hI.1 (by simp[Fn.D,q])
    ·rw[PH.put_self] at q;cases q;exact hoc ⟨_,e3⟩
   have hvc:F.view (R.put I o) om h₀ c=none:=by
    unfold Fn.view
    rw[if_pos]
    rcases q with q | q
    ·exact .inl (by simp[Fn.D,q])
    ·exact .inr (by rw[q];rfl)
   have hom:c∉om.map (·.1):=fun z=>by
    rcases q with q | q
    ·have nd:=x.nodup
     unfold Fn.D at nd
     rw[nodup_cons] at nd
     exact (List.nodup_append.mp nd.2).2.2 c q c z rfl
    ·exact (x.rf _ _ q).1 (omD c z)
   have hh:((Yw (F.view (R.put I o) om h₀) om I h₀).put I o) c=some ob:=by
    rw[PH.put_ne hcI];exact Vu e2 hvc hom hcI
   have hl:(Z5 F scope cl (F.view (R.put I o) om h₀) h₀.objs.size (h₀.objs.size+1)).env.cells.lookup y=some c:=by
    show cl.lookup y=some c
    rw[c4];exact e1
   rcases hkind with rfl | rfl
   ·exact .cel hl (hk _ _ e2) e3 (r.mono kv) (.inr hh)
   ·exact .fre hl (hk _ _ e2) e3 (r.mono kv) hh
  have:=sl k y kind' d c1 c3
  rcases c2 with rfl | rfl
  ·cases this with | cel e1 e2 e3 r q=>exact body _ _ _ e1 e2 e3 r q
  ·cases this with | fre e1 e2 e3 r q=>exact body _ _ _ e1 e2 e3 r (.inr q)
set_option tactic.hygienic true in
theorem LV (ok:F.Ok) {scope:Scope} {cl:List (Str×Addr)} {sigc:List (Option AV)} {I:Addr} {o:Obj} {res:List AV} {tau':List (Value×AV)} {s s':Shared} (x:Sta F (R.put I o) sig om tau s) (hR:R I=none) (hoc:¬ ∃ v,o.data=.cell v)
  (y:Sta (Z5 F scope cl (F.view (R.put I o) om s.heap) s.heap.objs.size (s.heap.objs.size+1)) (Yw (F.view (R.put I o) om s.heap) om I s.heap) sigc ((s.heap.objs.size,Zc res)::om) tau' s') :
  ∃ oC,s'.heap.get? (s.heap.objs.size+1)=some oC∧(∃ m,s'.heap.Ns (s.heap.objs.size+1) m)∧(¬ ∃ v,oC.data=.cell v)∧R (s.heap.objs.size+1)=none∧Sta F (R.put (s.heap.objs.size+1) oC) sig om ((.ref s.heap.objs.size,.lst res)::tau) s':=by
 obtain ⟨mc,hmc,_⟩:=y.slots
 have hmc':s'.heap.Ns (s.heap.objs.size+1) mc:=hmc
 obtain ⟨oC,esC,epC,hoC,hdC,_⟩:=id hmc'
 have omD:∀ b,b∈om.map (·.1)->b∈F.D om:=fun b hb=>by unfold Fn.D;simp only[mem_cons,mem_append];exact .inr (.inr hb)
 have hlt:∀ b ob,s.heap.get? b=some ob->b<s.heap.objs.size:=fun b ob e=>Heap.lt_size e
 have fr:=x.fresh ok (n:=s.heap.objs.size+1) (le_succ _)
 have fr0:=x.fresh ok (n:=s.heap.objs.size) (le_refl _)
 have hRn:∀ n,s.heap.objs.size≤n->R n=none:=fun n hn=>by
  have:=x.freshR hn
  by_cases q:n=I
  ·rw[q];exact hR
  ·rw[PH.put_ne q] at this;exact this
 have kD:∀ b ob,b∈F.D om->b∉om.map (·.1)->s.heap.get? b=some ob->s'.heap.get? b=some ob:=fun b ob hb ho e=>by
  have hbI:b≠I:=fun q=>(x.rf I o PH.put_self).1 (q▸hb)
  have hv:F.view (R.put I o) om s.heap b=none:=by unfold Fn.view;rw[if_pos (.inl hb)]
  exact (y.rf b ob (Vu e hv ho hbI)).2
 have kR:∀ b ob,R b=some ob->s'.heap.get? b=some ob∧b∉F.D om:=fun b ob e=>by
  have hbI:b≠I:=fun q=>by rw[q,hR] at e;cases e
  have h1:=x.rf b ob (by rw[PH.put_ne hbI];exact e)
  have hv:F.view (R.put I o) om s.heap b=none:=by unfold Fn.view;rw[if_pos (.inr (by rw[PH.put_ne hbI,e];rfl))]
  exact ⟨(y.rf b ob (Vu h1.2 hv (fun q=>h1.1 (omD b q)) hbI)).2,h1.1⟩
 have vis:∀ b ob,b∉F.D om->R b=none->b≠s.heap.objs.size+1->(if b<F.n₀ then F.G b else s'.heap.get? b)=some ob->F.view (R.put (s.heap.objs.size+1) oC) om s'.heap b=some ob:=fun b ob h1 h2 h3 e=>by
  unfold Fn.view
  rw[if_neg (by rw[PH.put_ne h3,h2];simpa using h1)]
  exact e
 have kV:(F.view (R.put I o) om s.heap).le (F.view (R.put (s.heap.objs.size+1) oC) om s'.heap):=fun b ob e=>by
  have hb:=x.vget e
  have hn:=x.vnot e
  have hr:=(V4 (fun b o e=>(x.g b o e).2.2.1) e).2.2
  have hbI:b≠I:=fun q=>by rw[q,PH.put_self] at hr;cases hr
  rw[PH.put_ne hbI] at hr
  refine vis b ob hn hr (fun q=>lt_irrefl _ (lt_trans (lt_succ_self _) (q▸hlt _ _ hb))) ?_
  have gy:=y.g b ob e
  unfold Fn.view at e
  rw[if_neg (by rw[PH.put_ne hbI,hr];simpa using hn)] at e
  split at e
  ·rename_i q;rw[if_pos q];exact e
  ·rename_i q;rw[if_neg q];exact gy.2.2.1
 have kC:(Fn.view (Z5 F scope cl (F.view (R.put I o) om s.heap) s.heap.objs.size (s.heap.objs.size+1)) (Yw (F.view (R.put I o) om s.heap) om I s.heap) ((s.heap.objs.size,Zc res)::om) s'.heap).le (F.view (R.put (s.heap.objs.size+1) oC) om s'.heap):=fun b ob e=>by
  have hb:=y.vget e
  have hn:=y.vnot e
  rcases (ZN e).2.2 with ⟨hlt',e'⟩ | ⟨hge,e'⟩
  ·exact kV b ob e'
  ·have hge':s.heap.objs.size≤b:=Nat.not_lt.mp hge
   have f:=x.fresh ok hge'
   refine vis b ob f.1 (hRn b hge') (fun q=>hn ?_) (by rw[if_neg f.2];exact hb)
   unfold Fn.D
   rw[q]
   exact mem_cons_self
 refine ⟨oC,hoC,⟨mc,hmc'⟩,fun ⟨v,e⟩=>(by rw[hdC] at e;cases e),hRn _ (le_succ _),?_⟩
 have hsame:∃ h tk,s'={ F.base with heap:=h,toks:=tk }:=y.same
 refine ⟨hsame,x.nodup,fun b ob e=>?_,fun b ob e=>?_,fun c hc=>?_,fun p hp=>?_,fun p hp=>?_,?_⟩
 ·obtain ⟨g1,g2,g3,g4⟩:=x.g b ob e
  have hbI:b≠I:=fun q=>by rw[q,PH.put_self] at g4;cases g4
  have hbC:b≠s.heap.objs.size+1:=fun q=>lt_irrefl _ (lt_trans (lt_succ_self _) (q▸hlt _ _ g3))
  rw[PH.put_ne hbI] at g4
  have:=y.g b ob (Fn.G_view x b ob e)
  exact ⟨g1,g2,this.2.2.1,by rw[PH.put_ne hbC];exact g4⟩
 ·by_cases q:b=s.heap.objs.size+1
  ·subst q
   rw[PH.put_self] at e;cases e
   exact ⟨fr.1,hoC⟩
  ·rw[PH.put_ne q] at e
   exact ⟨(kR b ob e).2,(kR b ob e).1⟩
 ·obtain ⟨v,ob,ho,hd⟩:=x.cells c hc
  have nd:=x.nodup
  unfold Fn.D at nd
  rw[nodup_cons] at nd
  exact ⟨v,ob,kD c ob (by simp[Fn.D,hc]) (fun z=>(List.nodup_append.mp nd.2).2.2 c hc c z rfl) ho,hd⟩
 ·obtain ⟨ob,ho,hP⟩:=y.opens p (mem_cons_of_mem _ hp)
  exact ⟨ob,ho,fun V' hV=>hP V' (kC.trans hV)⟩
 ·rcases List.mem_cons.mp hp with rfl | hp
  ·obtain ⟨ob,ho,hP⟩:=y.opens (s.heap.objs.size,Zc res) mem_cons_self
   obtain ⟨vs,n,rfl,r⟩:=hP _ (PH.le.refl _)
   refine ⟨_,vs,n,rfl,vis _ _ fr0.1 (hRn _ (le_refl _)) (ne_of_lt (lt_succ_self _)) (by rw[if_neg fr0.2];exact ho),r.mono kC⟩
  ·exact (x.temps p hp).mono kV
 ·obtain ⟨m,hm,sl⟩:=x.slots
  have nd:=x.nodup
  unfold Fn.D at nd
  rw[nodup_cons,mem_append,not_or] at nd
  refine ⟨m,hm.at' fun ob e=>kD F.L ob (by simp[Fn.D]) nd.1.2 e,fun k z kind d h1 h2=>?_⟩
  have hCc:∀ c ob,s.heap.get? c=some ob->c≠s.heap.objs.size+1:=fun c ob e q=>lt_irrefl _ (lt_trans (lt_succ_self _) (q▸hlt _ _ e))
  cases sl k z kind d h1 h2 with
  | loc e r=>exact .loc e (r.mono kV)
  | cel a b c r q =>
   rcases q with q | q
   ·exact .cel a (kD _ _ (by simp[Fn.D,q]) (fun z=>(List.nodup_append.mp nd.2).2.2 _ q _ z rfl) b) c (r.mono kV) (.inl q)
   ·rename_i cc ob v
    have hne:cc≠I:=fun z=>by rw[z,PH.put_self] at q;cases q;exact hoc ⟨_,c⟩
    rw[PH.put_ne hne] at q
    exact .cel a (kR _ _ q).1 c (r.mono kV) (.inr (by rw[PH.put_ne (hCc _ _ b)];exact q))
  | fre a b c r q =>
   rename_i cc ob v
   have hne:cc≠I:=fun z=>by rw[z,PH.put_self] at q;cases q;exact hoc ⟨_,c⟩
   rw[PH.put_ne hne] at q
   exact .fre a (kR _ _ q).1 c (r.mono kV) (by rw[PH.put_ne (hCc _ _ b)];exact q)
end
end
section
section
variable {prog:Program} {w:World} {F:Fn} {R:PH} {sig sig':List (Option AV)} {om om':Om} {tau:List (Value×AV)} {s:Shared}
noncomputable def Do (prog:Program) (w:World) (F:Fn) (sig:List (Option AV)) (om:Om) (act:Sem PySem.Fin) (c:Code) (P:List (Option AV)->Om->Prop):Prop :=
 ∀ (R:PH) (tau:List (Value×AV)) (s:Shared) (Q:PySem.Fin->Shared->Prop) (E:Value->Shared->Prop),Sta F R sig om tau s ->
  (∀ sig' om' s',P sig' om'->Sta F R sig' om' tau s'->Q (.again c) s')->wpAny (model prog w) F.A act Q E s
noncomputable def Ifs (prog:Program) (w:World) (F:Fn) (sig:List (Option AV)) (om:Om) (ifs:List Expr) (b:Bool):Prop :=
 ∀ (R:PH) (tau:List (Value×AV)) (s:Shared) (Q:Bool->Shared->Prop) (E:Value->Shared->Prop),Sta F R sig om tau s ->
  (∀ s',Sta F R sig om tau s'->Q b s')->wpAny (model prog w) F.A (forIn ifs true fun c r=>if r=true then do let ok <-isTrue c F.env (eval c F.env);pure (ForInStep.yield ok) else pure (ForInStep.yield r)) Q E s
theorem Yd:Ifs prog w F sig om [] true:=fun R tau s Q E st h=>wpAny_tests_nil (h _ st)
theorem N8 {c:Expr} {b:Bool} (t:Tst prog w F sig om c b):Ifs prog w F sig om [c] b:=fun R tau s Q E st h=>wpAny_tests_one (t R tau s _ _ st fun s' st'=>h _ st')
noncomputable def Un (e:Expr) (k:Nat) (acc:Value) (env:Env) (p:Pos) (target:Expr) (ifs:List Expr) (act:Value->Sem PySem.Fin):Prop :=
 ∀ it,compTurn e k it acc env=(do
   standAt p
   match <-pyNext it with
   | none=>pure (.done .next)
   | some v =>
    letOwnedTupleGo target it v
    assign target env v
    let mut ok:=true
    for c in ifs do
     if ok then ok <-isTrue c env (eval c env)
    if ok then act it
    else again (.compLoop e k it acc env))
noncomputable def Sr (e elt:Expr) (acc:Value) (env:Env) (k:Nat) (it:Value):Sem PySem.Fin :=
 (do let _ <-call (.builtin "list.append") [acc,<-eval elt env]:Sem Unit) >>= fun _=>again (.compLoop e k it acc env)
theorem Mt (elt target iter:Expr) (ifs:List Expr) (scope:Scope) (pos:Pos) (acc:Value) (env:Env) :
  Un (.ListComp elt [⟨target,iter,ifs,0⟩] scope pos) 0 acc env iter.pos target ifs (Sr (.ListComp elt [⟨target,iter,ifs,0⟩] scope pos) elt acc env 0):=fun it=>by rfl
noncomputable def N9 (e iter:Expr) (acc:Value) (env:Env) (k:Nat) (it:Value):Sem PySem.Fin:=do
 let x <-eval iter env
 standAt iter.pos
 let x <-foldedSetIterable iter env x
 let it' <-holding [x] (pyIter x)
 let _ <-runOwn (.compStart e (k+1) it' acc env) env
 again (.compLoop e k it acc env)
theorem Po (elt target iter target' iter':Expr) (ifs ifs':List Expr) (scope:Scope) (pos:Pos) (acc:Value) (env:Env) :
  Un (.ListComp elt [⟨target,iter,ifs,0⟩,⟨target',iter',ifs',0⟩] scope pos) 0 acc env iter.pos target ifs (N9 (.ListComp elt [⟨target,iter,ifs,0⟩,⟨target',iter',ifs',0⟩] scope pos) iter' acc env 0):=fun it=>by rfl
theorem Qb (elt target iter target' iter':Expr) (ifs ifs':List Expr) (scope:Scope) (pos:Pos) (acc:Value) (env:Env) :
  Un (.ListComp elt [⟨target,iter,ifs,0⟩,⟨target',iter',ifs',0⟩] scope pos) 1 acc env iter'.pos target' ifs' (Sr (.ListComp elt [⟨target,iter,ifs,0⟩,⟨target',iter',ifs',0⟩] scope pos) elt acc env 1):=fun it=>by rfl
theorem Ss (ok:F.Ok) {elt:Expr} {gens:List Comprehension} {scope:Scope} {pos:Pos} {k:Nat} {acc:Value} {p:Pos} {target:Expr} {ifs:List Expr} {act:Value->Sem PySem.Fin} (ht:Un (.ListComp elt gens scope pos) k acc F.env p target ifs act)
  {xs:List AV} {d':AV} {v:Value} {I:Addr} {PP:Nat->Value->Prop} {St:Nat->Heap->Prop} (src:Src prog w F.A xs d' v I PP St) (hR:R I=none)
  (Inv:Nat->List (Option AV)->Om->Prop) (h0:Inv 0 sig om)
  (turn:∀ (i:Nat) (x:AV) sig om,xs[i]?=some x->Inv i sig om->∃ sig₁ b,As prog w F om target x sig sig₁∧Ifs prog w F sig₁ om ifs b∧(b=false->Inv (i+1) sig₁ om)∧(b=true->Do prog w F sig₁ om (act (.ref I)) (.compLoop (.ListComp elt gens scope pos) k (.ref I) acc F.env) (Inv (i+1))))
  {o:Obj} (hst:St 0 s.heap) (ho:s.heap.get? I=some o) (st:Sta F (R.put I o) sig om ((v,d')::tau) s) {RR:Result->Shared->Prop}
  (hq:∀ sig om s',Inv xs.length sig om->Sta F R sig om ((v,d')::tau) s'->RR (.ok .next) s') :
  codeAny (model prog w) F.A (.compLoop (.ListComp elt gens scope pos) k (.ref I) acc F.env) RR s:=by
 obtain ⟨⟨fp,W,hfp⟩,hitem,hobj⟩:=src
 refine codeAny_loop rfl (fun n s'=>∃ i sig om o,i≤xs.length∧n=xs.length+1-i∧Inv i sig om∧St i s'.heap∧s'.heap.get? I=some o∧Sta F (R.put I o) sig om ((v,d')::tau) s') (fun n s' hI'=>?_) (xs.length+1)
  ⟨0,sig,om,o,zero_le _,rfl,h0,hst,ho,st⟩
 obtain ⟨i,sig,om,o,hi,rfl,inv,hst,ho,st⟩:=hI'
 show wpAny _ F.A ((compTurn (.ListComp elt gens scope pos) k (.ref I) acc F.env).onRaise (fun x=>do noteFrame x F.env;theTreesLotGoes x)) _ _ s'
 refine wpAny_noted ?_
 rw[ht (.ref I)]
 refine wpAny_bind (wpAny_standAt (wpAny_bind ?_))
 have oc:¬ ∃ v,o.data=.cell v:=by
  obtain ⟨o',c,vs,e1,_,e3,_⟩:=hobj i _ hst
  rw[ho] at e1;cases e1
  exact Wr e3
 by_cases hlt:i<xs.length
 ·refine W.item i s' _ _ hlt hst fun v' h' tk hP hst' hk=>?_
  obtain ⟨o',c,vs,e1,e2,e3,e4⟩:=hobj _ _ hst'
  have st':=st.rehide (tk:=tk) (fun ob e=>by rw[hR] at e;cases e) hk e1 oc
  refine wpAny_bind (LQ (s:={ s' with heap:=h',toks:=tk }) e1 e2 e3 e4 ?_)
  have rx:Rep (F.view (R.put I o') om h') (xs[i]) v':=hitem _ i v' _ st'.top hP (by simp[hlt])
  obtain ⟨sig₁,b,as,ifs',hf,htr⟩:=turn i xs[i] sig om (by simp[hlt]) inv
  refine wpAny_bind (as (R.put I o') _ v' _ _ _ (st'.push rx) fun s₃ st₃=>?_)
  refine wpAny_bind (ifs' (R.put I o') _ s₃ _ _ st₃.pop fun s₄ st₄=>?_)
  have goes:∀ sig' om' s₄,Inv (i+1) sig' om'->Sta F (R.put I o') sig' om' ((v,d')::tau) s₄->∃ m,m<xs.length+1-i∧∃ i sig om o,i≤xs.length∧m=xs.length+1-i∧Inv i sig om∧St i s₄.heap∧s₄.heap.get? I=some o∧Sta F (R.put I o) sig om ((v,d')::tau) s₄:=fun sig' om' s₄ hinv st₄=>by
   have hI₄:s₄.heap.get? I=some o':=(st₄.rf I o' PH.put_self).2
   refine ⟨xs.length+1-(i+1),Nat.sub_lt_sub_left (lt_succ_of_lt hlt) (lt_succ_self i),i+1,sig',om',o',hlt,rfl,hinv,W.frame _ _ _ hst' fun b hb ob e=>?_,hI₄,st₄⟩
   by_cases hbI:b=I
   ·subst hbI;rw[e1] at e;cases e;exact hI₄
   ·obtain ⟨ob',q1,q2⟩:=hfp b hb hbI _ _ st'.top st₄.top
    have:=st'.vget q1
    rw[show ({ s' with heap:=h',toks:=tk }:Shared).heap.get? b=some ob from e] at this
    cases this
    exact st₄.vget q2
  cases b with
  | false=>exact wpAny_pure ⟨rfl,goes _ _ _ (hf rfl) st₄⟩
  | true=>exact htr rfl (R.put I o') _ s₄ _ _ st₄ fun sig' om' s₅ hi' st₅=>⟨rfl,goes _ _ _ hi' st₅⟩
 ·have hi':i=xs.length:=by lia
  subst hi'
  refine W.done s' _ _ hst fun h' tk hk=>?_
  exact wpAny_pure (hq sig om _ inv (st.unhideBut hR oc fun b o hb e=>hk b o (by simpa using hb) e))
theorem Tt (ok:F.Ok) {elt:Expr} {gens:List Comprehension} {scope:Scope} {pos:Pos} {k:Nat} {acc it:Value} {g:Comprehension} (hg:gens[k]?=some g) (ha:g.is_async=0) {RR:Result->Shared->Prop}
  (h0:codeAny (model prog w) F.A (.compLoop (.ListComp elt gens scope pos) k it acc F.env) RR s)
  (h:wpAny (model prog w) F.A (pyIter it) (fun it' s'=>codeAny (model prog w) F.A (.compLoop (.ListComp elt gens scope pos) k it' acc F.env) RR s') (notedBy (model prog w) F.A F.env fun x s'=>RR (.error x) s') s) :
  codeAny (model prog w) F.A (.compStart (.ListComp elt gens scope pos) k it acc F.env) RR s:=by
 refine codeAny_of_tree ?_
 show wpAny _ _ ((compStart (.ListComp elt gens scope pos) k it acc F.env).onRaise (fun x=>do noteFrame x F.env;standAt theWindowsPlace)) _ _ s
 refine wpAny_notedAt ?_
 unfold compStart
 have hc:(clausesOf (.ListComp elt gens scope pos))[k]?=some g:=hg
 rw[hc]
 simp only[Option.elim,ha,bne_self_eq_false,Bool.false_eq_true,if_false]
 refine wpAny_bind (wpAny_askSetting (wpAny_ite ?_))
 split
 ·first
   | exact wpAny_bind (wpAny_pure (wpAny_pure (And.intro rfl h0)))
   | exact wpAny_pure (And.intro rfl h0)
 ·exact wpAny_bind (wpAny_rule (wpAny_bind (wpAny_standAt (wpAny_bind (wpAny_mono h (fun it' s' h'=>wpAny_pure (And.intro rfl h')) fun _ _ x=>x)))))
theorem Ho (ok:F.Ok) {scope:Scope} {cl:List (Str×Addr)} {V:PH} {n:Addr} (hk:scope.kind=.function) (hn:(scope.names.map (·.1)).Nodup):(Z5 F scope cl V n (n+1)).Ok:=by
 refine ⟨hk,ok.handled,ok.depth,ok.units,?_,le_succ _,fun c hc=>(nomatch hc),fun x c _ hc=>(nomatch hc)⟩
 show (((relabel scope F.env).names).map (·.1)).Nodup
 have:(relabel scope F.env).names.map (·.1)=scope.names.map (·.1):=by
  unfold relabel
  simp only[map_map]
  refine map_congr_left fun x _=>?_
  simp only[Function.comp]
  split<;>rfl
 rw[this];exact hn
end
end
section
section
variable {prog:Program} {w:World} {F:Fn} {R:PH} {sig sig':List (Option AV)} {om om':Om} {tau:List (Value×AV)} {s:Shared}
theorem NB {e elt:Expr} {k:Nat} {D:Addr} {it:Value} {l:List AV} {d:AV} {P:List (Option AV)->Om->Prop} (h:Ev prog w F sig om elt d) (u:OmUpd om D (Zc l) (Zc (l++[d])) om') (hsz:l.length≤sizeLine) (hp:P sig om') :
  Do prog w F sig om (Sr e elt (.ref D) F.env k it) (.compLoop e k it (.ref D) F.env) P:=fun R tau s Q E st hq=>by
 unfold Sr
 refine wpAny_bind (wpAny_bind (h R tau s _ _ st fun v s₂ st₂=>?_))
 obtain ⟨vs₂,n₂,hl₂,r₂,e₂⟩:=st₂.openList u.mem
 refine wpAny_bind (append_at (hsz:=by lia) hl₂ fun h' hs ho=>wpAny_pure (wpAny_pure (hq _ _ _ hp (st₂.pop.upd (tk:=s₂.toks) u hs ho (Zc.upd ?_)))))
 have kv:=Ym (F:=F) (R:=R) (om:=om) u.inD hs
 rw[Array.toList_push]
 exact (r₂.mono kv).append (.cons (st₂.top.mono kv) .nil)
theorem LW (ok:F.Ok) {elt iter:Expr} {gens:List Comprehension} {scope:Scope} {pos p:Pos} {k:Nat} {acc it:Value} {target:Expr} {ifs:List Expr} {act:Value->Sem PySem.Fin} {d:AV} {xs:List AV} {P:List (Option AV)->Om->Prop}
  (ht:Un (.ListComp elt gens scope pos) (k+1) acc F.env p target ifs act) {g:Comprehension} (hg:gens[k+1]?=some g) (ha:g.is_async=0)
  (h:Ev prog w F sig om iter d) (itr:Itr prog w F om d xs)
  (Inv:Nat->List (Option AV)->Om->Prop) (h0:Inv 0 sig om)
  (turn:∀ (I:Addr) (i:Nat) (x:AV) sig om,xs[i]?=some x->Inv i sig om->∃ sig₁ b,As prog w F om target x sig sig₁∧Ifs prog w F sig₁ om ifs b∧(b=false->Inv (i+1) sig₁ om)∧(b=true->Do prog w F sig₁ om (act (.ref I)) (.compLoop (.ListComp elt gens scope pos) (k+1) (.ref I) acc F.env) (Inv (i+1))))
  (done:∀ sig om,Inv xs.length sig om->P sig om) (hs:∀ x,foldedSetIterable iter F.env x=pure x:=by intro _;rfl) :
  Do prog w F sig om (N9 (.ListComp elt gens scope pos) iter acc F.env k it) (.compLoop (.ListComp elt gens scope pos) k it acc F.env) P:=fun R tau s Q E st hq=>by
 unfold N9
 refine wpAny_bind (h R tau s _ _ st fun v s₁ st₁=>wpAny_bind (wpAny_standAt ?_))
 rw[hs]
 refine wpAny_bind (wpAny_pure (wpAny_bind (wpAny_holding (itr R sig tau v s₁ _ _ st₁ fun I d' PP St o s₂ src hR hI hst ho st₂=>?_))))
 refine wpAny_bind (wpAny_runOwn ?_)
 have loop:=Ss ok ht src hR Inv h0 (turn I) hst ho st₂ (RR:=fun r s'=>match r with | .ok f=>wpAny (model prog w) F.A (again (.compLoop (.ListComp elt gens scope pos) k it acc F.env)) Q E s' | .error e=>cameBackBy (model prog w) F.A F.env E e s')
  fun sig' om' s' hi st'=>wpAny_pure (hq _ _ _ (done _ _ hi) st'.pop.pop)
 obtain ⟨⟨fp,W,_⟩,_,_⟩:=src
 exact Tt ok hg ha loop (W.self 0 _ _ _ hst loop)
theorem Qc (ok:F.Ok) {elt iter target:Expr} {ifs:List Expr} {gens:List Comprehension} {scope:Scope} {pos p:Pos} {cl:List (Str×Addr)} {cap:List (Option AV)} {d:AV} {xs res:List AV} {act:Value->Env->Value->Sem PySem.Fin}
  (ht:∀ acc env,Un (.ListComp elt gens scope pos) 0 acc env p target ifs (act acc env)) {g:Comprehension} (hg:gens[0]?=some g) (ha:g.is_async=0)
  (hcell:∀ y∈scope.names,y.2≠.cell) (hkind:scope.kind=.function) (hnd:(scope.names.map (·.1)).Nodup) (hcap:Qa F sig scope cl cap)
  (h:Ev prog w F sig om iter d) (itr:Itr prog w F om d xs)
  (body:∀ (V:PH) (n:Addr),(Z5 F scope cl V n (n+1)).Ok->F.G.le V->n∉om.map (·.1)->∃ Inv:Nat->List (Option AV)->Om->Prop,Inv 0 cap ((n,Zc [])::om)∧(∀ sig' om',Inv xs.length sig' om'->om'=(n,Zc res)::om) ∧
   ∀ (I:Addr) (i:Nat) (x:AV) sig om,xs[i]?=some x->Inv i sig om->∃ sig₁ b,As prog w (Z5 F scope cl V n (n+1)) om target x sig sig₁∧Ifs prog w (Z5 F scope cl V n (n+1)) sig₁ om ifs b∧(b=false->Inv (i+1) sig₁ om) ∧
    (b=true->Do prog w (Z5 F scope cl V n (n+1)) sig₁ om (act (.ref n) (compEnvC scope cl (n+1) F.env) (.ref I)) (.compLoop (.ListComp elt gens scope pos) 0 (.ref I) (.ref n) (compEnvC scope cl (n+1) F.env)) (Inv (i+1))))
  {E:Value->Shared->Prop} {RR:Value->Addr->Result->Shared->Prop} (st:Sta F R sig om tau s)
  (hRR:∀ (n C:Addr) v oC s',C≠n->s'.heap.get? C=some oC->(∃ m,s'.heap.Ns C m)->(¬ ∃ v,oC.data=.cell v)->R C=none->Sta F (R.put C oC) sig om ((.ref n,.lst res)::(v,d)::tau) s'->RR (.ref n) C (.ok .next) s') :
  wpAny (model prog w) F.A (eval iter F.env) (fun x s₁=>wpAny (model prog w) F.A (pyIter x) (fun it s₂=>wpAny (model prog w) F.A (newList []) (fun acc s₃ =>
   wpAny (model prog w) F.A (newFunctionEnv scope F.env.globals cl [] F.env.qual none .none (some F.env)) (fun cenv s₄ =>
    codeAny (model prog w) F.A (.compStart (.ListComp elt gens scope pos) 0 it acc { cenv with scope:=relabel scope F.env }) (RR acc cenv.locals) s₄) E s₃) E s₂) E s₁) E s:=by
 refine h R tau s _ _ st fun v s₁ st₁=>itr R sig tau v s₁ _ _ st₁ fun I d' PP St o s₂ src hR hI hst ho st₂=>?_
 refine wpAny_newObj_type (wpAny_newFunctionEnv hcell (by intro y hy;simp at hy) (fun h₁ hns₁ hsb₁=>?_) hkind)
 dsimp only at hns₁ hsb₁ ⊢
 have hC:(s₂.heap.push { cls:=.type "list",dict:=none,data:=.seq ([]:List Value).toArray }).objs.size=s₂.heap.objs.size+1:=by rw[Heap.size_push]
 rw[hC] at hns₁ hsb₁ ⊢
 have old:∀ b o,s₂.heap.get? b=some o->h₁.get? b=some o:=fun b o e=>hsb₁.extBut b o (ne_of_lt (lt_succ_of_lt (Heap.lt_size e))) (Heap.get?_push_of_some _ (Heap.get?_push_of_some _ e))
 have hacc:h₁.get? s₂.heap.objs.size=some { cls:=.type "list",data:=.seq #[] 0 }:=hsb₁.extBut _ _ (ne_of_lt (lt_succ_self _)) (Heap.get?_push_of_some _ (Heap.get?_push_size _ rfl))
 have hobj:=src.obj
 have oc:¬ ∃ v,o.data=.cell v:=by
  obtain ⟨o',c,vs,e1,_,e3,_⟩:=hobj 0 _ hst
  rw[ho] at e1;cases e1
  exact Wr e3
 have y:=Hn (tk:=s₂.toks+([]:List (Str×Value)).length) ok st₂ oc hcap hns₁ old hacc
 have ok':=Ho ok (cl:=cl) (V:=F.view (R.put I o) om s₂.heap) (n:=s₂.heap.objs.size) hkind hnd
 obtain ⟨Inv,i0,ifin,iturn⟩:=body _ _ ok' (Fn.G_view st₂) (fun q=>by
  have:s₂.heap.objs.size∈F.D om:=by unfold Fn.D;simp only[mem_cons,mem_append];exact .inr (.inr q)
  exact lt_irrefl _ (st₂.lt this))
 obtain ⟨⟨fp,W,hfp⟩,_,_⟩:=id src
 have hst₁:St 0 h₁:=W.frame _ _ _ hst fun b _ o e=>old b o e
 have hRI:Yw (F.view (R.put I o) om s₂.heap) om I s₂.heap I=none:=by
  unfold Yw;rw[if_pos (.inr (.inr rfl))]
 have src':Src prog w (Z5 F scope cl (F.view (R.put I o) om s₂.heap) s₂.heap.objs.size (s₂.heap.objs.size+1)).A xs d' v I PP St:=src
 have loop:=Ss (s:={ s₂ with heap:=h₁,toks:=s₂.toks+([]:List (Str×Value)).length }) ok' (ht (.ref s₂.heap.objs.size) _) src' hRI Inv i0 (iturn I) hst₁ (old _ _ ho) y (RR:=RR (.ref s₂.heap.objs.size) (s₂.heap.objs.size+1))
  fun sig' om' s' hi st'=>by
   have:=ifin _ _ hi
   subst this
   obtain ⟨oC,q1,q2,q3,q4,q5⟩:=LV ok st₂ hR oc st'
   refine hRR _ _ v oC s' (Nat.succ_ne_self _) q1 q2 q3 q4 (q5.temp fun p hp=>q5.temps p ?_)
   rcases List.mem_cons.mp hp with rfl | hp
   ·exact mem_cons_self
   ·exact mem_cons_of_mem _ (mem_cons_of_mem _ hp)
 exact Tt (F:=Z5 F scope cl (F.view (R.put I o) om s₂.heap) s₂.heap.objs.size (s₂.heap.objs.size+1)) ok' hg ha loop (W.self 0 _ _ _ hst₁ loop)
end
end
section
section
variable {prog:Program} {w:World} {F:Fn} {R:PH} {sig sig':List (Option AV)} {om om':Om} {tau:List (Value×AV)} {s:Shared}
structure CompOk (F:Fn) (scope:Scope) (cl:List (Str×Addr)):Prop where
 clos:closureFor scope F.env=pure cl
 cell:∀ y∈scope.names,y.2≠.cell
 kind:scope.kind=.function
 names:(scope.names.map (·.1)).Nodup
noncomputable def Comp (prog:Program) (w:World) (F:Fn) (sig:List (Option AV)) (om:Om) (elt iter:Expr) (gens:List Comprehension) (scope:Scope) (pos:Pos) (cl:List (Str×Addr)) (res:List AV):Prop :=
 ∃ d,∀ (R:PH) (tau:List (Value×AV)) (s:Shared) (E:Value->Shared->Prop) (RR:Value->Addr->Result->Shared->Prop),Sta F R sig om tau s ->
  (∀ (n C:Addr) v oC s',C≠n->s'.heap.get? C=some oC->(∃ m,s'.heap.Ns C m)->(¬ ∃ v,oC.data=.cell v)->R C=none->Sta F (R.put C oC) sig om ((.ref n,.lst res)::(v,d)::tau) s'->RR (.ref n) C (.ok .next) s') ->
  wpAny (model prog w) F.A (eval iter F.env) (fun x s₁=>wpAny (model prog w) F.A (pyIter x) (fun it s₂=>wpAny (model prog w) F.A (newList []) (fun acc s₃ =>
   wpAny (model prog w) F.A (newFunctionEnv scope F.env.globals cl [] F.env.qual none .none (some F.env)) (fun cenv s₄ =>
    codeAny (model prog w) F.A (.compStart (.ListComp elt gens scope pos) 0 it acc { cenv with scope:=relabel scope F.env }) (RR acc cenv.locals) s₄) E s₃) E s₂) E s₁) E s
theorem CompOk.looks {scope:Scope} {cl:List (Str×Addr)} (c:CompOk F scope cl):∀ x∈scope.names,x.2=.local->scope.names.lookup x.1=some .local:=fun x hx e=>by
 obtain ⟨k,hk⟩:=List.mem_iff_getElem?.mp hx
 exact Y8 c.names (k:=k) (by rw[hk,<-e])
theorem Hp {elt iter target:Expr} {ifs:List Expr} {gs:List Comprehension} {scope:Scope} {pos:Pos} {cl:List (Str×Addr)} {res:List AV} (c:CompOk F scope cl) (h:Comp prog w F sig om elt iter (⟨target,iter,ifs,0⟩::gs) scope pos cl res)
  (hs:∀ x,foldedSetIterable iter F.env x=pure x:=by intro _;rfl):Ev prog w F sig om (.ListComp elt (⟨target,iter,ifs,0⟩::gs) scope pos) (.lst res):=fun R tau s Q E st hq=>by
 obtain ⟨d,h⟩:=h
 rw[eval_ListComp]
 refine wpAny_comprehension_free (use:=none) rfl hs c.clos c.kind c.looks (h R tau s E _ st fun n C v oC s' hne ho ⟨m,hm⟩ hoc hR st'=>⟨m,hm,fun h' hsb=>hq _ _ ?_⟩)
 have:=st'.unhideBut (tk:=s'.toks) hR hoc (h':=h') fun b o hb e=>hsb.extBut b o hb e
 exact this.temp fun p hp=>this.temps p (by rcases List.mem_cons.mp hp with rfl | hp<;>simp[*])
theorem Tu (ok:F.Ok) {x:Str} {p spos:Pos} {k:Nat} {elt iter target:Expr} {ifs:List Expr} {gs:List Comprehension} {scope:Scope} {pos:Pos} {cl:List (Str×Addr)} {res:List AV} (c:CompOk F scope cl) (a:Xc F x k)
  (h:Comp prog w F sig om elt iter (⟨target,iter,ifs,0⟩::gs) scope pos cl res)
  (hsw:swapsWith (.ListComp elt (⟨target,iter,ifs,0⟩::gs) scope pos) (some (.Name x p)) spos.line F.env=pure true)
  (hs:∀ x,foldedSetIterable iter F.env x=pure x:=by intro _;rfl):Ex1 prog w F sig om (.Assign [.Name x p] (.ListComp elt (⟨target,iter,ifs,0⟩::gs) scope pos) spos) (·=.nxt (sig.set k (some (.lst res))) om):=fun R tau s Q E st hq=>by
 obtain ⟨d,h⟩:=h
 rw[exec_Assign_Name_used _ _ _ _ hsw]
 refine wpAny_bind (wpAny_standAt (wpAny_bind ?_))
 show wpAny _ _ (do let _ <-comprehension (.ListComp elt (⟨target,iter,ifs,0⟩::gs) scope pos) scope F.env _ (newList []) false (eval iter F.env) (some (assign (.Name x p) F.env))) _ _ s
 refine wpAny_bind (wpAny_mono (wpAny_comprehension_free (use:=some (assign (.Name x p) F.env)) (Q:=fun _ s'=>Q .next s') rfl hs c.clos c.kind c.looks (h R tau s E _ st fun n C v oC s' hne ho ⟨m,hm⟩ hoc hR st'=>?_)) (fun _ s' hq=>wpAny_pure (wpAny_pure hq)) fun _ _ e=>e)
 show wpAny _ _ (assign (.Name x p) F.env (.ref n)) _ _ s'
 refine wpAny_assign_Name (Xu ok a st' st'.top fun s'' st''=>?_)
 have hC:=st''.rf C oC PH.put_self
 refine ⟨m,hm.at' fun o e=>?_,fun h' hsb=>hq _ _ _ rfl ?_⟩
 ·have:some o=some oC:=e.symm.trans ho
  cases this;exact hC.2
 ·have:=st''.unhideBut (tk:=s''.toks) hR hoc (h':=h') fun b o hb e=>hsb.extBut b o hb e
  exact this.pop.pop
theorem W7 {scope:Scope} {env:Env} {k:Nat} {x:Str} (h:scope.names[k]?=some (x,.local)):(relabel scope env).names[k]?=some (x,.local):=by
 unfold relabel
 simp only[getElem?_map,h,Option.map_some]
 rfl
noncomputable def sel (p:Nat->Bool) (f:Nat->AV) (n:Nat):List AV:=((List.range n).filter p).map f
theorem Qd (p:Nat->Bool) (f:Nat->AV) (n:Nat):sel p f (n+1)=sel p f n++if p n then [f n] else []:=by
 unfold sel
 rw[range_succ,List.filter_append,map_append]
 cases h:p n<;>simp[h]
theorem Fi (p:Nat->Bool) (f:Nat->AV) (n:Nat):(sel p f n).length≤n:=by
 unfold sel
 rw[length_map]
 exact Nat.le_trans (List.length_filter_le _ _) (by simp)
theorem YE (ok:F.Ok) {elt iter:Expr} {x:Str} {px:Pos} {ifs:List Expr} {scope:Scope} {pos:Pos} {cl:List (Str×Addr)} {cap:List (Option AV)} {k:Nat} {d:AV} {xs:List AV} (p:Nat->Bool) (f:Nat->AV)
  (c:CompOk F scope cl) (hcap:Qa F sig scope cl cap) (hx:scope.names[k]?=some (x,.local)) (hd:((x==("__debug__" : Str)) || (x==("__classdict__" : Str)))=false)
  (h:Ev prog w F sig om iter d) (itr:Itr prog w F om d xs) (hsz:xs.length≤sizeLine)
  (body:∀ (V:PH) (n:Addr) (l:List AV),(Z5 F scope cl V n (n+1)).Ok->F.G.le V->n∉om.map (·.1)->∀ (i:Nat) xv,xs[i]?=some xv->Ifs prog w (Z5 F scope cl V n (n+1)) (cap.set k (some xv)) ((n,Zc l)::om) ifs (p i)∧(p i=true->Ev prog w (Z5 F scope cl V n (n+1)) (cap.set k (some xv)) ((n,Zc l)::om) elt (f i))) :
  Comp prog w F sig om elt iter [⟨.Name x px,iter,ifs,0⟩] scope pos cl (sel p f xs.length) :=
 ⟨d,fun R tau s E RR st hRR=>by
  refine Qc ok (act:=fun acc env=>Sr (.ListComp elt [⟨.Name x px,iter,ifs,0⟩] scope pos) elt acc env 0) (fun acc env=>Mt elt (.Name x px) iter ifs scope pos acc env) rfl rfl c.cell c.kind c.names hcap h itr (fun V n ok' hV hn=>?_) st hRR
  refine ⟨fun i sig om'=>(sig=cap∨∃ xv,sig=cap.set k (some xv))∧om'=(n,Zc (sel p f i))::om,⟨.inl rfl,rfl⟩,fun sig' om' hi=>hi.2,?_⟩
  rintro I i xv sig om' hx' ⟨hsig,rfl⟩
  have hset:sig.set k (some xv)=cap.set k (some xv):=by
   rcases hsig with rfl | ⟨y,rfl⟩
   ·rfl
   ·rw[List.set_set]
  obtain ⟨b1,b2⟩:=body V n (sel p f i) ok' hV hn i xv hx'
  refine ⟨cap.set k (some xv),p i,hset▸Zf ok' (.inl (At.of ok' (W7 hx) hd)),b1,fun e=>⟨.inr ⟨xv,rfl⟩,?_⟩,fun e=>NB (b2 e) OmUpd.here (Nat.le_trans (Fi _ _ _) (Nat.le_trans (le_of_lt (List.getElem?_eq_some_iff.mp hx').1) hsz)) ⟨.inr ⟨xv,rfl⟩,?_⟩⟩
  ·rw[Qd,e];simp
  ·rw[Qd,e];simp⟩
end
end
section
noncomputable def UK (G:PH) (n:Nat) (om:Om) (h':Heap):PH:=fun b=>if b∈om.map (·.1) then none else if b<n then G b else h'.get? b
noncomputable def GI (prog:Program) (w:World) (B:PH->Prop) (n:Nat) (f:Value) (ds:List AV) (om₁:Om) (P:AV->Om->Prop):Prop :=
 ∀ (A:Around) (G:PH) (s:Shared) (vs:List Value) (Q:Value->Shared->Prop) (E:Value->Shared->Prop),Room A n->B G->W2 G s.heap->Zn G ds vs ->
  (om₁.map (·.1)).Nodup->(∀ b∈om₁.map (·.1),G b=none)->(∀ p∈om₁,∃ o,s.heap.get? p.1=some o∧∀ V',G.le V'->p.2 V' o) ->
  (∀ v d om₂ h' tk,P d om₂->(om₂.map (·.1)).Nodup->(∀ b∈om₂.map (·.1),b∈om₁.map (·.1)∨s.heap.objs.size≤b)->(∀ b o,b∉om₁.map (·.1)->s.heap.get? b=some o->h'.get? b=some o) ->
   (∀ p∈om₂,∃ o,h'.get? p.1=some o∧∀ V',(UK G s.heap.objs.size om₂ h').le V'->p.2 V' o)->Rep (UK G s.heap.objs.size om₂ h') d v->Q v { s with heap:=h',toks:=tk }) ->
  wpAny (model prog w) A (call f vs) Q E s
section
variable {prog:Program} {w:World} {F:Fn} {R:PH} {sig sig':List (Option AV)} {om om':Om} {tau:List (Value×AV)} {s:Shared}
theorem Pp (h:om.Perm om') (b:Addr):b∈F.D om'↔b∈F.D om:=by
 unfold Fn.D
 simp only[mem_cons,mem_append]
 rw[(h.map (·.1)).mem_iff]
theorem Ws (h:om.Perm om') (hp:Heap):F.view R om' hp=F.view R om hp:=by
 funext b
 unfold Fn.view
 simp only[Pp h b]
theorem Sta.perm (h:om.Perm om') (x:Sta F R sig om tau s):Sta F R sig om' tau s:=by
 have hv:F.view R om' s.heap=F.view R om s.heap:=Ws h _
 refine ⟨x.same,?_,fun b o e=>?_,fun b o e=>?_,x.cells,fun p hp=>?_,fun p hp=>?_,?_⟩
 ·have:=x.nodup
  unfold Fn.D at this ⊢
  refine (List.Perm.nodup_iff ?_).mp this
  exact ((List.Perm.append_left _ (h.map _))).cons _
 ·obtain ⟨h1,h2,h3,h4⟩:=x.g b o e
  exact ⟨h1,fun q=>h2 ((Pp h b).mp q),h3,h4⟩
 ·obtain ⟨h1,h2⟩:=x.rf b o e
  exact ⟨fun q=>h1 ((Pp h b).mp q),h2⟩
 ·obtain ⟨o,ho,hP⟩:=x.opens p (h.mem_iff.mpr hp)
  exact ⟨o,ho,hv▸hP⟩
 ·rw[hv];exact x.temps p hp
 ·obtain ⟨m,hm,sl⟩:=x.slots
  exact ⟨m,hm,by rw[hv];exact sl⟩
theorem Hq {sts:List Stmt} {P:Out->Prop} (h:om.Perm om') (e:Ex prog w F sig om' sts P):Ex prog w F sig om sts P:=fun R tau s Q E st hq=>e R tau s Q E (st.perm h) hq
set_option tactic.hygienic true in
theorem Sta.called (ok:F.Ok) {om₁ om₂ rest:Om} (x:Sta F R sig (om₁++rest) tau s) {h':Heap} {tk:Nat} {v:Value} {d:AV} (nd:(om₂.map (·.1)).Nodup) (new:∀ b∈om₂.map (·.1),b∈om₁.map (·.1)∨s.heap.objs.size≤b)
  (k:∀ b o,b∉om₁.map (·.1)->s.heap.get? b=some o->h'.get? b=some o) (op:∀ p∈om₂,∃ o,h'.get? p.1=some o∧∀ V',(UK (F.view R (om₁++rest) s.heap) s.heap.objs.size om₂ h').le V'->p.2 V' o)
  (r:Rep (UK (F.view R (om₁++rest) s.heap) s.heap.objs.size om₂ h') d v):Sta F R sig (om₂++rest) ((v,d)::tau) { s with heap:=h',toks:=tk }:=by
 have inD:∀ b (o:Om),b∈F.D o↔b=F.L∨b∈F.cs∨b∈o.map (·.1):=fun b o=>by unfold Fn.D;simp only[mem_cons,mem_append]
 have ma:∀ b,b∈(om₁++rest).map (·.1)↔b∈om₁.map (·.1)∨b∈rest.map (·.1):=fun b=>by rw[map_append,mem_append]
 have ma2:∀ b,b∈(om₂++rest).map (·.1)↔b∈om₂.map (·.1)∨b∈rest.map (·.1):=fun b=>by rw[map_append,mem_append]
 have ndx:=x.nodup
 unfold Fn.D at ndx
 rw[nodup_cons,mem_append,not_or,nodup_append,map_append,nodup_append,mem_append,not_or] at ndx
 obtain ⟨⟨nL1,nL2,nL3⟩,ncs,⟨n1,n2,n3⟩,ncr⟩:=ndx
 have lt:∀ b,b∈F.D (om₁++rest)->b<s.heap.objs.size:=fun b hb=>x.lt hb
 have no2:∀ b,b<s.heap.objs.size->b∉om₁.map (·.1)->b∉om₂.map (·.1):=fun b hb h1 h2=>by
  rcases new b h2 with q | q
  ·exact h1 q
  ·exact absurd hb (Nat.not_lt.mpr q)
 have notD:∀ b,b<s.heap.objs.size->b∉F.D (om₁++rest)->b∉F.D (om₂++rest):=fun b hb h1 h2=>by
  rw[inD,ma,not_or,not_or,not_or] at h1
  rw[inD,ma2] at h2
  rcases h2 with q | q | q | q
  ·exact h1.1 q
  ·exact h1.2.1 q
  ·exact no2 b hb h1.2.2.1 q
  ·exact h1.2.2.2 q
 have not1:∀ b,b∉F.D (om₁++rest)->b∉om₁.map (·.1):=fun b h1 h2=>h1 ((inD _ _).mpr (.inr (.inr ((ma b).mpr (.inl h2)))))
 have kv:(F.view R (om₁++rest) s.heap).le (F.view R (om₂++rest) h'):=fun b o e=>by
  obtain ⟨c1,c2,c3⟩:=ZN e
  have hb:=Heap.lt_size (x.vget e)
  unfold Fn.view
  rw[if_neg (by rw[c2];simpa using notD b hb c1)]
  rcases c3 with ⟨q,z⟩ | ⟨q,z⟩
  ·rw[if_pos q];exact z
  ·rw[if_neg q];exact k b o (not1 b c1) z
 have ke:(UK (F.view R (om₁++rest) s.heap) s.heap.objs.size om₂ h').le (F.view R (om₂++rest) h'):=fun b o e=>by
  unfold UK at e
  split at e
  ·cases e
  ·rename_i q2
   split at e
   ·exact kv b o e
   ·rename_i q
    have hb:=Nat.not_lt.mp q
    have f:=x.fresh ok hb
    unfold Fn.view
    rw[if_neg,if_neg f.2]
    ·exact e
    ·rw[x.freshR hb]
     simp only[Option.isSome_none,Bool.false_eq_true,or_false]
     intro z
     rw[inD,ma2] at z
     rcases z with z | z | z | z
     ·exact f.1 ((inD _ _).mpr (.inl z))
     ·exact f.1 ((inD _ _).mpr (.inr (.inl z)))
     ·exact q2 z
     ·exact f.1 ((inD _ _).mpr (.inr (.inr ((ma b).mpr (.inr z)))))
 obtain ⟨h₀,tk₀,rfl⟩:=x.same
 refine ⟨⟨h',tk,rfl⟩,?_,fun b o e=>?_,fun b o e=>?_,fun c hc=>?_,fun p hp=>?_,fun p hp=>?_,?_⟩
 ·unfold Fn.D
  rw[nodup_cons,mem_append,not_or,nodup_append,map_append,nodup_append,mem_append,not_or]
  have hL:F.L<h₀.objs.size:=lt _ ((inD _ _).mpr (.inl rfl))
  refine ⟨⟨nL1,no2 _ hL nL2,nL3⟩,ncs,⟨nd,n2,fun a ha b hb=>?_⟩,fun a ha b hb=>?_⟩
  ·rcases new a ha with q | q
   ·exact n3 a q b hb
   ·have:=lt b ((inD _ _).mpr (.inr (.inr ((ma b).mpr (.inr hb)))))
    intro e;subst e
    exact absurd this (Nat.not_lt.mpr q)
  ·have hla:=lt a ((inD _ _).mpr (.inr (.inl ha)))
   rcases List.mem_append.mp hb with q | q
   ·rcases new b q with z | z
    ·exact ncr a ha b (List.mem_append.mpr (.inl z))
    ·intro e;subst e
     exact absurd hla (Nat.not_lt.mpr z)
   ·exact ncr a ha b (List.mem_append.mpr (.inr q))
 ·obtain ⟨h1,h2,h3,h4⟩:=x.g b o e
  exact ⟨h1,notD b (Heap.lt_size h3) h2,k b o (not1 b h2) h3,h4⟩
 ·obtain ⟨h1,h2⟩:=x.rf b o e
  exact ⟨notD b (Heap.lt_size h2) h1,k b o (not1 b h1) h2⟩
 ·obtain ⟨u,o,ho,hd⟩:=x.cells c hc
  exact ⟨u,o,k c o (fun q=>ncr c hc c (List.mem_append.mpr (.inl q)) rfl) ho,hd⟩
 ·rcases List.mem_append.mp hp with q | q
  ·obtain ⟨o,ho,hP⟩:=op p q
   exact ⟨o,ho,fun V' hV=>hP V' (ke.trans hV)⟩
  ·obtain ⟨o,ho,hP⟩:=x.opens p (List.mem_append.mpr (.inr q))
   exact ⟨o,k _ o (fun z=>n3 _ z _ (mem_map_of_mem q) rfl) ho,fun V' hV=>hP V' (kv.trans hV)⟩
 ·rcases List.mem_cons.mp hp with rfl | hp
  ·exact r.mono ke
  ·exact (x.temps p hp).mono kv
 ·obtain ⟨m,hm,sl⟩:=x.slots
  refine ⟨m,hm.at' fun o e=>k F.L o nL2 e,fun j y kind d h1 h2=>?_⟩
  cases sl j y kind d h1 h2 with
  | loc e r=>exact .loc e (r.mono kv)
  | cel a b c r q =>
   rcases q with q | q
   ·exact .cel a (k _ _ (fun z=>ncr _ q _ (List.mem_append.mpr (.inl z)) rfl) b) c (r.mono kv) (.inl q)
   ·exact .cel a (k _ _ (not1 _ (x.rf _ _ q).1) b) c (r.mono kv) (.inr q)
  | fre a b c r q=>exact .fre a (k _ _ (not1 _ (x.rf _ _ q).1) b) c (r.mono kv) q
noncomputable def OpX (prog:Program) (w:World) (F:Fn) (om:Om) (f:Value) (ds:List AV) (P:AV->Om->Prop):Prop :=
 ∀ (R:PH) (sig:List (Option AV)) (tau:List (Value×AV)) (vs:List Value) (s:Shared) (Q:Value->Shared->Prop) (E:Value->Shared->Prop),vs.length=ds.length->Sta F R sig om ((vs.zip ds).reverse++tau) s ->
  (∀ v d om' s',P d om'->Sta F R sig om' ((v,d)::tau) s'->Q v s')->wpAny (model prog w) F.A (call f vs) Q E s
theorem VA (ok:F.Ok) {B:PH->Prop} {n:Nat} {f:Value} {ds:List AV} {om₁ rest:Om} {P P':AV->Om->Prop} (hB:B F.G) (mono:∀ V V',V.le V'->B V->B V') (room:Room F.A n) (h:GI prog w B n f ds om₁ P) (hp:om.Perm (om₁++rest))
  (hP:∀ d om₂,P d om₂->P' d (om₂++rest)):OpX prog w F om f ds P':=fun R sig tau vs s Q E hv st hq=>by
 obtain ⟨r,st'⟩:=st.zip hv
 have x:=st'.perm hp
 have hvw:F.view R om s.heap=F.view R (om₁++rest) s.heap:=(Ws hp _).symm
 rw[hvw] at r
 have nd:=x.nodup
 unfold Fn.D at nd
 rw[nodup_cons,nodup_append,map_append,nodup_append] at nd
 refine h F.A (F.view R (om₁++rest) s.heap) s vs _ _ room (mono _ _ (Fn.G_view x) hB) x.viewIn r nd.2.2.1.1 (fun b hb=>?_) (fun p hp=>?_) fun v d om₂ h' tk hPd n2 new k op rv=>hq v d _ _ (hP d om₂ hPd) (x.called (tk:=tk) ok n2 new k op rv)
 ·have:b∈F.D (om₁++rest):=by
   unfold Fn.D
   rw[mem_cons,mem_append,map_append,mem_append]
   exact .inr (.inr (.inl hb))
  unfold Fn.view
  rw[if_pos (.inl this)]
 ·obtain ⟨o,ho,hP⟩:=x.opens p (List.mem_append.mpr (.inl hp))
  exact ⟨o,ho,hP⟩
end
end
section
section
variable {prog:Program} {w:World} {F:Fn} {R:PH} {sig sig':List (Option AV)} {om om':Om} {tau:List (Value×AV)} {s:Shared}
noncomputable def VB (G:PH) (om:Om) (h:Heap):PH:=fun b=>if (G b).isSome=true∨b∈om.map (·.1) then none else h.get? b
theorem Su {G:PH} {om:Om} {h:Heap} {b:Addr} {o:Obj} (e:G b=some o):VB G om h b=none:=by unfold VB;rw[e];rfl
set_option tactic.hygienic true in
theorem Tv {G:PH} {om:Om} {h:Heap} {b:Addr} {o:Obj} (e:VB G om h b=some o):h.get? b=some o∧b∉om.map (·.1):=by
 unfold VB at e
 split at e
 ·cases e
 ·rename_i q
  exact ⟨e,fun z=>q (.inr z)⟩
theorem NC {G:PH} {om:Om} {h:Heap} {b:Addr} {o:Obj} (h1:G b=none) (h2:b∉om.map (·.1)) (e:h.get? b=some o):VB G om h b=some o:=by
 unfold VB
 rw[if_neg (by rw[h1];simpa using h2)]
 exact e
theorem Tw {fd:FuncData} {f:Addr} {A:Around} {G:PH} {s s₁:Shared} {vs:List Value} {ds:List AV} {ps:List Str} {om₁:Om} (ok:DefOk fd ps)
  (hG:W2 G s.heap) (r:Zn G ds vs) (nd:(om₁.map (·.1)).Nodup) (hO:∀ b∈om₁.map (·.1),G b=none) (op:∀ p∈om₁,∃ o,s.heap.get? p.1=some o∧∀ V',G.le V'->p.2 V' o) (hlen:ps.length=ds.length)
  (x:InCallC s (callEnvC fd s.heap.objs.size f).locals (bindL (callEnvC fd s.heap.objs.size f).kindOf (ps.zip vs) fun _=>none) (callEnvC fd s.heap.objs.size f).cells (bindC (callEnvC fd s.heap.objs.size f).kindOf (ps.zip vs) fun _=>none) s₁) :
  Sta (Zd fd f A G s) (VB G om₁ s.heap) (YO fd.scope.names ps ds) om₁ [] s₁:=by
 have hvl:=r.length
 have ab:∀ n c,(n,c)∈(callEnvC fd s.heap.objs.size f).cells->s.heap.objs.size<c:=x.above
 have hm:∀ c∈(callEnvC fd s.heap.objs.size f).cells.map (·.2),∃ n,(n,c)∈(callEnvC fd s.heap.objs.size f).cells:=fun c hc=>by
  obtain ⟨⟨n,c'⟩,h1,h2⟩:=List.mem_map.mp hc
  cases h2
  exact ⟨n,h1⟩
 have omlt:∀ b∈om₁.map (·.1),b<s.heap.objs.size:=fun b hb=>by
  obtain ⟨p,hp,rfl⟩:=List.mem_map.mp hb
  obtain ⟨o,ho,_⟩:=op p hp
  exact Heap.lt_size ho
 have notD:∀ b,b<s.heap.objs.size->b∉om₁.map (·.1)->b∉(Zd fd f A G s).D om₁:=fun b hb ho h=>by
  unfold Fn.D at h
  simp only[mem_cons,mem_append] at h
  rcases h with h | h | h
  ·have:b=s.heap.objs.size:=h
   exact lt_irrefl _ (this▸hb)
  ·obtain ⟨n,hn⟩:=hm b h
   exact lt_irrefl _ (lt_trans (ab n b hn) hb)
  ·exact ho h
 have gO:∀ b o,G b=some o->b∉om₁.map (·.1):=fun b o e q=>by rw[hO b q] at e;cases e
 have kv:G.le ((Zd fd f A G s).view (VB G om₁ s.heap) om₁ s₁.heap):=fun b o e=>by
  have hb:b<s.heap.objs.size:=Heap.lt_size (hG _ _ e)
  exact N7 (notD b hb (gO b o e)) (Su e) hb e
 refine ⟨x.toInCall.same,?_,fun b o e=>⟨Heap.lt_size (hG _ _ e),notD b (Heap.lt_size (hG _ _ e)) (gO b o e),x.toInCall.keep _ _ (hG _ _ e),Su e⟩,fun b o e=>⟨notD b (Heap.lt_size (Tv e).1) (Tv e).2,x.toInCall.keep _ _ (Tv e).1⟩,fun c hc=>?_,fun p hp=>?_,fun p hp=>(nomatch hp),?_⟩
 ·unfold Fn.D
  rw[nodup_cons,mem_append,not_or,nodup_append]
  refine ⟨⟨fun h=>?_,fun h=>?_⟩,?_,nd,fun a ha b hb e=>?_⟩
  ·obtain ⟨n,hn⟩:=hm _ h
   exact lt_irrefl _ (ab n _ hn)
  ·exact lt_irrefl _ (omlt _ h)
  ·show ((callEnvC fd s.heap.objs.size f).cells.map (·.2)).Nodup
   rw[List.nodup_iff_pairwise_ne,List.pairwise_map]
   exact x.apart
  ·subst e
   obtain ⟨n,hn⟩:=hm _ ha
   exact lt_irrefl _ (lt_trans (ab n _ hn) (omlt _ hb))
 ·obtain ⟨n,hn⟩:=hm c hc
  exact ⟨_,x.cell n c (XA (U3 ok) hn)⟩
 ·obtain ⟨o,ho,hP⟩:=op p hp
  exact ⟨o,x.toInCall.keep _ _ ho,fun V' hV=>hP V' (kv.trans hV)⟩
 ·refine ⟨_,x.toInCall.ns,fun k y kind d h1 h2=>?_⟩
  have h1':fd.scope.names[k]?=some (y,kind):=h1
  unfold YO at h2
  rw[getElem?_map,h1'] at h2
  simp only[Option.map_some,Option.some.injEq] at h2
  obtain ⟨j,hj1,hj2⟩:=Vt h2
  obtain ⟨v,hv,rv⟩:=r.get hj2
  have hb:(ps.zip vs)[j]?=some (y,v):=by
   rw[List.getElem?_zip_eq_some];exact ⟨hj1,hv⟩
  have hnd:((ps.zip vs).map (·.1)).Nodup:=by
   rw[List.map_fst_zip (by omega)];exact ok.nodup
  have hkind:(callEnvC fd s.heap.objs.size f).kindOf y=some kind:=Y8 ok.names h1'
  have hb2:=Rg (kindOf:=(callEnvC fd s.heap.objs.size f).kindOf) (m:=fun _=>none) (m':=fun _=>none) hnd hb
  have hkd:kind=.local∨kind=.cell:=by
   have:fd.scope.names.lookup y=some kind:=hkind
   rcases ok.pk y (mem_of_getElem? hj1) with q | q<;>rw[this] at q<;>cases q
   ·exact .inl rfl
   ·exact .inr rfl
  rcases hkd with rfl | rfl
  ·exact .loc (hb2.1 hkind) (rv.mono kv)
  ·obtain ⟨c,hc⟩:=Option.isSome_iff_exists.mp (cellsFrom_some (x:=y) fd.scope.names (s.heap.objs.size+1) [] (.inl hkind))
   have hc':(callEnvC fd s.heap.objs.size f).cells.lookup y=some c:=hc
   have hcell:=x.cell y c hc'
   rw[hb2.2 hkind] at hcell
   obtain ⟨o,ho,hd⟩:=hcell
   exact .cel hc' ho hd (rv.mono kv) (.inl (List.mem_map.mpr ⟨(y,c),mem_of_lookup hc',rfl⟩))
end
end
section
inductive Ents (V:PH):List (Str×AV)->List DictEntry->Prop
 | nil:Ents V [] []
 | cons {x:Str} {d:AV} {as:List (Str×AV)} {h:Int} {t:Tok} {v:Value} {es:List DictEntry}:Rep V d v->handedIn v=true->Ents V as es->Ents V ((x,d)::as) (⟨h,.str x t,v⟩::es)
theorem Ents.mono {V V':PH} {as:List (Str×AV)} {es:List DictEntry} (k:V.le V') (h:Ents V as es):Ents V' as es:=by
 induction h with
 | nil=>exact .nil
 | cons r hh _ ih=>exact .cons (r.mono k) hh ih
theorem Ents.length {V:PH} {as:List (Str×AV)} {es:List DictEntry} (h:Ents V as es):es.length=as.length:=by
 induction h with
 | nil=>rfl
 | cons _ _ _ ih=>simp[ih]
noncomputable def Z2 (x:Str) (d:AV):List (Str×AV)->List (Str×AV)
 | []=>[(x,d)]
 | (y,e)::r=>if y=x then (y,d)::r else (y,e)::Z2 x d r
theorem Qe {x y:Str} {t:Tok}:(Value.str x t).isStr y=decide (x=y):=by
 show (x==y)=decide (x=y)
 by_cases h:x=y<;>simp[h]
theorem Ents.put {V:PH} {as:List (Str×AV)} {es:List DictEntry} (h:Ents V as es) {x:Str} {d:AV} {hsh:Int} {t:Tok} {v:Value} (r:Rep V d v) (hh:handedIn v=true):Ents V (Z2 x d as) (putL x hsh (.str x t) v es):=by
 induction h with
 | nil=>exact .cons r hh .nil
 | @cons y d' as h' t' v' es r' hh' hs ih =>
  unfold Z2 putL
  show Ents V _ (if (Value.str y t').isStr x=true then _ else _)
  rw[Qe]
  by_cases q:y=x
  ·rw[if_pos q,if_pos (by simpa using q)]
   exact .cons r hh hs
  ·rw[if_neg q,if_neg (by simpa using q)]
   exact .cons r' hh' ih
theorem Ents.get {V:PH} {as:List (Str×AV)} {es:List DictEntry} (h:Ents V as es) (x:Str):match as.lookup x with
  | some d=>∃ v,getL x es=some (some v)∧Rep V d v∧handedIn v=true
  | none=>getL x es=some none:=by
 have hr:es.any (·.refKey)=false:=by
  induction h with
  | nil=>rfl
  | cons _ _ _ ih=>rw[List.any_cons,ih];rfl
 have hf:match as.lookup x with
  | some d=>∃ e,es.find? (·.key.isStr x)=some e∧Rep V d e.val∧handedIn e.val=true
  | none=>es.find? (·.key.isStr x)=none:=by
  clear hr
  induction h with
  | nil=>rfl
  | @cons y d' as h' t' v' es r' hh' hs ih =>
   rw[lookup_cons,List.find?_cons]
   show match (match x==y with | true=>some d' | false=>as.lookup x) with | some d=>_ | none=>_
   have e1:(({ hash:=h',key:=.str y t',val:=v' }:DictEntry).key.isStr x)=decide (y=x):=Qe
   rw[e1]
   by_cases q:y=x
   ·subst q
    rw[beq_self_eq_true,decide_eq_true rfl]
    exact ⟨_,rfl,r',hh'⟩
   ·have q1:(x==y)=false:=by simpa using fun e:x=y=>q e.symm
    rw[q1,decide_eq_false q]
    exact ih
 unfold getL
 cases e:as.lookup x with
 | none=>rw[e] at hf;dsimp only at hf ⊢;rw[hf,hr];rfl
 | some d=>rw[e] at hf;dsimp only at hf ⊢;obtain ⟨en,h1,h2,h3⟩:=hf;rw[h1];exact ⟨_,rfl,h2,h3⟩
noncomputable def Zm (as:List (Str×AV)):PH->Obj->Prop:=fun V o=>∃ es n,o=dictOf es n∧Ents V as es
noncomputable def inst (C x dx:Addr):AV:=.raw fun V v=>v=.ref x∧V x=some (instObj C dx)
noncomputable def Zo (K:Frag) (V:PH):Prop:=∀ a o,K.lookup a=some o->V a=some o
theorem Zo.mono {K:Frag} {V V':PH} (k:V.le V') (h:Zo K V):Zo K V':=fun a o e=>k _ _ (h a o e)
noncomputable def Y3 (K:Frag) (C:Addr):Bool:=(clsIn K C).any (·.hasDict)&&(findIn K (.ref C) "__getattribute__" == some (some (.builtin "object.__getattribute__")))&&(findIn K (.ref C) "__getattr__" == some none)&&(findIn K (.ref C) "__setattr__" == some (some (.builtin "object.__setattr__")))&&plainOver K C
noncomputable def ZM (K:Frag) (C:Addr) (x:Str):Bool:=findIn K (.ref C) x==some none
section
variable {prog:Program} {w:World} {F:Fn} {R:PH} {sig sig':List (Option AV)} {om om':Om} {tau:List (Value×AV)} {s:Shared} {K:Frag}
theorem YJ {C:Addr} (h:Y3 K C=true):(∃ cd,clsIn K C=some cd∧cd.hasDict=true)∧findIn K (.ref C) "__getattribute__" = some (some (.builtin "object.__getattribute__"))∧findIn K (.ref C) "__getattr__" = some none∧findIn K (.ref C) "__setattr__" = some (some (.builtin "object.__setattr__"))∧plainOver K C=true:=by
 unfold Y3 at h
 simp only[Bool.and_eq_true,beq_iff_eq] at h
 obtain ⟨⟨⟨⟨h1,h2⟩,h3⟩,h4⟩,h5⟩:=h
 exact ⟨any_some h1,h2,h3,h4,h5⟩
theorem Sta.inK (x:Sta F R sig om tau s) (h:Zo K F.G):K.In s.heap:=fun a o e=>(x.g a o (h a o e)).2.2.1
theorem Sta.openD (x:Sta F R sig om tau s) {a:Addr} {as:List (Str×AV)} (h:(a,Zm as)∈om):∃ es n,s.heap.get? a=some (dictOf es n)∧Ents (F.view R om s.heap) as es:=by
 obtain ⟨o,ho,hP⟩:=x.opens _ h
 obtain ⟨es,n,rfl,e⟩:=hP _ (PH.le.refl _)
 exact ⟨es,n,ho,e⟩
theorem Sta.instAt (x:Sta F R sig om tau s) {C a dx:Addr} {as:List (Str×AV)} {v:Value} (r:Rep (F.view R om s.heap) (inst C a dx) v) (h:(dx,Zm as)∈om):v=.ref a∧s.heap.get? a=some (instObj C dx) ∧
  ∃ es n,s.heap.get? dx=some (dictOf es n)∧Ents (F.view R om s.heap) as es∧InstAt s.heap a (instObj C dx) C (some (dictOf es n)):=by
 unfold inst at r
 obtain ⟨e1,e2⟩:=r _ (PH.le.refl _)
 obtain ⟨es,n,h1,h2⟩:=x.openD h
 exact ⟨e1,x.vget e2,es,n,h1,h2,⟨x.vget e2,rfl,rfl,h1⟩⟩
theorem Qf {C:Addr} {es:List DictEntry} {n:Nat} {x:Str} {v:Value} (hp:Y3 K C=true) (hx:ZM K C x=true) (h:getL x es=some (some v)):findObj K C (some (dictOf es n)) x=some (.value v):=by
 obtain ⟨⟨cd,h1,h2⟩,_⟩:=YJ hp
 have h3:findIn K (.ref C) x=some none:=beq_iff_eq.mp hx
 unfold findObj
 rw[h1,Option.bind_some,h3,Option.bind_some]
 have h4:W.ownOf cd (some (dictOf es n)) x=some (some v):=by
  unfold W.ownOf
  rw[h2,if_pos rfl]
  exact h
 dsimp only[Option.bind_some]
 rw[h4]
 rfl
theorem Hr {o:Expr} {x:Str} {pos:Pos} {C a dx:Addr} {as:List (Str×AV)} {d:AV} (hk:Zo K F.G) (hp:Y3 K C=true) (hx:ZM K C x=true) (h:Ev prog w F sig om o (inst C a dx)) (hm:(dx,Zm as)∈om) (hl:as.lookup x=some d)
  (he:eval (.Attribute o x pos) F.env=(do
   let ov <-eval o F.env
   standAt pos.atName
   let r <-holding [ov] (getAttr ov x true)
   letTemporaryGo o ov r
   pure r):=by with_unfolding_all rfl):Ev prog w F sig om (.Attribute o x pos) d:=fun R tau s Q E st hq=>by
 refine Attribute_any_ (h R tau s _ _ st fun v s₁ st₁=>?_) he
 obtain ⟨rfl,h1,es,n,h2,h3,I⟩:=st₁.instAt st₁.top hm
 have g:=h3.get x
 rw[hl] at g
 obtain ⟨u,g1,g2,g3⟩:=g
 exact get_value (st₁.inK hk) I (YJ hp).2.1 (Qf hp hx g1) g3 (hq _ _ (st₁.pop.tok1.push g2))
noncomputable def AsX (prog:Program) (w:World) (F:Fn) (target:Expr) (d:AV) (sig:List (Option AV)) (om:Om) (sig':List (Option AV)) (om':Om):Prop :=
 ∀ (R:PH) (tau:List (Value×AV)) (v:Value) (s:Shared) (Q:Unit->Shared->Prop) (E:Value->Shared->Prop),Sta F R sig om ((v,d)::tau) s ->
  (∀ s',Sta F R sig' om' ((v,d)::tau) s'->Q () s')->wpAny (model prog w) F.A (assign target F.env v) Q E s
theorem W8 {target:Expr} {d:AV} (h:As prog w F om target d sig sig'):AsX prog w F target d sig om sig' om:=fun R tau v s Q E st hq=>h R tau v s Q E st hq
noncomputable def XB (d:AV):Prop:=∀ V v,Rep V d v->handedIn v=true
theorem X3:XB .none:=fun V v h=>by cases h;rfl
theorem Qg {b:Bool}:XB (.bool b):=fun V v h=>by cases h;rfl
theorem Tx {a:Addr}:XB (.ptr a):=fun V v h=>by cases h;rfl
theorem Pq {a:Str}:XB (.str a):=fun V v h=>by obtain ⟨_,rfl⟩:=h;rfl
theorem Vv {a:List AV}:XB (.lst a):=fun V v h=>by obtain ⟨_,_,_,rfl,_⟩:=h;rfl
theorem Qh (name:Str) (hsh:Int) (key v:Value):∀ es:List DictEntry,(putL name hsh key v es).length≤es.length+1
 | []=>le_refl _
 | e::r=>by
  have:=Qh name hsh key v r
  unfold putL
  by_cases q:e.key.isStr name=true
  ·rw[if_pos q];exact le_succ _
  ·rw[if_neg q];exact succ_le_succ this
theorem LX {A:Around} {C x dx:Addr} {es:List DictEntry} {n:Nat} {name:Str} {tk:Tok} {v:Value} {RR:Result->Shared->Prop} (X:K.In s.heap) (I:InstAt s.heap x (instObj C dx) C (some (dictOf es n))) (hp:Y3 K C=true) (hx:ZM K C name=true)
  (hl:(getL name es).isSome=true) (hz:es.length≤1000)
  (h:∀ h' hsh t n',Heap.SameBut dx s.heap h'->h'.get? dx=some (dictOf (putL name hsh (.str name t) v es) n')->RR (.ok (.ret .none)) { s with heap:=h',toks:=s.toks+1 }) :
  codeAny (model prog w) A (.call (.builtin "object.__setattr__") ⟨[.ref x,.str name tk,v],[]⟩) RR s:=by
 obtain ⟨⟨cd,hc,hd'⟩,_,_,_,po⟩:=YJ hp
 have h3:findIn K (.ref C) name=some none:=beq_iff_eq.mp hx
 refine osa_open X I po (r:=none) (by unfold takerIn;rw[h3];rfl) fun b=>?_
 have D:s.heap.get? dx=some (dictOf es n):=I.dict
 obtain ⟨hx,hcl,hn,-⟩:=I
 refine wpAny_bind (wpAny_pure (wpAny_bind (wpAny_bind (wpAny_loadPart hx (wpAny_bind ((looks_clsIn X hc).here ?_))))))
 rw[hd']
 refine wpAny_pure (a:=some dx) (wpAny_bind (wpAny_pure (wpAny_bind ?_)))
 unfold nsSet
 refine wpAny_bind (wpAny_bind (wpAny_askSetting (wpAny_pure (wpAny_bind (wpAny_mkText (wpAny_bind (wpAny_loadPart D ?_)))))))
 dsimp only
 have c:(!es.toArray.any (·.key.isStr name)&&es.toArray.any (·.refKey))=false:=by
  rw[<-Array.any_toList,<-Array.any_toList]
  unfold getL at hl
  cases he:es.find? (·.key.isStr name) with
  | some en=>rw[List.any_eq_true.mpr ⟨en,List.mem_of_find?_eq_some he,List.find?_some he⟩];rfl
  | none =>
   rw[he] at hl
   cases z:es.any (·.refKey) with
   | true=>rw[z] at hl;exact absurd hl Bool.false_ne_true
   | false=>rw[Bool.and_false]
 rw[aRefKeyMayBeTheName_at,c]
 refine wpAny_updatePart D ?_
 have D':(s.heap.update dx (Obj.putName name (PyData.keyHash w.params name) (.str name s.toks) v)).get? dx=some (dictOf (putL name (PyData.keyHash w.params name) (.str name s.toks) v es) (putN name es n)):=by
  rw[Heap.get?_update_self _ D (by rw[putName_dict];rfl),putName_dict]
 refine wpAny_bind (wpAny_lookBehind D' (pastItsLine_dict (by rw[List.size_toArray,sizeLine_eq];exact Nat.le_trans (Qh name (PyData.keyHash w.params name) (.str name s.toks) v es) (Nat.le_trans (succ_le_succ hz) (by decide)))) ?_)
 exact wpAny_pure (h _ _ _ _ (Heap.SameBut.update ..) D')
theorem LY {o:Expr} {x:Str} {pos:Pos} {C a dx:Addr} {as:List (Str×AV)} {d:AV} (hk:Zo K F.G) (hp:Y3 K C=true) (hx:ZM K C x=true) (h:Ev prog w F sig om o (inst C a dx)) (hd:XB d) (hz:as.length≤1000)
  (u:OmUpd om dx (Zm as) (Zm (Z2 x d as)) om'):AsX prog w F (.Attribute o x pos) d sig om sig om':=fun R tau v s Q E st hq=>by
 rw[assign_Attribute]
 refine wpAny_bind (wpAny_holding (h R _ s _ _ st fun ov s₁ st₁=>wpAny_bind (wpAny_standAt (wpAny_bind (wpAny_holding ?_)))))
 obtain ⟨rfl,h1,es,n,h2,h3,I⟩:=st₁.instAt st₁.top u.mem
 refine set_plain (st₁.inK hk) I (YJ hp).2.2.2.1 ?_
 have g:=h3.get x
 refine LX (s:={ s₁ with toks:=s₁.toks+1 }) (st₁.inK hk) I hp hx ?_ (h3.length▸hz) fun h' hsh t n' hs ho=>?_
 ·cases e:as.lookup x with
  | none=>rw[e] at g;dsimp only at g;rw[g];rfl
  | some d=>rw[e] at g;obtain ⟨_,g1,_⟩:=g;rw[g1];rfl
 ·refine wpAny_release (hq _ ?_)
  have r:=st₁.top2
  have kv:=Ym (F:=F) (R:=R) (om:=om) u.inD (show Heap.SameBut dx s₁.heap h' from hs)
  exact st₁.pop.upd (tk:=s₁.toks+1+1) u hs ho fun V' hV=>⟨_,_,rfl,(h3.mono (kv.trans hV)).put (r.mono (kv.trans hV)) (hd _ _ r)⟩
end
end
section
section
variable {prog:Program} {w:World} {F:Fn} {R:PH} {sig sig':List (Option AV)} {om om':Om} {tau:List (Value×AV)} {s:Shared}
theorem LZ {f:Value} {ds:List AV} {d:AV} {P:AV->Om->Prop} (h:OpC prog w F om f ds d) (hp:P d om):OpX prog w F om f ds P:=fun R sig tau vs s Q E hv st hq=>h R sig tau vs s Q E hv st fun v s' st'=>hq v d om s' hp st'
theorem VC {func:Expr} {args:List Expr} {pos:Pos} {f:Value} {P:AV->Om->Prop} (h₁:Ev prog w F sig om func (.raw fun _ u=>u=f)) (c:X9 prog w F f) (h₂:RV prog w F sig om args fun ds om'=>OpX prog w F om' f ds P)
  (hc:eval (.Call func args [] pos) F.env=(do callWith pos (<-eval func F.env) [] (backTo pos (starEach args F.env)) (backToKw pos (keywordEach [] F.env))):=by rfl)
  (hp:(backTo pos (starEach args F.env)).any (·.1)=false:=by rfl) :
  EvX prog w F sig om (.Call func args [] pos) P:=fun R tau s Q E st h=>by
 rw[hc]
 refine wpAny_bind (h₁ R tau s _ _ st fun v s₁ st₁=>?_)
 have:=st₁.top
 obtain rfl:=this _ (PH.le.refl _)
 refine callWith_of (P:=fun h=>∀ b o,F.G b=some o->h.get? b=some o) (by show ((backTo pos (starEach args F.env)).any (·.1) || false)=false;rw[hp];rfl) c (Wq hp (h₂ pos R tau s₁ _ _ st₁.pop fun vs ds om' s₂ o hv st₂=>?_))
 exact ⟨fun b o e=>(st₂.g b o e).2.2.1,o R sig tau vs s₂ _ _ hv st₂ h⟩
noncomputable def Qi (prog:Program) (w:World) (F:Fn) (om:Om) (d:AV) (name:Str) (f:Value):Prop :=
 ∀ (R:PH) (sig:List (Option AV)) (tau:List (Value×AV)) (v:Value) (s:Shared) (pl:Sem Bool) (Q:Value×List Value->Shared->Prop) (E:Value->Shared->Prop),Sta F R sig om ((v,d)::tau) s->Q (f,[v]) s->wpAny (model prog w) F.A (getMethod v name pl) Q E s
theorem Ka {o:Expr} {name:Str} {apos pos:Pos} {args:List Expr} {d₀:AV} {f:Value} {P:AV->Om->Prop} (h₁:Ev prog w F sig om o d₀) (hm:Qi prog w F om d₀ name f) (c:X9 prog w F f) (h₂:RV prog w F sig om args fun ds om'=>OpX prog w F om' f (d₀::ds) P)
  (pl:Sem Bool) (he:eval (.Call (.Attribute o name apos) args [] pos) F.env=(do
   let ov <-eval o F.env
   standAt apos.atName
   let (f,first) <-holding [ov] (getMethod ov name pl)
   callWith pos f first (backTo pos (starEach args F.env)) []):=by rfl)
  (hp:(backTo pos (starEach args F.env)).any (·.1)=false:=by rfl):EvX prog w F sig om (.Call (.Attribute o name apos) args [] pos) P:=fun R tau s Q E st hq=>by
 refine MethodCall_ (pl:=pl) (h₁ R tau s _ _ st fun v s₁ st₁=>hm R sig tau v s₁ pl _ _ st₁ ?_) he
 refine callWith_of (P:=fun h=>∀ b o,F.G b=some o->h.get? b=some o) (by show ((backTo pos (starEach args F.env)).any (·.1) || false)=false;rw[hp];rfl) c (Wq hp (h₂ pos R _ s₁ _ _ st₁ fun vs ds om' s₂ op hv st₂=>?_))
 refine ⟨fun b o e=>(st₂.g b o e).2.2.1,op R sig tau (v::vs) s₂ _ _ (by simp[hv]) ?_ hq⟩
 simpa using st₂
theorem GJ {e:Expr} {d:AV} (h:EvX prog w F sig om e fun d' om'=>d'=d∧om'=om):Ev prog w F sig om e d:=fun R tau s Q E st hq=>h R tau s Q E st fun v d' om' s' ⟨e1,e2⟩ st'=>by subst e1 e2;exact hq v s' st'
theorem Xo {es:List Expr} {ds:List AV} {P:List AV->Om->Prop} (h:EvL prog w F sig om es ds) (hp:P ds om):RV prog w F sig om es P:=fun pos R tau s Q E st hq=>h pos R tau s Q E st fun vs s' hv st'=>hq vs ds om s' hp hv st'
theorem ND {t:Expr} {pos:Pos} {e:Expr} {P:AV->Om->Prop} {P':Out->Prop} (h:EvX prog w F sig om e P) (a:∀ d om',P d om'->∃ sig₁ om₁,AsX prog w F t d sig om' sig₁ om₁∧P' (.nxt sig₁ om₁))
  (hs:swapsWithSole [t] e pos.line F.env=pure false:=by rfl) (hw:swappedStores [t] e F.env=pure none:=by rfl) (ha:(assignEach [t] F.env).map (·.2)=[assign t F.env]:=by rfl):Ex1 prog w F sig om (.Assign [t] e pos) P':=fun R tau s Q E st hq=>by
 refine wpAny_Assign_stores (h R tau s _ _ st fun v d om' s' hp st'=>?_) hs hw
 obtain ⟨sig₁,om₁,as,hp'⟩:=a d om' hp
 rw[ha]
 exact as R tau v s' _ _ st' fun s'' st''=>hq _ _ _ hp' st''.pop
theorem VD {t₁ t₂:Expr} {pos:Pos} {e:Expr} {P:AV->Om->Prop} {P':Out->Prop} (h:EvX prog w F sig om e P) (a:∀ d om',P d om'->∃ sig₁ om₁ sig₂ om₂,AsX prog w F t₁ d sig om' sig₁ om₁∧AsX prog w F t₂ d sig₁ om₁ sig₂ om₂∧P' (.nxt sig₂ om₂))
  (hw:swappedStores [t₁,t₂] e F.env=pure none:=by rfl) (ha:(assignEach [t₁,t₂] F.env).map (·.2)=[assign t₁ F.env,assign t₂ F.env]:=by rfl):Ex1 prog w F sig om (.Assign [t₁,t₂] e pos) P':=fun R tau s Q E st hq=>by
 refine wpAny_Assign_two (h R tau s _ _ st fun v d om' s' hp st'=>?_) ha hw
 obtain ⟨sig₁,om₁,sig₂,om₂,as,as',hp'⟩:=a d om' hp
 exact as R tau v s' _ _ st' fun s'' st''=>as' R tau v s'' _ _ st'' fun s3 st3=>hq _ _ _ hp' st3.pop
theorem Mu {t₁ t₂ t₃:Expr} {pos:Pos} {e:Expr} {P:AV->Om->Prop} {P':Out->Prop} (h:EvX prog w F sig om e P) (a:∀ d om',P d om'->∃ sig₁ om₁ sig₂ om₂ sig₃ om₃,AsX prog w F t₁ d sig om' sig₁ om₁∧AsX prog w F t₂ d sig₁ om₁ sig₂ om₂∧AsX prog w F t₃ d sig₂ om₂ sig₃ om₃∧P' (.nxt sig₃ om₃))
  (hw:swappedStores [t₁,t₂,t₃] e F.env=pure none:=by rfl) (ha:(assignEach [t₁,t₂,t₃] F.env).map (·.2)=[assign t₁ F.env,assign t₂ F.env,assign t₃ F.env]:=by rfl):Ex1 prog w F sig om (.Assign [t₁,t₂,t₃] e pos) P':=fun R tau s Q E st hq=>by
 refine wpAny_Assign_three (h R tau s _ _ st fun v d om' s' hp st'=>?_) ha hw
 obtain ⟨sig₁,om₁,sig₂,om₂,sig₃,om₃,as,as',as'',hp'⟩:=a d om' hp
 exact as R tau v s' _ _ st' fun s'' st''=>as' R tau v s'' _ _ st'' fun s3 st3=>as'' R tau v s3 _ _ st3 fun s4 st4=>hq _ _ _ hp' st4.pop
theorem Sta.drop (ok:F.Ok) (x:Sta F R sig om tau s) {a:Addr} {P:PH->Obj->Prop} (hd:OmDel om a P om'):Sta F R sig om' tau s:=by
 have pm:=hd.perm
 have y:=x.perm pm
 clear hd x
 have inD:∀ b (o:Om),b∈F.D o↔b=F.L∨b∈F.cs∨b∈o.map (·.1):=fun b o=>by unfold Fn.D;simp only[mem_cons,mem_append]
 have sub:∀ b,b∈F.D om'->b∈F.D ((a,P)::om'):=fun b hb=>by
  rw[inD] at hb ⊢
  rcases hb with q | q | q
  ·exact .inl q
  ·exact .inr (.inl q)
  ·exact .inr (.inr (mem_cons_of_mem _ q))
 have kv:(F.view R ((a,P)::om') s.heap).le (F.view R om' s.heap):=fun b o e=>by
  obtain ⟨c1,c2,c3⟩:=ZN e
  unfold Fn.view
  rw[if_neg (by rw[c2];simpa using fun q=>c1 (sub b q))]
  rcases c3 with ⟨q,z⟩ | ⟨q,z⟩
  ·rw[if_pos q];exact z
  ·rw[if_neg q];exact z
 refine ⟨y.same,?_,fun b o e=>?_,fun b o e=>?_,y.cells,fun p hp=>?_,fun p hp=>(y.temps p hp).mono kv,?_⟩
 ·have:=y.nodup
  unfold Fn.D at this ⊢
  refine this.sublist (List.Sublist.cons_cons _ (List.Sublist.append_left (List.Sublist.map _ (List.sublist_cons_self _ _)) _))
 ·obtain ⟨h1,h2,h3,h4⟩:=y.g b o e
  exact ⟨h1,fun q=>h2 (sub b q),h3,h4⟩
 ·obtain ⟨h1,h2⟩:=y.rf b o e
  exact ⟨fun q=>h1 (sub b q),h2⟩
 ·obtain ⟨o,ho,hP⟩:=y.opens p (mem_cons_of_mem _ hp)
  exact ⟨o,ho,fun V' hV=>hP V' (kv.trans hV)⟩
 ·obtain ⟨m,hm,sl⟩:=y.slots
  exact ⟨m,hm,fun k z kind d h1 h2=>(sl k z kind d h1 h2).mono kv (fun _ _ _ e=>e) fun _ _ e=>e⟩
theorem NE (ok:F.Ok) {a:Addr} {P:PH->Obj->Prop} {sts:List Stmt} {P':Out->Prop} (hd:OmDel om a P om') (h:Ex prog w F sig om' sts P'):Ex prog w F sig om sts P':=fun R tau s Q E st hq=>h R tau s Q E (st.drop ok hd) hq
end
end
section
noncomputable def Kb (a:Addr) (d:AV) (P P':PH->Obj->Prop):Prop:=∀ V o,Rep V d (.ref a)->P V o->P' V o
theorem Sv {a:Addr} {d:AV} {P:PH->Obj->Prop}:Kb a d P P:=fun _ _ _ h=>h
inductive OmCast (a:Addr) (d:AV):Om->Om->Prop
 | nil:OmCast a d [] []
 | cons {b:Addr} {P P':PH->Obj->Prop} {om om':Om}:Kb a d P P'->OmCast a d om om'->OmCast a d ((b,P)::om) ((b,P')::om')
theorem OmCast.refl {a:Addr} {d:AV}:∀ {om:Om},OmCast a d om om
 | []=>.nil
 | (b,P)::r=>.cons Sv (OmCast.refl (om:=r))
theorem OmCast.addrs {a:Addr} {d:AV} {om om':Om} (h:OmCast a d om om'):om'.map (·.1)=om.map (·.1):=by
 induction h with
 | nil=>rfl
 | cons _ _ ih=>simp[ih]
theorem OmCast.mem {a:Addr} {d:AV} {om om':Om} (h:OmCast a d om om'):∀ p∈om',∃ P,(p.1,P)∈om∧Kb a d P p.2:=by
 induction h with
 | nil=>intro p hp;cases hp
 | cons w _ ih =>
  intro p hp
  rcases List.mem_cons.mp hp with rfl | hp
  ·exact ⟨_,mem_cons_self,w⟩
  ·obtain ⟨P,h1,h2⟩:=ih p hp
   exact ⟨P,mem_cons_of_mem _ h1,h2⟩
noncomputable def ZH (a:Addr) (d:AV) (sig sig':List (Option AV)):Prop:=∀ (k:Nat) d',sig'[k]?=some (some d')->sig[k]?=some (some d')∨(sig[k]?=some (some (.ptr a))∧d'=d)
theorem ZH.refl {a:Addr} {d:AV} {sig:List (Option AV)}:ZH a d sig sig:=fun _ _ h=>.inl h
set_option tactic.hygienic true in
theorem ZH.set {a:Addr} {d:AV} {sig:List (Option AV)} {k:Nat} (h:sig[k]?=some (some (.ptr a))):ZH a d sig (sig.set k (some d)):=fun j d' e=>by
 rw[List.getElem?_set] at e
 split at e
 ·split at e
  ·rename_i q _;subst q;cases e;exact .inr ⟨h,rfl⟩
  ·cases e
 ·exact .inl e
section
variable {prog:Program} {w:World} {F:Fn} {R:PH} {sig sig':List (Option AV)} {om om' om₁:Om} {tau:List (Value×AV)} {s:Shared}
theorem Sta.cast (ok:F.Ok) (x:Sta F R sig om tau s) {a:Addr} {P:PH->Obj->Prop} {d:AV} (hd:OmDel om a P om₁) (ha:F.n₀≤a) (key:∀ V o,V a=some o->P V o->Rep V d (.ref a)) (hs:ZH a d sig sig') (ho:OmCast a d om₁ om'):Sta F R sig' om' tau s:=by
 obtain ⟨o,hao,hP⟩:=x.opens _ (hd.perm.mem_iff.mpr mem_cons_self)
 have nd:=(x.perm hd.perm).nodup
 have haD:a∈F.D ((a,P)::om₁):=by unfold Fn.D;simp
 have hRa:R a=none:=by
  cases e:R a with
  | none=>rfl
  | some o=>exact absurd haD ((x.perm hd.perm).rf a o e).1
 have y:=x.drop ok hd
 have hv:F.view R om₁ s.heap a=some o:=by
  unfold Fn.view
  rw[if_neg,if_neg (Nat.not_lt.mpr ha)]
  ·exact hao
  ·rw[hRa]
   simp only[Option.isSome_none,Bool.false_eq_true,or_false]
   intro q
   unfold Fn.D at nd q
   rw[nodup_cons,nodup_append] at nd
   rcases List.mem_cons.mp q with q | q
   ·exact nd.1 (List.mem_append.mpr (.inr (by rw[<-q];simp)))
   ·rcases List.mem_append.mp q with q | q
    ·exact nd.2.2.2 a q a (by simp) rfl
    ·have:=nd.2.2.1
     simp only[map_cons,nodup_cons] at this
     exact this.1 q
 have kv:(F.view R om s.heap).le (F.view R om₁ s.heap):=by
  rw[Ws hd.perm.symm]
  intro b ob e
  obtain ⟨c1,c2,c3⟩:=ZN e
  unfold Fn.view
  rw[if_neg]
  ·rcases c3 with ⟨q,z⟩ | ⟨q,z⟩
   ·rw[if_pos q];exact z
   ·rw[if_neg q];exact z
  ·rw[c2]
   simp only[Option.isSome_none,Bool.false_eq_true,or_false]
   intro q
   apply c1
   unfold Fn.D at q ⊢
   simp only[mem_cons,mem_append,map_cons] at q ⊢
   rcases q with q | q | q
   ·exact .inl q
   ·exact .inr (.inl q)
   ·exact .inr (.inr (.inr q))
 have kd:Rep (F.view R om₁ s.heap) d (.ref a):=key _ o hv (hP _ kv)
 have hD:F.D om'=F.D om₁:=by unfold Fn.D;rw[ho.addrs]
 have hvw:F.view R om' s.heap=F.view R om₁ s.heap:=by unfold Fn.view;rw[hD]
 refine ⟨y.same,hD▸y.nodup,fun b o e=>hD▸y.g b o e,fun b o e=>hD▸y.rf b o e,y.cells,fun p hp=>?_,fun p hp=>by rw[hvw];exact y.temps p hp,?_⟩
 ·obtain ⟨P₀,h1,h2⟩:=ho.mem p hp
  obtain ⟨ob,hob,hPo⟩:=y.opens _ h1
  exact ⟨ob,hob,fun V' hV=>h2 V' ob (kd.mono (hvw▸hV)) (hPo V' (hvw▸hV))⟩
 ·obtain ⟨m,hm,sl⟩:=y.slots
  refine ⟨m,hm,fun k z kind d' h1 h2=>?_⟩
  rw[hvw]
  rcases hs k d' h2 with q | ⟨q,rfl⟩
  ·exact sl k z kind d' h1 q
  ·have:=sl k z kind _ h1 q
   cases this with
   | loc e r=>subst r;exact .loc e kd
   | cel a b c r q=>subst r;exact .cel a b c kd q
   | fre a b c r q=>subst r;exact .fre a b c kd q
theorem Yx (ok:F.Ok) {a:Addr} {P:PH->Obj->Prop} {d:AV} {sts:List Stmt} {P':Out->Prop} (hd:OmDel om a P om₁) (ha:F.n₀≤a) (key:∀ V o,V a=some o->P V o->Rep V d (.ref a)) (hs:ZH a d sig sig') (ho:OmCast a d om₁ om')
  (h:Ex prog w F sig' om' sts P'):Ex prog w F sig om sts P':=fun R tau s Q E st hq=>h R tau s Q E (st.cast ok hd ha key hs ho) hq
theorem YK {a:Addr} {l:List AV}:∀ V o,V a=some o->Zc l V o->Rep V (.lst l) (.ref a):=fun V o h ⟨vs,n,e,r⟩=>by
 subst e
 exact ⟨a,vs,n,rfl,h,r⟩
noncomputable def W9 (V:PH):Option AV->Option Value->Prop
 | none,r=>r=none
 | some d,r=>∃ v,r=some v∧Rep V d v
theorem W9.mono {V V':PH} (k:V.le V') {d:Option AV} {r:Option Value} (h:W9 V d r):W9 V' d r:=by
 cases d with
 | none=>exact h
 | some d=>obtain ⟨v,e,r⟩:=h;exact ⟨v,e,r.mono k⟩
noncomputable def Z7 (f:Int->Option AV) (m:Nat):PH->Obj->Prop:=fun V o=>o.ExactDict∧∃ es ep,o.data=.dict es ep∧IntKeys es∧es.size≤m∧∀ k,W9 V (f k) (findBy Value.isInt es k)
noncomputable def upd (f:Int->Option AV) (k:Int) (d:AV):Int->Option AV:=fun x=>if x=k then some d else f x
noncomputable def dct (f:Int->Option AV) (m:Nat):AV:=.raw fun V v=>∃ a o,v=.ref a∧(a==sysModules)=false∧V a=some o∧Z7 f m V o
theorem UV {a:Addr} {f:Int->Option AV} {m:Nat} (ha:sysModules<a):∀ V o,V a=some o->Z7 f m V o->Rep V (dct f m) (.ref a):=fun V o h hd=>by
 unfold dct
 intro V' hV
 obtain ⟨h1,es,ep,h2,h3,h4,h5⟩:=hd
 exact ⟨a,o,rfl,by simpa using (ne_of_lt ha).symm,hV _ _ h,h1,es,ep,h2,h3,h4,fun k=>(h5 k).mono hV⟩
theorem Z7.weak {a:Addr} {d:AV} {f f':Int->Option AV} {m:Nat} (h:∀ k,f' k=f k∨(f k=some (.ptr a)∧f' k=some d)):Kb a d (Z7 f m) (Z7 f' m):=fun V o r ⟨h1,es,ep,h2,h3,h4,h5⟩=>by
 refine ⟨h1,es,ep,h2,h3,h4,fun k=>?_⟩
 rcases h k with q | ⟨q1,q2⟩
 ·rw[q];exact h5 k
 ·have:=h5 k
  rw[q1] at this
  obtain ⟨v,e,rv⟩:=this
  subst rv
  rw[q2]
  exact ⟨_,e,r⟩
inductive AttCast (a:Addr) (d:AV):List (Str×AV)->List (Str×AV)->Prop
 | nil:AttCast a d [] []
 | same {x:Str} {e:AV} {as as':List (Str×AV)}:AttCast a d as as'->AttCast a d ((x,e)::as) ((x,e)::as')
 | cast {x:Str} {as as':List (Str×AV)}:AttCast a d as as'->AttCast a d ((x,.ptr a)::as) ((x,d)::as')
theorem AttCast.ents {a:Addr} {d:AV} {as as':List (Str×AV)} {V:PH} (h:AttCast a d as as') (r:Rep V d (.ref a)):∀ es,Ents V as es->Ents V as' es:=by
 induction h with
 | nil=>intro es he;cases he;exact .nil
 | same _ ih=>intro es he;cases he with | cons r' hh hs=>exact .cons r' hh (ih _ hs)
 | cast _ ih =>
  intro es he
  cases he with
  | cons r' hh hs =>
   subst r'
   exact .cons r hh (ih _ hs)
theorem Zm.weak {a:Addr} {d:AV} {as as':List (Str×AV)} (h:AttCast a d as as'):Kb a d (Zm as) (Zm as'):=fun V o r ⟨es,n,e,he⟩=>⟨es,n,e,h.ents r es he⟩
theorem Z7.map {V:PH} {o:Obj} {f:Int->Option AV} {m:Nat} {h:Heap} {a:Addr} (x:Z7 f m V o) (ho:h.get? a=some o):∃ g:Int->Option Value,h.MapOf (intKind prog w) a g∧h.DictLe a m∧∀ k,W9 V (f k) (g k):=by
 obtain ⟨h1,es,ep,h2,h3,h4,h5⟩:=x
 have im:h.IntMap a (findBy Value.isInt es):=⟨o,es,ep,ho,h1.1,h2,h3,fun k=>rfl⟩
 refine ⟨_,im.mapOf fun o' e=>?_,fun o' es' ep' e1 e2=>?_,h5⟩
 ·rw[ho] at e;cases e;exact ⟨h1.2.1,h1.2.2⟩
 ·rw[ho] at e1;cases e1;rw[h2] at e2;cases e2;exact h4
theorem Z7.of_map {V:PH} {f:Int->Option AV} {m:Nat} {h:Heap} {a:Addr} {g:Int->Option Value} (hm:h.MapOf (intKind prog w) a g) (hz:h.DictLe a m) (hr:∀ k,W9 V (f k) (g k)):∃ o,h.get? a=some o∧∀ V',V.le V'->Z7 f m V' o:=by
 obtain ⟨o,es,ep,ho,he,hd,hk,hg⟩:=id hm
 have hz':=hz o es ep ho hd
 obtain ⟨o',es',ep',ho',hc',hd',hk',hf'⟩:=hm.intMap
 rw[ho] at ho';cases ho'
 rw[hd] at hd';cases hd'
 refine ⟨o,ho,fun V' hV=>⟨he,es,ep,hd,hk',hz',fun k=>?_⟩⟩
 rw[hf' k];exact (hr k).mono hV
end
end
section
section
variable {prog:Program} {w:World} {F:Fn} {R:PH} {sig sig':List (Option AV)} {om om' om₁:Om} {tau:List (Value×AV)} {s:Shared} {A:Around} {E:Value->Shared->Prop}
theorem Pr {d:Addr} {f:Int->Option Value} {k:Int} {t:Tok} {v:Value} {m:Nat} {Q:Unit->Shared->Prop} (hm:s.heap.MapOf (intKind prog w) d f) (hz:s.heap.DictLe d m) (hn:m≤sizeLine)
  (hQ:∀ h',h'.MapOf (intKind prog w) d (fun x=>if x=k then some v else f x)->h'.DictLe d (m+1)->Heap.SameBut d s.heap h'->Q () { s with heap:=h',toks:=s.toks+1 }) :
  wpAny (model prog w) A (dictSet d (.int k t) v) Q E s:=by
 have hkey:(intKind prog w).is k (.int k t)=true:=by show Value.isInt k (.int k t)=true;simp[Value.isInt]
 obtain ⟨o,es,ep,ho,hc,hd,hk,hf⟩:=hm
 have hes:es.size≤m:=hz _ _ _ ho hd
 unfold dictSet
 try with_reducible refine wpAny_holding ?_
 refine wpAny_bind ((intKind prog w).pyHash hkey ?_)
 unfold dictSetHashed
 try with_reducible refine wpAny_holding ?_
 refine wpAny_bind (wpAny_dictFind_of (s:={ s with toks:=s.toks+1 }) hkey ho hd hk ?_)
 cases hi:es.findIdx? fun e=>(intKind prog w).is k e.key with
 | some i =>
  refine wpAny_bind (wpAny_rule (wpAny_bind (wpAny_updateDict (s:={ s with toks:=s.toks+1 }) ho hd (wpAny_point (hQ _ ⟨_,_,ep,Heap.get?_update_self _ ho (Obj.isFreed_of_dict (Obj.data_mapDict hd _)),
   hc.mapDict _,Obj.data_mapDict hd _,hk.modify _ _,fun x=>?_⟩ (fun o' es' ep' h1 h2=>?_) (Heap.SameBut.update ..))))))
  ·rw[findBy_modify (intKind prog w).is (intKind prog w).inj es k x v i hi,hf]
  ·rw[Heap.get?_update_self _ ho (Obj.isFreed_of_dict (Obj.data_mapDict hd _))] at h1
   cases h1
   rw[Obj.data_mapDict hd] at h2
   cases h2
   rw[Array.size_modify]
   lia
 | none =>
  refine wpAny_bind (wpAny_rule (wpAny_updateDictKeys (hz:=by lia) (s:={ s with toks:=s.toks+1 }) ho hd (hQ _ ⟨_,_,ep+1,Heap.get?_update_self _ ho (Obj.isFreed_of_dict (Obj.data_mapDictKeys hd _)),
   hc.mapDictKeys _,Obj.data_mapDictKeys hd _,hk.push hkey _,fun x=>?_⟩ (fun o' es' ep' h1 h2=>?_) (Heap.SameBut.update ..))))
  ·rw[findBy_push (intKind prog w).is es k x _ _ v (KeyKind.is_eq_decide hkey) hi,hf]
  ·rw[Heap.get?_update_self _ ho (Obj.isFreed_of_dict (Obj.data_mapDictKeys hd _))] at h1
   cases h1
   rw[Obj.data_mapDictKeys hd] at h2
   cases h2
   rw[Array.size_push]
   lia
theorem VE {d:Addr} {f:Int->Option Value} {k:Int} {t:Tok} {v:Value} {m:Nat} {Q:Value->Shared->Prop} (hm:s.heap.MapOf (intKind prog w) d f) (hz:s.heap.DictLe d m) (hn:m≤sizeLine)
  (hthere:∀ u,f k=some u->Q u { s with toks:=s.toks+1 })
  (hnew:f k=none->∀ h',h'.MapOf (intKind prog w) d (fun x=>if x=k then some v else f x)->h'.DictLe d (m+1)->Heap.SameBut d s.heap h'->Q v { s with heap:=h',toks:=s.toks+1 }) :
  wpAny (model prog w) A (dictSetDefault d (.int k t) v) Q E s:=by
 have hkey:(intKind prog w).is k (.int k t)=true:=by show Value.isInt k (.int k t)=true;simp[Value.isInt]
 obtain ⟨o,es,ep,ho,hc,hd,hk,hf⟩:=hm
 have hes:es.size≤m:=hz _ _ _ ho hd
 unfold dictSetDefault
 try with_reducible refine wpAny_holding ?_
 refine wpAny_bind ((intKind prog w).pyHash hkey ?_)
 refine wpAny_bind (wpAny_dictFind_of (s:={ s with toks:=s.toks+1 }) hkey ho hd hk ?_)
 cases hi:es.findIdx? fun e=>(intKind prog w).is k e.key with
 | some i =>
  have hfk:f k=(es[i]?).map (·.val):=by rw[<-hf k,findBy_of_findIdx?,hi]
  refine wpAny_bind (wpAny_dictEntries (s:={ s with toks:=s.toks+1 }) ho hd ?_)
  cases he:es[i]? with
  | none =>
   exfalso
   have:=Array.findIdx?_eq_some_iff_findIdx_eq.mp hi
   have hlt:i<es.size:=this.1
   rw[Array.getElem?_eq_getElem hlt] at he
   exact nomatch he
  | some e =>
   rw[he] at hfk
   exact wpAny_bind (wpAny_rule (wpAny_pure (hthere e.val hfk)))
 | none =>
  have hfk:f k=none:=by rw[<-hf k,findBy_of_findIdx?,hi]
  refine wpAny_bind (wpAny_rule (wpAny_bind (wpAny_updateDictKeys (hz:=by lia) (s:={ s with toks:=s.toks+1 }) ho hd (wpAny_pure (hnew hfk _ ⟨_,_,ep+1,Heap.get?_update_self _ ho (Obj.isFreed_of_dict (Obj.data_mapDictKeys hd _)),
   hc.mapDictKeys _,Obj.data_mapDictKeys hd _,hk.push hkey _,fun x=>?_⟩ (fun o' es' ep' h1 h2=>?_) (Heap.SameBut.update ..))))))
  ·rw[findBy_push (intKind prog w).is es k x _ _ v (KeyKind.is_eq_decide hkey) hi,hf]
  ·rw[Heap.get?_update_self _ ho (Obj.isFreed_of_dict (Obj.data_mapDictKeys hd _))] at h1
   cases h1
   rw[Obj.data_mapDictKeys hd] at h2
   cases h2
   rw[Array.size_push]
   lia
theorem Ps {d:Addr} {f:Int->Option Value} {k:Int} {t:Tok} {v:Value} {m:Nat} {Q:Unit->Shared->Prop} (hm:s.heap.MapOf (intKind prog w) d f) (hz:s.heap.DictLe d m) (hn:m≤sizeLine)
  (hQ:∀ h',h'.MapOf (intKind prog w) d (fun x=>if x=k then some v else f x)->h'.DictLe d (m+1)->Heap.SameBut d s.heap h'->Q () { s with heap:=h',toks:=s.toks+1 }) :
  wpAny (model prog w) A (setItem (.ref d) (.int k t) v) Q E s:=by
 unfold setItem
 try with_reducible refine wpAny_holding ?_
 first | refine wpAny_bind (wpAny_pure ?_) | skip
 refine wpAny_bind (wpAny_sequenceKey hm.typeIs (by decide) ?_)
 refine wpAny_bind (wpAny_callSpecial?_slot (name:=Str.ofString "__setitem__") hm.typeIs slot_dict_setitem
  (wpAny_call_entry slot_dict_setitem hm.typeIs entry_dict_setitem ?_ (args_dict_setitem _ _ _)))
 show wpAny _ _ (Builtin.Dict.notOrdered "__setitem__" ⟨[.ref d,.int k t,v],[]⟩ >>= _) _ _ s
 refine wpAny_bind (wpAny_notOrdered_dict hm.typeIs ?_)
 show wpAny _ _ (dictSet d (.int k t) v >>= _) _ _ s
 exact wpAny_bind (Pr hm hz hn fun h' hm' hz' hs'=>wpAny_pure ⟨.none,rfl,wpAny_pure (hQ h' hm' hz' hs')⟩)
theorem VF (ok:F.Ok) {pos:Pos} {P:AV->Om->Prop} (hp:∀ a,F.n₀≤a->P (.ptr a) ((a,Z7 (fun _=>none) 0)::om)):EvX prog w F sig om (.Dict [] [] pos) P:=fun R tau s Q E st hq=>by
 refine wpAny_Dict_empty (hq _ _ _ _ (hp _ ?_) ((st.openNew ok (P:=Z7 (fun _=>none) 0) _ rfl ?_).push ?_))
 ·exact Nat.not_lt.mp (st.fresh ok (le_refl _)).2
 ·exact fun V' hV=>⟨⟨rfl,rfl,rfl⟩,#[],0,rfl,fun e he=>by simp at he,le_refl _,fun k=>rfl⟩
 ·rfl
theorem Sta.openDct (x:Sta F R sig om tau s) {a:Addr} {f:Int->Option AV} {m:Nat} (h:(a,Z7 f m)∈om):∃ g:Int->Option Value,s.heap.MapOf (intKind prog w) a g∧s.heap.DictLe a m∧∀ k,W9 (F.view R om s.heap) (f k) (g k):=by
 obtain ⟨o,ho,hP⟩:=x.opens _ h
 exact (hP _ (PH.le.refl _)).map ho
theorem Qj {o i:Expr} {pos:Pos} {a:Addr} {f:Int->Option AV} {m:Nat} {k:Int} {d:AV} (h₁:Ev prog w F sig om o (.ptr a)) (h₂:Ev prog w F sig om i (.int k)) (hn:m≤sizeLine)
  (u:OmUpd om a (Z7 f m) (Z7 (upd f k d) (m+1)) om'):AsX prog w F (.Subscript o i pos) d sig om sig om':=fun R tau v s Q E st hq=>by
 rw[assign_Subscript]
 refine wpAny_bind (wpAny_holding (h₁ R _ s _ _ st fun ov s₁ st₁=>wpAny_bind (wpAny_holding (h₂ R _ s₁ _ _ st₁ fun iv s₂ st₂=>wpAny_bind (wpAny_standAt (wpAny_bind (wpAny_holding ?_)))))))
 have r1:=st₂.top2
 have r2:=st₂.top
 obtain ⟨t,rfl⟩:=r2
 subst r1
 obtain ⟨g,hm,hz,hg⟩:=st₂.openDct (prog:=prog) (w:=w) u.mem
 refine Ps hm hz hn fun h' hm' hz' hs'=>?_
 have st₃:=st₂.pop.pop
 have kv:=Ym (F:=F) (R:=R) (om:=om) u.inD hs'
 obtain ⟨o',ho',hP'⟩:=Z7.of_map (V:=F.view R om h') (f:=upd f k d) hm' hz' (fun x=>by
  unfold upd
  by_cases q:x=k
  ·rw[if_pos q,if_pos q];exact ⟨_,rfl,st₃.top.mono kv⟩
  ·rw[if_neg q,if_neg q];exact (hg x).mono kv)
 have fin:=hq _ (st₃.upd (tk:=s₂.toks+1) u hs' ho' hP')
 cases i<;>exact wpAny_release fin
theorem Pu {f:Int->Option AV} {m:Nat} {k:Int} {d₀:AV}:OpC prog w F om (.builtin "dict.get") [dct f m,.int k,d₀] ((f k).getD d₀):=fun R sig tau vs s Q E hv st h=>by
 obtain ⟨v₁,v₂,v₃,rfl⟩:=Mj hv
 have st':Sta F R sig om ((v₃,d₀)::(v₂,.int k)::(v₁,dct f m)::tau) s:=by simpa using st
 have r1:=st'.pop.top2
 have r2:=st'.top2
 unfold dct at r1
 obtain ⟨t,rfl⟩:=r2
 obtain ⟨a,o,rfl,hsm,hV,hd⟩:=r1 _ (PH.le.refl _)
 obtain ⟨g,hm,hz,hg⟩:=hd.map (prog:=prog) (w:=w) (st.vget hV)
 have hkey:(intKind prog w).is k (.int k t)=true:=by show Value.isInt k (.int k t)=true;simp[Value.isInt]
 refine wpAny_call_entry PySem.F.slot_dict_get hm.typeIs PySem.F.entry_dict_get ?_ (PySem.F.args_dict_get_3 _ _ _)
 show wpAny _ _ (dictGet a (.int k t) >>= _) _ _ s
 refine wpAny_bind (wpAny_dictGet_of hkey hm ?_)
 have hgk:=hg k
 cases hf:f k with
 | some d =>
  rw[hf] at hgk
  obtain ⟨u,e,r⟩:=hgk
  rw[e]
  exact wpAny_pure ⟨u,rfl,h _ _ (st'.pop.pop.pop.tok1.push (by rw[hf];exact r))⟩
 | none =>
  rw[hf] at hgk
  have:g k=none:=hgk
  rw[this]
  show wpAny _ _ (Builtin.Dict.missed a (.int k t) >>= _) _ _ _
  exact wpAny_bind (wpAny_missed_other hsm (wpAny_pure ⟨v₃,rfl,h _ _ (st'.pop.pop.pop.tok1.push (by rw[hf];exact st'.top))⟩))
theorem Rh {f:Int->Option AV} {m:Nat} {k:Int} {a:Addr} {d₀:AV} {P:AV->Om->Prop} (hsm:sysModules<a) (hn:m≤sizeLine) (hmem:(a,Z7 f m)∈om) (hthere:∀ d,f k=some d->P d om)
  (hnew:f k=none->∃ om',OmUpd om a (Z7 f m) (Z7 (upd f k d₀) (m+1)) om'∧P d₀ om'):OpX prog w F om (.builtin "dict.setdefault") [.ptr a,.int k,d₀] P:=fun R sig tau vs s Q E hv st h=>by
 obtain ⟨v₁,v₂,v₃,rfl⟩:=Mj hv
 have st':Sta F R sig om ((v₃,d₀)::(v₂,.int k)::(v₁,.ptr a)::tau) s:=by simpa using st
 have r1:=st'.pop.top2
 have r2:=st'.top2
 obtain ⟨t,rfl⟩:=r2
 subst r1
 obtain ⟨g,hm,hz,hg⟩:=st.openDct (prog:=prog) (w:=w) hmem
 refine wpAny_call_entry PySem.F.slot_dict_setdefault hm.typeIs PySem.F.entry_dict_setdefault ?_ (PySem.F.args_dict_setdefault_3 _ _ _)
 unfold Builtin.«dict.setdefault»
 refine wpAny_bind ?_
 unfold Builtin.Dict.keyAndDefault
 refine wpAny_bind (wpAny_notOrdered_dict hm.typeIs ?_)
 show wpAny _ _ (pure (a,Value.int k t,some v₃)) _ _ s
 refine wpAny_pure ?_
 show wpAny _ _ (if (a==sysModules)=true then _ else (dictSetDefault a (.int k t) v₃ >>= _)) _ _ s
 rw[if_neg (by simpa using (ne_of_lt hsm).symm)]
 have hgk:=hg k
 refine wpAny_bind (VE hm hz hn (fun u e=>wpAny_pure ⟨u,rfl,?_⟩) fun e h' hm' hz' hs'=>wpAny_pure ⟨v₃,rfl,?_⟩)
 ·cases hf:f k with
  | none=>rw[hf] at hgk;rw[show g k=none from hgk] at e;cases e
  | some d =>
   rw[hf] at hgk
   obtain ⟨u',e',r⟩:=hgk
   rw[e] at e';cases e'
   exact h _ _ _ _ (hthere d hf) (st'.pop.pop.pop.tok1.push r)
 ·cases hf:f k with
  | some d =>
   rw[hf] at hgk
   obtain ⟨u',e',r⟩:=hgk
   rw[e] at e';cases e'
  | none =>
   obtain ⟨om',u,hp⟩:=hnew hf
   have kv:=Ym (F:=F) (R:=R) (om:=om) u.inD hs'
   obtain ⟨o',ho',hP'⟩:=Z7.of_map (V:=F.view R om h') (f:=upd f k d₀) hm' hz' (fun x=>by
    unfold upd
    by_cases q:x=k
    ·rw[if_pos q,if_pos q];exact ⟨_,rfl,st'.top.mono kv⟩
    ·rw[if_neg q,if_neg q];exact (hg x).mono kv)
   have fin:=st'.upd (tk:=s.toks+1) u hs' ho' hP'
   exact h _ _ _ _ hp (fin.temp fun p hp=>fin.temps p (by
    rcases List.mem_cons.mp hp with rfl | hp
    ·exact mem_cons_self
    ·exact mem_cons_of_mem _ (mem_cons_of_mem _ (mem_cons_of_mem _ hp))))
theorem Kc {f:Int->Option AV} {m:Nat} {name:Str} {id:String} (slot:Slot "dict" name id) (hty:typeOf (.builtin id)=pure (.type "method_descriptor")):Qi prog w F om (dct f m) name (.builtin id):=fun R sig tau v s pl Q E st h=>by
 have r1:=st.top
 unfold dct at r1
 obtain ⟨a,o,rfl,hsm,hV,hd⟩:=r1 _ (PH.le.refl _)
 obtain ⟨g,hm,hz,hg⟩:=hd.map (prog:=prog) (w:=w) (st.vget hV)
 exact getMethod_builtin hm.typeIs PySem.F.plainAttrs_dict slot hty hm.noDict h
theorem Mv {a:Addr} {f:Int->Option AV} {m:Nat} {name:Str} {id:String} (slot:Slot "dict" name id) (hty:typeOf (.builtin id)=pure (.type "method_descriptor")) (hmem:(a,Z7 f m)∈om):Qi prog w F om (.ptr a) name (.builtin id):=fun R sig tau v s pl Q E st h=>by
 have r1:=st.top
 subst r1
 obtain ⟨g,hm,hz,hg⟩:=st.openDct (prog:=prog) (w:=w) hmem
 exact getMethod_builtin hm.typeIs PySem.F.plainAttrs_dict slot hty hm.noDict h
end
end
section
noncomputable abbrev Yq (id:String) (x:Value):Obj:={ cls:=.type "builtin_function_or_method",data:=.fields #[.builtin id,x] }
section
variable {prog:Program} {w:World} {A:Around} {E:Value->Shared->Prop} {s:Shared}
theorem UW:Slot "method_descriptor" "__get__" "method_descriptor.__get__" :=
 .of (owner := "method_descriptor") (n := "__get__") (by rw[typeLookup_type,builtinLookup_eq_fast];kernel_rfl) (by decide +kernel) (by decide +kernel) (by decide +kernel)
  (by first | exact .inl (by decide +kernel) | exact .inr (by decide +kernel)) (by rw[isSubtype_type];kernel_rfl)
theorem Qk:entryFor table "method_descriptor.__get__" = some Builtin.«method_descriptor.__get__»:=entryFor_of_tree (by kernel_rfl)
theorem NF (a b c:Value):argsOk "method_descriptor.__get__" ⟨[a,b,c],[]⟩:=by unfold argsOk;kernel_rfl
theorem Fj {a:Addr} {o:Obj} {P:PySem.Fin->Shared->Prop} (ho:s.heap.get? a=some o) (hc:o.cls=.type "dict") (h:P (.done (.ret (.ref s.heap.objs.size))) { s with heap:=s.heap.push (Yq "dict.get" (.ref a)) }) :
  wpAny (model prog w) A (Builtin.«method_descriptor.__get__» ⟨[.builtin "dict.get",.ref a,.type "dict"],[]⟩) P E s:=by
 unfold Builtin.«method_descriptor.__get__»
 refine wpAny_bind (wpAny_of_eq (a:=(.builtin "dict.get",some (.ref a),some (.type "dict"))) (by first | rfl | kernel_rfl) ?_)
 dsimp only
 rw[if_neg (by decide +kernel)]
 refine wpAny_bind (wpAny_bind (wpAny_of_eq (a:=(Str.ofString "get",Value.type "dict")) (by first | rfl | kernel_rfl) ?_))
 have hT:s.TypeIs (.ref a) "dict" := ⟨_,ho,hc⟩
 refine wpAny_bind (wpAny_isInstance hT (show isSubtype (.type "dict") (.type "dict")=pure true by rw[isSubtype_type];kernel_rfl) ?_)
 refine wpAny_pure ?_
 exact wpAny_bind (wpAny_newObj_type (wpAny_pure h))
set_option maxRecDepth 8000 in
set_option maxHeartbeats 1000000 in
theorem Ri {a:Addr} {o:Obj} {Q:Value->Shared->Prop} (ho:s.heap.get? a=some o) (he:o.ExactDict) {es:Array DictEntry} {n:Nat} (hd:o.data=.dict es n)
  (h:Q (.ref s.heap.objs.size) { s with heap:=s.heap.push (Yq "dict.get" (.ref a)),toks:=s.toks+1 }):wpAny (model prog w) A (getAttr (.ref a) "get" true) Q E s:=by
 obtain ⟨hp,g,d,tk,os⟩:=s
 obtain ⟨c,dct,dat,sl⟩:=o
 obtain ⟨h1,h2,h3⟩:=he
 replace h1:c=_:=h1
 replace h2:dct=_:=h2
 replace h3:sl=_:=h3
 replace hd:dat=_:=hd
 subst h1 h2 h3 hd
 have hT:∀ tk',(⟨hp,g,d,tk',os⟩:Shared).TypeIs (.ref a) "dict" := fun _=>⟨_,ho,rfl⟩
 have f3:=F.slot_dict_getattribute.lookup
 have f4:=F.slot_dict_getattribute.bind (.ref a)
 have f5:=am_dict_getattr_none
 have g1:=F.slot_dict_get.lookup
 have g2:=F.type_dict_get
 have g3:=UW.lookup
 have g4:typeLookup (.type "method_descriptor") "__set__" = pure none:=by rw[typeLookup_type,builtinLookup_eq_fast];kernel_rfl
 have g5:typeLookup (.type "method_descriptor") "__delete__" = pure none:=by rw[typeLookup_type,builtinLookup_eq_fast];kernel_rfl
 unfold getAttr getAttrBy
 repeat (any_goals (first | assumption | exact hT _ | ((with_reducible show wpAny _ _ (call (Value.builtin "dict.__getattribute__") _ _) _ _ _);refine wpAny_call_entry F.slot_dict_getattribute (hT _) am_entry_dict_getattribute ?_ (F.args_dict_getattribute_2 _ _)) | ((with_reducible show wpAny _ _ (call (Value.builtin "method_descriptor.__get__") _ _) _ _ _);refine wpAny_call_entry UW g2 Qk ?_ (NF _ _ _)) | ((with_reducible show wpAny _ _ (Builtin.«method_descriptor.__get__» _) _ _ _);refine Fj ho rfl ?_) | wp_step))
 exact ⟨_,rfl,wpAny_pure ⟨_,rfl,wpAny_pure h⟩⟩
theorem Rj {M:Model} {b:Addr} {id:String} {x:Value} {h:Heap} (hb:h.get? b=some (Yq id x)):Looks M h (keeperOf (.ref b)) .machine:=fun A Q E s k q=>by
 unfold keeperOf
 refine wpAny_bind (wpAny_load (k _ _ hb) ?_)
 show wpAny _ _ (if (Value.type "builtin_function_or_method" != Value.type "method")=true then pure (if (Value.type "builtin_function_or_method" == Value.type "builtin_function_or_method" || Value.type "builtin_function_or_method" == Value.type "method-wrapper")=true then Keeper.machine else Keeper.caller) else _) _ _ s
 rw[if_pos (by decide),if_pos (by decide)]
 exact wpAny_pure q
end
end
section
section
variable {prog:Program} {w:World} {A:Around} {E:Value->Shared->Prop} {s:Shared}
noncomputable def Pv (d:Data):Bool:=match d with | .cls _=>true | _=>false
theorem U4 {a:Addr} {o:Obj} {T id:String} {vs:List Value} {sg:Manifest.Signature} {Q:Unit->Shared->Prop} (ho:s.heap.get? a=some o) (hcl:o.cls=.type T) (hnc:Pv o.data=false) (h1:Manifest.signature? id=some sg) (hk:builtinKind id=some .method)
  (h3:Manifest.varargsMethods.contains id=false) (h4:isSubtype (.type T) (.type "module")=pure false) (h6:Bind.checkArgs id { sg with full:=s!"{Bind.lastOf T}.{Bind.lastOf id}" } ⟨.ref a::vs,[]⟩=pure ()) (h:Q () s) :
  wpAny (model prog w) A (checkBoundCall id ⟨.ref a::vs,[]⟩) Q E s:=by
 have hT:s.TypeIs (.ref a) T:=⟨_,ho,hcl⟩
 unfold checkBoundCall
 rw[hk,h1]
 dsimp only
 rw[if_neg (by decide)]
 refine wpAny_bind (wpAny_isInstance hT h4 ?_)
 rw[h3]
 rw[if_neg (by decide)]
 refine wpAny_bind (wpAny_bind (wpAny_loadPart ho (wpAny_pure ?_)))
 rw[if_neg (by intro q;exact Bool.false_ne_true (hnc.symm.trans q))]
 refine wpAny_bind (wpAny_typeOf hT ?_)
 dsimp only
 rw[h6]
 exact wpAny_pure h
theorem Rk:∃ sg,Manifest.signature? "dict.get" = some sg∧∀ a u v,Bind.checkArgs "dict.get" { sg with full:=s!"{Bind.lastOf "dict"}.{Bind.lastOf "dict.get"}" } ⟨[.ref a,u,v],[]⟩=pure () := 
 ⟨(Manifest.signature? "dict.get").get (by kernel_rfl),by rw[Option.some_get],fun a u v=>by kernel_rfl⟩
theorem Uo:∃ sg,Manifest.signature? "set.__contains__" = some sg∧∀ a u,Bind.checkArgs "set.__contains__" { sg with full:=s!"{Bind.lastOf "set"}.{Bind.lastOf "set.__contains__"}" } ⟨[.ref a,u],[]⟩=pure () := 
 ⟨(Manifest.signature? "set.__contains__").get (by kernel_rfl),by rw[Option.some_get],fun a u=>by kernel_rfl⟩
theorem Ty {b:Addr} {id:String} {x:Value} {vs:List Value} {bi:Builtin} {Q:Value->Shared->Prop} (hb:s.heap.get? b=some (Yq id x)) (hc:∀ (Q:Unit->Shared->Prop),Q () s->wpAny (model prog w) A.in1 (checkBoundCall id ⟨x::vs,[]⟩) Q E s)
  (hq:(Code.builtin id ⟨x::vs,[]⟩).quiet=true) (he:entryFor table id=some bi)
  (h:wpAny (model prog w) (A.under (Code.builtin id ⟨x::vs,[]⟩)) (bi ⟨x::vs,[]⟩) (fun fin s'=>∃ v,fin=.done (.ret v)∧Q v s') E s):wpAny (model prog w) A (call (.ref b) vs) Q E s:=by
 refine wpAny_call (codeAny_of_tree ?_)
 refine wpAny_bind (m:=load b) (wpAny_load hb ?_)
 show wpAny _ _ (if (Value.type "builtin_function_or_method" == Value.type "method" || Value.type "builtin_function_or_method" == Value.type "builtin_function_or_method" || Value.type "builtin_function_or_method" == Value.type "method-wrapper")=true then (if (Value.type "builtin_function_or_method" != Value.type "method")=true then (checkBoundCall id ⟨x::vs,[]⟩ >>= fun _=>again (Code.builtin id ⟨x::vs,[]⟩)) else _) else _) _ _ s
 rw[if_pos (by decide),if_pos (by decide)]
 refine wpAny_bind (hc _ (wpAny_pure ⟨hq,codeAny_builtin he (wpAny_mono h (fun fin s' z=>?_) fun _ _ z=>z)⟩))
 obtain ⟨v,rfl,z⟩:=z
 exact z
end
end
section
section
variable {prog:Program} {w:World} {A:Around} {E:Value->Shared->Prop} {s:Shared}
theorem WA:entryFor table "set.__getattribute__" = some Builtin.«object.__getattribute__» :=
 entryFor_alias (id' := "object.__getattribute__") (by kernel_rfl) (by decide +kernel) (by decide +kernel) (by kernel_rfl)
theorem Pw {a:Addr} {o:Obj} {P:PySem.Fin->Shared->Prop} (ho:s.heap.get? a=some o) (hc:o.cls=.type "set") (h:P (.done (.ret (.ref s.heap.objs.size))) { s with heap:=s.heap.push (Yq "set.__contains__" (.ref a)) }) :
  wpAny (model prog w) A (Builtin.«method_descriptor.__get__» ⟨[.builtin "set.__contains__",.ref a,.type "set"],[]⟩) P E s:=by
 unfold Builtin.«method_descriptor.__get__»
 refine wpAny_bind (wpAny_of_eq (a:=(.builtin "set.__contains__",some (.ref a),some (.type "set"))) (by first | rfl | kernel_rfl) ?_)
 dsimp only
 rw[if_neg (by decide +kernel)]
 refine wpAny_bind (wpAny_bind (wpAny_of_eq (a:=(Str.ofString "__contains__",Value.type "set")) (by first | rfl | kernel_rfl) ?_))
 have hT:s.TypeIs (.ref a) "set" := ⟨_,ho,hc⟩
 refine wpAny_bind (wpAny_isInstance hT (show isSubtype (.type "set") (.type "set")=pure true by rw[isSubtype_type];kernel_rfl) ?_)
 refine wpAny_pure ?_
 exact wpAny_bind (wpAny_newObj_type (wpAny_pure h))
set_option maxRecDepth 8000 in
set_option maxHeartbeats 1000000 in
theorem Up {a:Addr} {o:Obj} {Q:Value->Shared->Prop} (ho:s.heap.get? a=some o) (he:o.ExactSet) {es:Array (Int×Value)} {n:Nat} {t:SetTable} (hd:o.data=.set es n t)
  (h:Q (.ref s.heap.objs.size) { s with heap:=s.heap.push (Yq "set.__contains__" (.ref a)),toks:=s.toks+1 }):wpAny (model prog w) A (getAttr (.ref a) "__contains__" true) Q E s:=by
 obtain ⟨hp,g,d,tk,os⟩:=s
 obtain ⟨c,dct,dat,sl⟩:=o
 obtain ⟨h1,h2,h3⟩:=he
 simp only at h1 h2 h3 hd
 subst h1 h2 h3 hd
 have hT:∀ tk',(⟨hp,g,d,tk',os⟩:Shared).TypeIs (.ref a) "set" := fun _=>⟨_,ho,rfl⟩
 have f3:=F.slot_set_getattribute.lookup
 have f4:=F.slot_set_getattribute.bind (.ref a)
 have f5:typeLookup (.type "set") "__getattr__" = pure none:=by rw[typeLookup_type,builtinLookup_eq_fast];kernel_rfl
 have g1:=F.slot_set_contains.lookup
 have g2:=F.type_set_contains
 have g3:=UW.lookup
 have g4:typeLookup (.type "method_descriptor") "__set__" = pure none:=by rw[typeLookup_type,builtinLookup_eq_fast];kernel_rfl
 have g5:typeLookup (.type "method_descriptor") "__delete__" = pure none:=by rw[typeLookup_type,builtinLookup_eq_fast];kernel_rfl
 unfold getAttr getAttrBy
 repeat (any_goals (first | assumption | exact hT _ | ((with_reducible show wpAny _ _ (call (Value.builtin "set.__getattribute__") _ _) _ _ _);refine wpAny_call_entry F.slot_set_getattribute (hT _) WA ?_ (F.args_set_getattribute_2 _ _)) | ((with_reducible show wpAny _ _ (call (Value.builtin "method_descriptor.__get__") _ _) _ _ _);refine wpAny_call_entry UW g2 Qk ?_ (NF _ _ _)) | ((with_reducible show wpAny _ _ (Builtin.«method_descriptor.__get__» _) _ _ _);refine Pw ho rfl ?_) | wp_step))
 exact ⟨_,rfl,wpAny_pure ⟨_,rfl,wpAny_pure h⟩⟩
theorem Uq {a:Addr} {k:Int} {t:Tok} {S:Int->Bool} {n:Nat} {P:Value->Shared->Prop} (hS:s.heap.SetOf (intKind prog w) a S n) (h:P (.bool (S k)) { s with toks:=s.toks+1 }) :
  wpAny (model prog w) A (Builtin.«frozenset.__contains__» ⟨[.ref a,.int k t],[]⟩) (fun fin s'=>∃ v,fin=.done (.ret v)∧P v s') E s:=by
 have hkey:(intKind prog w).is k (.int k t)=true:=by show Value.isInt k (.int k t)=true;simp[Value.isInt]
 unfold Builtin.«frozenset.__contains__» Builtin.Frozenset.oneOther
 simp only[List.isEmpty_nil,bind_assoc]
 unfold Builtin.Frozenset.addrOf Builtin.Frozenset.withSetAsKey setContains
 refine wpAny_bind (wpAny_pure ?_)
 try dsimp only
 refine wpAny_bind (wpAny_pure ?_)
 try dsimp only
 refine wpAny_bind (wpAny_tryCatch ?_)
 refine wpAny_holding ?_
 refine wpAny_bind ((intKind prog w).pyHash hkey ?_)
 refine wpAny_bind (wpAny_setFind_of (s:={ s with toks:=s.toks+1 }) hkey rfl hS fun r hr=>?_)
 refine wpAny_pure ?_
 show wpAny _ _ (ret (Value.bool r.isSome)) _ _ _
 rw[hr]
 exact wpAny_pure ⟨_,rfl,h⟩
end
end
section
noncomputable def bnd (id:String) (d:AV):AV:=.raw fun V v=>∃ b x,v=.ref b∧V b=some (Yq id x)∧Rep V d x
noncomputable def BQ (prog:Program) (w:World) (S:Int->Bool) (n:Nat) (o:Obj):Prop:=∀ (h:Heap) (a:Addr),h.get? a=some o->h.SetOf (intKind prog w) a S n
noncomputable def Sc (prog:Program) (w:World) (S:Int->Bool) (n:Nat):AV:=.raw fun V v=>∃ a o,v=.ref a∧V a=some o∧BQ prog w S n o
section
variable {prog:Program} {w:World} {F:Fn} {R:PH} {sig sig':List (Option AV)} {om om' om₁:Om} {tau:List (Value×AV)} {s:Shared}
theorem NG {V:PH} {id:String} {d:AV} {b:Addr} {x:Value} (h:V b=some (Yq id x)) (r:Rep V d x):Rep V (bnd id d) (.ref b):=by
 unfold bnd
 exact fun V' hV=>⟨b,x,rfl,hV _ _ h,r.mono hV⟩
theorem NH {V:PH} {id:String} {d:AV} {v:Value} (h:Rep V (bnd id d) v):∃ b x,v=.ref b∧V b=some (Yq id x)∧Rep V d x:=by
 unfold bnd at h
 exact h V (PH.le.refl _)
theorem Ql (ok:F.Ok) {o:Expr} {pos:Pos} {f:Int->Option AV} {m:Nat} (h:Ev prog w F sig om o (dct f m))
  (he:eval (.Attribute o "get" pos) F.env=(do
   let ov <-eval o F.env
   standAt pos.atName
   let r <-holding [ov] (getAttr ov "get" true)
   letTemporaryGo o ov r
   pure r):=by with_unfolding_all rfl):Ev prog w F sig om (.Attribute o "get" pos) (bnd "dict.get" (dct f m)):=fun R tau s Q E st hq=>by
 refine Attribute_any_ (h R tau s _ _ st fun v s₁ st₁=>?_) he
 have r1:=st₁.top
 unfold dct at r1
 obtain ⟨a,o,rfl,hsm,hV,hd⟩:=r1 _ (PH.le.refl _)
 obtain ⟨e1,es,ep,e2,e3,e4,e5⟩:=id hd
 refine Ri (st₁.vget hV) e1 e2 (hq _ _ ?_)
 have k:∀ b o',s₁.heap.get? b=some o'->(s₁.heap.push (Yq "dict.get" (.ref a))).get? b=some o':=fun b o' e=>Heap.get?_push_of_some _ e
 have st₂:=st₁.grow (tk:=s₁.toks+1) k
 exact st₂.pop.push (NG (st₁.new_view ok (le_refl _) (Heap.get?_push_size _ rfl)) st₂.top)
theorem UL (ok:F.Ok) {o:Expr} {pos:Pos} {S:Int->Bool} {n:Nat} (h:Ev prog w F sig om o (Sc prog w S n))
  (he:eval (.Attribute o "__contains__" pos) F.env=(do
   let ov <-eval o F.env
   standAt pos.atName
   let r <-holding [ov] (getAttr ov "__contains__" true)
   letTemporaryGo o ov r
   pure r):=by with_unfolding_all rfl):Ev prog w F sig om (.Attribute o "__contains__" pos) (bnd "set.__contains__" (Sc prog w S n)):=fun R tau s Q E st hq=>by
 refine Attribute_any_ (h R tau s _ _ st fun v s₁ st₁=>?_) he
 have r1:=st₁.top
 unfold Sc at r1
 obtain ⟨a,o,rfl,hV,hd⟩:=r1 _ (PH.le.refl _)
 obtain ⟨o',es,ep,t,e0,e1,e2,_⟩:=hd _ _ (st₁.vget hV)
 rw[st₁.vget hV] at e0
 cases e0
 refine Up (st₁.vget hV) e1 e2 (hq _ _ ?_)
 have k:∀ b o',s₁.heap.get? b=some o'->(s₁.heap.push (Yq "set.__contains__" (.ref a))).get? b=some o':=fun b o' e=>Heap.get?_push_of_some _ e
 have st₂:=st₁.grow (tk:=s₁.toks+1) k
 exact st₂.pop.push (NG (st₁.new_view ok (le_refl _) (Heap.get?_push_size _ rfl)) st₂.top)
noncomputable def OpB (prog:Program) (w:World) (F:Fn) (om:Om) (id:String) (d₀:AV) (ds:List AV) (d:AV):Prop :=
 ∀ (R:PH) (sig:List (Option AV)) (tau:List (Value×AV)) (b:Addr) (x:Value) (vs:List Value) (s:Shared) (Q:Value->Shared->Prop) (E:Value->Shared->Prop),vs.length=ds.length->s.heap.get? b=some (Yq id x)->Rep (F.view R om s.heap) d₀ x ->
  Sta F R sig om ((vs.zip ds).reverse++tau) s->(∀ v s',Sta F R sig om ((v,d)::tau) s'->Q v s')->wpAny (model prog w) F.A (call (.ref b) vs) Q E s
theorem WL {func:Expr} {args:List Expr} {pos:Pos} {id:String} {d₀:AV} {ds:List AV} {d:AV} (h₁:Ev prog w F sig om func (bnd id d₀)) (h₂:EvL prog w F sig om args ds) (o:OpB prog w F om id d₀ ds d)
  (hc:eval (.Call func args [] pos) F.env=(do callWith pos (<-eval func F.env) [] (backTo pos (starEach args F.env)) (backToKw pos (keywordEach [] F.env))):=by rfl)
  (hp:(backTo pos (starEach args F.env)).any (·.1)=false:=by rfl) :
  Ev prog w F sig om (.Call func args [] pos) d:=fun R tau s Q E st h=>by
 rw[hc]
 refine wpAny_bind (h₁ R tau s _ _ st fun v s₁ st₁=>?_)
 obtain ⟨b,x,rfl,hb,rx⟩:=NH st₁.top
 refine callWith_of (P:=fun h=>∃ x,h.get? b=some (Yq id x)) (by show ((backTo pos (starEach args F.env)).any (·.1) || false)=false;rw[hp];rfl) (fun h ⟨x,hb⟩=>⟨.machine,.inr (.inl rfl),Rj hb⟩) (Wq hp (h₂ pos R _ s₁ _ _ st₁ fun vs s₂ hv st₂=>?_))
 obtain ⟨b',x',e,hb',rx'⟩:=NH (st₂.temps (.ref b,bnd id d₀) (by simp))
 cases e
 refine ⟨⟨x',st₂.vget hb'⟩,o R sig tau b x' vs s₂ _ _ hv (st₂.vget hb') rx' (st₂.temp fun p hp=>st₂.temps p ?_) h⟩
 rcases List.mem_append.mp hp with q | q
 ·exact List.mem_append.mpr (.inl q)
 ·exact List.mem_append.mpr (.inr (mem_cons_of_mem _ q))
theorem kd1:builtinKind "dict.get" = some .method:=by decide +kernel
theorem kd2:Manifest.varargsMethods.contains "dict.get" = false:=by decide +kernel
theorem kd3:isSubtype (.type "dict") (.type "module")=pure false:=by rw[isSubtype_type];kernel_rfl
theorem kd4 (as:Args):(Code.builtin "dict.get" as).quiet=true:=Code.quiet_builtin _ (by decide +kernel)
theorem ks1:builtinKind "set.__contains__" = some .method:=by decide +kernel
theorem ks2:Manifest.varargsMethods.contains "set.__contains__" = false:=by decide +kernel
theorem ks3:isSubtype (.type "set") (.type "module")=pure false:=by rw[isSubtype_type];kernel_rfl
theorem ks4 (as:Args):(Code.builtin "set.__contains__" as).quiet=true:=Code.quiet_builtin _ (by decide +kernel)
theorem Px {f:Int->Option AV} {m:Nat} {k:Int} {d₀:AV}:OpB prog w F om "dict.get" (dct f m) [.int k,d₀] ((f k).getD d₀):=fun R sig tau b x vs s Q E hv hb rx st h=>by
 obtain ⟨v₂,v₃,rfl⟩:=Mi hv
 have st':Sta F R sig om ((v₃,d₀)::(v₂,.int k)::tau) s:=by simpa using st
 have r2:=st'.top2
 unfold dct at rx
 obtain ⟨t,rfl⟩:=r2
 obtain ⟨a,o,rfl,hsm,hV,hd⟩:=rx _ (PH.le.refl _)
 obtain ⟨g,hm,hz,hg⟩:=hd.map (prog:=prog) (w:=w) (st.vget hV)
 have hkey:(intKind prog w).is k (.int k t)=true:=by show Value.isInt k (.int k t)=true;simp[Value.isInt]
 obtain ⟨sg,g1,g2⟩:=Rk
 obtain ⟨e1,es,ep,e2,e3,e4,e5⟩:=id hd
 refine Ty hb (fun Q hq=>U4 (T := "dict") (st.vget hV) e1.1 (by rw[e2];rfl) g1 kd1 kd2 kd3 (g2 _ _ _) hq) (kd4 _) PySem.F.entry_dict_get ?_
 show wpAny _ _ (dictGet a (.int k t) >>= _) _ _ s
 refine wpAny_bind (wpAny_dictGet_of hkey hm ?_)
 have hgk:=hg k
 cases hf:f k with
 | some d =>
  rw[hf] at hgk
  obtain ⟨u,e,r⟩:=hgk
  rw[e]
  exact wpAny_pure ⟨u,rfl,h _ _ (st'.pop.pop.tok1.push (by rw[hf];exact r))⟩
 | none =>
  rw[hf] at hgk
  have:g k=none:=hgk
  rw[this]
  show wpAny _ _ (Builtin.Dict.missed a (.int k t) >>= _) _ _ _
  exact wpAny_bind (wpAny_missed_other hsm (wpAny_pure ⟨v₃,rfl,h _ _ (st'.pop.pop.tok1.push (by rw[hf];exact st'.top))⟩))
theorem Mw {A:Around} {E:Value->Shared->Prop} {a:Addr} {o:Obj} {u:Value} (ho:s.heap.get? a=some o) (hc:o.cls=.type "set") (hn:Pv o.data=false) (Q:Unit->Shared->Prop) (hq:Q () s):wpAny (model prog w) A (checkBoundCall "set.__contains__" ⟨.ref a::[u],[]⟩) Q E s:=by
 obtain ⟨sg,g1,g2⟩:=Uo
 have g3:=g2 a u
 generalize hfull:(s!"{Bind.lastOf "set"}.{Bind.lastOf "set.__contains__"}")=full at g3
 refine U4 (T := "set") (id := "set.__contains__") (sg:=sg) ho hc hn g1 ks1 ks2 ks3 ?_ hq
 rw[hfull]
 exact g3
theorem Xp {S:Int->Bool} {n:Nat} {k:Int}:OpB prog w F om "set.__contains__" (Sc prog w S n) [.int k] (.bool (S k)):=fun R sig tau b x vs s Q E hv hb rx st h=>by
 obtain ⟨v₂,rfl,st'⟩:=Wk hv st
 have r2:=st'.top
 unfold Sc at rx
 obtain ⟨t,rfl⟩:=r2
 obtain ⟨a,o,rfl,hV,hd⟩:=rx _ (PH.le.refl _)
 have ho:=st.vget hV
 have hS:=hd _ _ ho
 have hq:Q (.bool (S k)) { s with toks:=s.toks+1 }:=h _ _ (st'.pop.tok1.push ZJ)
 clear h st' st hd hV rx
 obtain ⟨o',es,ep,tt,e0,e1,e2,_⟩:=id hS
 have:o'=o:=by rw[ho] at e0;exact (Option.some.inj e0).symm
 subst this
 have hn:Pv o'.data=false:=by rw[e2];rfl
 exact Ty hb (Mw ho e1.1 hn) (ks4 _) entry_set_contains (Uq hS hq)
theorem A2 {led:Bool}:BQ prog w (fun _=>false) 0 { cls:=.type "set",dict:=none,data:=.set #[] 0 (.fresh 0 0 led) }:=fun h a e =>
 ⟨_,#[],0,_,e,⟨rfl,rfl,rfl⟩,rfl,by intro e he;simp at he,by intro k;simp,by decide,by cases led<;>rfl,rfl⟩
theorem GK (ok:F.Ok):OpC prog w F om (.type "set") [] (Sc prog w (fun _=>false) 0):=fun R sig tau vs s Q E hv st h=>by
 obtain rfl:=BN hv
 refine call_set_0 fun led=>h _ _ ?_
 have st':Sta F R sig om tau s:=by simpa using st
 have k:∀ b o',s.heap.get? b=some o'->(s.heap.push { cls:=.type "set",dict:=none,data:=.set #[] 0 (.fresh 0 0 led) }).get? b=some o':=fun b o' e=>Heap.get?_push_of_some _ e
 refine (st'.grow (tk:=s.toks) k).push ?_
 unfold Sc
 exact fun V' hV=>⟨_,_,rfl,hV _ _ (st'.new_view ok (le_refl _) (Heap.get?_push_size _ rfl)),A2⟩
end
end
section
noncomputable def Rl (ds:List AV):AV:=.raw fun V v=>∃ a o vs n,v=.ref a∧V a=some o∧o.cls=.type "tuple" ∧ o.data=.seq vs n∧Zn V ds vs.toList
structure SrcT (prog:Program) (w:World) (A:Around) (xs:List AV) (d':AV) (v:Value) (e it:Addr) (Pt:Nat->Array Value->Prop) (St:Nat->Heap->Prop) (Mid:Nat->Addr->Heap->Prop):Prop where
 walks:∃ fp,WalksT prog w A e fp [e,it] xs.length Pt St Mid∧∀ b∈fp,b≠e->b≠it->∀ V V',Rep V d' v->Rep V' d' v->∃ o,V b=some o∧V' b=some o
 item:∀ V i vals x,Rep V d' v->Pt i vals->xs[i]?=some x->Zn V [.int i,x] vals.toList
 obj:∀ i h,St i h->(∃ o vs,h.get? e=some o∧o.data=.fields vs)∧(∃ o vs,h.get? it=some o∧o.data=.fields vs)
 objM:∀ i T h,Mid i T h->(∃ o vs,h.get? e=some o∧o.data=.fields vs)∧(∃ o vs,h.get? it=some o∧o.data=.fields vs)
section
variable {prog:Program} {w:World} {F:Fn} {R:PH} {sig sig':List (Option AV)} {om om' om₁:Om} {tau:List (Value×AV)} {s:Shared}
noncomputable def PH.put2 (R:PH) (a b:Addr) (o o':Obj):PH:=(R.put a o).put b o'
theorem Z8 {a b c:Addr} {o o':Obj} (h1:c≠a) (h2:c≠b):R.put2 a b o o' c=R c:=by unfold PH.put2;rw[PH.put_ne h2,PH.put_ne h1]
theorem Xe {a b c:Addr} {o o':Obj} (hc:c=a∨c=b):∃ z,R.put2 a b o o' c=some z:=by
 unfold PH.put2
 by_cases q:c=b
 ·subst q;exact ⟨_,PH.put_self⟩
 ·rw[PH.put_ne q];rcases hc with rfl | h
  ·exact ⟨_,PH.put_self⟩
  ·exact absurd h q
theorem WM {a b:Addr} {o o':Obj} (h:a≠b):R.put2 a b o o' a=some o:=by unfold PH.put2;rw[PH.put_ne h,PH.put_self]
theorem WN {a b:Addr} {o o':Obj}:R.put2 a b o o' b=some o':=PH.put_self
theorem Sta.rehide2 {a b:Addr} {o o' p p':Obj} (x:Sta F (R.put2 a b o o') sig om tau s) (hne:a≠b) {h':Heap} {tk:Nat} (hk:∀ c z,c∉[b,a]->s.heap.get? c=some z->h'.get? c=some z) (ha:h'.get? a=some p) (hb:h'.get? b=some p')
  (hc:¬ ∃ v,o.data=.cell v) (hc':¬ ∃ v,o'.data=.cell v):Sta F (R.put2 a b p p') sig om tau { s with heap:=h',toks:=tk }:=by
 have hk':∀ c z,c≠a->c≠b->s.heap.get? c=some z->h'.get? c=some z:=fun c z h1 h2=>hk c z (by simp[h1,h2])
 have gne:∀ c z,F.G c=some z->c≠a∧c≠b:=fun c z e=>by
  have g:=(x.g c z e).2.2.2
  refine ⟨fun q=>?_,fun q=>?_⟩
  ·obtain ⟨z',hz⟩:=Xe (R:=R) (a:=a) (b:=b) (o:=o) (o':=o') (.inl q);rw[hz] at g;cases g
  ·obtain ⟨z',hz⟩:=Xe (R:=R) (a:=a) (b:=b) (o:=o) (o':=o') (.inr q);rw[hz] at g;cases g
 refine x.move (tk:=tk) (fun c z e=>?_) (fun c z e=>?_) (fun c z e=>?_) (fun c z hD e=>?_) fun c z e hcell=>?_
 ·obtain ⟨c1,c2,c3⟩:=ZN e
  have h1:c≠a:=fun q=>by obtain ⟨z',hz⟩:=Xe (R:=R) (a:=a) (b:=b) (o:=o) (o':=o') (.inl q);rw[hz] at c2;cases c2
  have h2:c≠b:=fun q=>by obtain ⟨z',hz⟩:=Xe (R:=R) (a:=a) (b:=b) (o:=o) (o':=o') (.inr q);rw[hz] at c2;cases c2
  rw[Z8 h1 h2] at c2
  unfold Fn.view
  rw[if_neg (by rw[Z8 h1 h2,c2];simpa using c1)]
  rcases c3 with ⟨q,y⟩ | ⟨q,y⟩
  ·rw[if_pos q];exact y
  ·rw[if_neg q];exact hk' _ _ h1 h2 y
 ·obtain ⟨h1,h2⟩:=gne c z e
  have g:=x.g c z e
  rw[Z8 h1 h2] at g
  exact ⟨hk' _ _ h1 h2 g.2.2.1,by rw[Z8 h1 h2];exact g.2.2.2⟩
 ·by_cases q1:c=b
  ·subst q1
   rw[WN] at e;cases e
   exact ⟨(x.rf c o' WN).1,hb⟩
  ·by_cases q2:c=a
   ·subst q2
    rw[WM hne] at e;cases e
    exact ⟨(x.rf c o (WM hne)).1,ha⟩
   ·rw[Z8 q2 q1] at e
    have:=x.rf c z (by rw[Z8 q2 q1];exact e)
    exact ⟨this.1,hk' _ _ q2 q1 this.2⟩
 ·exact hk' c z (fun q=>by subst q;exact (x.rf c o (WM hne)).1 hD) (fun q=>by subst q;exact (x.rf c o' WN).1 hD) e
 ·have h1:c≠a:=fun q=>by subst q;rw[WM hne] at e;cases e;exact hc hcell
  have h2:c≠b:=fun q=>by subst q;rw[WN] at e;cases e;exact hc' hcell
  rw[Z8 h1 h2] at e ⊢
  exact e
theorem Sta.unhide2 {a b:Addr} {o o':Obj} (x:Sta F (R.put2 a b o o') sig om tau s) (hne:a≠b) (hRa:R a=none) (hRb:R b=none) {h':Heap} {tk:Nat} (hk:∀ c z,c∉[b,a]->s.heap.get? c=some z->h'.get? c=some z)
  (hc:¬ ∃ v,o.data=.cell v) (hc':¬ ∃ v,o'.data=.cell v):Sta F R sig om tau { s with heap:=h',toks:=tk }:=by
 have hk':∀ c z,c≠a->c≠b->s.heap.get? c=some z->h'.get? c=some z:=fun c z h1 h2=>hk c z (by simp[h1,h2])
 have gne:∀ c z,F.G c=some z->c≠a∧c≠b:=fun c z e=>by
  have g:=(x.g c z e).2.2.2
  refine ⟨fun q=>?_,fun q=>?_⟩
  ·obtain ⟨z',hz⟩:=Xe (R:=R) (a:=a) (b:=b) (o:=o) (o':=o') (.inl q);rw[hz] at g;cases g
  ·obtain ⟨z',hz⟩:=Xe (R:=R) (a:=a) (b:=b) (o:=o) (o':=o') (.inr q);rw[hz] at g;cases g
 refine x.move (tk:=tk) (fun c z e=>?_) (fun c z e=>?_) (fun c z e=>?_) (fun c z hD e=>?_) fun c z e hcell=>?_
 ·obtain ⟨c1,c2,c3⟩:=ZN e
  have h1:c≠a:=fun q=>by obtain ⟨z',hz⟩:=Xe (R:=R) (a:=a) (b:=b) (o:=o) (o':=o') (.inl q);rw[hz] at c2;cases c2
  have h2:c≠b:=fun q=>by obtain ⟨z',hz⟩:=Xe (R:=R) (a:=a) (b:=b) (o:=o) (o':=o') (.inr q);rw[hz] at c2;cases c2
  rw[Z8 h1 h2] at c2
  unfold Fn.view
  rw[if_neg (by rw[c2];simpa using c1)]
  rcases c3 with ⟨q,y⟩ | ⟨q,y⟩
  ·rw[if_pos q];exact y
  ·rw[if_neg q];exact hk' _ _ h1 h2 y
 ·obtain ⟨h1,h2⟩:=gne c z e
  have g:=x.g c z e
  rw[Z8 h1 h2] at g
  exact ⟨hk' _ _ h1 h2 g.2.2.1,g.2.2.2⟩
 ·have q1:c≠b:=fun q=>by subst q;rw[hRb] at e;cases e
  have q2:c≠a:=fun q=>by subst q;rw[hRa] at e;cases e
  have:=x.rf c z (by rw[Z8 q2 q1];exact e)
  exact ⟨this.1,hk' _ _ q2 q1 this.2⟩
 ·exact hk' c z (fun q=>by subst q;exact (x.rf c o (WM hne)).1 hD) (fun q=>by subst q;exact (x.rf c o' WN).1 hD) e
 ·have h1:c≠a:=fun q=>by subst q;rw[WM hne] at e;cases e;exact hc hcell
  have h2:c≠b:=fun q=>by subst q;rw[WN] at e;cases e;exact hc' hcell
  rw[Z8 h1 h2] at e
  exact e
theorem Qm (ok:F.Ok) {v:Value} {ds:List AV} {n:Nat} (hn:n=ds.length) (st:Sta F R sig om ((v,Rl ds)::tau) s) {Q:List Value->Shared->Prop} {E:Value->Shared->Prop}
  (h:∀ vs s',vs.length=ds.length->Sta F R sig om ((vs.zip ds)++(v,Rl ds)::tau) s'->Q vs s'):wpAny (model prog w) F.A (unpackItems v n none) Q E s:=by
 have h1:=st.top
 unfold Rl at h1
 obtain ⟨a,o,vs,k,rfl,ho,hc,hd,r⟩:=h1 _ (PH.le.refl _)
 have e:=r.length
 simp only[length_toList] at e
 rw[hn,<-e]
 refine wpAny_unpackItems_tuple ok.handled ⟨_,st.vget ho,hc,k,hd⟩ fun h' he=>?_
 have st':=st.ext (tk:=s.toks) he
 refine h _ _ (by simpa using e) (st'.temp fun p hp=>?_)
 rcases List.mem_append.mp hp with hp | hp
 ·have r':=r.mono (F.view_grow (R:=R) (om:=om) fun b o e=>he b o (fun q=>lt_irrefl _ (q▸Heap.lt_size e)) e)
  obtain ⟨i,hi,e'⟩:=getElem_of_mem hp
  rw[getElem_zip] at e'
  subst e'
  obtain ⟨u,hu,ru⟩:=r'.get (i:=i) (d:=ds[i]'(by simp at hi;lia)) (by simp)
  have:u=vs.toList[i]'(by simp at hi ⊢;lia):=by
   rw[getElem?_eq_getElem (by simp at hi ⊢;lia)] at hu;exact (Option.some.inj hu).symm
  subst this
  exact ru
 ·exact st'.temps p hp
theorem Hs (ok:F.Ok) {ts:List Expr} {k:Nat} {pos:Pos} {ds:List AV} (h:AsL prog w F om ts ds sig sig') (hl:ts.length=ds.length)
  (hf:(assignEach ts F.env).findIdx? (·.1)=none:=by rfl) (hle:(assignEach ts F.env).length=ts.length:=by rfl):As prog w F om (.Tuple ts k pos) (Rl ds) sig sig':=fun R tau v s Q E st hq=>by
 show wpAny _ _ (do standAt pos;unpack v (assignEach ts F.env)) Q E s
 refine wpAny_bind (wpAny_standAt ?_)
 unfold unpack
 rw[hf,hle]
 refine wpAny_bind (wpAny_holding (Qm ok hl st fun vs s' hv st'=>?_))
 exact h R _ vs s' _ _ hv st' hq
end
end
section
section
variable {prog:Program} {w:World} {F:Fn} {R:PH} {sig sig':List (Option AV)} {om om' om₁:Om} {tau:List (Value×AV)} {s:Shared}
theorem Sta.hide2 (ok:F.Ok) (x:Sta F R sig om tau s) {a b:Addr} {oa ob:Obj} {h':Heap} {tk:Nat} (ha:s.heap.objs.size≤a) (hb:s.heap.objs.size≤b) (hne:a≠b) (k:∀ c z,s.heap.get? c=some z->h'.get? c=some z) (hoa:h'.get? a=some oa) (hob:h'.get? b=some ob) :
  Sta F (R.put2 a b oa ob) sig om tau { s with heap:=h',toks:=tk }:=by
 have ne:∀ c z,s.heap.get? c=some z->c≠a∧c≠b:=fun c z e=>by
  have:=Heap.lt_size e
  exact ⟨fun q=>absurd this (by rw[q];exact Nat.not_lt.mpr ha),fun q=>absurd this (by rw[q];exact Nat.not_lt.mpr hb)⟩
 refine x.move (tk:=tk) (fun c z e=>?_) (fun c z e=>?_) (fun c z e=>?_) (fun c z _ e=>k c z e) fun c z e hcell=>?_
 ·obtain ⟨h1,h2⟩:=ne c z (x.vget e)
  obtain ⟨c1,c2,c3⟩:=ZN e
  unfold Fn.view
  rw[if_neg (by rw[Z8 h1 h2,c2];simpa using c1)]
  rcases c3 with ⟨q,y⟩ | ⟨q,y⟩
  ·rw[if_pos q];exact y
  ·rw[if_neg q];exact k _ _ y
 ·have g:=x.g c z e
  obtain ⟨h1,h2⟩:=ne c z g.2.2.1
  exact ⟨k _ _ g.2.2.1,by rw[Z8 h1 h2];exact g.2.2.2⟩
 ·by_cases q1:c=b
  ·subst q1
   rw[WN] at e;cases e
   exact ⟨(x.fresh ok hb).1,hob⟩
  ·by_cases q2:c=a
   ·subst q2
    rw[WM hne] at e;cases e
    exact ⟨(x.fresh ok ha).1,hoa⟩
   ·rw[Z8 q2 q1] at e
    exact ⟨(x.rf _ _ e).1,k _ _ (x.rf _ _ e).2⟩
 ·obtain ⟨h1,h2⟩:=ne c z (x.rf _ _ e).2
  rw[Z8 h1 h2];exact e
noncomputable def Enu (prog:Program) (w:World) (F:Fn) (om:Om) (d:AV) (xs:List AV):Prop :=
 ∀ (R:PH) (sig:List (Option AV)) (tau:List (Value×AV)) (v:Value) (s:Shared) (Q:Value->Shared->Prop) (E:Value->Shared->Prop),Sta F R sig om ((v,d)::tau) s ->
  (∀ e it d' Pt St Mid oe oi s',SrcT prog w F.A xs d' v e it Pt St Mid->it≠e->R e=none->R it=none->St 0 s'.heap->s'.heap.get? e=some oe->s'.heap.get? it=some oi->Sta F (R.put2 it e oi oe) sig om ((v,d')::tau) s'->Q (.ref e) s')->wpAny (model prog w) F.A (call (.type "enumerate") [v]) Q E s
theorem Kd (ok:F.Ok) {l:List AV}:Enu prog w F om (.lst l) l:=fun R sig tau v s Q E st h=>by
 have h1:=st.top
 obtain ⟨a,vs,n,rfl,o,r⟩:=h1
 have e:=r.length
 simp only[length_toList] at e
 have L:s.heap.IsList a vs:=⟨_,st.vget o,rfl,n,rfl⟩
 have hlt:=Heap.lt_size (st.vget o)
 refine call_enumerate_list L fun h' he hi hsz hk=>?_
 obtain ⟨oi,hoi,hic,hid⟩:=id hi
 have W:=WalksT.enumerate (prog:=prog) (w:=w) (A:=F.A) ok.handled (s.heap.objs.size+1) s.heap.objs.size a (Nat.succ_ne_self _) (ne_of_lt (lt_succ_of_lt hlt)) (ne_of_lt hlt) vs
 have st':=(st.push (v:=.ref a) (d:=.raw fun V u=>u=.ref a∧V a=some { cls:=.type "list",data:=.seq vs n }∧Zn V l vs.toList) (by exact fun V' hV=>⟨rfl,hV _ _ o,r.mono hV⟩)).hide2 (tk:=s.toks) ok (le_refl s.heap.objs.size) (le_succ _) (ne_of_lt (lt_succ_self _)) hk hoi he
 refine h (s.heap.objs.size+1) s.heap.objs.size (.raw fun V u=>u=.ref a∧V a=some { cls:=.type "list",data:=.seq vs n }∧Zn V l vs.toList) _ _ _ _ oi _ ⟨⟨_,e▸W,?_⟩,?_,?_,?_⟩ (ne_of_lt (lt_succ_self _)) (st.freshR (le_succ _)) (st.freshR (le_refl _)) ⟨⟨_,he⟩,hi,_,hk _ _ (st.vget o),rfl,n,rfl⟩ he hoi (st'.temp fun p hp=>st'.temps p ?_)
 ·intro b hb h1 h2 V V' q q'
  have:b=a:=by simpa [h1,h2] using hb
  subst this
  exact ⟨_,(q V (PH.le.refl _)).2.1,(q' V' (PH.le.refl _)).2.1⟩
 ·rintro V i vals x q ⟨t,y,hy,rfl⟩ hx
  obtain ⟨u,hu,ru⟩:=(q V (PH.le.refl _)).2.2.get hx
  have:u=y:=by
   have hy':vs.toList[i]?=some y:=by simpa using hy
   rw[hy'] at hu;exact (Option.some.inj hu).symm
  subst this
  exact .cons ZR (.cons ru .nil)
 ·rintro i g ⟨⟨old,h1⟩,⟨oo,h2,_,h3⟩,_⟩
  exact ⟨⟨_,_,h1,rfl⟩,⟨oo,_,h2,h3⟩⟩
 ·rintro i T g ⟨⟨old,h1⟩,⟨oo,h2,_,h3⟩,_⟩
  exact ⟨⟨_,_,h1,rfl⟩,⟨oo,_,h2,h3⟩⟩
 ·rcases List.mem_cons.mp hp with rfl | hp
  ·exact mem_cons_self
  ·exact mem_cons_of_mem _ (mem_cons_of_mem _ hp)
structure OwnT (prog:Program) (w:World) (A:Around) (I:Addr) (fp wr:List Addr) (n:Nat) (Pt:Nat->Array Value->Prop) (St:Nat->Heap->Prop) (Mid:Nat->Addr->Heap->Prop):Prop where
 frame:∀ i h h',St i h->(∀ b∈fp,∀ o,h.get? b=some o->h'.get? b=some o)->St i h'
 item:∀ i (s:Shared) (Q:Option Value->Shared->Prop) (E:Value->Shared->Prop),i<n->St i s.heap ->
  (∀ T vals h' tk,Pt i vals->s.heap.objs.size≤T->h'.IsTuple T vals->Mid i T h'->(∀ b o,b∉wr->s.heap.get? b=some o->h'.get? b=some o)->Q (some (.ref T)) { s with heap:=h',toks:=tk }) ->
  wpAny (model prog w) A (pyNext (.ref I)) Q E s
 go:∀ (elts:List Expr) (k:Nat) (pos:Pos) i T (s:Shared) (Q:Unit->Shared->Prop) (E:Value->Shared->Prop),Mid i T s.heap ->
  (∀ h',St (i+1) h'->(∀ b o,b∉wr->s.heap.get? b=some o->h'.get? b=some o)->Q () { s with heap:=h' }) ->
  wpAny (model prog w) A (letOwnedTupleGo (.Tuple elts k pos) (.ref I) (.ref T)) Q E s
 apart:∀ i T h,Mid i T h->T∉wr
 done:∀ (s:Shared) (Q:Option Value->Shared->Prop) (E:Value->Shared->Prop),St n s.heap ->
  (∀ h' tk,(∀ b o,b∉wr->s.heap.get? b=some o->h'.get? b=some o)->Q none { s with heap:=h',toks:=tk })->wpAny (model prog w) A (pyNext (.ref I)) Q E s
theorem OwnT.of {prog:Program} {w:World} {A:Around} {I:Addr} {fp wr:List Addr} {n:Nat} {Pt:Nat->Array Value->Prop} {St:Nat->Heap->Prop} {Mid:Nat->Addr->Heap->Prop} (W:WalksT prog w A I fp wr n Pt St Mid):OwnT prog w A I fp wr n Pt St Mid:=⟨W.frame,W.item,W.go,W.apart,W.done⟩
theorem Ke (ok:F.Ok) {ts:List Expr} {kk:Nat} {tp:Pos} {body:List Stmt} {P:Out->Prop} {Q:Flow->Shared->Prop} {E:Value->Shared->Prop} {N:Nat} {dss:Nat->List AV} {v:Value} {d':AV} {e it:Addr} {oe oi:Obj} {fp:List Addr} {Pt:Nat->Array Value->Prop} {St:Nat->Heap->Prop} {Mid:Nat->Addr->Heap->Prop}
  (W:OwnT prog w F.A e fp [e,it] N Pt St Mid) (hobj:∀ i h,St i h->(∃ o vs,h.get? e=some o∧o.data=.fields vs)∧(∃ o vs,h.get? it=some o∧o.data=.fields vs)) (hobjM:∀ i T h,Mid i T h->(∃ o vs,h.get? e=some o∧o.data=.fields vs)∧(∃ o vs,h.get? it=some o∧o.data=.fields vs))
  (hne:it≠e) (hRe:R e=none) (hRi:R it=none) (Inv:Nat->List (Option AV)->Om->Prop)
  (hfp:∀ b∈fp,b≠e->b≠it->∀ ob,∀ i oi oe sig om (s:Shared),Inv i sig om->Sta F (R.put2 it e oi oe) sig om ((v,d')::tau) s->s.heap.get? b=some ob->∀ i oi oe sig om (s:Shared),Inv i sig om->Sta F (R.put2 it e oi oe) sig om ((v,d')::tau) s->s.heap.get? b=some ob)
  (hitem:∀ i oi oe sig om (s:Shared) vals,i<N->Inv i sig om->Sta F (R.put2 it e oi oe) sig om ((v,d')::tau) s->Pt i vals->Zn (F.view (R.put2 it e oi oe) om s.heap) (dss i) vals.toList)
  (turn:∀ (i:Nat) sig om,i<N->Inv i sig om->∃ sig₁,As prog w F om (.Tuple ts kk tp) (Rl (dss i)) sig sig₁∧Ex prog w F sig₁ om body fun o=>match o with
   | .nxt sig' om'=>Inv (i+1) sig' om'
   | .cnt sig' om'=>Inv (i+1) sig' om'
   | .brk sig' om'=>P (.nxt sig' om')
   | .ret d sig' om'=>P (.ret d sig' om'))
  (done:∀ sig om,Inv N sig om->P (.nxt sig om)) (h0:Inv 0 sig om) (hst:St 0 s.heap) (hoe:s.heap.get? e=some oe) (hoi:s.heap.get? it=some oi) (st₃:Sta F (R.put2 it e oi oe) sig om ((v,d')::tau) s)
  (hq:∀ o f s',P o->Sq F R tau o f s'->Q f s') :
  codeAny (model prog w) F.A (Code.forLoop (.Tuple ts kk tp) (.ref e) body [] F.env) (fun r s'=>match r with | .ok f=>Q f s' | .error e=>cameBackBy (model prog w) F.A F.env E e s') s:=by
 have nc:∀ {o:Obj} {vs:Array Value},o.data=.fields vs->¬ ∃ v,o.data=.cell v:=fun h=>Wr h
 refine codeAny_loop' rfl (fun n s'=>∃ i sig om oe oi,i≤N∧n=N+1-i∧Inv i sig om∧St i s'.heap∧s'.heap.get? e=some oe∧s'.heap.get? it=some oi∧Sta F (R.put2 it e oi oe) sig om ((v,d')::tau) s') (fun n s' hI'=>?_) (N+1)
  ⟨0,sig,om,oe,oi,zero_le _,rfl,h0,hst,hoe,hoi,st₃⟩
 refine ex5 hI' fun i sig om oe oi H=>?_
 have hi:=H.1
 have hn:=H.2.1
 have inv:=H.2.2.1
 have hst:=H.2.2.2.1
 have hoe:=H.2.2.2.2.1
 have hoi:=H.2.2.2.2.2.1
 have st:=H.2.2.2.2.2.2
 clear H hI'
 subst hn
 show wpAny _ _ ((forTurn (.Tuple ts kk tp) (.ref e) body [] F.env).onRaise (fun x=>do noteFrame x F.env;theTreesLotGoes x)) _ _ s'
 refine wpAny_noted ?_
 unfold forTurn
 refine wpAny_bind (wpAny_standAt (wpAny_bind (wpAny_onRaise ?_)))
 have cell2:∀ {h:Heap} {oe oi:Obj},((∃ o vs,h.get? e=some o∧o.data=.fields vs)∧(∃ o vs,h.get? it=some o∧o.data=.fields vs))->h.get? e=some oe->h.get? it=some oi->(¬ ∃ v,oi.data=.cell v)∧¬ ∃ v,oe.data=.cell v:=fun ⟨⟨o1,v1,a1,b1⟩,⟨o2,v2,a2,b2⟩⟩ q1 q2=>by
  rw[q1] at a1;cases a1
  rw[q2] at a2;cases a2
  exact ⟨nc b2,nc b1⟩
 have ci:=(cell2 (hobj i _ hst) hoe hoi).1
 have ce:=(cell2 (hobj i _ hst) hoe hoi).2
 by_cases hlt:i<N
 ·refine W.item i s' _ _ hlt hst fun T vals h' tk hPt hT hTup hMid hk=>?_
  refine ex2 (hobjM _ _ _ hMid).1 fun oe₁ v1 H1=>ex2 (hobjM _ _ _ hMid).2 fun oi₁ v2 H2=>?_
  have a1:=H1.1
  have b1:=H1.2
  have a2:=H2.1
  have b2:=H2.2
  have st₁:=st.rehide2 (tk:=tk) hne hk a2 a1 ci ce
  refine wpAny_bind (W.go ts kk tp i T { s' with heap:=h',toks:=tk } _ _ hMid fun h'' hst'' hk''=>?_)
  refine ex2 (hobj _ _ hst'').1 fun oe₂ v3 H3=>ex2 (hobj _ _ hst'').2 fun oi₂ v4 H4=>?_
  have a3:=H3.1
  have b3:=H3.2
  have a4:=H4.1
  have b4:=H4.2
  have st₂:=st₁.rehide2 (tk:=tk) hne hk'' a4 a3 (nc b2) (nc b1)
  have hTw:=W.apart _ _ _ hMid
  have rx:Rep (F.view (R.put2 it e oi₂ oe₂) om h'') (Rl (dss i)) (.ref T):=by
   obtain ⟨oT,hoT,hTc,nT,hTd⟩:=hTup
   have hoT'':h''.get? T=some oT:=hk'' _ _ hTw hoT
   unfold Rl
   refine fun V' hV=>⟨T,oT,vals,nT,rfl,hV _ _ ?_,hTc,hTd,(hitem i _ _ _ _ _ vals hlt inv st₂ hPt).mono hV⟩
   have f:=st.fresh ok hT
   have hTe:T≠e:=fun q=>hTw (by simp[q])
   have hTi:T≠it:=fun q=>hTw (by simp[q])
   have hRT:R T=none:=by
    have:=st.freshR hT
    rw[Z8 hTi hTe] at this;exact this
   unfold Fn.view
   rw[if_neg (by rw[Z8 hTi hTe,hRT];simpa using f.1),if_neg f.2]
   exact hoT''
  refine ex1 (turn i sig om hlt inv) fun sig₁ HT=>?_
  refine wpAny_bind (HT.1 (R.put2 it e oi₂ oe₂) _ (.ref T) _ _ _ (st₂.push rx) fun s₃ st₃=>?_)
  refine wpAny_bind (HT.2 (R.put2 it e oi₂ oe₂) _ s₃ _ _ st₃.pop fun out f s₄ hout hl=>?_)
  have goes:∀ sig' om',Inv (i+1) sig' om'->Sta F (R.put2 it e oi₂ oe₂) sig' om' ((v,d')::tau) s₄->∃ m,m<N+1-i∧∃ i sig om oe oi,i≤N∧m=N+1-i∧Inv i sig om∧St i s₄.heap∧s₄.heap.get? e=some oe∧s₄.heap.get? it=some oi∧Sta F (R.put2 it e oi oe) sig om ((v,d')::tau) s₄:=fun sig' om' hinv st₄=>by
   have he₄:s₄.heap.get? e=some oe₂:=(st₄.rf e oe₂ WN).2
   have hi₄:s₄.heap.get? it=some oi₂:=(st₄.rf it oi₂ (WM hne)).2
   refine ⟨N+1-(i+1),Nat.sub_lt_sub_left (lt_succ_of_lt hlt) (lt_succ_self i),i+1,sig',om',oe₂,oi₂,hlt,rfl,hinv,W.frame _ _ _ hst'' fun b hb ob q=>?_,he₄,hi₄,st₄⟩
   by_cases hbe:b=e
   ·subst hbe;rw[a3] at q;cases q;exact he₄
   ·by_cases hbi:b=it
    ·subst hbi;rw[a4] at q;cases q;exact hi₄
    ·exact hfp b hb hbe hbi ob _ _ _ _ _ _ inv st₂ q _ _ _ _ _ _ hinv st₄
  have ends:∀ sig' om' tau',Sta F (R.put2 it e oi₂ oe₂) sig' om' tau' s₄->Sta F R sig' om' tau' s₄:=fun sig' om' tau' st₄=>st₄.unhide2 (tk:=s₄.toks) hne hRi hRe (fun _ _ _ q=>q) (nc b4) (nc b3)
  cases out<;>cases f<;>first | exact False.elim hl | change Sta _ _ _ _ _ _ at hl
  ·exact wpAny_pure (.inl ⟨rfl,goes _ _ hout hl⟩)
  ·exact wpAny_pure (hq (.nxt _ _) .next _ hout (ends _ _ _ hl).pop)
  ·exact wpAny_pure (.inl ⟨rfl,goes _ _ hout hl⟩)
  ·refine wpAny_pure (hq (.ret _ _ _) (.ret _) _ hout ?_)
   show Sta F R _ _ ((_,_)::tau) s₄
   have:=ends _ _ _ hl
   exact this.temp fun p hp=>this.temps p (by rcases List.mem_cons.mp hp with rfl | hp<;>simp[*])
 ·have hi':i=N:=by omega
  subst hi'
  refine W.done s' _ _ hst fun h' tk hk=>?_
  refine wpAny_pure (.inr ⟨rfl,codeAny_block (wpAny_execs_nil ?_)⟩)
  exact hq (.nxt sig om) .next _ (done _ _ inv) (st.unhide2 (tk:=tk) hne hRi hRe hk ci ce).pop
theorem ex_enum (ok:F.Ok) {ts:List Expr} {kk:Nat} {tp:Pos} {func b:Expr} {body:List Stmt} {pos cpos:Pos} {d:AV} {xs:List AV} {P:Out->Prop} (hf:Ev prog w F sig om func (.raw fun _ u=>u=.type "enumerate")) (hb:EvL prog w F sig om [b] [d]) (en:Enu prog w F om d xs)
  (Inv:Nat->List (Option AV)->Om->Prop) (h0:Inv 0 sig om)
  (turn:∀ (i:Nat) (x:AV) sig om,xs[i]?=some x->Inv i sig om->∃ sig₁,As prog w F om (.Tuple ts kk tp) (Rl [.int i,x]) sig sig₁∧Ex prog w F sig₁ om body fun o=>match o with
   | .nxt sig' om'=>Inv (i+1) sig' om'
   | .cnt sig' om'=>Inv (i+1) sig' om'
   | .brk sig' om'=>P (.nxt sig' om')
   | .ret d sig' om'=>P (.ret d sig' om'))
  (done:∀ sig om,Inv xs.length sig om->P (.nxt sig om))
  (hs:∀ x,foldedSetIterable (.Call func [b] [] cpos) F.env x=pure x:=by intro _;rfl)
  (hc:eval (.Call func [b] [] cpos) F.env=(do callWith cpos (<-eval func F.env) [] (backTo cpos (starEach [b] F.env)) (backToKw cpos (keywordEach [] F.env))):=by rfl)
  (hp:(backTo cpos (starEach [b] F.env)).any (·.1)=false:=by rfl):Ex1 prog w F sig om (.For (.Tuple ts kk tp) (.Call func [b] [] cpos) body [] pos) P:=fun R tau s Q E st hq=>by
 refine wpAny_For ?_ hs
 rw[hc]
 refine wpAny_bind (hf R tau s _ _ st fun v s₁ st₁=>?_)
 have:=st₁.top
 obtain rfl:=this _ (PH.le.refl _)
 refine callWith_of (P:=fun h=>∀ b o,F.G b=some o->h.get? b=some o) (by show ((backTo cpos (starEach [b] F.env)).any (·.1) || false)=false;rw[hp];rfl) Zx (Wq hp (hb cpos R tau s₁ _ _ st₁.pop fun vs s₂ hv st₂=>?_))
 refine ⟨fun b o e=>(st₂.g b o e).2.2.1,?_⟩
 obtain ⟨v,rfl,st₂⟩:=Wk hv st₂
 refine en R sig tau v s₂ _ _ st₂ fun e it d' Pt St Mid oe oi s₃ src hne hRe hRi hst hoe hoi st₃=>?_
 obtain ⟨⟨fp,W,hfp⟩,hitem,hobj,hobjM⟩:=src
 refine W.self 0 _ _ _ hst ?_
 refine Ke (dss:=fun i=>[.int i,xs.getD i .none]) ok (OwnT.of W) hobj hobjM hne hRe hRi Inv ?_ ?_ ?_ done h0 hst hoe hoi st₃ hq
 ·intro b hb hbe hbi ob i oi oe sig om s _ x q i' oi' oe' sig' om' s' _ x'
  obtain ⟨ob',q1,q2⟩:=hfp b hb hbe hbi _ _ x.top x'.top
  have:=x.vget q1
  rw[q] at this
  cases this
  exact x'.vget q2
 ·intro i oi oe sig om s vals hi _ x hPt
  exact hitem _ i vals _ x.top hPt (by simp[List.getD,hi])
 ·intro i sig om hi inv
  exact turn i _ sig om (by simp[List.getD,hi]) inv
end
end
section
section
variable {prog:Program} {w:World} {F:Fn} {R:PH} {sig sig':List (Option AV)} {om om' om₁:Om} {tau:List (Value×AV)} {s:Shared} {K:Frag}
theorem Kf (ok:F.Ok) {x:Str} (hx:x.cps.size=0) (hty:strIterType x = "str_ascii_iterator"):Enu prog w F om (.str x) []:=fun R sig tau v s Q E st h=>by
 have h1:=st.top
 obtain ⟨t,rfl⟩:=h1
 refine call_enumerate_str fun h' he hi hsz hk=>?_
 rw[hty] at hi
 obtain ⟨oi,hoi,hic,hid⟩:=id hi
 have D:=Draws.strAscii (prog:=prog) (w:=w) (A:=F.A.in1) ok.handled s.heap.objs.size x t
 have W:=WalksT.enumerateD D (s.heap.objs.size+1) (Nat.succ_ne_self _) (by simp) (by simp)
 rw[hx] at W
 have st':=(st.push (v:=.str x t) (d:=.raw fun V u=>True) (by exact fun V' hV=>trivial)).hide2 (tk:=s.toks) ok (le_refl s.heap.objs.size) (le_succ _) (ne_of_lt (lt_succ_self _)) hk hoi he
 refine h (s.heap.objs.size+1) s.heap.objs.size (.raw fun V u=>True) _ _ _ _ oi _ ⟨⟨_,W,?_⟩,?_,?_,?_⟩ (ne_of_lt (lt_succ_self _)) (st.freshR (le_succ _)) (st.freshR (le_refl _)) ⟨⟨_,he⟩,hi⟩ he hoi (st'.temp fun p hp=>st'.temps p ?_)
 ·intro b hb h1 h2;exact absurd (by simpa [h1] using hb) h2
 ·intro V i vals x q _ hx;cases hx
 ·rintro i g ⟨⟨old,h1⟩,⟨oo,h2,_,h3⟩⟩
  exact ⟨⟨_,_,h1,rfl⟩,⟨oo,_,h2,h3⟩⟩
 ·rintro i T g ⟨⟨old,h1⟩,⟨oo,h2,_,h3⟩,_⟩
  exact ⟨⟨_,_,h1,rfl⟩,⟨oo,_,h2,h3⟩⟩
 ·rcases List.mem_cons.mp hp with rfl | hp
  ·exact mem_cons_self
  ·exact mem_cons_of_mem _ (mem_cons_of_mem _ hp)
theorem Xf {C x dx:Addr} {as:List (Str×AV)} {name:Str} {f:Addr} (hk:Zo K F.G) (hp:Y3 K C=true) (hf:findIn K (.ref C) name=some (some (.ref f))) (ht:typeIn K (.ref f)=some (.type "function")) (hm:(dx,Zm as)∈om) (hl:as.lookup name=none) :
  Qi prog w F om (inst C x dx) name (.ref f):=fun R sig tau v s pl Q E st h=>by
 obtain ⟨rfl,h1,es,n,h2,h3,I⟩:=st.instAt st.top hm
 have g:=h3.get name
 rw[hl] at g
 exact method_fn (st.inK hk) I (YJ hp).2.1 (YJ hp).2.2.1 hf ht (by show ((lookIn name (dictOf es n)).map (·.isSome))=some false;rw[lookIn_dict,show getL name es=some none from g];rfl) h
theorem Yr {f:Addr} {o:Obj} {fd:FuncData} (h:F.G f=some o) (hd:o.data=.func fd):X9 prog w F (.ref f):=fun hp hG=>⟨.frame,.inl rfl,fun A Q E s k q=>by
 unfold keeperOf
 refine wpAny_bind (wpAny_load (k _ _ (hG _ _ h)) ?_)
 rw[hd]
 exact wpAny_pure q⟩
end
end
section
noncomputable def Kg (d:Data):Option ClassData:=match d with | .cls c=>some c | _=>none
theorem Mx:∀ {d:Data} {p:ClassData->Bool},(Kg d).any p=true->∃ c,d=.cls c∧p c=true
 | d,p,e=>by cases d<;>first | exact absurd e Bool.false_ne_true | exact ⟨_,rfl,e⟩
noncomputable def Wm (K:Frag) (C:Addr):Bool:=match K.lookup C with
 | some o=>(Kg o.data).any fun cd=>!cd.abstract&&!cd.hasDel&&(o.slots.toList[4]?).join==some .none&&cd.mro==[.ref C,.type "tuple",.type "object"]&&cd.bases==[.type "tuple"] &&
   specialIn K (.ref C) "__call__" == some (some (.builtin "type.__call__"))&&instIn K (.ref C) (.type "type")==some true&&findIn K (.ref C) "__init__" == some (some (.builtin "object.__init__"))
 | none=>false
structure TupCls (M:Model) (h:Heap) (C:Addr):Prop where
 obj:∃ oc od cd sl,h.get? C=some ⟨oc,od,.cls cd,sl⟩∧cd.abstract=false∧cd.hasDel=false∧cd.mro=[.ref C,.type "tuple",.type "object"]
 mro:Looks M h (mroOf (.ref C)) [.ref C,.type "tuple",.type "object"]
 made:Looks M h (Bind.madeBy (.ref C)) none
 base:Looks M h (Bind.staticBase (.ref C)) (.type "tuple")
 self:Looks M h (isSubtype (.ref C) (.ref C)) true
 tup:Looks M h (isSubtype (.ref C) (.type "tuple")) true
 top:Looks M h (isSubtype (.ref C) (.type "object")) true
 call:Looks M h (specialOf (.ref C) "__call__") (some (.builtin "type.__call__"))
 typ:Looks M h (isInstance (.ref C) (.type "type")) true
 init:Looks M h (typeLookup (.ref C) "__init__") (some (.builtin "object.__init__"))
theorem Py:Builtin.Slots.bestBase [.type "tuple"]=pure (.type "tuple"):=by kernel_rfl
theorem XN {K:Frag} {M:Model} {h:Heap} (X:K.In h) {C:Addr} (e:Wm K C=true):TupCls M h C:=by
 unfold Wm at e
 cases ho:K.lookup C with
 | none=>rw[ho] at e;exact absurd e Bool.false_ne_true
 | some o =>
  rw[ho] at e
  obtain ⟨oc,od,dat,sl⟩:=o
  obtain ⟨cd,rfl,e⟩:=Mx e
  simp only[Bool.and_eq_true,Bool.not_eq_true',beq_iff_eq] at e
  obtain ⟨⟨⟨⟨⟨⟨⟨e1,e2⟩,e3⟩,e4⟩,e5⟩,e6⟩,e7⟩,e8⟩:=e
  have hc:clsIn K C=some cd:=by unfold clsIn;rw[ho]
  have hm:Looks M h (mroOf (.ref C)) [.ref C,.type "tuple",.type "object"]:=e4▸(looks_clsIn X hc).andThen .now
  have made:Looks M h (Bind.madeBy (.ref C)) none:=by
   intro A Q E s k q
   unfold Bind.madeBy
   refine wpAny_bind (hm A _ E s k ?_)
   rw[forIn_cons]
   refine wpAny_bind (wpAny_bind (wpAny_bind (wpAny_bind (wpAny_loadPart (k _ _ (X _ _ ho)) (wpAny_pure ?_)))))
   dsimp only
   rw[<-getElem?_toList,e3]
   exact wpAny_pure (wpAny_pure (wpAny_pure q))
  have ne:cd.mro.isEmpty=false:=by rw[e4];rfl
  refine ⟨⟨oc,od,cd,sl,X _ _ ho,e1,e2,e4⟩,hm,made,?_,looks_mroIn X ?_,looks_mroIn X ?_,looks_mroIn X ?_,looks_specialIn X e6,looks_instIn X e7,looks_findIn X e8⟩
  ·intro A Q E s k q
   unfold Bind.staticBase
   refine wpAny_bind (hm A _ E s k ?_)
   rw[forIn_cons]
   refine wpAny_bind (wpAny_bind (wpAny_bind (made A _ E s k ?_)))
   rw[if_neg (by decide)]
   refine wpAny_bind ((looks_clsIn X hc) A _ E s k ?_)
   rw[e5,Py]
   refine wpAny_bind (wpAny_pure (wpAny_pure ?_))
   dsimp only
   rw[forIn_cons]
   refine wpAny_bind (wpAny_bind ?_)
   rw[show Bind.madeBy (.type "tuple")=pure (some "tuple.__new__") from F.called_tuple.made]
   exact wpAny_pure (wpAny_pure (wpAny_pure (wpAny_pure q)))
  ·unfold mroIn;rw[hc,Option.bind_some,if_neg (by rw[ne];decide),e4];simp
  ·unfold mroIn;rw[hc,Option.bind_some,if_neg (by rw[ne];decide),e4];rfl
  ·unfold mroIn;rw[hc,Option.bind_some,if_neg (by rw[ne];decide),e4];rfl
end
section
section
variable {prog:Program} {w:World} {A:Around} {E:Value->Shared->Prop} {s:Shared} {C:Addr}
set_option maxRecDepth 100000 in
theorem My {h:Heap} (Y:TupCls (model prog w) h C):Looks (model prog w) h (Bind.madeHere "tuple.__new__" (.ref C)) ():=by
 intro A Q E s k q
 unfold Bind.madeHere
 refine wpAny_bind (Y.base A _ E s k ?_)
 rw[show Bind.madeBy (.type "tuple")=pure (some "tuple.__new__") from F.called_tuple.made]
 refine wpAny_bind (wpAny_pure ?_)
 have e:(Option.map Manifest.canonical (some "tuple.__new__") != some (Manifest.canonical "tuple.__new__"))=false:=by rw[Option.map_some];exact bne_self_eq_false _
 rw[e]
 exact wpAny_pure q
theorem Fk {t:Addr} {vs:Array Value} {P:PySem.Fin->Shared->Prop} (Y:TupCls (model prog w) s.heap C) (hh:A.handled=none) (ht:s.heap.IsTuple t vs) (hsz:vs.size≤sizeLine)
  (h:∀ h' n,(∀ b o,s.heap.get? b=some o->h'.get? b=some o)->(∀ b o,s.heap.get? b=some o->b<n)->(∃ d,h'.get? n=some { cls:=.ref C,dict:=some d,data:=.seq vs })->P (.done (.ret (.ref n))) { s with heap:=h' }) :
  wpAny (model prog w) A (Builtin.«tuple.__new__» ⟨[.ref C,.ref t],[]⟩) P E s:=by
 obtain ⟨hp,g,d,tk,os⟩:=s
 obtain ⟨⟨oc,od,cd,sl,hC,e1,e2,e4⟩,mro,made,base,self,tup,top,call,typ,init⟩:=id Y
 have mh:=My Y
 unfold Builtin.«tuple.__new__»
 dsimp only at hC mro made base self tup top call typ init mh ⊢
 obtain ⟨ot,hot,hct,nt,hdt⟩:=ht
 repeat (first | (with_reducible refine wpAny_collect_seq (hsz:=hsz) t (.inr rfl) hot hct hdt fun h₁ k₁=>?_) | lk)
 rw[if_neg (by simpa using hsz)]
 have hC':(h₁.push { cls:=Value.type "dict",data:=Data.dict #[] }).get? C=some { cls:=oc,dict:=od,data:=Data.cls cd,slots:=sl }:=Heap.get?_push_of_some _ (k₁ _ _ hC)
 dsimp only
 unfold newObjAsIs
 have hC'':((h₁.push { cls:=Value.type "dict",data:=Data.dict #[] }).push { cls:=Value.ref C,dict:=some h₁.objs.size,data:=Data.seq vs.toList.toArray }).get? C=some { cls:=oc,dict:=od,data:=Data.cls cd,slots:=sl }:=Heap.get?_push_of_some _ hC'
 have k₂:∀ b o,hp.get? b=some o->((h₁.push { cls:=Value.type "dict",data:=Data.dict #[] }).push { cls:=Value.ref C,dict:=some h₁.objs.size,data:=Data.seq vs.toList.toArray }).get? b=some o:=fun b o e=>Heap.get?_push_of_some _ (Heap.get?_push_of_some _ (k₁ _ _ e))
 repeat lk
 rw[e2]
 exact wpAny_pure (wpAny_pure (h _ _ k₂ (fun b o e=>by rw[Heap.size_push];exact lt_succ_of_lt (Heap.lt_size (k₁ _ _ e))) ⟨_,by rw[Heap.get?_push_size _ rfl]⟩))
end
section
variable {prog:Program} {w:World} {F:Fn} {R:PH} {sig sig':List (Option AV)} {om om' om₁:Om} {tau:List (Value×AV)} {s:Shared} {K:Frag}
theorem Sta.new_view' (ok:F.Ok) (x:Sta F R sig om tau s) {h':Heap} {a:Addr} {o:Obj} (ha:∀ b z,s.heap.get? b=some z->b<a) (e:h'.get? a=some o):F.view R om h' a=some o:=by
 have hD:∀ b∈F.D om,b<a:=fun b hb=>by
  unfold Fn.D at hb
  rcases List.mem_cons.mp hb with rfl | hb
  ·obtain ⟨m,⟨o,_,_,ho,_⟩,_⟩:=x.slots
   exact ha _ _ ho
  ·rcases List.mem_append.mp hb with hb | hb
   ·obtain ⟨v,o,ho,_⟩:=x.cells b hb
    exact ha _ _ ho
   ·obtain ⟨p,hp,rfl⟩:=List.mem_map.mp hb
    obtain ⟨o,ho,_⟩:=x.opens p hp
    exact ha _ _ ho
 have hL:F.L<a:=hD _ (by simp[Fn.D])
 have hR:R a=none:=by
  cases q:R a with
  | none=>rfl
  | some z=>exact absurd (ha _ _ (x.rf a z q).2) (lt_irrefl _)
 unfold Fn.view
 rw[if_neg (by rw[hR];simpa using fun q=>lt_irrefl _ (hD a q)),if_neg (Nat.not_lt.mpr (le_of_lt (lt_of_le_of_lt ok.low hL)))]
 exact e
noncomputable def mat (C:Addr) (ds:List AV):AV:=.raw fun V v=>∃ a d vs n,v=.ref a∧V a=some { cls:=.ref C,dict:=some d,data:=.seq vs n }∧Zn V ds vs.toList
theorem Ht {V:PH} {C a d:Addr} {vs:Array Value} {n:Nat} {ds:List AV} (h:V a=some { cls:=.ref C,dict:=some d,data:=.seq vs n }) (r:Zn V ds vs.toList):Rep V (mat C ds) (.ref a):=by
 unfold mat
 exact fun V' hV=>⟨a,d,vs,n,rfl,hV _ _ h,r.mono hV⟩
theorem UX {V:PH} {C:Addr} {ds:List AV} {v:Value} (h:Rep V (mat C ds) v):∃ a d vs n,v=.ref a∧V a=some { cls:=.ref C,dict:=some d,data:=.seq vs n }∧Zn V ds vs.toList:=by
 unfold mat at h
 exact h V (PH.le.refl _)
end
end
section
section
variable {prog:Program} {w:World} {A:Around} {E:Value->Shared->Prop} {s:Shared} {C:Addr}
set_option maxRecDepth 100000 in
theorem Tz {pl:Sem Bool} {Q:Value×List Value->Shared->Prop} (h:Q (.builtin "tuple.__new__",[]) { s with toks:=s.toks+1 }):wpAny (model prog w) A (getMethod (.type "tuple") "__new__" pl) Q E s:=by
 have X:Frag.In [] s.heap:=fun a o e=>by cases e
 have e:findCls [] (.type "tuple") (.type "type") (Str.ofString "__new__")=some (.val (.builtin "tuple.__new__")):=by kernel_rfl
 have hstub:opaqueClassAbove (.type "tuple")=pure none:=by unfold opaqueClassAbove;dsimp only;rw[show Manifest.isStub "tuple" = false by decide +kernel];rfl
 have ht:typeOf (.type "tuple")=pure (.type "type"):=by first | rfl | kernel_rfl
 have L0:Looks (model prog w) s.heap (typeOf (.type "tuple")) (.type "type"):=Looks.of_pure ht
 have hg:findIn [] (.type "type") "__getattribute__" = some (some (.builtin "type.__getattribute__")):=by kernel_rfl
 unfold getMethod specialOf
 refine wpAny_bind (wpAny_bind (L0.here ((looks_findIn X hg).here ?_)))
 dsimp only
 rw[if_pos canon_tga]
 refine wpAny_bind (wpAny_mono (Q:=fun v=>Q (v,[])) (E:=E) ?_ (fun _ _ z=>wpAny_pure z) fun _ _ z=>z)
 have LO:Looks (model prog w) s.heap (opaqueClassAbove (.type "tuple")) none:=Looks.of_pure hstub
 refine cls_open X LO L0 hg (looks_hook X (r:=none) (by rfl)) (by show subIn [] _ _=_;rfl) e ?_
 exact wpAny_pure (handed_on rfl h)
end
end
section
section
variable {prog:Program} {w:World} {A:Around} {E:Value->Shared->Prop} {s:Shared} {C:Addr}
theorem Hu:builtinKind "tuple.__new__" = some .builtinFn:=by decide +kernel
theorem Kh:splitId "tuple.__new__" = some ("tuple", "__new__"):=by decide +kernel
theorem Fl:∃ sg,Manifest.signature? "tuple.__new__" = some sg∧∀ a t,Bind.checkArgs "tuple.__new__" sg ⟨[.ref a,t],[]⟩=pure () :=
 ⟨(Manifest.signature? "tuple.__new__").get (by kernel_rfl),by rw[Option.some_get],fun a t=>by kernel_rfl⟩
set_option maxRecDepth 100000 in
theorem Ki {t:Value} {Q:Unit->Shared->Prop} (Y:TupCls (model prog w) s.heap C) (h:Q () s):wpAny (model prog w) A (checkBuiltinCall "tuple.__new__" ⟨[.ref C,t],[]⟩) Q E s:=by
 obtain ⟨hp,g,d,tk,os⟩:=s
 obtain ⟨⟨oc,od,cd,sl,hC,e1,e2,e4⟩,mro,made,base,self,tup,top,call,typ,init⟩:=id Y
 dsimp only at hC mro made base self tup top call typ init
 obtain ⟨sg,g1,g2⟩:=Fl
 unfold checkBuiltinCall
 rw[Hu,Kh,g1]
 have hm:Looks (model prog w) hp (Bind.madeBy (.type "tuple")) (some "tuple.__new__"):=Looks.of_pure F.called_tuple.made
 have hg:Looks (model prog w) hp (Bind.checkArgs "tuple.__new__" sg ⟨[.ref C,t],[]⟩) ():=Looks.of_pure (g2 C t)
 dsimp only
 repeat lk
 exact h
theorem Hv {t:Addr} {vs:Array Value} {Q:Value->Shared->Prop} (Y:TupCls (model prog w) s.heap C) (hh:A.handled=none) (ht:s.heap.IsTuple t vs) (hsz:vs.size≤sizeLine)
  (h:∀ h' n,(∀ b o,s.heap.get? b=some o->h'.get? b=some o)->(∀ b o,s.heap.get? b=some o->b<n)->(∃ d,h'.get? n=some { cls:=.ref C,dict:=some d,data:=.seq vs })->Q (.ref n) { s with heap:=h' }) :
  wpAny (model prog w) A (call (.builtin "tuple.__new__") [.ref C,.ref t]) Q E s:=by
 refine wpAny_call (codeAny_call_builtin F.plain_tuple_new F.entry_tuple_new (Ki Y ?_))
 exact Fk Y hh ht hsz fun h' n k1 k2 k3=>h h' n k1 k2 k3
end
section
variable {prog:Program} {w:World} {F:Fn} {R:PH} {sig sig':List (Option AV)} {om om' om₁:Om} {tau:List (Value×AV)} {s:Shared} {K:Frag}
set_option maxRecDepth 100000 in
theorem VG (ok:F.Ok) {o e1 e2:Expr} {apos pos:Pos} {C:Addr} {ds:List AV} (hk:Zo K F.G) (hc:Wm K C=true) (h₀:Ev prog w F sig om o (.raw fun _ u=>u=.type "tuple")) (h₂:EvL prog w F sig om [e1,e2] [.raw fun _ u=>u=.ref C,.tup ds]) (hsz:ds.length≤sizeLine)
  (pl:Sem Bool) (he:eval (.Call (.Attribute o "__new__" apos) [e1,e2] [] pos) F.env=(do
   let ov <-eval o F.env
   standAt apos.atName
   let (f,first) <-holding [ov] (getMethod ov "__new__" pl)
   callWith pos f first (backTo pos (starEach [e1,e2] F.env)) []):=by rfl)
  (hp:(backTo pos (starEach [e1,e2] F.env)).any (·.1)=false:=by rfl):Ev prog w F sig om (.Call (.Attribute o "__new__" apos) [e1,e2] [] pos) (mat C ds):=fun R tau s Q E st hq=>by
 refine MethodCall_ (pl:=pl) (h₀ R tau s _ _ st fun v s₁ st₁=>?_) he
 have:=st₁.top
 obtain rfl:=this _ (PH.le.refl _)
 refine Tz ?_
 refine callWith_of (P:=fun h=>∀ b o,F.G b=some o->h.get? b=some o) (by show ((backTo pos (starEach [e1,e2] F.env)).any (·.1) || false)=false;rw[hp];rfl) Zs (Wq hp (h₂ pos R _ _ _ _ st₁.pop.tok1 fun vs s₂ hv st₂=>?_))
 refine ⟨fun b o e=>(st₂.g b o e).2.2.1,?_⟩
 obtain ⟨v₁,v₂,rfl,st₃⟩:=Tp hv st₂
 have r1:=st₃.top2
 have r2:=st₃.top
 obtain rfl:=r1 _ (PH.le.refl _)
 obtain ⟨a,vs,n,rfl,ho,r⟩:=r2
 have el:=r.length
 simp only[length_toList] at el
 refine Hv (XN (st₃.inK hk) hc) ok.handled ⟨_,st₃.vget ho,rfl,n,rfl⟩ (by lia) fun h' m k1 k2 ⟨d,k3⟩=>hq _ _ ?_
 have st₄:=st₃.pop.pop.grow (tk:=s₂.toks) k1
 exact st₄.push (Ht (st₃.new_view' ok k2 k3) (r.mono (F.view_grow k1)))
end
end
section
section
variable {prog:Program} {w:World} {A:Around} {K:Frag} {C:Addr} {R:Result->Shared->Prop} {h:Heap} {g:Array GenState} {d:Drawn} {t:Nat} {os:OsState}
theorem Kj (a b c d:Value):argsOk "object.__init__" ⟨[a,b,c,d],[]⟩:=by unfold argsOk;kernel_rfl
set_option maxRecDepth 100000 in
theorem oi3 {a:Addr} {r1 r2 r3:Value} {s:Shared} {RR:Result->Shared->Prop} (Y:TupCls (model prog w) s.heap C) (t1:Looks (model prog w) s.heap (typeOf (.ref a)) (.ref C)) (h:RR (.ok (.ret .none)) s) :
  codeAny (model prog w) A (.call (.builtin "object.__init__") ⟨[.ref a,r1,r2,r3],[]⟩) RR s:=by
 have sub:Looks (model prog w) s.heap (isInstance (.ref a) (.type "object")) true:=t1.andThen Y.top
 refine codeAny_call_builtin oi_plain entry_oi (@check_slot (model prog w) _ _ s "object.__init__" "object" "__init__" (.ref a) [r1,r2,r3] [] _ oi_kind oi_split sub (Kj _ _ _ _) ?_)
 obtain ⟨hp,g,d,tk,os⟩:=s
 obtain ⟨obj',mro',made',base',self',tup',top',call',typ',init'⟩:=id Y
 dsimp only at mro' made' init' t1
 unfold Builtin.«object.__init__»
 dsimp only
 rw[if_pos (by rfl)]
 refine wpAny_bind (t1.at (wpAny_bind (init'.at (wpAny_bind (made'.at ?_)))))
 dsimp only
 rw[if_neg (by rw[bne_self_eq_false];decide),if_neg (by decide)]
 exact wpAny_pure h
set_option maxRecDepth 100000 in
set_option maxHeartbeats 400000 in
theorem Qn {f p:Addr} {r1 r2 r3:Value} (X:K.In h) (hc:Wm K C=true) (hr:readsIn K C (.type "type")=true) (hf:findCls K (.ref C) (.type "type") "__new__" = some (.get (.builtin "staticmethod.__get__") (.ref p) .none (.ref C))) (hp:recIn K p "staticmethod" = some [.ref f])
  (hnew:wpAny (model prog w) (A.under (.builtin "type.__call__" ⟨[.ref C,r1,r2,r3],[]⟩)) (call (.ref f) [.ref C,r1,r2,r3]) (fun v s'=>∃ a o h' tk,v=.ref a∧s'=⟨h',g,d,tk,os⟩∧(∀ b o,h.get? b=some o->h'.get? b=some o)∧h'.get? a=some o∧o.cls=.ref C∧R (.ok (.ret v)) s') (fun e s'=>R (.error e) s') ⟨h,g,d,t+1,os⟩) :
  codeAny (model prog w) A (.call (.ref C) ⟨[r1,r2,r3],[]⟩) R ⟨h,g,d,t,os⟩:=by
 have Y:=XN (M:=model prog w) X hc
 obtain ⟨⟨oc,od,cd,sl,hC,e1,e2,e4⟩,mro,made,base,self,tup,top,call,typ,init⟩:=id Y
 refine codeAny_of_tree ?_
 show wpAny _ _ (callAny (.ref C) _) _ _ _
 refine nd_load hC ?_
 show wpAny _ _ (callAny.viaDunder (.ref C) _) _ _ _
 unfold callAny.viaDunder
 refine wpAny_bind (call.at ?_)
 dsimp only
 rw[tc_bind]
 refine wpAny_bind (wpAny_pure (wpAny_bind (wpAny_pure ?_)))
 refine wpAny_pure (a:=Fin.again (.call (.builtin "type.__call__") ⟨[.ref C,r1,r2,r3],[]⟩)) (And.intro rfl ?_)
 refine codeAny_call_builtin_at (Code.quiet_builtin _ (by decide +kernel)) entry_typeCall (check_slot tc_kind tc_split typ (tc_args _ _ _) ?_)
 unfold Builtin.«type.__call__»
 repeat (first | (with_reducible refine cls_bind X hr hf ?_) | (with_reducible show wpAny _ _ (PySem.call (Value.builtin "staticmethod.__get__") _ _) _ _ _;refine wpAny_call (sm_get (s:=⟨h,g,d,t+1,os⟩) X hp ?_)) | (with_reducible show wpAny _ _ (PySem.call (Value.ref f) _ _) _ _ _;refine wpAny_mono hnew ?_ fun _ _ z=>z) | lk)
 intro v s' z
 obtain ⟨a,o,h',tk,rfl,rfl,k,ho,hoc,hR⟩:=z
 have Y':=XN (M:=model prog w) (X.keeps k) hc
 obtain ⟨obj',mro',made',base',self',tup',top',call',typ',init'⟩:=id Y'
 have t1:Looks (model prog w) h' (typeOf (.ref a)) (.ref C):=hoc▸(Looks.ld ho).andThen .now
 unfold isInstance callSpecial? specialOf
 have hb:=oi_bind (.ref a)
 have b1:Looks (model prog w) h' (bindSpecial (.builtin "object.__init__") (.ref a)) (.builtin "object.__init__",[.ref a]):=Looks.of_pure hb
 refine wpAny_bind (wpAny_bind (t1.at (self'.at ?_)))
 rw[if_neg (by decide)]
 refine wpAny_bind (wpAny_holding (wpAny_bind (wpAny_bind (t1.at (init'.at ?_)))))
 dsimp only
 refine wpAny_holding (wpAny_bind (b1.at ?_))
 dsimp only
 refine wpAny_bind (wpAny_call (oi3 (s:=⟨h',g,d,tk,os⟩) Y' t1 ?_))
 refine wpAny_pure ?_
 dsimp only
 rw[if_neg (by decide)]
 exact wpAny_pure hR
end
end
section
theorem Room.under {A:Around} {n:Nat} {c:Code} (h:Room A (n+1)) (hw:c.weight≤1) (hu:c.cUnits≤20):Room (A.under c) n :=
 ⟨h.handled,by have:=h.depth;show A.depth+c.weight+n≤600;lia,by have:=h.units;show A.units+c.cUnits+20*n≤5000;lia⟩
theorem Sw (C:Addr) (r:List Value):(Code.builtin "type.__call__" ⟨.ref C::r,[]⟩).weight≤1:=by
 have:(Code.builtin "type.__call__" ⟨.ref C::r,[]⟩).weight=1:=by kernel_rfl
 lia
theorem Qo (C:Addr) (r:List Value):(Code.builtin "type.__call__" ⟨.ref C::r,[]⟩).cUnits≤20:=by
 have:(Code.builtin "type.__call__" ⟨.ref C::r,[]⟩).cUnits=1:=by kernel_rfl
 lia
section
variable {prog:Program} {w:World} {F:Fn} {R:PH} {sig sig':List (Option AV)} {om om' om₁:Om} {tau:List (Value×AV)} {s:Shared} {K:Frag}
set_option tactic.hygienic true in
theorem Kk (ok:F.Ok) {B:PH->Prop} {C f p:Addr} {n:Nat} {d1 d2 d3:AV} {ds:List AV} (hk:Zo K F.G) (hc:Wm K C=true) (hr:readsIn K C (.type "type")=true) (hf:findCls K (.ref C) (.type "type") "__new__" = some (.get (.builtin "staticmethod.__get__") (.ref p) .none (.ref C)))
  (hp:recIn K p "staticmethod" = some [.ref f]) (hB:B F.G) (mono:∀ V V',V.le V'->B V->B V') (room:Room F.A (n+1)) (h:WJ prog w B n (.ref f) [.raw fun _ u=>u=.ref C,d1,d2,d3] (mat C ds)):OpC prog w F om (.ref C) [d1,d2,d3] (mat C ds):=fun R sig tau vs s Q E hv st hq=>by
 obtain ⟨v1,v2,v3,rfl⟩:=Mj hv
 obtain ⟨r,st'⟩:=st.zip hv
 obtain ⟨hp',g,dr,t,os⟩:=s
 refine wpAny_call (Qn (st.inK hk) hc hr hf hp ?_)
 have st1:=st'.tok (t+1)
 refine h (F.A.under _) (F.view R om hp') ⟨hp',g,dr,t+1,os⟩ _ _ _ (room.under (Sw _ _) (Qo _ _)) (mono _ _ (Fn.G_view st') hB) st'.viewIn (.cons (by exact fun _ _=>rfl) r) fun v h' tk k rv=>?_
 obtain ⟨a,d,ws,m,rfl,ho,rl⟩:=UX rv
 have ke:(ext (F.view R om hp') hp'.objs.size h').le (F.view R om h'):=fun b o e=>by
  unfold ext at e
  split at e
  ·exact F.view_grow k b o e
  ·rename_i hlt
   exact st'.new_view ok (Nat.not_lt.mp hlt) e
 have st2:Sta F R sig om ((.ref a,mat C ds)::tau) ⟨h',g,dr,tk,os⟩:=(st'.grow (tk:=tk) k).push (rv.mono ke)
 exact ⟨a,_,h',tk,rfl,rfl,k,st2.vget (ke _ _ ho),rfl,hq _ _ st2⟩
end
end
section
noncomputable def SeqAt (h:Heap) (t:Addr) (items:Array Value):Prop:=∃ o n,h.get? t=some o∧o.data=.seq items n
theorem SeqAt.keeps {h h':Heap} {t:Addr} {items:Array Value} (x:SeqAt h t items) (k:∀ o,h.get? t=some o->h'.get? t=some o):SeqAt h' t items:=let ⟨o,n,ho,r⟩:=x;⟨o,n,k o ho,r⟩
section
variable {prog:Program} {w:World} {A:Around} {E:Value->Shared->Prop} {s:Shared} {C:Addr}
theorem Kl {it t:Addr} {i:Nat} {items:Array Value} {x:Value} {Q:Option Value->Shared->Prop} (hit:s.heap.IsTupleIter it t i) (ht:SeqAt s.heap t items) (hx:items[i]?=some x)
  (hQ:∀ h',h'.IsTupleIter it t (i+1)->Heap.SameBut it s.heap h'->Q (some x) { s with heap:=h' }):wpAny (model prog w) A (pyNext (.ref it)) Q E s:=by
 obtain ⟨o,ho,hc,hd⟩:=id hit
 obtain ⟨ol,nl,hol,hdl⟩:=ht
 unfold pyNext
 refine wpAny_bind (wpAny_attempt (wpAny_callSpecial?_slot (name:=Str.ofString "__next__") hit.typeIs F.slot_tuple_iterator_next
  (wpAny_call_entry F.slot_tuple_iterator_next hit.typeIs F.entry_tuple_iterator_next ?_ (F.args_tuple_iterator_next_1 _))))
 show wpAny _ _ (field (.ref it) 0 >>= _) _ _ s
 refine wpAny_bind (wpAny_field ho hd (x:=.ref t) rfl ?_)
 show wpAny _ _ (if (Value.ref t==Value.none)=true then _ else _) _ _ s
 rw[if_neg (show ¬ ((Value.ref t==Value.none)=true) from Bool.false_ne_true)]
 show wpAny _ _ (field (.ref it) 1 >>= _) _ _ s
 refine wpAny_bind (wpAny_field ho hd (x:=.int i 0) rfl ?_)
 show wpAny _ _ (seqItems? (.ref t) >>= _) _ _ s
 refine wpAny_bind (wpAny_seqItems hol hdl ?_)
 dsimp only
 rw[toNat_natCast,hx]
 refine wpAny_bind (wpAny_setField ho hd (by simp) (wpAny_pure ⟨x,rfl,wpAny_pure (hQ _ ?_ (Heap.SameBut.update ..))⟩))
 exact ⟨_,Heap.get?_update_self _ ho (Obj.isFreed_of_fields (Obj.data_mapFields hd _)),(Obj.cls_mapFields ..).trans hc,by
  rw[Obj.data_mapFields hd];simp[rawInt]⟩
theorem Hw {it t:Addr} {i:Nat} {items:Array Value} {Q:Option Value->Shared->Prop} (hh:A.handled=none) (hit:s.heap.IsTupleIter it t i) (ht:SeqAt s.heap t items) (hx:items[i]?=none)
  (hQ:∀ h',Heap.ExtBut it s.heap h'->Q none { s with heap:=h' }):wpAny (model prog w) A (pyNext (.ref it)) Q E s:=by
 obtain ⟨o,ho,hc,hd⟩:=id hit
 obtain ⟨ol,nl,hol,hdl⟩:=ht
 unfold pyNext
 refine wpAny_bind (wpAny_attempt (wpAny_callSpecial?_slot (name:=Str.ofString "__next__") hit.typeIs F.slot_tuple_iterator_next
  (wpAny_call_entry F.slot_tuple_iterator_next hit.typeIs F.entry_tuple_iterator_next ?_ (F.args_tuple_iterator_next_1 _))))
 show wpAny _ _ (field (.ref it) 0 >>= _) _ _ s
 refine wpAny_bind (wpAny_field ho hd (x:=.ref t) rfl ?_)
 show wpAny _ _ (if (Value.ref t==Value.none)=true then _ else _) _ _ s
 rw[if_neg (show ¬ ((Value.ref t==Value.none)=true) from Bool.false_ne_true)]
 show wpAny _ _ (field (.ref it) 1 >>= _) _ _ s
 refine wpAny_bind (wpAny_field ho hd (x:=.int i 0) rfl ?_)
 show wpAny _ _ (seqItems? (.ref t) >>= _) _ _ s
 refine wpAny_bind (wpAny_seqItems hol hdl ?_)
 dsimp only
 rw[toNat_natCast,hx]
 refine wpAny_bind (wpAny_rule (wpAny_bind (wpAny_setField ho hd (by simp) ?_)))
 show wpAny _ _ (newExc (.type "StopIteration") [] >>= _) _ _ _
 refine wpAny_bind ?_
 unfold newExc newTuple
 refine wpAny_bind (wpAny_newObj_type ?_ (by size_fits))
 refine wpAny_bind (m:=firstArgMember _ _) (wpAny_of_eq (a:=Value.none) (by first | rfl | (simp only[firstArgMember];rfl)) ?_)
 refine wpAny_newObj_type ?_ (by size_fits)
 unfold raiseNew
 refine wpAny_bind (wpAny_handled ?_)
 first | rw[show A.in1.handled=none from hh] | rw[hh]
 refine wpAny_bind (wpAny_pure (wpAny_throw ?_))
 refine wpAny_bind (wpAny_isInstance (T := "StopIteration") (b:=true) ⟨_,Heap.get?_push_size _ rfl,rfl⟩ isSubtype_stop ?_)
 exact wpAny_pure (hQ _ (((Heap.SameBut.update ..).extBut.push _).push _))
theorem Qp {it t:Addr} {items:Array Value} (hne:t≠it):∀ (n i:Nat) (s:Shared) (Q:List Value->Shared->Prop),s.heap.IsTupleIter it t i->SeqAt s.heap t items->i+n≤items.size ->
  (∀ h',h'.IsTupleIter it t (i+n)->Heap.SameBut it s.heap h'->Q ((items.toList.drop i).take n) { s with heap:=h' })->wpAny (model prog w) A (draw (.ref it) n) Q E s
 | 0,i,s,Q,hit,_,_,hQ=>by
  show wpAny _ _ (pure []) Q E s
  exact wpAny_pure (by simpa using hQ s.heap hit (Heap.SameBut.refl ..))
 | n+1,i,s,Q,hit,ht,hle,hQ=>by
  have hlt:i<items.size:=lt_of_lt_of_le (lt_add_of_pos_right (succ_pos n)) hle
  have e1:i+(n+1)=i+1+n:=add_right_comm i n 1
  show wpAny _ _ (pyNext (.ref it) >>= _) Q E s
  refine wpAny_bind (Kl hit ht (x:=items[i]) (by simp[hlt]) fun h₁ hit₁ hs₁=>?_)
  refine wpAny_bind (wpAny_holding (Qp hne n (i+1) _ _ hit₁ (ht.keeps fun o e=>hs₁.extBut _ o hne e) (e1▸hle) fun h₂ hit₂ hs₂=>wpAny_pure ?_))
  have hd:items.toList.drop i=items[i]::items.toList.drop (i+1):=by simp[List.drop_eq_getElem_cons,hlt]
  have:=hQ h₂ (e1▸hit₂) (hs₁.trans hs₂)
  rw[hd,List.take_succ_cons] at this
  exact this
end
end
section
section
variable {prog:Program} {w:World} {A:Around} {E:Value->Shared->Prop} {s:Shared} {C:Addr}
theorem Hx:builtinKind "tuple.__iter__" = some .slot:=by decide +kernel
theorem Km:splitId "tuple.__iter__" = some ("tuple", "__iter__"):=by decide +kernel
set_option maxRecDepth 100000 in
theorem Kn {t:Addr} {o:Obj} {Q:Value->Shared->Prop} (Y:TupCls (model prog w) s.heap C) (hi:Looks (model prog w) s.heap (typeLookup (.ref C) "__iter__") (some (.builtin "tuple.__iter__"))) (ho:s.heap.get? t=some o) (hc:o.cls=.ref C)
  (hQ:Q (.ref s.heap.objs.size) { s with heap:=s.heap.push { cls:=.type "tuple_iterator",data:=.fields #[.ref t,.int 0 0] } }):wpAny (model prog w) A (pyIter (.ref t)) Q E s:=by
 have t1:Looks (model prog w) s.heap (typeOf (.ref t)) (.ref C):=hc▸(Looks.ld ho).andThen .now
 have sp:Looks (model prog w) s.heap (specialOf (.ref t) "__iter__") (some (.builtin "tuple.__iter__")):=t1.andThen hi
 have sub:Looks (model prog w) s.heap (isInstance (.ref t) (.type "tuple")) true:=t1.andThen Y.tup
 have cl:∀ {Q:Value->Shared->Prop},Q (.ref s.heap.objs.size) { s with heap:=s.heap.push { cls:=.type "tuple_iterator",data:=.fields #[.ref t,.int 0 0] } }->wpAny (model prog w) A (call (.builtin "tuple.__iter__") [.ref t]) Q E s:=fun {Q} h=>by
  refine wpAny_call (codeAny_call_builtin F.slot_tuple_iter.plain F.entry_tuple_iter (@check_slot (model prog w) _ _ s "tuple.__iter__" "tuple" "__iter__" (.ref t) [] [] _ Hx Km sub (F.args_tuple_iter_1 _) ?_))
  show wpAny _ _ (do ret (<-newFields "tuple_iterator" [.ref t,rawInt 0])) _ _ s
  exact wpAny_bind (wpAny_newObj_type (wpAny_pure h))
 unfold pyIter
 refine wpAny_bind (sp.here ?_)
 show wpAny _ _ (callSpecialIfBoundUnlessNone? (.ref t) "__iter__" _ >>= _) Q E s
 refine wpAny_bind ?_
 unfold callSpecialIfBoundUnlessNone? bindSpecialIfBound?
 refine wpAny_holding (wpAny_bind (wpAny_bind (sp.here ?_)))
 dsimp only
 rw[F.slot_tuple_iter.bind]
 refine wpAny_bind (wpAny_askSetting (wpAny_ite ?_))
 have fin:∀ {Q':Option Value->Shared->Prop} {refuse:Sem Value},Q' (some (.ref s.heap.objs.size)) { s with heap:=s.heap.push { cls:=.type "tuple_iterator",data:=.fields #[.ref t,.int 0 0] } }->wpAny (model prog w) A (if (Value.builtin "tuple.__iter__" == Value.none)=true then (refuse >>= fun v=>pure (some v)) else (call (.builtin "tuple.__iter__") [.ref t] >>= fun v=>pure (some v))) Q' E s:=fun h=>by
  rw[if_neg (by rw[builtin_beq_none];exact Bool.false_ne_true)]
  exact wpAny_bind (cl (wpAny_pure h))
 have nx:wpAny (model prog w) A (specialOf (.ref s.heap.objs.size) "__next__") (fun r s'=>r=some (.builtin "tuple_iterator.__next__")∧s'={ s with heap:=s.heap.push { cls:=.type "tuple_iterator",data:=.fields #[.ref t,.int 0 0] } }) E { s with heap:=s.heap.push { cls:=.type "tuple_iterator",data:=.fields #[.ref t,.int 0 0] } } :=
  wpAny_specialOf (T := "tuple_iterator") ⟨_,Heap.get?_push_size _ rfl,rfl⟩ F.slot_tuple_iterator_next.lookup ⟨rfl,rfl⟩
 refine iteInduction (motive:=fun x=>x) (fun _=>?_) (fun _=>?_)
 ·refine wpAny_bind (wpAny_pure (wpAny_pure (fin ?_)))
  exact wpAny_bind (wpAny_mono nx (fun r s' ⟨e1,e2⟩=>by subst e1 e2;exact wpAny_pure hQ) fun _ _ z=>z)
 ·refine wpAny_tryCatch (wpAny_bind (wpAny_pure (wpAny_pure (fin ?_))))
  exact wpAny_bind (wpAny_mono nx (fun r s' ⟨e1,e2⟩=>by subst e1 e2;exact wpAny_pure hQ) fun _ _ z=>z)
end
end
section
section
variable {prog:Program} {w:World} {A:Around} {E:Value->Shared->Prop} {s:Shared} {C:Addr}
theorem Pz {t:Addr} {o:Obj} {items:Array Value} {n:Nat} {Q:List Value->Shared->Prop} (Y:TupCls (model prog w) s.heap C) (hi:Looks (model prog w) s.heap (typeLookup (.ref C) "__iter__") (some (.builtin "tuple.__iter__"))) (hh:A.handled=none) (ho:s.heap.get? t=some o) (hc:o.cls=.ref C) (hd:o.data=.seq items n)
  (hQ:∀ h',Heap.ExtBut s.heap.objs.size s.heap h'->Q items.toList { s with heap:=h' }):wpAny (model prog w) A (unpackItems (.ref t) items.size none) Q E s:=by
 have t1:Looks (model prog w) s.heap (typeOf (.ref t)) (.ref C):=hc▸(Looks.ld ho).andThen .now
 have sp:Looks (model prog w) s.heap (specialOf (.ref t) "__iter__") (some (.builtin "tuple.__iter__")):=t1.andThen hi
 have hlt:t≠s.heap.objs.size:=ne_of_lt (Heap.lt_size ho)
 have ht:SeqAt s.heap t items:=⟨o,n,ho,hd⟩
 unfold unpackItems
 refine wpAny_bind ?_
 unfold notIterableAtAll
 refine wpAny_bind (sp.here ?_)
 refine wpAny_pure ?_
 simp only[Bool.false_eq_true,if_false]
 refine wpAny_bind (wpAny_holding (Kn Y hi ho hc ?_))
 have ht0:SeqAt (s.heap.push { cls:=.type "tuple_iterator",data:=.fields #[.ref t,.int 0 0] }) t items:=ht.keeps fun o e=>Heap.get?_push_of_some _ e
 refine wpAny_bind (wpAny_holding (Qp hlt items.size 0 _ _ ⟨_,Heap.get?_push_size _ rfl,rfl,rfl⟩ ht0 (by lia) fun h₁ hit₁ hs₁=>?_))
 have hall:List.take items.size (List.drop 0 items.toList)=items.toList:=by
  rw[List.drop_zero];exact List.take_of_length_le (by simp)
 rw[hall]
 rw[if_neg (by simp)]
 have ht₁:SeqAt h₁ t items:=ht0.keeps fun o e=>hs₁.extBut _ o hlt e
 refine wpAny_bind (wpAny_holding (Hw hh hit₁ ht₁ (by simp) fun h₂ he₂=>?_))
 simp only[Option.isSome_none,Bool.false_eq_true,if_false]
 refine wpAny_pure (hQ h₂ fun b o hb e=>he₂ b o hb (hs₁.extBut b o hb (Heap.get?_push_of_some _ e)))
end
section
variable {prog:Program} {w:World} {F:Fn} {R:PH} {sig sig':List (Option AV)} {om om' om₁:Om} {tau:List (Value×AV)} {s:Shared} {K:Frag}
theorem P0 (ok:F.Ok) {C:Addr} (hk:Zo K F.G) (hc:Wm K C=true) (hi:findIn K (.ref C) "__iter__" = some (some (.builtin "tuple.__iter__"))) {v:Value} {ds:List AV} {n:Nat} (hn:n=ds.length) (st:Sta F R sig om ((v,mat C ds)::tau) s) {Q:List Value->Shared->Prop} {E:Value->Shared->Prop}
  (h:∀ vs s',vs.length=ds.length->Sta F R sig om ((vs.zip ds)++(v,mat C ds)::tau) s'->Q vs s'):wpAny (model prog w) F.A (unpackItems v n none) Q E s:=by
 obtain ⟨a,d,vs,k,rfl,ho,r⟩:=UX st.top
 have e:=r.length
 simp only[length_toList] at e
 rw[hn,<-e]
 refine Pz (XN (st.inK hk) hc) (looks_findIn (st.inK hk) hi) ok.handled (st.vget ho) rfl rfl fun h' he=>?_
 have st':=st.ext (tk:=s.toks) he
 refine h _ _ (by simpa using e) (st'.temp fun p hp=>?_)
 rcases List.mem_append.mp hp with hp | hp
 ·have r':=r.mono (F.view_grow (R:=R) (om:=om) fun b o e=>he b o (fun q=>lt_irrefl _ (q▸Heap.lt_size e)) e)
  obtain ⟨i,hi,e'⟩:=getElem_of_mem hp
  rw[getElem_zip] at e'
  subst e'
  obtain ⟨u,hu,ru⟩:=r'.get (i:=i) (d:=ds[i]'(by simp at hi;lia)) (by simp)
  have:u=vs.toList[i]'(by simp at hi ⊢;lia):=by
   rw[getElem?_eq_getElem (by simp at hi ⊢;lia)] at hu;exact (Option.some.inj hu).symm
  subst this
  exact ru
 ·exact st'.temps p hp
theorem P1 (ok:F.Ok) {C:Addr} (hk:Zo K F.G) (hc:Wm K C=true) (hi:findIn K (.ref C) "__iter__" = some (some (.builtin "tuple.__iter__"))) {ts:List Expr} {k:Nat} {pos:Pos} {ds:List AV} (h:AsL prog w F om ts ds sig sig') (hl:ts.length=ds.length)
  (hf:(assignEach ts F.env).findIdx? (·.1)=none:=by rfl) (hle:(assignEach ts F.env).length=ts.length:=by rfl):As prog w F om (.Tuple ts k pos) (mat C ds) sig sig':=fun R tau v s Q E st hq=>by
 show wpAny _ _ (do standAt pos;unpack v (assignEach ts F.env)) Q E s
 refine wpAny_bind (wpAny_standAt ?_)
 unfold unpack
 rw[hf,hle]
 refine wpAny_bind (wpAny_holding (P0 ok hk hc hi hl st fun vs s' hv st'=>?_))
 exact h R _ vs s' _ _ hv st' hq
end
end
section
noncomputable def VH (prog:Program) (w:World) (B:PH->Prop) (n:Nat) (f:Value) (ds:List AV) (om₁:Om) (P:AV->Om->Prop):Prop :=
 ∀ (A:Around) (G:PH) (s:Shared) (vs:List Value) (Q:Value->Shared->Prop) (E:Value->Shared->Prop),Room A n->B G->W2 G s.heap->Zn G ds vs ->
  (om₁.map (·.1)).Nodup->(∀ b∈om₁.map (·.1),G b=none)->(∀ p∈om₁,∃ o,s.heap.get? p.1=some o∧∀ V',G.le V'->p.2 V' o) ->
  (∀ v d om₂ h' tk,P d om₂->(om₂.map (·.1)).Nodup->(∀ b∈om₂.map (·.1),b∈om₁.map (·.1)∨s.heap.objs.size≤b)->(∀ b o,b∉om₁.map (·.1)->s.heap.get? b=some o->h'.get? b=some o) ->
   (∀ p∈om₂,∃ o,h'.get? p.1=some o∧∀ V',(UK G s.heap.objs.size om₂ h').le V'->p.2 V' o)->Rep (UK G s.heap.objs.size om₂ h') d v->Q v { s with heap:=h',toks:=tk }) ->
  codeAny (model prog w) A (.call f ⟨vs,[]⟩) (fun r s'=>match r with | .ok (.ret v)=>Q v s' | .ok _=>False | .error e=>E e s') s
theorem VH.fn {prog:Program} {w:World} {B:PH->Prop} {n:Nat} {f:Value} {ds:List AV} {om₁:Om} {P:AV->Om->Prop} (h:VH prog w B n f ds om₁ P):GI prog w B n f ds om₁ P:=fun A G s vs Q E hr hB hG r nd hO op hq=>wpAny_call (h A G s vs Q E hr hB hG r nd hO op hq)
section
variable {prog:Program} {w:World} {F:Fn} {R:PH} {sig sig':List (Option AV)} {om om':Om} {tau:List (Value×AV)} {s:Shared}
set_option tactic.hygienic true in
theorem Wt {fd:FuncData} {body:List Stmt} {f:Addr} {ps:List Str} {ds dd:List AV} {dv:List Value} {om₁:Om} {P:AV->Om->Prop} {n:Nat} {B:PH->Prop} (ok:DefOk fd ps) (hat:∀ V,B V->DefAt fd body f V) (hlen:ps.length=(ds++dd).length) (hdv:∀ V,Zn V dd dv)
  (hbind:∀ vs:List Value,vs.length=ds.length->bindArgs fd ⟨vs,[]⟩=pure (ps.zip (vs++dv)))
  (h:∀ (A:Around) (G:PH) (s:Shared),B G->Room (A.deeper (callEnvC fd s.heap.objs.size f)) n->(Zd fd f A G s).Ok->Ex prog w (Zd fd f A G s) (YO fd.scope.names ps (ds++dd)) om₁ body fun o=>match o with | .ret d' _ om'=>P d' om'∧(∀ b∈om'.map (·.1),b∈om₁.map (·.1)∨s.heap.objs.size≤b) | .nxt _ om'=>P .none om'∧(∀ b∈om'.map (·.1),b∈om₁.map (·.1)∨s.heap.objs.size≤b) | _=>False)
  (hco:fd.scope.isCoroutine=false:=by rfl) (hgen:fd.scope.isGenerator=false:=by rfl):VH prog w B (n+1) (.ref f) ds om₁ P:=fun A G s vs Q E hr hB hG r nd hO op hq=>by
 obtain ⟨⟨o,ho,hd⟩,⟨c,oc,cvs,t,hc1,hc2,hc3,hc4⟩,⟨ol,es,ep,hl1,hl2,hl3,hl4⟩,hbody,hclo⟩:=hat G hB
 have hvl:=r.length
 refine (codeAny_call_cells (fd:=fd) hr.lim (hG _ _ ho) hd ⟨_,⟨ol,es,ep,hG _ _ hl1,hl2,hl3,fun _=>rfl⟩,hl4⟩ ⟨c,oc,cvs,t,hc1,hG _ _ hc2,hc3,hc4⟩ hbody (hbind vs hvl) hclo (fun x hx=>?_) (fun s₁ x=>?_) hco hgen ok.kind)
 ·have hx':x.1∈ps:=by
   obtain ⟨i,hi,e⟩:=getElem_of_mem hx
   rw[getElem_zip] at e
   rw[<-e]
   exact getElem_mem _
  rcases ok.pk x.1 hx' with q | q
  ·exact .inl q
  ·exact .inr ⟨q,cellsFrom_some fd.scope.names _ [] (.inl q)⟩
 ·have fok:=LU ok hr x.apart x.above (G:=G)
  have st:=Tw (A:=A) ok hG (r.append (hdv G)) nd hO op hlen x
  have fin:∀ (v:Value) (d:AV) (sig':List (Option AV)) (om':Om) (s':Shared),P d om'->(∀ b∈om'.map (·.1),b∈om₁.map (·.1)∨s.heap.objs.size≤b)->Sta (Zd fd f A G s) (VB G om₁ s.heap) sig' om' [(v,d)] s'->Q v s':=fun v d sig' om' s' hPd hnew st'=>by
   have hsame:=st'.same
   obtain ⟨h',tk,rfl⟩:=hsame
   have kv:((Zd fd f A G s).view (VB G om₁ s.heap) om' h').le (UK G s.heap.objs.size om' h'):=fun b ob e=>by
    have hv:=st'.vget e
    obtain ⟨c1,c2,c3⟩:=ZN e
    unfold UK
    rw[if_neg (fun q=>c1 (by unfold Fn.D;rw[mem_cons,mem_append];exact .inr (.inr q)))]
    rcases c3 with ⟨q,z⟩ | ⟨q,z⟩
    ·rw[if_pos (show b<s.heap.objs.size from q)];exact z
    ·rw[if_neg (show ¬ b<s.heap.objs.size from q)];exact z
   have ndo:=st'.nodup
   unfold Fn.D at ndo
   rw[nodup_cons,nodup_append] at ndo
   refine hq v d om' h' tk hPd ndo.2.2.1 hnew (fun b ob hb e=>?_) (fun p hp=>?_) (st'.top.mono kv)
   ·cases q:G b with
    | some og =>
     have:=hG _ _ q
     rw[e] at this;cases this
     exact (st'.g b _ q).2.2.1
    | none=>exact (st'.rf b ob (NC q hb e)).2
   ·obtain ⟨o,ho,hP⟩:=st'.opens p hp
    exact ⟨o,ho,fun V' hV=>hP V' (kv.trans hV)⟩
  refine h A G s hB (hr.deeper _) fok (VB G om₁ s.heap) [] s₁ _ _ st fun out fl s' ho hl=>?_
  cases out<;>cases fl<;>first | exact False.elim hl | change Sta _ _ _ _ _ _ at hl
  ·rename_i sig' om'
   exact fin _ _ sig' om' s' ho.1 ho.2 (hl.push Xj)
  ·exact ho.elim
  ·exact ho.elim
  ·rename_i d' sig' om' v
   exact fin v d' sig' om' s' ho.1 ho.2 hl
end
end
section
theorem NI:mroOf (.type "map")=pure [.type "map",.type "object"]:=by rw[mroOf_type];kernel_rfl
theorem T0:typeLookup (.type "map") "__new__" = pure (some (.builtin "map.__new__")):=by rw[typeLookup_type,builtinLookup_eq_fast];kernel_rfl
theorem Sd:Slot "map" "__init__" "object.__init__" :=
 .of (owner := "object") (n := "__init__") (by rw[typeLookup_type,builtinLookup_eq_fast];kernel_rfl) (by decide +kernel) (by decide +kernel) (by decide +kernel)
  (by first | exact .inl (by decide +kernel) | exact .inr (by decide +kernel)) (by rw[isSubtype_type];kernel_rfl)
theorem P2:TypeCalled "map" "map.__new__" "object.__init__" :=
 ⟨by decide +kernel,by decide +kernel,⟨_,_,NI⟩,madeBy_type NI T0 (by decide +kernel),by decide +kernel,by rw[isSubtype_type];kernel_rfl,Sd⟩
theorem T1 (a b:Value):checkTypeCall "map" ⟨[a,b],[]⟩=pure ():=by kernel_rfl
theorem Se (a b:Value):checkBuiltinCall "map.__new__" ⟨[.type "map",a,b],[]⟩=pure ():=by kernel_rfl
theorem Sf:entryFor table "map.__new__" = some Builtin.«map.__new__»:=entryFor_of_tree (by kernel_rfl)
theorem YQ:Slot "map" "__next__" "map.__next__" :=
 .of (owner := "map") (n := "__next__") (by rw[typeLookup_type,builtinLookup_eq_fast];kernel_rfl) (by decide +kernel) (by decide +kernel) (by decide +kernel)
  (by first | exact .inl (by decide +kernel) | exact .inr (by decide +kernel)) (by rw[isSubtype_type];kernel_rfl)
theorem WO:entryFor table "map.__next__" = some Builtin.«map.__next__»:=entryFor_of_tree (by kernel_rfl)
theorem Vo:Slot "map" "__iter__" "map.__iter__" :=
 .of (owner := "map") (n := "__iter__") (by rw[typeLookup_type,builtinLookup_eq_fast];kernel_rfl) (by decide +kernel) (by decide +kernel) (by decide +kernel)
  (by first | exact .inl (by decide +kernel) | exact .inr (by decide +kernel)) (by rw[isSubtype_type];kernel_rfl)
end
section
section
variable {prog:Program} {w:World} {A:Around} {E:Value->Shared->Prop} {s:Shared}
theorem Sg (f:Value) (l:Addr) (items:Array Value) (n:Nat) :
  Meets (Builtin.«map.__new__» ⟨[.type "map",f,.ref l],[]⟩) (fun _ R s=>s.heap.get? l=some { cls:=.type "list",dict:=none,data:=.seq items n,slots:=#[] } ∧
   ∀ h',(∀ b o,s.heap.get? b=some o->h'.get? b=some o)->h'.IsListIter s.heap.objs.size l 0->h'.IsTuple (s.heap.objs.size+1) #[.ref s.heap.objs.size]->h'.get? (s.heap.objs.size+2)=some { cls:=.type "map",data:=.fields #[.ref (s.heap.objs.size+1),f] } ->
    R (.ok (.ret (.ref (s.heap.objs.size+2)))) { s with heap:=h' }) :=
 .of_wp fun prog w A R s h=>by
  obtain ⟨hp,g,d,tk,os⟩:=s;obtain ⟨hl,h⟩:=h
  have hL:Heap.IsList (Shared.heap ⟨hp,g,d,tk,os⟩) l items:=⟨_,hl,rfl,n,rfl⟩
  have hsub:isSubtype (.type "map") (.type "map")=pure true:=by rw[isSubtype_type];kernel_rfl
  unfold Builtin.«map.__new__»
  wp_walk using wpAny_loadPart' hl,wpAny_pyIter_list hL
  refine ⟨_,rfl,?_⟩
  have z1:((hp.push { cls:=Value.type "list_iterator",data:=Data.fields #[Value.ref l,Value.int 0 0] }).push { cls:=Value.type "tuple",data:=Data.seq (#[].push (Value.ref hp.objs.size)).toList.toArray }).objs.size=hp.objs.size+2:=by rw[Heap.size_push,Heap.size_push]
  have z0:(hp.push { cls:=Value.type "list_iterator",data:=Data.fields #[Value.ref l,Value.int 0 0] }).objs.size=hp.objs.size+1:=Heap.size_push ..
  have r:=h (((hp.push { cls:=Value.type "list_iterator",data:=Data.fields #[Value.ref l,Value.int 0 0] }).push { cls:=Value.type "tuple",data:=Data.seq (#[].push (Value.ref hp.objs.size)).toList.toArray }).push { cls:=Value.type "map",data:=Data.fields #[.ref (hp.objs.size+1),f] })
   (fun b o e=>Heap.get?_push_of_some _ (Heap.get?_push_of_some _ (Heap.get?_push_of_some _ e))) ⟨_,Heap.get?_push_of_some _ (Heap.get?_push_of_some _ (Heap.get?_push_size _ rfl)),rfl,rfl⟩
   ⟨_,Heap.get?_push_of_some _ (z0▸Heap.get?_push_size _ rfl),rfl,_,rfl⟩ (z1▸Heap.get?_push_size _ rfl)
  dsimp only at r ⊢
  rw[z1]
  rw[z0]
  exact r
end
end
section
section
variable {prog:Program} {w:World} {A:Around} {E:Value->Shared->Prop} {s:Shared}
theorem Ko (a b c:Value):argsOk "object.__init__" ⟨[a,b,c],[]⟩:=by unfold argsOk;kernel_rfl
theorem Kp {f:Value} {l:Addr} {items:Array Value} {n:Nat} {Q:Value->Shared->Prop} (hl:s.heap.get? l=some { cls:=.type "list",data:=.seq items n })
  (h:∀ h',(∀ b o,s.heap.get? b=some o->h'.get? b=some o)->h'.IsListIter s.heap.objs.size l 0->h'.IsTuple (s.heap.objs.size+1) #[.ref s.heap.objs.size]->h'.get? (s.heap.objs.size+2)=some { cls:=.type "map",data:=.fields #[.ref (s.heap.objs.size+1),f] } ->
   Q (.ref (s.heap.objs.size+2)) { s with heap:=h' }):wpAny (model prog w) A (call (.type "map") [f,.ref l]) Q E s :=
 callType_new P2 (by decide) (T1 _ _) (Se _ _) (fun obj=>Ko obj _ _) Sf (Sg f l items n)
  ⟨hl,fun h' k hi ht hm=>⟨⟨_,hm,rfl⟩,h h' k hi ht hm⟩⟩
end
end
section
section
variable {prog:Program} {w:World} {A:Around} {E:Value->Shared->Prop} {s:Shared}
theorem Qq (a:Value):argsOk "map.__next__" ⟨[a],[]⟩:=by unfold argsOk;kernel_rfl
theorem Kq {m T it l:Addr} {f x:Value} {items:Array Value} {i:Nat} {Q:Option Value->Shared->Prop} (hm:s.heap.get? m=some { cls:=.type "map",data:=.fields #[.ref T,f] }) (hT:s.heap.IsTuple T #[.ref it]) (hit:s.heap.IsListIter it l i) (hl:s.heap.IsList l items) (hx:items[i]?=some x) (hmi:m≠it)
  (h:∀ h' E',h'.IsListIter it l (i+1)->Heap.SameBut it s.heap h'->wpAny (model prog w) A.in1 (call f [x]) (fun v s'=>Q (some v) s') E' { s with heap:=h' }):wpAny (model prog w) A (pyNext (.ref m)) Q E s:=by
 have hTy:s.TypeIs (.ref m) "map" := ⟨_,hm,rfl⟩
 unfold pyNext
 refine wpAny_bind (wpAny_attempt (wpAny_callSpecial?_slot (name:=Str.ofString "__next__") hTy YQ (wpAny_call_entry YQ hTy WO ?_ (Qq _))))
 unfold Builtin.«map.__next__»
 refine wpAny_bind (wpAny_of_eq (a:=(.ref m,[])) (by first | rfl | kernel_rfl) ?_)
 dsimp only
 refine wpAny_bind (wpAny_field hm rfl (x:=.ref T) rfl ?_)
 obtain ⟨oT,hoT,_,nT,hdT⟩:=hT
 refine wpAny_bind (wpAny_seqItems hoT hdT ?_)
 dsimp only
 rw[<-Array.forIn_toList]
 simp only[forIn_cons,List.forIn_nil]
 refine wpAny_bind (wpAny_bind (wpAny_bind (wpAny_holding (wpAny_nextOf_list_item hit hl hx fun h' hit' hs'=>wpAny_pure (wpAny_pure ?_)))))
 have hm':h'.get? m=some { cls:=.type "map",data:=.fields #[.ref T,f] }:=(hs'.2 m hmi).trans hm
 refine wpAny_bind (wpAny_field hm' rfl (x:=f) rfl ?_)
 refine wpAny_bind (wpAny_holding (wpAny_mono (h h' _ hit' hs') (fun v s' z=>wpAny_bind (wpAny_letGo (wpAny_pure ⟨v,rfl,wpAny_pure z⟩))) fun _ _ z=>z))
end
end
section
section
variable {prog:Program} {w:World} {A:Around} {E:Value->Shared->Prop} {s:Shared}
theorem Kr {m T it l:Addr} {f:Value} {items:Array Value} {i:Nat} {Q:Option Value->Shared->Prop} (hh:A.handled=none) (hm:s.heap.get? m=some { cls:=.type "map",data:=.fields #[.ref T,f] }) (hT:s.heap.IsTuple T #[.ref it]) (hit:s.heap.IsListIter it l i) (hl:s.heap.IsList l items) (hx:items[i]?=none)
  (h:∀ h',Heap.ExtBut it s.heap h'->Q none { s with heap:=h' }):wpAny (model prog w) A (pyNext (.ref m)) Q E s:=by
 have hTy:s.TypeIs (.ref m) "map" := ⟨_,hm,rfl⟩
 unfold pyNext
 refine wpAny_bind (wpAny_attempt (wpAny_callSpecial?_slot (name:=Str.ofString "__next__") hTy YQ (wpAny_call_entry YQ hTy WO ?_ (Qq _))))
 unfold Builtin.«map.__next__»
 refine wpAny_bind (wpAny_of_eq (a:=(.ref m,[])) (by first | rfl | kernel_rfl) ?_)
 dsimp only
 refine wpAny_bind (wpAny_field hm rfl (x:=.ref T) rfl ?_)
 obtain ⟨oT,hoT,_,nT,hdT⟩:=hT
 refine wpAny_bind (wpAny_seqItems hoT hdT ?_)
 dsimp only
 rw[<-Array.forIn_toList]
 simp only[forIn_cons,List.forIn_nil]
 refine wpAny_bind (wpAny_bind (wpAny_bind (wpAny_holding (wpAny_nextOf_list_end hh hit hl hx fun h' e he ⟨o,ho,hc⟩=>?_))))
 exact wpAny_bind (wpAny_isInstance (T := "StopIteration") (b:=true) ⟨o,ho,hc⟩ isSubtype_stop (wpAny_pure (h _ he)))
end
end
section
section
variable {prog:Program} {w:World} {F:Fn} {R:PH} {sig sig':List (Option AV)} {om om' om₁:Om} {tau:List (Value×AV)} {s:Shared}
theorem Sta.castTemp (ok:F.Ok) {a:Addr} {P:PH->Obj->Prop} (x:Sta F R sig om tau s) {d:AV} (hd:OmDel om a P om₁) (ha:F.n₀≤a) (key:∀ V o,V a=some o->P V o->Rep V d (.ref a)):Sta F R sig om₁ ((.ref a,d)::tau) s:=by
 obtain ⟨o,hao,hP⟩:=x.opens _ (hd.perm.mem_iff.mpr mem_cons_self)
 have nd:=(x.perm hd.perm).nodup
 have haD:a∈F.D ((a,P)::om₁):=by unfold Fn.D;simp
 have hRa:R a=none:=by
  cases e:R a with
  | none=>rfl
  | some o=>exact absurd haD ((x.perm hd.perm).rf a o e).1
 have y:=x.drop ok hd
 have hv:F.view R om₁ s.heap a=some o:=by
  unfold Fn.view
  rw[if_neg,if_neg (Nat.not_lt.mpr ha)]
  ·exact hao
  ·rw[hRa]
   simp only[Option.isSome_none,Bool.false_eq_true,or_false]
   intro q
   unfold Fn.D at nd q
   rw[nodup_cons,nodup_append] at nd
   rcases List.mem_cons.mp q with q | q
   ·exact nd.1 (List.mem_append.mpr (.inr (by rw[<-q];simp)))
   ·rcases List.mem_append.mp q with q | q
    ·exact nd.2.2.2 a q a (by simp) rfl
    ·have:=nd.2.2.1
     simp only[map_cons,nodup_cons] at this
     exact this.1 q
 have kv:(F.view R om s.heap).le (F.view R om₁ s.heap):=by
  rw[Ws hd.perm.symm]
  intro b ob e
  obtain ⟨c1,c2,c3⟩:=ZN e
  unfold Fn.view
  rw[if_neg]
  ·rcases c3 with ⟨q,z⟩ | ⟨q,z⟩
   ·rw[if_pos q];exact z
   ·rw[if_neg q];exact z
  ·rw[c2]
   simp only[Option.isSome_none,Bool.false_eq_true,or_false]
   intro q
   apply c1
   unfold Fn.D at q ⊢
   simp only[mem_cons,mem_append,map_cons] at q ⊢
   rcases q with q | q | q
   ·exact .inl q
   ·exact .inr (.inl q)
   ·exact .inr (.inr (.inr q))
 have kd:Rep (F.view R om₁ s.heap) d (.ref a):=key _ o hv (hP _ kv)
 exact y.push kd
end
end
section
theorem P3:typeLookup (.type "map") "__len__" = pure none:=by rw[typeLookup_type,builtinLookup_eq_fast];kernel_rfl
theorem Qr:typeLookup (.type "map") "__length_hint__" = pure none:=by rw[typeLookup_type,builtinLookup_eq_fast];kernel_rfl
theorem T2:entryFor table "map.__iter__" = some Builtin.«dict_keyiterator.__iter__» :=
 entryFor_alias (id' := "dict_keyiterator.__iter__") (by kernel_rfl) (by decide +kernel) (by decide +kernel) (by kernel_rfl)
theorem Sh (a:Value):argsOk "map.__iter__" ⟨[a],[]⟩:=by unfold argsOk;kernel_rfl
section
variable {prog:Program} {w:World} {A:Around} {E:Value->Shared->Prop} {s:Shared} {R:Result->Shared->Prop}
theorem Ks {m:Addr} {o:Obj} {Q:Value->Shared->Prop} (hm:s.heap.get? m=some o) (hc:o.cls=.type "map") (h:Q (.ref m) s):wpAny (model prog w) A (pyIter (.ref m)) Q E s:=by
 have hT:s.TypeIs (.ref m) "map" := ⟨_,hm,hc⟩
 refine wpAny_pyIter_slot hT Vo (wpAny_call_entry Vo hT T2 ?_ (Sh _))
 exact wpAny_pure ⟨_,rfl, "map",_,hT,YQ.lookup,h⟩
theorem Si {m S:Addr} {o:Obj} (hm:s.heap.get? m=some o) (hc:o.cls=.type "map") (hSm:S≠m) (hS:s.heap.get? S=some { cls:=.type "list",data:=.seq #[] })
  (h:∀ h' n,Heap.SameBut S s.heap h'->h'.get? S=some { cls:=.type "list",data:=.seq #[] n }->codeAny (model prog w) A (.builtin "list.extend.loop" ⟨[.ref S,.ref m,.none],[]⟩) R { s with heap:=h' }) :
  wpAny (model prog w) A.in1 (Builtin.«list.__init__» ⟨[.ref S,.ref m],[]⟩)
   (fun fin s'=>match fin with | .done f=>R (.ok f) s' | .again c'=>c'.quiet=true∧codeAny (model prog w) A c' R s') (fun e s'=>R (.error e) s') s:=by
 have hT:s.TypeIs (.ref m) "map" := ⟨_,hm,hc⟩
 show wpAny _ A.in1 (do let old <-Builtin.List.listItems (.ref S);Builtin.List.listUpdate (.ref S) (fun _=>#[]);letGo old.toList.reverse;Builtin.List.listExtendWith (.ref S) (.ref m) .none) _ _ s
 refine wpAny_bind ?_
 unfold Builtin.List.listItems
 refine wpAny_bind (wpAny_seqItems hS rfl (wpAny_pure ?_))
 show wpAny _ A.in1 (updateSeq S (fun _=>#[]) >>= fun _=>letGo (#[]:Array Value).toList.reverse >>= fun _=>Builtin.List.listExtendWith (.ref S) (.ref m) .none) _ _ s
 refine wpAny_bind (wpAny_updateSeq hS rfl ?_)
 have hS₂:=Heap.get?_update_self (Obj.mapSeq (fun _=>(#[]:Array Value))) hS rfl
 have oth:∀ b o,b≠S->s.heap.get? b=some o->(s.heap.update S (Obj.mapSeq (fun _=>(#[]:Array Value)))).get? b=some o :=
  fun b o hb e=>(Heap.get?_update_other _ _ (Ne.symm hb)).trans e
 refine wpAny_bind (wpAny_letGo ?_)
 have hm₂:=oth m o (Ne.symm hSm) hm
 have hT₂:Shared.TypeIs { s with heap:=s.heap.update S (Obj.mapSeq (fun _=>(#[]:Array Value))) } (.ref m) "map" := ⟨_,hm₂,hc⟩
 unfold Builtin.List.listExtendWith
 refine wpAny_bind (wpAny_typeOf hT₂ ?_)
 have h1:Builtin.List.listSameRef (.ref S) (.ref m)=false:=by simp[Builtin.List.listSameRef,hSm]
 have h2:(Value.type "map" == Value.type "list")=false:=by decide
 have h3:(Value.type "map" == Value.type "tuple")=false:=by decide
 simp only[h1,h2,h3,Bool.or_false,Bool.false_eq_true,if_false]
 refine wpAny_bind (Ks hm₂ hc ?_)
 refine wpAny_bind (wpAny_holding ?_)
 unfold Builtin.List.listLengthHint
 refine wpAny_bind (wpAny_specialOf hT₂ P3 ?_)
 show wpAny _ A.in1 (specialOf (Value.ref m) (Str.ofString "__length_hint__") >>= _) _ _ _
 refine wpAny_bind (wpAny_specialOf hT₂ Qr ?_)
 refine wpAny_pure ?_
 rw[if_pos (by simp)]
 refine wpAny_bind (wpAny_rule ?_)
 refine wpAny_bind ?_
 show wpAny _ A.in1 (updateSeq S (·.push .none) >>= fun _=>updateSeq S (·.pop)) _ _ _
 refine wpAny_bind (wpAny_updateSeq hS₂ rfl ?_)
 have hS₃:=Heap.get?_update_self (Obj.mapSeq (·.push Value.none)) hS₂ rfl
 refine wpAny_updateSeq (hz:=by seq_fits) hS₃ rfl ?_
 have hS₄:=Heap.get?_update_self (Obj.mapSeq (·.pop)) hS₃ rfl
 exact wpAny_pure ⟨plainId_quiet F.plain_extend_loop _,h _ _ (((Heap.SameBut.update ..).trans (Heap.SameBut.update ..)).trans (Heap.SameBut.update ..)) hS₄⟩
end
end
section
section
variable {prog:Program} {w:World} {F:Fn} {R:PH} {sig sig':List (Option AV)} {om om' om₁:Om} {tau:List (Value×AV)} {s:Shared}
theorem Sta.dropBut (ok:F.Ok) (x:Sta F R sig om tau s) {a:Addr} {P:PH->Obj->Prop} (hd:OmDel om a P om') {h':Heap} {tk:Nat} (hk:∀ b o,b≠a->s.heap.get? b=some o->h'.get? b=some o):Sta F R sig om' tau { s with heap:=h',toks:=tk }:=by
 have pm:=hd.perm
 have y:=x.perm pm
 clear hd x
 have inD:∀ b (o:Om),b∈F.D o↔b=F.L∨b∈F.cs∨b∈o.map (·.1):=fun b o=>by unfold Fn.D;simp only[mem_cons,mem_append]
 have sub:∀ b,b∈F.D om'->b∈F.D ((a,P)::om'):=fun b hb=>by
  rw[inD] at hb ⊢
  rcases hb with q | q | q
  ·exact .inl q
  ·exact .inr (.inl q)
  ·exact .inr (.inr (mem_cons_of_mem _ q))
 have haD:a∈F.D ((a,P)::om'):=by rw[inD];exact .inr (.inr (by simp))
 have naD:a∉F.D om':=by
  have nd:=y.nodup
  unfold Fn.D at nd ⊢
  rw[nodup_cons,nodup_append] at nd
  intro q
  rcases List.mem_cons.mp q with q | q
  ·exact nd.1 (List.mem_append.mpr (.inr (by rw[<-q];simp)))
  ·rcases List.mem_append.mp q with q | q
   ·exact nd.2.2.2 a q a (by simp) rfl
   ·have:=nd.2.2.1
    simp only[map_cons,nodup_cons] at this
    exact this.1 q
 have kv:(F.view R ((a,P)::om') s.heap).le (F.view R om' h'):=fun b o e=>by
  obtain ⟨c1,c2,c3⟩:=ZN e
  unfold Fn.view
  rw[if_neg (by rw[c2];simpa using fun q=>c1 (sub b q))]
  rcases c3 with ⟨q,z⟩ | ⟨q,z⟩
  ·rw[if_pos q];exact z
  ·rw[if_neg q];exact hk _ _ (fun q=>c1 (q▸haD)) z
 obtain ⟨h₀,tk₀,rfl⟩:=y.same
 have ne:∀ b,b∈F.D om'->b≠a:=fun b hb q=>naD (q▸hb)
 refine ⟨⟨h',tk,rfl⟩,?_,fun b o e=>?_,fun b o e=>?_,fun c hc=>?_,fun p hp=>?_,fun p hp=>(y.temps p hp).mono kv,?_⟩
 ·have:=y.nodup
  unfold Fn.D at this ⊢
  refine this.sublist (List.Sublist.cons_cons _ (List.Sublist.append_left (List.Sublist.map _ (List.sublist_cons_self _ _)) _))
 ·obtain ⟨h1,h2,h3,h4⟩:=y.g b o e
  exact ⟨h1,fun q=>h2 (sub b q),hk _ _ (fun q=>h2 (q▸haD)) h3,h4⟩
 ·obtain ⟨h1,h2⟩:=y.rf b o e
  exact ⟨fun q=>h1 (sub b q),hk _ _ (fun q=>h1 (q▸haD)) h2⟩
 ·obtain ⟨v,o,ho,hd⟩:=y.cells c hc
  exact ⟨v,o,hk _ _ (ne c ((inD _ _).mpr (.inr (.inl hc)))) ho,hd⟩
 ·obtain ⟨o,ho,hP⟩:=y.opens p (mem_cons_of_mem _ hp)
  exact ⟨o,hk _ _ (ne _ ((inD _ _).mpr (.inr (.inr (mem_map_of_mem hp))))) ho,fun V' hV=>hP V' (kv.trans hV)⟩
 ·obtain ⟨m,hm,sl⟩:=y.slots
  refine ⟨m,hm.at' fun o e=>hk _ _ (ne _ ((inD _ _).mpr (.inl rfl))) e,fun k z kind d h1 h2=>(sl k z kind d h1 h2).mono kv (fun c o q e=>hk _ _ ?_ e) fun _ _ e=>e⟩
  rcases q with q | q
  ·exact ne c ((inD _ _).mpr (.inr (.inl q)))
  ·exact fun z=>(y.rf _ _ q).1 (z▸haD)
set_option tactic.hygienic true in
theorem Mz (ok:F.Ok) {A:Around} {B:PH->Prop} {n:Nat} {f:Value} {d₁ d:AV} {v₁:Value} {Q:Value->Shared->Prop} {E:Value->Shared->Prop} (h:WJ prog w B n f [d₁] d) (room:Room A n) (st:Sta F R sig om tau s) (hB:B (F.view R om s.heap)) (r:Rep (F.view R om s.heap) d₁ v₁)
  (hq:∀ v s',Sta F R sig om ((v,d)::tau) s'->(∀ b o,s.heap.get? b=some o->s'.heap.get? b=some o)->Q v s'):wpAny (model prog w) A (call f [v₁]) Q E s:=by
 refine h A (F.view R om s.heap) s [v₁] _ _ room hB st.viewIn (.cons r .nil) fun v h' tk k rv=>?_
 refine hq _ _ ((st.grow k).push (rv.mono fun b o e=>?_)) k
 unfold ext at e
 split at e
 ·exact F.view_grow k b o e
 ·rename_i hlt
  exact st.new_view ok (Nat.not_lt.mp hlt) e
set_option tactic.hygienic true in
theorem Sta.openAt (ok:F.Ok) (x:Sta F R sig om tau s) {P:PH->Obj->Prop} {a:Addr} {o:Obj} {h':Heap} {tk:Nat} (ha:s.heap.objs.size≤a) (k:∀ b o',s.heap.get? b=some o'->h'.get? b=some o') (ho:h'.get? a=some o) (hP:∀ V',(F.view R om s.heap).le V'->P V' o) :
  Sta F R sig ((a,P)::om) tau { s with heap:=h',toks:=tk }:=by
 obtain ⟨f1,f2⟩:=x.fresh ok ha
 have hD:∀ b,b∈F.D ((a,P)::om)↔b=a∨b∈F.D om:=fun b=>by
  unfold Fn.D
  simp only[map_cons,mem_cons,mem_append]
  constructor
  ·rintro (h | h | h | h)
   ·exact .inr (.inl h)
   ·exact .inr (.inr (.inl h))
   ·exact .inl h
   ·exact .inr (.inr (.inr h))
  ·rintro (h | h | h | h)
   ·exact .inr (.inr (.inl h))
   ·exact .inl h
   ·exact .inr (.inl h)
   ·exact .inr (.inr (.inr h))
 have hlt:∀ b o',s.heap.get? b=some o'->b≠a:=fun b o' e q=>lt_irrefl _ (lt_of_lt_of_le (q▸Heap.lt_size e) ha)
 have kv:(F.view R om s.heap).le (F.view R ((a,P)::om) h'):=fun b o' e=>by
  have hb:=x.vget e
  have hn:=x.vnot e
  unfold Fn.view at e ⊢
  split at e
  ·cases e
  ·rename_i q
   rw[if_neg (fun z=>q (z.imp (fun z=>((hD b).mp z).resolve_left (hlt b o' hb)) id))]
   split at e
   ·rename_i z;rw[if_pos z];exact e
   ·rename_i z;rw[if_neg z];exact k _ _ e
 obtain ⟨h₀,tk₀,rfl⟩:=x.same
 refine ⟨⟨_,tk,rfl⟩,?_,fun b o' e=>⟨(x.g b o' e).1,fun z=>?_,k _ _ (x.g b o' e).2.2.1,(x.g b o' e).2.2.2⟩,fun b o' e=>⟨fun z=>?_,k _ _ (x.rf b o' e).2⟩,fun c hc=>?_,fun p hp=>?_,fun p hp=>(x.temps p hp).mono kv,?_⟩
 ·have nd:=x.nodup
  unfold Fn.D at nd f1 ⊢
  simp only[map_cons,nodup_cons,mem_append,mem_cons,not_or,nodup_append] at nd f1 ⊢
  refine ⟨⟨nd.1.1,fun q=>f1.1 q.symm,nd.1.2⟩,nd.2.1,⟨f1.2.2,nd.2.2.1⟩,fun a' ha' b hb=>?_⟩
  rcases hb with rfl | hb
  ·rintro rfl;exact f1.2.1 ha'
  ·exact nd.2.2.2 a' ha' b hb
 ·exact ((hD b).mp z).elim (fun q=>hlt b o' (x.g b o' e).2.2.1 q) (x.g b o' e).2.1
 ·exact ((hD b).mp z).elim (fun q=>hlt b o' (x.rf b o' e).2 q) (x.rf b o' e).1
 ·obtain ⟨v,hv⟩:=x.cells c hc;exact ⟨v,hv.keeps k⟩
 ·rcases List.mem_cons.mp hp with rfl | hp
  ·exact ⟨o,ho,fun V' hV=>hP V' (kv.trans hV)⟩
  ·obtain ⟨o',ho',hP'⟩:=x.opens p hp
   exact ⟨o',k _ _ ho',fun V' hV=>hP' V' (kv.trans hV)⟩
 ·obtain ⟨m,hm,sl⟩:=x.slots
  exact ⟨m,hm.keeps k,fun k' y kind d h1 h2=>(sl k' y kind d h1 h2).mono kv (fun c o' _ e=>k _ _ e) fun _ _ e=>e⟩
theorem Sta.new_view2 (ok:F.Ok) (x:Sta F R sig om tau s) {h':Heap} {P:PH->Obj->Prop} {a b:Addr} {o:Obj} (hb:s.heap.objs.size≤b) (hne:b≠a) (e:h'.get? b=some o):F.view R ((a,P)::om) h' b=some o:=by
 obtain ⟨h1,h2⟩:=x.fresh ok hb
 unfold Fn.view
 rw[if_neg,if_neg h2]
 ·exact e
 ·rw[x.freshR hb]
  simp only[Option.isSome_none,Bool.false_eq_true,or_false]
  intro z
  apply h1
  unfold Fn.D at z ⊢
  simp only[map_cons,mem_cons,mem_append] at z ⊢
  rcases z with z | z | z | z
  ·exact .inl z
  ·exact .inr (.inl z)
  ·exact absurd z hne
  ·exact .inr (.inr z)
noncomputable def itO (la:Addr) (i:Nat):PH->Obj->Prop:=fun _ o=>o.cls=.type "list_iterator" ∧ o.data=.fields #[.ref la,.int i 0]
noncomputable def Qs (df:AV) (l:List AV) (it la:Addr):AV:=.raw fun V v=>∃ m T oT fv vs n nT,v=.ref m∧V m=some { cls:=.type "map",data:=.fields #[.ref T,fv] }∧V T=some oT∧oT.cls=.type "tuple" ∧ oT.data=.seq #[.ref it] nT∧V la=some { cls:=.type "list",data:=.seq vs n }∧Zn V l vs.toList∧Rep V df fv
theorem BR (ok:F.Ok) {df:AV} {l:List AV} {P:AV->Om->Prop} (hp:∀ it la,F.n₀≤it->P (Qs df l it la) ((it,itO la 0)::om)):OpX prog w F om (.type "map") [df,.lst l] P:=fun R sig tau vs s Q E hv st hq=>by
 obtain ⟨v₁,v₂,rfl,st⟩:=Tp hv st
 have r1:=st.top2
 have r2:=st.top
 obtain ⟨la,vs,n,rfl,o,r⟩:=r2
 refine Kp (st.vget o) fun h' k hi ht hm=>?_
 obtain ⟨oi,hoi,hci,hdi⟩:=hi
 obtain ⟨oT,hoT,hcT,nT,hdT⟩:=ht
 have n0:F.n₀≤s.heap.objs.size:=Nat.not_lt.mp (st.fresh ok (le_refl _)).2
 have x:=st.openAt (P:=itO la 0) (a:=s.heap.objs.size) (tk:=s.toks) ok (le_refl _) k hoi fun V' _=>⟨hci,hdi⟩
 have kv:(F.view R om s.heap).le (F.view R ((s.heap.objs.size,itO la 0)::om) h'):=fun b ob e=>by
  have hne:b≠s.heap.objs.size:=fun q=>lt_irrefl _ (q▸Heap.lt_size (st.vget e))
  obtain ⟨c1,c2,c3⟩:=ZN e
  unfold Fn.view
  rw[if_neg]
  ·rcases c3 with ⟨q,z⟩ | ⟨q,z⟩
   ·rw[if_pos q];exact z
   ·rw[if_neg q];exact k _ _ z
  ·rw[c2]
   simp only[Option.isSome_none,Bool.false_eq_true,or_false]
   intro z
   apply c1
   unfold Fn.D at z ⊢
   simp only[map_cons,mem_cons,mem_append] at z ⊢
   rcases z with z | z | z | z
   ·exact .inl z
   ·exact .inr (.inl z)
   ·exact absurd z hne
   ·exact .inr (.inr z)
 refine hq _ _ _ _ (hp s.heap.objs.size la n0) (x.pop.pop.push ?_)
 unfold Qs
 intro V' hV
 refine ⟨s.heap.objs.size+2,s.heap.objs.size+1,oT,v₁,vs,n,nT,rfl,hV _ _ (st.new_view2 ok (Nat.le_add_right _ _) (ne_of_gt (lt_add_of_pos_right (by decide))) hm),hV _ _ (st.new_view2 ok (Nat.le_add_right _ _) (ne_of_gt (lt_add_of_pos_right (by decide))) hoT),hcT,hdT,(kv.trans hV) _ _ o,r.mono (kv.trans hV),r1.mono (kv.trans hV)⟩
end
end
section
section
variable {prog:Program} {w:World} {F:Fn} {R:PH} {sig sig':List (Option AV)} {om om' om₁:Om} {tau:List (Value×AV)} {s:Shared} {K:Frag}
theorem VI {V:PH} {df:AV} {l:List AV} {it la:Addr} {v:Value} (h:Rep V (Qs df l it la) v):∃ m T oT fv vs n nT,v=.ref m∧V m=some { cls:=.type "map",data:=.fields #[.ref T,fv] }∧V T=some oT∧oT.cls=.type "tuple" ∧ oT.data=.seq #[.ref it] nT∧V la=some { cls:=.type "list",data:=.seq vs n }∧Zn V l vs.toList∧Rep V df fv:=by
 unfold Qs at h
 exact h V (PH.le.refl _)
theorem Kt (ok:F.Ok) {A:Around} {n:Nat} {df:AV} {l ds:List AV} {it la m S:Addr} {RR:Result->Shared->Prop} (hk:Zo K F.G) (hlen:l.length=ds.length) (hsz:l.length≤1000000) (room:Room A (n+2))
  (hf:∀ (V:PH) fv,Zo K V->Rep V df fv->∃ B:PH->Prop,B V∧∀ (i:Nat) d d',l[i]?=some d->ds[i]?=some d'->WJ prog w B n fv [d] d') :
  ∀ (k i:Nat) (s:Shared),l.length-i=k->i≤l.length->Sta F R sig ((S,Zc (ds.take i))::(it,itO la i)::om) ((.ref m,Qs df l it la)::tau) s->(∀ s',Sta F R sig ((S,Zc ds)::om) tau s'->RR (.ok (.ret .none)) s') ->
   codeAny (model prog w) A (.builtin "list.extend.loop" ⟨[.ref S,.ref m,.none],[]⟩) RR s:=by
 intro k
 induction k with
 | zero =>
  intro i s hk' hi st hR
  have hin:i=l.length:=le_antisymm hi (Nat.le_of_sub_eq_zero hk')
  subst hin
  obtain ⟨m',T,oT,fv,vs,c,cT,e,hm,hT,hcT,hdT,hl,r,rf⟩:=VI st.top
  cases e
  obtain ⟨oi,hoi,hP⟩:=st.opens (it,itO la l.length) (by simp)
  obtain ⟨hci,hdi⟩:=hP _ (PH.le.refl _)
  have e1:=r.length
  simp only[length_toList] at e1
  refine codeAny_builtin PySem.F.entry_extend_loop ?_
  rw[Around.under_plainId PySem.F.plain_extend_loop _]
  show wpAny _ A.in1 (pyNext (.ref m) >>= _) _ _ s
  refine wpAny_bind (Kr (T:=T) (it:=it) (l:=la) (items:=vs) (i:=l.length) (room.handled) (st.vget hm) ⟨oT,st.vget hT,hcT,cT,hdT⟩ ⟨oi,hoi,hci,hdi⟩ ⟨_,st.vget hl,rfl,c,rfl⟩ (by rw[Array.getElem?_eq_none_iff,e1];exact le_refl _) fun h' he=>?_)
  refine wpAny_pure (hR _ ?_)
  have:=st.pop.dropBut (om':=(S,Zc (ds.take l.length))::om) (tk:=s.toks) ok (.there .here) (h':=h') fun b o hb e=>he b o hb e
  rw[hlen,take_length] at this
  exact this
 | succ k ih =>
  intro i s hk' hi st hR
  have hlt:i<l.length:=Nat.lt_of_sub_pos (by rw[hk'];exact succ_pos k)
  obtain ⟨m',T,oT,fv,vs,c,cT,e,hm,hT,hcT,hdT,hl,r,rf⟩:=VI st.top
  cases e
  obtain ⟨oi,hoi,hP⟩:=st.opens (it,itO la i) (by simp)
  obtain ⟨hci,hdi⟩:=hP _ (PH.le.refl _)
  have e1:=r.length
  simp only[length_toList] at e1
  have hx:vs[i]?=some (vs[i]'(by rw[e1];exact hlt)):=Array.getElem?_eq_getElem _
  have hmi:m≠it:=fun q=>by
   have:=st.vnot hm
   apply this
   unfold Fn.D
   simp[q]
  refine codeAny_builtin PySem.F.entry_extend_loop ?_
  rw[Around.under_plainId PySem.F.plain_extend_loop _]
  show wpAny _ A.in1 (pyNext (.ref m) >>= _) _ _ s
  refine wpAny_bind (Kq (T:=T) (it:=it) (l:=la) (items:=vs) (i:=i) (st.vget hm) ⟨oT,st.vget hT,hcT,cT,hdT⟩ ⟨oi,hoi,hci,hdi⟩ ⟨_,st.vget hl,rfl,c,rfl⟩ hx hmi fun h' E' hit' hs'=>?_)
  obtain ⟨oi',hoi',hci',hdi'⟩:=hit'
  have u1:OmUpd ((S,Zc (ds.take i))::(it,itO la i)::om) it (itO la i) (itO la (i+1)) ((S,Zc (ds.take i))::(it,itO la (i+1))::om):=.there .here
  have st₁:=st.upd (tk:=s.toks) u1 hs' hoi' fun V' _=>⟨hci',hdi'⟩
  obtain ⟨m',T',oT',fv',vs',c',cT',e,hm',hT',hcT',hdT',hl',r',rf'⟩:=VI st₁.top
  cases e
  have g1:=st₁.vget hm'
  have g2:=st.vget hm
  have g3:h'.get? m=some { cls:=.type "map",data:=.fields #[.ref T,fv] }:=(hs'.2 m hmi).trans g2
  rw[show ({ s with heap:=h',toks:=s.toks }:Shared).heap.get? m=some { cls:=.type "map",data:=.fields #[.ref T,fv] } from g3] at g1
  cases g1
  have g4:=st₁.vget hl'
  have g5:=st.vget hl
  have hla:la≠it:=fun q=>by
   have:=st.vnot hl
   apply this
   unfold Fn.D
   simp[q]
  have g6:h'.get? la=some { cls:=.type "list",data:=.seq vs c }:=(hs'.2 la hla).trans g5
  rw[show ({ s with heap:=h',toks:=s.toks }:Shared).heap.get? la=_ from g6] at g4
  cases g4
  obtain ⟨B,hB,hpf⟩:=hf (F.view R ((S,Zc (ds.take i))::(it,itO la (i+1))::om) h') fv ((hk.mono (Fn.G_view st₁))) rf'
  obtain ⟨v,hv,rv⟩:=r'.get (i:=i) (d:=l[i]) (by simp[hlt])
  have:v=vs[i]:=by
   rw[show vs.toList[i]?=vs[i]? from by simp] at hv
   rw[hx] at hv;exact (Option.some.inj hv).symm
  subst this
  have hd:ds[i]?=some (ds[i]'(hlen▸hlt)):=getElem?_eq_getElem _
  refine Mz ok (hpf i l[i] _ (by simp[hlt]) hd) (⟨room.handled,by have:=room.depth;show A.depth+n≤600;lia,by have:=room.units;show A.units+1+1+20*n≤5000;lia⟩) st₁ hB rv fun u s₂ st₂ k₂=>?_
  obtain ⟨vs₂,n₂,hl₂,r₂,e₂⟩:=st₂.openList (a:=S) (l:=ds.take i) (by simp)
  show wpAny _ A.in1 (updateSeq S (·.push u) >>= _) _ _ s₂
  refine wpAny_bind ?_
  have hsz₂:vs₂.size≤1000000:=by rw[e₂,length_take];exact Nat.le_trans (Nat.min_le_right _ _) (hlen▸hsz)
  have sl:(1000000:Nat)<sizeLine:=by decide
  obtain ⟨n',ho'⟩:=W6 hl₂ fun xs=>xs.push u
  have hsb:Heap.SameBut S s₂.heap (s₂.heap.update S (Obj.mapSeq fun xs=>xs.push u)):=Heap.SameBut.update ..
  have u2:OmUpd ((S,Zc (ds.take i))::(it,itO la (i+1))::om) S (Zc (ds.take i)) (Zc (ds.take (i+1))) ((S,Zc (ds.take (i+1)))::(it,itO la (i+1))::om):=.here
  have kv:=Ym (F:=F) (R:=R) (om:=(S,Zc (ds.take i))::(it,itO la (i+1))::om) u2.inD hsb
  have st₃:=st₂.pop.upd (tk:=s₂.toks) u2 hsb ho' (Zc.upd (by
   rw[Array.toList_push,List.take_succ,hd]
   exact (r₂.mono kv).append (.cons (st₂.top.mono kv) .nil)))
  exact wpAny_updateSeq hl₂ rfl (wpAny_pure ⟨plainId_quiet PySem.F.plain_extend_loop _,ih (i+1) _ (by rw[<-Nat.sub_sub,hk'];rfl) hlt st₃ hR⟩) (Nat.le_trans hsz₂ (le_of_lt sl)) (by show (vs₂.push u).size≤sizeLine+1;rw[Array.size_push];exact succ_le_succ (Nat.le_trans hsz₂ (le_of_lt sl)))
end
end
section
theorem Ku (a b:Value):argsOk "list.__init__" ⟨[a,b],[]⟩:=by unfold argsOk;kernel_rfl
section
variable {prog:Program} {w:World} {F:Fn} {R:PH} {sig sig':List (Option AV)} {om om' om₁:Om} {tau:List (Value×AV)} {s:Shared} {K:Frag}
theorem P4 (ok:F.Ok) {n:Nat} {df:AV} {l ds:List AV} {it la:Addr} {P:AV->Om->Prop} (hk:Zo K F.G) (hlen:l.length=ds.length) (hsz:l.length≤1000000) (room:Room F.A (n+4))
  (hf:∀ (V:PH) fv,Zo K V->Rep V df fv->∃ B:PH->Prop,B V∧∀ (i:Nat) d d',l[i]?=some d->ds[i]?=some d'->WJ prog w B n fv [d] d')
  (hd:OmDel om it (itO la 0) om') (hp:P (.lst ds) om'):OpX prog w F om (.type "list") [Qs df l it la] P:=fun R sig tau vs s Q E hv st hq=>by
 obtain ⟨v₁,rfl,st⟩:=Wk hv st
 obtain ⟨m,T,oT,fv,vs,c,cT,e,hm,hT,hcT,hdT,hl,r,rf⟩:=VI st.top
 subst e
 have x:=st.perm hd.perm
 have hmv:=st.vget hm
 have hmlt:=Heap.lt_size hmv
 refine callType_codes PySem.F.called_list (PySem.F.typeCall_list_1 _) PySem.F.entry_list_init (Q₁:=fun obj s₁=>obj=.ref s.heap.objs.size∧s₁={ s with heap:=s.heap.push { cls:=.type "list",data:=.seq #[] } }) (code_list_new _ ⟨rfl,rfl⟩) ?_
 rintro obj s₁ ⟨rfl,rfl⟩
 have hS:(s.heap.push { cls:=.type "list",data:=.seq #[] }).get? s.heap.objs.size=some { cls:=.type "list",data:=.seq #[] }:=Heap.get?_push_size _ rfl
 have x₁:Sta F R sig ((s.heap.objs.size,Zc [])::(it,itO la 0)::om') ((.ref m,Qs df l it la)::tau) { s with heap:=s.heap.push { cls:=.type "list",data:=.seq #[] } }:=x.openNew ok _ rfl fun V' _=>⟨#[],0,rfl,Zn.nil⟩
 refine ⟨⟨_,hS,rfl⟩,Ku _ _,?_⟩
 refine Si (o:={ cls:=.type "map",data:=.fields #[.ref T,fv] }) (Heap.get?_push_of_some _ hmv) rfl (ne_of_gt hmlt) hS fun h' n' hsb hS'=>?_
 have x₂:=x₁.upd (tk:=s.toks) (P':=Zc (ds.take 0)) (om':=(s.heap.objs.size,Zc (ds.take 0))::(it,itO la 0)::om') .here hsb hS' fun V' _=>⟨#[],n',rfl,Zn.nil⟩
 refine Kt ok hk hlen hsz (A:=F.A.in1) ⟨room.handled,by have:=room.depth;show F.A.depth+(n+2)≤600;lia,by have:=room.units;show F.A.units+1+20*(n+2)≤5000;lia⟩ hf l.length 0 _ rfl (zero_le _) x₂ fun s' x'=>⟨rfl,?_⟩
 have n0:F.n₀≤s.heap.objs.size:=Nat.not_lt.mp (st.fresh ok (le_refl _)).2
 exact hq _ _ _ _ hp (x'.castTemp ok .here n0 YK)
end
end
section
noncomputable def Qt (f C:Addr):AV:=.raw fun V v=>∃ a,v=.ref a∧V a=some (methodObj (.ref f) (.ref C))
section
variable {prog:Program} {w:World} {F:Fn} {R:PH} {sig sig':List (Option AV)} {om om' om₁:Om} {tau:List (Value×AV)} {s:Shared} {K:Frag}
theorem P5 (ok:F.Ok) {o:Expr} {x:Str} {pos:Pos} {C p f:Addr} {mc obj:Value} {rest:List Value} (hk:Zo K F.G) (h:Ev prog w F sig om o (.raw fun _ u=>u=.ref C)) (hr:readsIn K C mc=true) (e:findCls K (.ref C) mc x=some (.get (.builtin "classmethod.__get__") (.ref p) obj (.ref C))) (hp:recIn K p "classmethod" = some (.ref f::rest))
  (he:eval (.Attribute o x pos) F.env=(do
   let ov <-eval o F.env
   standAt pos.atName
   let r <-holding [ov] (getAttr ov x true)
   letTemporaryGo o ov r
   pure r):=by with_unfolding_all rfl):Ev prog w F sig om (.Attribute o x pos) (Qt f C):=fun R tau s Q E st hq=>by
 refine Attribute_any_ (h R tau s _ _ st fun v s₁ st₁=>?_) he
 have:=st₁.top
 obtain rfl:=this _ (PH.le.refl _)
 have X:=st₁.inK hk
 refine cls_bind X hr e (wpAny_call (cm_get (s:={ s₁ with toks:=s₁.toks+1 }) X hp ?_))
 refine handed_on rfl (hq _ _ ?_)
 refine ((st₁.pop.tok1.alloc _).push ?_)
 unfold Qt
 exact fun V' hV=>⟨_,rfl,hV _ _ (st₁.pop.tok1.new_view ok (le_refl _) (Heap.get?_push_size _ rfl))⟩
theorem Qu {B:PH->Prop} {n:Nat} {a f C:Addr} {d d':AV} (h:WK prog w B n (.ref f) [.raw fun _ u=>u=.ref C,d] d'):WJ prog w (fun V=>B V∧V a=some (methodObj (.ref f) (.ref C))) n (.ref a) [d] d':=fun A G s vs Q E hr ⟨hB,ha⟩ hG r hq=>by
 obtain ⟨v,rfl⟩:=RO r.length
 refine wpAny_call (ks_codeAny_call_bound (hG _ _ ha) ?_)
 exact h A G s [.ref C,v] Q E hr hB hG (.cons (by exact fun _ _=>rfl) r) hq
end
end
section
section
variable {prog:Program} {w:World} {F:Fn} {R:PH} {sig sig':List (Option AV)} {om om' om₁:Om} {tau:List (Value×AV)} {s:Shared} {K:Frag}
theorem Kv (ok:F.Ok) {A:Around} {B:PH->Prop} {n:Nat} {f:Value} {ds:List AV} {vs:List Value} {om₁ rest:Om} {P:AV->Om->Prop} {Q E:Value->Shared->Prop} (h:VH prog w B n f ds om₁ P) (hB:B F.G) (mono:∀ V V',V.le V'->B V->B V') (room:Room A n) (hp:om.Perm (om₁++rest))
  (hv:vs.length=ds.length) (st:Sta F R sig om ((vs.zip ds).reverse++tau) s) (hq:∀ v d om₂ s',P d om₂->Sta F R sig (om₂++rest) ((v,d)::tau) s'->Q v s') :
  codeAny (model prog w) A (.call f ⟨vs,[]⟩) (fun r s'=>match r with | .ok (.ret v)=>Q v s' | .ok _=>False | .error e=>E e s') s:=by
 obtain ⟨r,st'⟩:=st.zip hv
 have x:=st'.perm hp
 have hvw:F.view R om s.heap=F.view R (om₁++rest) s.heap:=(Ws hp _).symm
 rw[hvw] at r
 have nd:=x.nodup
 unfold Fn.D at nd
 rw[nodup_cons,nodup_append,map_append,nodup_append] at nd
 refine h A (F.view R (om₁++rest) s.heap) s vs _ _ room (mono _ _ (Fn.G_view x) hB) x.viewIn r nd.2.2.1.1 (fun b hb=>?_) (fun p hp=>?_) fun v d om₂ h' tk hPd n2 new k op rv=>hq v d _ _ hPd (x.called (tk:=tk) ok n2 new k op rv)
 ·have:b∈F.D (om₁++rest):=by
   unfold Fn.D
   rw[mem_cons,mem_append,map_append,mem_append]
   exact .inr (.inr (.inl hb))
  unfold Fn.view
  rw[if_pos (.inl this)]
 ·obtain ⟨o,ho,hP⟩:=x.opens p (List.mem_append.mpr (.inl hp))
  exact ⟨o,ho,hP⟩
theorem Fo (ok:F.Ok) {B:PH->Prop} {n:Nat} {C f:Addr} {ds:List AV} {Pm:Addr->Addr->Om->Prop} {P:AV->Om->Prop} (hk:Zo K F.G) (hm:makesIn K C=true) (hi:findIn K (.ref C) "__init__" = some (some (.ref f))) (ht:typeIn K (.ref f)=some (.type "function"))
  (hB:B F.G) (mono:∀ V V',V.le V'->B V->B V') (room:Room F.A (n+1)) (h:∀ x dx,VH prog w B n (.ref f) (inst C x dx::ds) [(dx,Zm [])] fun d om₂=>d=.none∧Pm x dx om₂)
  (hP:∀ x dx om₂,Pm x dx om₂->P (inst C x dx) (om₂++om)):OpX prog w F om (.ref C) ds P:=fun R sig tau vs s Q E hv st hq=>by
 have X:=st.inK hk
 obtain ⟨r,st₀⟩:=st.zip hv
 have st₁:=st.openNew (P:=Zm []) ok emptyDict rfl fun V' _=>⟨[],0,rfl,.nil⟩
 have st₂:=st₁.alloc (instObj C s.heap.objs.size)
 have hsz:(s.heap.push emptyDict).objs.size=s.heap.objs.size+1:=Heap.size_push ..
 have hx:((s.heap.push emptyDict).push (instObj C s.heap.objs.size)).get? (s.heap.objs.size+1)=some (instObj C s.heap.objs.size):=hsz▸Heap.get?_push_size _ rfl
 have rx:Rep (F.view R ((s.heap.objs.size,Zm [])::om) ((s.heap.push emptyDict).push (instObj C s.heap.objs.size))) (inst C (s.heap.objs.size+1) s.heap.objs.size) (.ref (s.heap.objs.size+1)):=by
  unfold inst
  exact fun V' hV=>⟨rfl,hV _ _ (st.new_view2 ok (le_succ _) (ne_of_gt (lt_succ_self _)) hx)⟩
 have k₂:∀ b o,s.heap.get? b=some o->((s.heap.push emptyDict).push (instObj C s.heap.objs.size)).get? b=some o:=fun b o e=>Heap.get?_push_of_some _ (Heap.get?_push_of_some _ e)
 have st₃:Sta F R sig ((s.heap.objs.size,Zm [])::om) (((Value.ref (s.heap.objs.size+1)::vs).zip (inst C (s.heap.objs.size+1) s.heap.objs.size::ds)).reverse++(.ref (s.heap.objs.size+1),inst C (s.heap.objs.size+1) s.heap.objs.size)::tau) { s with heap:=(s.heap.push emptyDict).push (instObj C s.heap.objs.size) }:=by
  refine st₂.temp fun p hp=>?_
  simp only[List.zip_cons_cons,List.reverse_cons,append_assoc,mem_append,mem_cons,cons_append,nil_append] at hp
  rcases hp with hp | rfl | rfl | hp
  ·exact st₂.temps p (by simp only[mem_append];exact .inl hp)
  ·exact rx
  ·exact rx
  ·exact st₂.temps p (by simp only[mem_append];exact .inr hp)
 obtain ⟨hp,g,d,tk,os⟩:=s
 refine wpAny_call (make_core (init:=.ref f) (makes_of X hm) (looks_findIn X hi) (fun self=>bind_fn X self ht) (.inl (by rfl)) ?_)
 refine codeAny_mono (Kv ok (A:=F.A.under (.builtin "type.__call__" ⟨.ref C::vs,[]⟩)) (om₁:=[(hp.objs.size,Zm [])]) (rest:=om) (E:=fun e s'=>E e s') (Q:=fun v s'=>v=.none∧Q (.ref (hp.objs.size+1)) s') (h _ _) hB mono (room.under (Sw C vs) (Qo C vs)) (List.Perm.refl _) (by simp[hv]) st₃ fun v d' om₂ s' ⟨e,hPm⟩ st'=>?_) fun r s' hr=>?_
 ·subst e
  have:=st'.top
  subst this
  exact ⟨rfl,hq _ _ _ _ (hP _ _ _ hPm) st'.pop⟩
 ·cases r with
  | error e=>exact hr
  | ok fl=>cases fl<;>exact hr
end
end
section
theorem Hy:builtinKind "tuple.__lt__" = some .slot:=by decide +kernel
theorem Kw:splitId "tuple.__lt__" = some ("tuple", "__lt__"):=by decide +kernel
noncomputable abbrev T3:=Int×Int×Int
noncomputable def ltT (a b:T3):Bool:=if a.1==b.1 then (if a.2.1==b.2.1 then decide (a.2.2<b.2.2) else decide (a.2.1<b.2.1)) else decide (a.1<b.1)
section
variable {prog:Program} {w:World} {A:Around} {E:Value->Shared->Prop} {s:Shared} {C:Addr}
set_option maxRecDepth 100000 in
theorem Fp {x y:Addr} {ox oy:Obj} {a b:T3} {t1 t2 t3 u1 u2 u3:Tok} {n n':Nat} {Q:Bool->Shared->Prop} (hu:A.units<cLine) (Y:TupCls (model prog w) s.heap C) (hi:Looks (model prog w) s.heap (typeLookup (.ref C) "__lt__") (some (.builtin "tuple.__lt__")))
  (hx:s.heap.get? x=some ox) (hcx:ox.cls=.ref C) (hdx:ox.data=.seq #[.int a.1 t1,.int a.2.1 t2,.int a.2.2 t3] n) (hy:s.heap.get? y=some oy) (hcy:oy.cls=.ref C) (hdy:oy.data=.seq #[.int b.1 u1,.int b.2.1 u2,.int b.2.2 u3] n')
  (h:Q (ltT a b) s):wpAny (model prog w) A (keyLt' oneType' (.ref x) (.ref y)) Q E s:=by
 have q1:Looks (model prog w) s.heap (typeOf (.ref x)) (.ref C):=hcx▸(Looks.ld hx).andThen .now
 have q2:Looks (model prog w) s.heap (typeOf (.ref y)) (.ref C):=hcy▸(Looks.ld hy).andThen .now
 have sp:Looks (model prog w) s.heap (specialOf (.ref x) "__lt__") (some (.builtin "tuple.__lt__")):=q1.andThen hi
 have sub:Looks (model prog w) s.heap (isInstance (.ref x) (.type "tuple")) true:=q1.andThen Y.tup
 have sub2:Looks (model prog w) s.heap (isInstance (.ref y) (.type "tuple")) true:=q2.andThen Y.tup
 have cl:∀ {Q:Value->Shared->Prop},Q (.bool (ltT a b)) s->wpAny (model prog w) A (call (.builtin "tuple.__lt__") [.ref x,.ref y]) Q E s:=fun {Q} h=>by
  refine wpAny_call (codeAny_call_builtin F.slot_tuple_lt.plain F.entry_tuple_lt (@check_slot (model prog w) _ _ s "tuple.__lt__" "tuple" "__lt__" (.ref x) [.ref y] [] _ Hy Kw sub (F.args_tuple_lt_2 _ _) ?_))
  show wpAny _ _ (do
   if !(<-isInstance (.ref y) (.type "tuple")) then return <-ret .notImplemented
   let xs <-Builtin.Tuple.tupleItemsOf (.ref x)
   let ys <-Builtin.Tuple.tupleItemsOf (.ref y)
   for (x,y) in xs.toList.zip ys.toList do
    if !(<-eqBool x y) then
     rule "tuple.compare.by-the-first-pair-that-differs";return <-ret (<-richCompare .Lt x y)
   ret (Builtin.Tuple.tupleCompareSizes .Lt xs.size ys.size)) _ _ s
  refine wpAny_bind (sub2.here ?_)
  rw[if_neg (by decide)]
  refine wpAny_bind ?_
  unfold Builtin.Tuple.tupleItemsOf
  refine wpAny_bind (wpAny_seqItems hx hdx (wpAny_pure ?_))
  refine wpAny_bind (wpAny_bind (wpAny_seqItems hy hdy (wpAny_pure ?_)))
  unfold ltT at h
  have rc:∀ {p q:Int} {t u:Tok} {Q':Value->Shared->Prop} {E':Value->Shared->Prop},Q' (.bool (decide (p<q))) s->wpAny (model prog w) A.in1 (richCompare .Lt (.int p t) (.int q u)) Q' E' s:=fun {p q t u Q' E'} h=>(show wpAny (model prog w) A.in1 (compareOp .Lt (.int p t) (.int q u)) Q' E' s from P.lt_int h)
  cases e1:(a.1==b.1) with
  | false =>
   rw[e1] at h
   rw[if_neg Bool.false_ne_true] at h
   refine wpAny_bind (wpAny_bind (wpAny_bind (wpAny_eqBool_int ?_)))
   rw[e1]
   rw[if_pos (by decide)]
   exact wpAny_bind (wpAny_rule (wpAny_bind (rc (wpAny_bind (wpAny_pure (wpAny_pure (wpAny_pure (wpAny_pure h))))))))
  | true =>
   rw[e1] at h
   rw[if_pos rfl] at h
   refine wpAny_bind (wpAny_bind (wpAny_bind (wpAny_eqBool_int ?_)))
   rw[e1]
   rw[if_neg (by decide)]
   refine wpAny_pure (wpAny_bind (wpAny_bind (wpAny_eqBool_int ?_)))
   cases e2:(a.2.1==b.2.1) with
   | false =>
    rw[e2] at h
    rw[if_neg Bool.false_ne_true] at h
    rw[if_pos (by decide)]
    exact wpAny_bind (wpAny_rule (wpAny_bind (rc (wpAny_bind (wpAny_pure (wpAny_pure (wpAny_pure (wpAny_pure h))))))))
   | true =>
    rw[e2] at h
    rw[if_pos rfl] at h
    rw[if_neg (by decide)]
    refine wpAny_pure (wpAny_bind (wpAny_bind (wpAny_eqBool_int ?_)))
    cases e3:(a.2.2==b.2.2) with
    | false =>
     rw[if_pos (by decide)]
     exact wpAny_bind (wpAny_rule (wpAny_bind (rc (wpAny_bind (wpAny_pure (wpAny_pure (wpAny_pure (wpAny_pure h))))))))
    | true =>
     rw[if_neg (by decide)]
     have:¬ a.2.2<b.2.2:=fun q=>Int.ne_of_lt q (beq_iff_eq.mp e3)
     rw[decide_eq_false this] at h
     exact wpAny_pure (wpAny_pure (wpAny_pure h))
 rw[keyLt'_oneType,oneLt'_eq]
 rw[if_pos rfl]
 refine wpAny_bind (wpAny_cRoomFor hu ?_)
 refine wpAny_bind ?_
 unfold callSpecialIfBound? bindSpecialIfBound?
 refine wpAny_holding (wpAny_bind (wpAny_bind (sp.here ?_)))
 have hb:bindSpecial (.builtin "tuple.__lt__") (.ref x)=pure (.builtin "tuple.__lt__",[.ref x]):=F.slot_tuple_lt.bind _
 dsimp only
 rw[hb]
 refine wpAny_bind (wpAny_askSetting (wpAny_ite ?_))
 refine iteInduction (motive:=fun x=>x) (fun _=>?_) (fun _=>?_)
 ·exact wpAny_bind (wpAny_pure (wpAny_pure (wpAny_bind (cl (wpAny_pure (wpAny_truthy_bool h))))))
 ·exact wpAny_tryCatch (wpAny_bind (wpAny_pure (wpAny_pure (wpAny_bind (cl (wpAny_pure (wpAny_truthy_bool h)))))))
end
end
section
noncomputable def post {α:Type} (n:Nat) (lt:Nat->Nat->Bool):KasT α->(α->Prop)->Prop
 | .ret a,Q=>Q a
 | .ask i j k,Q=>i<n∧j<n∧post n lt (k (lt i j)) Q
section
variable {n:Nat} {lt:Nat->Nat->Bool} {p:Array Nat}
theorem Xg {α:Type} {Q Q':α->Prop} (h:∀ a,Q a->Q' a):∀ {t:KasT α},post n lt t Q->post n lt t Q'
 | .ret a,x=>h a x
 | .ask i j k,⟨a,b,x⟩=>⟨a,b,Xg h x⟩
theorem XO {α β:Type} {f:α->KasT β} {Q:β->Prop}:∀ {t:KasT α},post n lt t (fun a=>post n lt (f a) Q)->post n lt (t.bind f) Q
 | .ret a,x=>x
 | .ask i j k,⟨a,b,x⟩=>⟨a,b,XO x⟩
structure Tot (n:Nat) (lt:Nat->Nat->Bool):Prop where
 tr:∀ i j k,i<n->j<n->k<n->lt i j=true->lt j k=true->lt i k=true
 irr:∀ i,i<n->lt i i=false
 tot:∀ i j,i<n->j<n->i≠j->lt i j=false->lt j i=true
structure Pm (n:Nat) (p:Array Nat):Prop where
 size:p.size=n
 perm:p.toList.Perm (List.range n)
noncomputable abbrev g (p:Array Nat) (i:Nat):Nat:=p.getD i 0
theorem Fq {i:Nat} (h:i<p.size):p[i]?=some (g p i):=by
 unfold g Array.getD
 rw[dif_pos h,Array.getElem?_eq_getElem h];rfl
theorem Hz {i:Nat} {q:Array Nat} {j:Nat} (h:p[i]?=q[j]?):g p i=g q j:=by
 unfold g
 rw[Array.getD_eq_getD_getElem?,Array.getD_eq_getD_getElem?,h]
theorem Pm.bd (h:Pm n p) {i:Nat} (hi:i<n):g p i<n:=by
 have:=Fq (p:=p) (i:=i) (by rw[h.size];exact hi)
 have hm:g p i∈p.toList:=by rw[<-getElem?_toList] at this;exact mem_of_getElem? this
 have:=h.perm.mem_iff.mp hm
 simpa using this
theorem Pm.ne (h:Pm n p) {i j:Nat} (hi:i<n) (hj:j<n) (hne:i≠j):g p i≠g p j:=by
 have nd:p.toList.Nodup:=h.perm.nodup_iff.mpr List.nodup_range
 have e1:=Fq (p:=p) (i:=i) (by rw[h.size];exact hi)
 have e2:=Fq (p:=p) (i:=j) (by rw[h.size];exact hj)
 rw[<-getElem?_toList] at e1 e2
 intro e
 rw[e] at e1
 obtain ⟨h1,q1⟩:=List.getElem?_eq_some_iff.mp e1
 obtain ⟨h2,q2⟩:=List.getElem?_eq_some_iff.mp e2
 rw[List.nodup_iff_pairwise_ne,List.pairwise_iff_getElem] at nd
 rcases Nat.lt_or_gt_of_ne hne with l | l
 ·exact nd i j h1 h2 l (q1.trans q2.symm)
 ·exact nd j i h2 h1 l (q2.trans q1.symm)
theorem Pm.of_perm {q:Array Nat} (h:Pm n p) (hq:q.Perm p):Pm n q:=⟨hq.size_eq.trans h.size,(Array.perm_iff_toList_perm.mp hq).trans h.perm⟩
noncomputable def Xy (lt:Nat->Nat->Bool) (p:Array Nat) (k:Nat):Prop:=∀ i j,i<j->j<k->lt (g p i) (g p j)=true
theorem T4 (T:Tot n lt) (hp:Pm n p) {k:Nat} (hk:k≤n) (h:∀ t,1≤t->t<k->lt (g p (t-1)) (g p t)=true):Xy lt p k:=by
 intro i j
 induction j with
 | zero=>intro h;exact absurd h (not_lt_zero i)
 | succ j ih =>
  intro hij hj
  have h1:=h (j+1) (succ_le_succ (zero_le j)) hj
  rw[add_sub_cancel] at h1
  by_cases e:i=j
  ·subst e;exact h1
  ·have hij:=lt_of_le_of_ne (le_of_lt_succ hij) e
   have jn:=lt_of_lt_of_le hj hk
   exact T.tr _ _ _ (hp.bd (lt_trans hij (lt_of_succ_lt jn))) (hp.bd (lt_of_succ_lt jn)) (hp.bd jn) (ih hij (lt_of_succ_lt hj)) h1
theorem Kx {m f:Nat} (h2:m+(f+1)≤n):m<n∧m-1<n∧m+1+f≤n :=
 have hm:=lt_of_lt_of_le (lt_add_of_pos_right (succ_pos f)) h2
 ⟨hm,lt_of_le_of_lt (sub_le m 1) hm,Nat.le_trans (le_of_eq (add_right_comm m 1 f)) h2⟩
theorem Ky {m:Nat} (h1:1≤m):m≠m-1:=ne_of_gt (sub_lt h1 one_pos)
theorem T5 (T:Tot n lt) (hp:Pm n p):∀ (f m:Nat),1≤m->m+f≤n->post n lt (kas_asc p f m) fun r=>m≤r∧r≤m+f∧(∀ t,m≤t->t<r->lt (g p (t-1)) (g p t)=true)∧(r<m+f->lt (g p r) (g p (r-1))=true)
 | 0,m,h1,h2=>⟨le_refl _,le_refl _,fun t a b=>absurd (lt_of_le_of_lt a b) (lt_irrefl _),fun h=>absurd h (lt_irrefl _)⟩
 | f+1,m,h1,h2=>by
  obtain ⟨hm,hm1,h3⟩:=Kx h2
  have e3:m+1+f=m+(f+1):=add_right_comm m 1 f
  refine ⟨hp.bd hm,hp.bd hm1,?_⟩
  cases e:lt (g p m) (g p (m-1)) with
  | true =>
   exact ⟨le_refl _,Nat.le_add_right _ _,fun t a b=>absurd (lt_of_le_of_lt a b) (lt_irrefl _),fun _=>e⟩
  | false =>
   refine Xg ?_ (T5 T hp f (m+1) (le_succ_of_le h1) h3)
   rintro r ⟨a,b,c,d⟩
   refine ⟨le_of_succ_le a,Nat.le_trans b (le_of_eq e3),fun t ht1 ht2=>?_,fun h=>d (Nat.lt_of_lt_of_eq h e3.symm)⟩
   by_cases q:t=m
   ·rw[q]
    exact T.tot _ _ (hp.bd hm) (hp.bd hm1) (hp.ne hm hm1 (Ky h1)) e
   ·exact c t (lt_of_le_of_ne ht1 (Ne.symm q)) ht2
theorem Sx (T:Tot n lt) (hp:Pm n p):∀ (f m:Nat),1≤m->m+f≤n->(∀ t,1≤t->t<m->lt (g p t) (g p (t-1))=true)->post n lt (kas_desc f p m 0) fun r=>r.1=p∧r.2.2=0∧m≤r.2.1∧r.2.1≤m+f∧∀ t,1≤t->t<r.2.1->lt (g p t) (g p (t-1))=true
 | 0,m,h1,h2,h=>⟨rfl,rfl,le_refl _,le_refl _,h⟩
 | f+1,m,h1,h2,h=>by
  obtain ⟨hm,hm1,h3⟩:=Kx h2
  refine ⟨hp.bd hm,hp.bd hm1,?_⟩
  cases e:lt (g p m) (g p (m-1)) with
  | true =>
   simp only[if_true,lt_irrefl,gt_iff_lt,if_false]
   refine Xg ?_ (Sx T hp f (m+1) (le_succ_of_le h1) h3 fun t a b=>?_)
   ·rintro r ⟨a,b,c,d,x⟩
    exact ⟨a,b,le_of_succ_le c,Nat.le_trans d (le_of_eq (add_right_comm m 1 f)),x⟩
   ·by_cases q:t=m
    ·rw[q];exact e
    ·exact h t a (lt_of_le_of_ne (le_of_lt_succ b) q)
  | false =>
   simp only[Bool.false_eq_true,if_false]
   refine ⟨hp.bd hm1,hp.bd hm,?_⟩
   rw[show lt (p.getD (m-1) 0) (p.getD m 0)=true from T.tot _ _ (hp.bd hm) (hp.bd hm1) (hp.ne hm hm1 (Ky h1)) e]
   exact ⟨rfl,rfl,le_refl _,Nat.le_add_right _ _,h⟩
theorem P6 (T:Tot n lt) (hp:Pm n p) (h1:1≤n):post n lt (kas_count n p) fun r=>1≤r.1∧r.1≤n∧Pm n r.2∧Xy lt r.2 r.1:=by
 unfold kas_count
 have n1:=le_of_eq (add_sub_of_le h1)
 refine XO (Xg ?_ (T5 T hp (n-1) 1 (le_refl _) n1))
 rintro m ⟨a,b,c,d⟩
 have hb:=Nat.le_trans b n1
 have so:Xy lt p m:=T4 T hp hb c
 by_cases e:m=n
 ·rw[if_pos (by simpa using e)]
  exact ⟨a,hb,hp,so⟩
 ·rw[if_neg (by simpa using e)]
  by_cases e1:m>1
  ·rw[if_pos e1]
   have ml:=sub_lt a one_pos
   refine ⟨hp.bd h1,hp.bd (lt_of_lt_of_le ml hb),?_⟩
   rw[show lt (p.getD 0 0) (p.getD (m-1) 0)=true from so 0 (m-1) (Nat.sub_pos_of_lt e1) ml]
   exact ⟨a,hb,hp,so⟩
  ·rw[if_neg e1]
   have hm:m=1:=le_antisymm (le_of_not_lt e1) a
   subst hm
   have hn:=lt_of_le_of_ne h1 e
   have n2:=le_of_eq (add_sub_of_le hn)
   unfold kas_descPart
   refine XO (Xg ?_ (Sx T hp (n-(1+1)) (1+1) (le_succ 1) n2 fun t a b=>?_))
   ·rintro ⟨p',r,q⟩ ⟨e1,e2,c1,c2,c3⟩
    dsimp only at e1 e2 c1 c2 c3
    subst e1 e2
    have rn:=Nat.le_trans c2 n2
    have r0:=le_of_succ_le c1
    have n3:=le_of_eq (add_sub_of_le rn)
    simp only[lt_irrefl,gt_iff_lt,if_false]
    unfold kas_tail3
    have hq:Pm n (kas_rev p' 0 r):=hp.of_perm (mirror_perm ..)
    have hg:∀ i,i<r->g (kas_rev p' 0 r) i=g p' (r-1-i):=fun i hi=>by
     refine Hz ?_
     show (mirror p' 0 r ((r-0)/2))[i]?=_
     rw[getElem?_mirror_all (by rw[hp.size];exact rn),if_pos ⟨zero_le _,hi⟩,zero_add]
    refine XO (Xg ?_ (T5 T hq (n-r) r r0 n3))
    rintro m ⟨a,b,c,d⟩
    have mn:=Nat.le_trans b n3
    refine ⟨Nat.le_trans r0 a,mn,hq,T4 T hq mn fun t ht1 ht2=>?_⟩
    by_cases q:r≤t
    ·exact c t q ht2
    ·have tr:=lt_of_not_le q
     rw[hg _ (lt_of_le_of_lt (sub_le _ _) tr),hg _ tr]
     have:=c3 (r-1-(t-1)) (Nat.sub_pos_of_lt (Nat.sub_lt_sub_right ht1 tr)) (lt_of_le_of_lt (sub_le _ _) (sub_lt r0 one_pos))
     rw[Hh ht1] at this
     exact this
   ·have:t=1:=le_antisymm (le_of_lt_succ b) a
    subst this
    exact d (lt_of_lt_of_le hn (le_of_eq (add_sub_of_le h1).symm))
theorem Vw (T:Tot n lt) (hp:Pm n p) {k:Nat} (hk:k<n):∀ (f l r:Nat),l≤r->r≤k->r-l≤f->Xy lt p k->(∀ t,t<l->lt (g p t) (g p k)=true)->(∀ t,r≤t->t<k->lt (g p k) (g p t)=true) ->
  post n lt (kas_place p k f l r) fun l'=>l'≤k∧(∀ t,t<l'->lt (g p t) (g p k)=true)∧∀ t,l'≤t->t<k->lt (g p k) (g p t)=true
 | 0,l,r,h1,h2,h3,so,a,b=>⟨Nat.le_trans h1 h2,a,fun t x y=>b t (Nat.le_trans (Nat.le_of_sub_eq_zero (Nat.le_zero.mp h3)) x) y⟩
 | f+1,l,r,h1,h2,h3,so,a,b=>by
  unfold kas_place
  by_cases e:l≥r
  ·rw[if_pos e];exact ⟨Nat.le_trans h1 h2,a,fun t x y=>b t (Nat.le_trans e x) y⟩
  ·rw[if_neg e]
   have mr:=lt_of_lt_of_le (Fe e) h2
   have mn:=lt_trans mr hk
   refine ⟨hp.bd hk,hp.bd mn,?_⟩
   cases q:lt (g p k) (g p ((l+r)/2)) with
   | true =>
    refine Vw T hp hk f l ((l+r)/2) (Fd e) (le_of_lt mr) (A0 h3 e) so a fun t x y=>?_
    by_cases z:t=(l+r)/2
    ·rw[z];exact q
    ·exact T.tr _ _ _ (hp.bd hk) (hp.bd mn) (hp.bd (lt_trans y hk)) q (so _ _ (lt_of_le_of_ne x (Ne.symm z)) y)
   | false =>
    have q':=T.tot _ _ (hp.bd hk) (hp.bd mn) (hp.ne hk mn (ne_of_gt mr)) q
    refine Vw T hp hk f ((l+r)/2+1) r (Fe e) h2 (A1 h3 e) so (fun t x=>?_) b
    by_cases z:t=(l+r)/2
    ·rw[z];exact q'
    ·have tl:=lt_of_le_of_ne (le_of_lt_succ x) z
     exact T.tr _ _ _ (hp.bd (lt_trans tl mn)) (hp.bd mn) (hp.bd hk) (so t _ tl mr) q'
set_option tactic.hygienic true in
theorem Qv (T:Tot n lt):∀ (f:Nat) (p:Array Nat) (k:Nat),Pm n p->k+f=n->Xy lt p k->post n lt (kas_bin f p k) fun q=>Pm n q∧Xy lt q n
 | 0,p,k,hp,hk,so=>⟨hp,by rw[<-show k=n from hk];exact so⟩
 | f+1,p,k,hp,hk,so=>by
  unfold kas_bin
  have kn:=Nat.lt_of_lt_of_eq (lt_add_of_pos_right (succ_pos f)) hk
  refine XO (Xg ?_ (Vw T hp kn k 0 k (zero_le _) (le_refl _) (le_refl _) so (fun t h=>absurd h (not_lt_zero t)) fun t a b=>absurd (lt_of_le_of_lt a b) (lt_irrefl _)))
  rintro l ⟨hl,a,b⟩
  have hq:Pm n (bubble p k (k-l)):=hp.of_perm (bubble_perm ..)
  have hb:∀ i,g (bubble p k (k-l)) i=if i=l then g p k else if l<i∧i≤k then g p (i-1) else g p i:=fun i=>by
   have:=getElem?_bubble (xs:=p) (src:=k) (by rw[hp.size];exact kn) (k-l) (sub_le _ _) i
   rw[Nat.sub_sub_self hl] at this
   split
   ·rename_i e;rw[if_pos e] at this;exact Hz this
   ·rename_i e
    rw[if_neg e] at this
    split
    ·rename_i e';rw[if_pos e'] at this;exact Hz this
    ·rename_i e';rw[if_neg e'] at this;exact Hz this
  refine Qv T f _ (k+1) hq ((add_right_comm k 1 f).trans hk) fun i j hij hj=>?_
  have hj:=le_of_lt_succ hj
  have j0:=Nat.sub_one_lt_of_le (lt_of_le_of_lt (zero_le i) hij) hj
  rw[hb,hb]
  by_cases i1:i=l
  ·rw[i1] at hij
   rw[if_pos i1,if_neg (ne_of_gt hij),if_pos ⟨hij,hj⟩]
   exact b _ (Nat.le_sub_one_of_lt hij) j0
  ·rw[if_neg i1]
   by_cases j1:j=l
   ·rw[j1] at hij
    rw[if_pos j1,if_neg fun c=>Nat.lt_asymm c.1 hij]
    exact a i hij
   ·rw[if_neg j1]
    by_cases i2:l<i∧i≤k
    ·rw[if_pos i2,if_pos ⟨lt_trans i2.1 hij,hj⟩]
     exact so _ _ (Nat.sub_lt_sub_right (lt_of_le_of_lt (zero_le l) i2.1) hij) j0
    ·rw[if_neg i2]
     by_cases j2:l<j∧j≤k
     ·rw[if_pos j2]
      exact so _ _ (lt_of_lt_of_le (lt_of_le_of_ne (le_of_not_lt fun c=>i2 ⟨c,Nat.le_trans (le_of_lt hij) hj⟩) i1) (Nat.le_sub_one_of_lt j2.1)) j0
     ·rw[if_neg j2]
      exact so _ _ hij (lt_of_lt_of_le (lt_of_le_of_ne (le_of_not_lt fun c=>j2 ⟨c,hj⟩) j1) hl)
theorem M0 (T:Tot n lt) (h1:1≤n):post n lt (kas_sort n) fun q=>Pm n q∧Xy lt q n:=by
 unfold kas_sort
 have hp:Pm n (List.toArray (List.range n)):=⟨by simp,by simp⟩
 refine XO (Xg ?_ (P6 T hp h1))
 rintro ⟨m,q⟩ ⟨a,b,c,d⟩
 dsimp only at a b c d ⊢
 by_cases e:m<n
 ·rw[if_pos e,Nat.max_eq_left a]
  exact Qv T (n-m) q m c (add_sub_of_le (le_of_lt e)) d
 ·rw[if_neg e]
  exact ⟨c,by rw[<-le_antisymm b (le_of_not_lt e)];exact d⟩
theorem T6 {α:Type} {cmp:Nat->Nat->(Bool->Shared->Prop)->Shared->Prop} {I:Shared->Prop} (hc:∀ i j C s,i<n->j<n->I s->(∀ s',I s'->C (lt i j) s')->cmp i j C s) {Q:α->Prop} {Q':α->Shared->Prop} (hQ:∀ a s,Q a->I s->Q' a s) :
  ∀ {t:KasT α} {s:Shared},post n lt t Q->I s->t.kasWp cmp Q' s
 | .ret a,s,x,i=>hQ a s x i
 | .ask i j k,s,⟨a,b,x⟩,y=>hc i j _ s a b y fun s' y'=>T6 hc hQ x y'
end
end
section
noncomputable def WH (C:Addr) (t:T3):AV:=mat C [.int t.1,.int t.2.1,.int t.2.2]
theorem UY {a b:T3}:ltT a b=true↔a.1<b.1∨(a.1=b.1∧(a.2.1<b.2.1∨(a.2.1=b.2.1∧a.2.2<b.2.2))):=by
 unfold ltT
 by_cases h:a.1=b.1
 ·rw[if_pos (beq_iff_eq.mpr h)]
  by_cases g:a.2.1=b.2.1
  ·rw[if_pos (beq_iff_eq.mpr g),decide_eq_true_eq]
   exact ⟨fun q=>.inr ⟨h,.inr ⟨g,q⟩⟩,fun q=>(q.resolve_left fun c=>Int.ne_of_lt c h).2.elim (fun c=>absurd g (Int.ne_of_lt c)) And.right⟩
  ·rw[if_neg (fun c=>g (beq_iff_eq.mp c)),decide_eq_true_eq]
   exact ⟨fun q=>.inr ⟨h,.inl q⟩,fun q=>(q.resolve_left fun c=>Int.ne_of_lt c h).2.resolve_right fun c=>g c.1⟩
 ·rw[if_neg (fun c=>h (beq_iff_eq.mp c)),decide_eq_true_eq]
  exact ⟨.inl,fun q=>q.resolve_right fun c=>h c.1⟩
theorem Rm (a:T3):ltT a a=false:=by
 rw[<-Bool.not_eq_true,UY]
 exact fun q=>q.elim (Int.lt_irrefl _) fun q=>q.2.elim (Int.lt_irrefl _) fun q=>Int.lt_irrefl _ q.2
theorem Kz {a b c:T3} (h1:ltT a b=true) (h2:ltT b c=true):ltT a c=true:=by
 rw[UY] at *
 rcases h1 with h1 | ⟨e1,h1⟩
 ·rcases h2 with h2 | ⟨e2,h2⟩
  ·exact .inl (Int.lt_trans h1 h2)
  ·exact .inl (e2▸h1)
 ·rcases h2 with h2 | ⟨e2,h2⟩
  ·exact .inl (e1▸h2)
  ·refine .inr ⟨e1.trans e2,?_⟩
   rcases h1 with h1 | ⟨g1,h1⟩
   ·rcases h2 with h2 | ⟨g2,h2⟩
    ·exact .inl (Int.lt_trans h1 h2)
    ·exact .inl (g2▸h1)
   ·rcases h2 with h2 | ⟨g2,h2⟩
    ·exact .inl (g1▸h2)
    ·exact .inr ⟨g1.trans g2,Int.lt_trans h1 h2⟩
theorem H0 {a b:T3} (hne:a≠b) (h:ltT a b=false):ltT b a=true:=by
 rw[<-Bool.not_eq_true,UY] at h
 rw[UY]
 rcases Int.lt_trichotomy a.1 b.1 with q | q | q
 ·exact absurd (.inl q) h
 ·refine .inr ⟨q.symm,?_⟩
  rcases Int.lt_trichotomy a.2.1 b.2.1 with r | r | r
  ·exact absurd (.inr ⟨q,.inl r⟩) h
  ·refine .inr ⟨r.symm,?_⟩
   rcases Int.lt_trichotomy a.2.2 b.2.2 with t | t | t
   ·exact absurd (.inr ⟨q,.inr ⟨r,t⟩⟩) h
   ·exact absurd (Prod.ext q (Prod.ext r t)) hne
   ·exact t
  ·exact .inl r
 ·exact .inl q
theorem M1 {a b:T3} (h1:ltT a b=true) (h2:ltT b a=true):a=b:=by
 have:=Kz h1 h2
 rw[Rm] at this;cases this
theorem M2 {l l':List T3} (hp:l.Perm l') (h:l.Pairwise fun a b=>ltT a b=true) (h':l'.Pairwise fun a b=>ltT a b=true):l=l' :=
 List.Perm.eq_of_pairwise (fun a b _ _ x y=>M1 x y) h h' hp
section
variable {prog:Program} {w:World} {F:Fn} {R:PH} {sig sig':List (Option AV)} {om om' om₁:Om} {tau:List (Value×AV)} {s:Shared} {K:Frag}
theorem K0 {V:PH} {C:Addr} {t:T3} {v:Value} (h:Rep V (WH C t) v):∃ a o n t1 t2 t3,v=.ref a∧V a=some o∧o.cls=.ref C∧o.data=.seq #[.int t.1 t1,.int t.2.1 t2,.int t.2.2 t3] n:=by
 unfold WH at h
 obtain ⟨a,d,vs,n,rfl,h1,r⟩:=UX h
 obtain ⟨v1,vs1,e1,r1,v2,vs2,e2,r2,v3,vs3,e3,r3,e4⟩:=r
 obtain ⟨t1,rfl⟩:=r1;obtain ⟨t2,rfl⟩:=r2;obtain ⟨t3,rfl⟩:=r3
 subst e4 e3 e2
 obtain ⟨vl⟩:=vs
 dsimp only at e1
 subst e1
 exact ⟨a,_,n,t1,t2,t3,rfl,h1,rfl,rfl⟩
theorem Fr {ts ts':List T3} (hp:ts'.Perm ts) (h':ts'.Pairwise fun a b=>ltT a b=true):Tot ts.length fun i j=>ltT (ts.getD i (0,0,0)) (ts.getD j (0,0,0)):=by
 have nd:ts.Nodup:=hp.nodup_iff.mp (by
  rw[List.nodup_iff_pairwise_ne]
  exact h'.imp fun {a b} hab e=>by subst e;rw[Rm] at hab;cases hab)
 refine ⟨fun i j k _ _ _=>Kz,fun i _=>Rm _,fun i j hi hj hne=>H0 fun e=>?_⟩
 have e1:ts.getD i (0,0,0)=ts[i]:=by simp[List.getD,hi]
 have e2:ts.getD j (0,0,0)=ts[j]:=by simp[List.getD,hj]
 rw[e1,e2] at e
 rw[List.nodup_iff_pairwise_ne,List.pairwise_iff_getElem] at nd
 rcases Nat.lt_or_gt_of_ne hne with l | l
 ·exact nd i j hi hj l e
 ·exact nd j i hj hi l e.symm
theorem Fs {ts ts':List T3} {q:Array Nat} (hp:ts'.Perm ts) (h':ts'.Pairwise fun a b=>ltT a b=true) (hq:Pm ts.length q) (so:Xy (fun i j=>ltT (ts.getD i (0,0,0)) (ts.getD j (0,0,0))) q ts.length) :
  q.toList.map (fun i=>ts.getD i (0,0,0))=ts':=by
 refine M2 ?_ ?_ h'
 ·refine List.Perm.trans (hq.perm.map _) (List.Perm.trans ?_ hp.symm)
  have:(List.range ts.length).map (fun i=>ts.getD i (0,0,0))=ts:=by
   apply List.ext_getElem (by simp)
   intro i h1 h2
   simp[List.getD,h2]
  rw[this]
 ·rw[List.pairwise_iff_getElem]
  intro i j hi hj hij
  simp only[length_map,length_toList] at hi hj
  rw[getElem_map,getElem_map]
  have:=so i j hij (by rw[<-hq.size];exact hj)
  have gi:g q i=q.toList[i]:=by unfold g;simp[Array.getD,hi]
  have gj:g q j=q.toList[j]:=by unfold g;simp[Array.getD,hj]
  rw[gi,gj] at this
  exact this
end
end
section
theorem T7:typeOf (.builtin "list.sort")=pure (.type "method_descriptor"):=by first | kernel_rfl | rfl
section
variable {prog:Program} {w:World} {F:Fn} {R:PH} {sig sig':List (Option AV)} {om om' om₁:Om} {tau:List (Value×AV)} {s:Shared} {K:Frag}
theorem OmUpd.via {om om':Om} {a:Addr} {P P' P₀:PH->Obj->Prop} (u:OmUpd om a P P' om'):∃ om₀,OmUpd om a P P₀ om₀∧OmUpd om₀ a P₀ P' om':=by
 induction u with
 | here=>exact ⟨_,.here,.here⟩
 | there _ ih=>obtain ⟨om₀,a1,a2⟩:=ih;exact ⟨_,.there a1,.there a2⟩
theorem P7 {ts ts':List T3} (hp:ts'.Perm ts) (h:ts.length<2):ts'=ts:=by
 have hl:=hp.length_eq
 cases ts with
 | nil=>exact List.length_eq_zero_iff.mp hl
 | cons x r =>
  have:r=[]:=List.length_eq_zero_iff.mp (by simp at h;lia)
  subst this
  cases ts' with
  | nil=>cases hl
  | cons y r' =>
   have:r'=[]:=List.length_eq_zero_iff.mp (by simp at hl;simpa using hl)
   subst this
   have:=hp.mem_iff (a:=y)
   simp only[mem_singleton,true_iff] at this
   rw[this]
theorem T8 {a:Addr} {l:List AV} (hm:(a,Zc l)∈om):Qi prog w F om (.ptr a) "sort" (.builtin "list.sort"):=fun R sig tau v s pl Q E st h=>by
 have h1:=st.top
 subst h1
 obtain ⟨vs,n,hl,r,e1⟩:=st.openList hm
 exact getMethod_list_of PyProof.Rows.slot_list_sort T7 hl.isList ⟨_,hl,rfl⟩ h
set_option maxHeartbeats 1000000 in
theorem Ft (ok:F.Ok) {C a:Addr} {ts ts':List T3} {P:AV->Om->Prop} (hk:Zo K F.G) (hc:Wm K C=true) (hi:findIn K (.ref C) "__lt__" = some (some (.builtin "tuple.__lt__"))) (hp:ts'.Perm ts) (hs:ts'.Pairwise fun a b=>ltT a b=true) (h64:ts.length<64)
  (u:OmUpd om a (Zc (ts.map (WH C))) (Zc (ts'.map (WH C))) om') (hP:P .none om'):OpX prog w F om (.builtin "list.sort") [.ptr a] P:=fun R sig tau vs s Q E hv st hq=>by
 obtain ⟨v,rfl,st⟩:=Wk hv st
 have h1:=st.top
 subst h1
 obtain ⟨vs,n,hl,r,e1⟩:=st.openList u.mem
 obtain ⟨vs⟩:=vs
 simp only[List.size_toArray,length_map] at e1
 have ho:s.heap.get? a=some (seqObj "list" vs.toArray n):=hl
 refine wpAny_call_entry PyProof.Rows.slot_list_sort ⟨_,ho,rfl⟩ PyProof.Rows.entry_list_sort ?_ (PyProof.Rows.args_list_sort _)
 rw[list_sort_plain]
 have x₀:Sta F R sig om ((vs.zip (ts.map (WH C)))++tau) s:=st.temp fun p hp'=>by
  rcases List.mem_append.mp hp' with q | q
  ·obtain ⟨i,hi',e'⟩:=getElem_of_mem q
   rw[getElem_zip] at e'
   subst e'
   simp only[List.length_zip,length_map] at hi'
   obtain ⟨v',hv',rv'⟩:=r.get (i:=i) (d:=(ts.map (WH C))[i]'(by simp;lia)) (getElem?_eq_getElem _)
   have:v'=vs[i]'(by lia):=by
    rw[show (vs.toArray.toList)[i]?=vs[i]? from rfl,getElem?_eq_getElem (by lia)] at hv'
    exact (Option.some.inj hv').symm
   subst this
   exact rv'
  ·exact st.temps p (mem_cons_of_mem _ q)
 refine wpAny_bind (listItems_at ho rfl ?_)
 have sl:vs.length≤sizeLine:=by rw[sizeLine_eq];lia
 refine wpAny_bind (listUpdate_at ho rfl ?_ (by rw[List.size_toArray];exact sl) (zero_le _))
 obtain ⟨c1,ho1⟩:∃ c1,(s.heap.update a (Obj.mapSeq fun _=>(#[]:Array Value))).get? a=some (seqObj "list" #[] c1):=⟨_,get?_update_seq ho fun _=>#[]⟩
 have hom:=u.via (P₀:=Zc [])
 obtain ⟨om₀,u1,u2⟩:=hom
 have x₁:=x₀.upd (tk:=s.toks) u1 (Heap.SameBut.update s.heap a (Obj.mapSeq fun _=>(#[]:Array Value))) ho1 fun V' _=>⟨#[],c1,rfl,Zn.nil⟩
 refine wpAny_bind (seqEpoch_at ho1 rfl ?_)
 refine wpAny_bind (wpAny_newTuple ?_ (by show vs.length≤_;exact sl))
 refine wpAny_bind (wpAny_newList ?_ (zero_le _))
 refine wpAny_holding ?_
 show wpAny (model prog w) _ _ _ E { s with heap:=((s.heap.update a (Obj.mapSeq fun _=>#[])).push (seqObj "tuple" vs.toArray 0)).push (seqObj "list" #[] 0) }
 have x₂:=(x₁.alloc (seqObj "tuple" vs.toArray 0)).alloc (seqObj "list" #[] 0)
 have ho2:(((s.heap.update a (Obj.mapSeq fun _=>(#[]:Array Value))).push (seqObj "tuple" vs.toArray 0)).push (seqObj "list" #[] 0)).get? a=some (seqObj "list" #[] c1):=Heap.get?_push_of_some _ (Heap.get?_push_of_some _ ho1)
 dsimp only
 have fin:∀ (out:List Value) (s':Shared),Zn (F.view R om₀ s'.heap) (ts'.map (WH C)) out->Sta F R sig om₀ ((vs.zip (ts.map (WH C)))++tau) s'->s'.heap.get? a=some (seqObj "list" #[] c1)->Q .none { s' with heap:=s'.heap.update a (Obj.mapSeq fun _=>out.toArray) }:=fun out s' ro x' ho'=>by
  obtain ⟨c2,hc2⟩:∃ c2,(s'.heap.update a (Obj.mapSeq fun _=>out.toArray)).get? a=some (seqObj "list" out.toArray c2):=⟨_,get?_update_seq ho' fun _=>out.toArray⟩
  have hsb:=Heap.SameBut.update s'.heap a (Obj.mapSeq fun _=>out.toArray)
  have kv:=Ym (F:=F) (R:=R) (om:=om₀) u2.inD hsb
  have x₃:=x'.upd (tk:=s'.toks) u2 hsb hc2 (Zc.upd (ro.mono kv))
  refine hq _ _ _ _ hP ((x₃.temp fun p hp'=>x₃.temps p (List.mem_append_right _ hp')).push Xj)
 have rl:∀ s',Sta F R sig om₀ ((vs.zip (ts.map (WH C)))++tau) s'->Zn (F.view R om₀ s'.heap) (ts.map (WH C)) vs:=fun s' x'=>Tl (by simp[e1]) fun p hp'=>x'.temps p (List.mem_append_left _ hp')
 by_cases h2:vs.toArray.size<2
 ·rw[if_pos h2,if_pos h2]
  refine wpAny_bind (wpAny_pure ?_)
  rw[StateT.run_pure]
  refine wpAny_bind (wpAny_pure ?_)
  dsimp only
  refine wpAny_bind (seqEpoch_at ho2 rfl ?_)
  refine wpAny_bind (listUpdate_at ho2 rfl ?_ (zero_le _) (by rw[Array.size_map];show (pairsOf vs).size≤_;rw[pairsOf_size];exact le_succ_of_le sl))
  simp only[bne_self_eq_false,Bool.false_eq_true,if_false]
  refine wpAny_pure ⟨_,rfl,?_⟩
  have e0:ts'=ts:=P7 hp (by rw[<-e1];simpa using h2)
  have:(arrOf (SortSt.mk' general' (vs.toArray.zip vs.toArray) #[] 7 none)).map (·.2)=vs.toArray:=by
   show (vs.toArray.zip vs.toArray).map (·.2)=vs.toArray
   apply Array.toList_inj.mp
   rw[Array.toList_map,Array.toList_zip]
   exact List.map_snd_zip (by simp)
  have q:=fin vs _ (e0▸rl _ x₂) x₂ ho2
  rw[this]
  exact q
 ·rw[if_neg h2,if_neg h2]
  rw[List.size_toArray] at h2
  have hlk:∀ s',Sta F R sig om₀ ((vs.zip (ts.map (WH C)))++tau) s'->∀ (i:Nat) (hi:i<ts.length),∃ x o nn t1 t2 t3,vs.getD i .none=.ref x∧s'.heap.get? x=some o∧o.cls=.ref C∧o.data=.seq #[.int (ts.getD i (0,0,0)).1 t1,.int (ts.getD i (0,0,0)).2.1 t2,.int (ts.getD i (0,0,0)).2.2 t3] nn:=fun s' x' i hi'=>by
   obtain ⟨v,hv,rv⟩:=(rl s' x').get (i:=i) (d:=WH C ts[i]) (by simp[hi'])
   obtain ⟨x,o,nn,t1,t2,t3,rfl,hV,hc1,hd1⟩:=K0 rv
   refine ⟨x,o,nn,t1,t2,t3,by simp[List.getD,hv],x'.vget hV,hc1,?_⟩
   rw[show ts.getD i (0,0,0)=ts[i] by simp[List.getD,hi']]
   exact hd1
  refine wpAny_bind (kas_kind (T:=.ref C) (by lia) (fun v hv=>?_) rfl (by simp) ?_)
  ·obtain ⟨i,hi',e'⟩:=getElem_of_mem hv
   obtain ⟨x,o,nn,t1,t2,t3,g1,g2,g3,g4⟩:=hlk _ x₂ i (by lia)
   rw[show vs.getD i .none=vs[i] by simp[List.getD,hi'],e'] at g1
   subst g1
   exact g3▸(Looks.ld g2).andThen .now
  have est:SortSt.mk' oneType' (vs.toArray.zip vs.toArray) #[] 7 none=kas_st oneType' (pairsOf vs) (List.toArray (List.range vs.length)):=by
   have e:=kas_range (pairsOf vs)
   rw[pairsOf_size] at e
   show SortSt.mk' oneType' (pairsOf vs) #[] 7 none=SortSt.mk' oneType' ((List.toArray (List.range vs.length)).map (kas_item (pairsOf vs))) #[] 7 none
   rw[e]
  rw[est]
  have Y:∀ s',Sta F R sig om₀ ((vs.zip (ts.map (WH C)))++tau) s'->TupCls (model prog w) s'.heap C:=fun s' x'=>XN (x'.inK hk) hc
  have run:=kas_runs (prog:=prog) (w:=w) (A:=F.A.in1) (E:=E) (κ:=oneType') (it:=pairsOf vs) (Q:=fun _ st' s'=>∃ p:Array Nat,p.size=vs.length∧arrOf st'=p.map (kas_item (pairsOf vs))∧failedOf st'=none∧(Pm ts.length p∧Xy (fun i j=>ltT (ts.getD i (0,0,0)) (ts.getD j (0,0,0))) p ts.length)∧Sta F R sig om₀ ((vs.zip (ts.map (WH C)))++tau) s'∧s'.heap.get? a=some (seqObj "list" #[] c1))
   (G:=fun p s'=>(Pm ts.length p∧Xy (fun i j=>ltT (ts.getD i (0,0,0)) (ts.getD j (0,0,0))) p ts.length)∧Sta F R sig om₀ ((vs.zip (ts.map (WH C)))++tau) s'∧s'.heap.get? a=some (seqObj "list" #[] c1))
   (s:={ s with heap:=((s.heap.update a (Obj.mapSeq fun _=>#[])).push (seqObj "tuple" vs.toArray 0)).push (seqObj "list" #[] 0) }) (n:=vs.length) (by lia) (by lia) (fun p' st' s' a1 a2 a3 a4=>⟨p',a1,a2,a3,a4⟩)
   (T6 (n:=ts.length) (lt:=fun i j=>ltT (ts.getD i (0,0,0)) (ts.getD j (0,0,0))) (I:=fun s'=>Sta F R sig om₀ ((vs.zip (ts.map (WH C)))++tau) s'∧s'.heap.get? a=some (seqObj "list" #[] c1)) (fun i j C' s' hi' hj' hI hC=>?_) (fun p s' hQ hI=>⟨hQ,hI⟩) (by rw[e1];exact M0 (Fr hp hs) (by lia)) ⟨x₂,ho2⟩)
  ·refine wpAny_bind (wpAny_mono run ?_ fun _ _ e=>e)
   rintro ⟨⟨⟩,st'⟩ s' ⟨p,hps,har,hf,⟨hpm,hso⟩,x',ho'⟩
   dsimp only
   have hout:(arrOf st').map (·.2)=List.toArray (p.toList.map fun i=>vs.getD i Value.none):=by
    apply Array.toList_inj.mp
    rw[har,Array.map_map,Array.toList_map]
    exact map_congr_left fun i _=>by show (kas_item (pairsOf vs) i).2=_;rw[kas_item_eq]
   rw[hout]
   refine wpAny_bind (seqEpoch_at ho' rfl ?_)
   refine wpAny_bind (listUpdate_at ho' rfl ?_ (zero_le _) (by rw[List.size_toArray,length_map,length_toList,hps];exact le_succ_of_le sl))
   rw[hf]
   simp only[bne_self_eq_false,Bool.false_eq_true,if_false]
   refine wpAny_pure ⟨_,rfl,fin _ s' ?_ x' ho'⟩
   have r':=rl s' x'
   rw[<-Fs hp hs hpm hso]
   refine Zn.of_forall (by simp) fun i d v h1 h2'=>?_
   simp only[getElem?_map,Option.map_eq_some_iff] at h1 h2'
   obtain ⟨_,⟨k,hk1,rfl⟩,rfl⟩:=h1
   obtain ⟨k',hk2,rfl⟩:=h2'
   rw[hk1] at hk2;cases hk2
   have hkl:k<ts.length:=by
    have:=hpm.perm.mem_iff.mp (mem_of_getElem? hk1)
    simpa using this
   obtain ⟨v',hv',rv'⟩:=r'.get (i:=k) (d:=WH C ts[k]) (by simp[hkl])
   rw[show vs.getD k .none=v' by simp[List.getD,hv'],show ts.getD k (0,0,0)=ts[k] by simp[List.getD,hkl]]
   exact rv'
  ·obtain ⟨x,o,nn,t1,t2,t3,g1,g2,g3,g4⟩:=hlk _ hI.1 i hi'
   obtain ⟨y,o',nn',u1,u2,u3,k1,k2,k3,k4⟩:=hlk _ hI.1 j hj'
   show wpAny _ _ (keyLt' oneType' (kas_item (pairsOf vs) i).1 (kas_item (pairsOf vs) j).1) _ _ s'
   rw[kas_item_eq,kas_item_eq]
   dsimp only
   rw[g1,k1]
   exact Fp (Tn ok (n:=1) (by decide)) (Y s' hI.1) (looks_findIn (hI.1.inK hk) hi) g2 g3 g4 k2 k3 k4 (hC _ hI)
end
end
section
theorem K1:builtinKind "tuple.__len__" = some .slot:=by decide +kernel
theorem M3:splitId "tuple.__len__" = some ("tuple", "__len__"):=by decide +kernel
section
variable {prog:Program} {w:World} {A:Around} {E:Value->Shared->Prop} {s:Shared} {C:Addr}
set_option maxRecDepth 100000 in
theorem H5 {x:Addr} {ox:Obj} {vs:Array Value} {n:Nat} {Q:Value->Shared->Prop} (Y:TupCls (model prog w) s.heap C) (hi:Looks (model prog w) s.heap (typeLookup (.ref C) "__len__") (some (.builtin "tuple.__len__")))
  (hx:s.heap.get? x=some ox) (hcx:ox.cls=.ref C) (hdx:ox.data=.seq vs n) (hfit:(vs.size:Int)<2 ^ 63) (h:Q (.int vs.size (s.toks+1)) { s with toks:=s.toks+1+1 }):wpAny (model prog w) A (call (.builtin "len") [.ref x]) Q E s:=by
 have q1:Looks (model prog w) s.heap (typeOf (.ref x)) (.ref C):=hcx▸(Looks.ld hx).andThen .now
 have sp:Looks (model prog w) s.heap (specialOf (.ref x) "__len__") (some (.builtin "tuple.__len__")):=q1.andThen hi
 have sub:Looks (model prog w) s.heap (isInstance (.ref x) (.type "tuple")) true:=q1.andThen Y.tup
 refine Calls.call_function_entry kind_len plain_len entry_len (args_len1 _) ?_
 unfold Builtin.«len»
 refine wpAny_bind (m:=oneArg "len" _) (wpAny_pure ?_)
 refine wpAny_bind (m:=callSpecial? (.ref x) (Str.ofString "__len__")) ?_
 unfold callSpecial?
 refine wpAny_bind (sp.here ?_)
 have hb:bindSpecial (.builtin "tuple.__len__") (.ref x)=pure (.builtin "tuple.__len__",[.ref x]):=F.slot_tuple_len.bind _
 dsimp only
 rw[hb]
 refine wpAny_holding (wpAny_bind (wpAny_pure (wpAny_bind (wpAny_call (codeAny_call_builtin F.slot_tuple_len.plain F.entry_tuple_len (@check_slot (model prog w) _ _ s "tuple.__len__" "tuple" "__len__" (.ref x) [] [] _ K1 M3 sub (F.args_tuple_len_1 _) ?_))))))
 show wpAny _ _ (do retInt (<-Builtin.Tuple.tupleItemsOf (.ref x)).size) _ _ s
 unfold Builtin.Tuple.tupleItemsOf
 refine wpAny_bind (wpAny_bind (wpAny_seqItems hx hdx (wpAny_pure ?_)))
 refine wpAny_bind (wpAny_mkInt (wpAny_pure (wpAny_pure ?_)))
 refine wpAny_bind (wpAny_holding (wpAny_pure ?_))
 refine wpAny_bind (wpAny_letGo ?_)
 show wpAny _ _ (if ((vs.size:Nat):Int)<0 then _ else _) _ _ _
 rw[if_neg (Int.not_lt.mpr (natCast_nonneg _))]
 show wpAny _ _ (if ((vs.size:Nat):Int)≥2 ^ 63 then _ else _) _ _ _
 rw[if_neg (Int.not_le.mpr hfit)]
 exact wpAny_bind (wpAny_mkInt (wpAny_pure ⟨_,rfl,h⟩))
end
section
variable {prog:Program} {w:World} {F:Fn} {om:Om} {K:Frag}
theorem M4 {C:Addr} {ds:List AV} (hk:Zo K F.G) (hc:Wm K C=true) (hi:findIn K (.ref C) "__len__" = some (some (.builtin "tuple.__len__"))) (hl:ds.length<2 ^ 62):OpC prog w F om (.builtin "len") [mat C ds] (.int ds.length):=fun R sig tau vs s Q E hv st h=>by
 obtain ⟨v,rfl,st⟩:=Wk hv st
 obtain ⟨a,d,vs,n,rfl,ho,r⟩:=UX st.top
 have e:=r.length
 rw[length_toList] at e
 refine H5 (XN (st.inK hk) hc) (looks_findIn (st.inK hk) hi) (st.vget ho) rfl rfl (by rw[e];exact Int.lt_of_lt_of_le (Int.ofNat_lt.mpr hl) (by decide)) ?_
 rw[e]
 exact h _ _ (st.pop.tok2.push ZR)
end
end
section
section
variable {prog:Program} {w:World} {A:Around} {s:Shared}
theorem Vk {R:Result->Shared->Prop} {a:Addr} {o:Obj} {fd:FuncData} {body:List Stmt} {vals:List Value} {binds:List (Str×Value)}
  (hroom:A.depth<recursionLimit) (ho:s.heap.get? a=some o) (hdata:o.data=.func fd) (hlim:s.heap.NoLimit) (hcd:s.heap.CodeRec fd.code fd.qualname)
  (hbody:fd.body=.stmts body) (hbind:Looks (model prog w) s.heap (bindArgs fd ⟨vals,[]⟩) binds) (hclo:fd.closure=[])
  (hkind:∀ x∈binds,fd.scope.names.lookup x.1=some .local∨(fd.scope.names.lookup x.1=some .cell∧((cellsFrom (s.heap.objs.size+1) fd.scope.names []).lookup x.1).isSome=true))
  (h:∀ s₁,InCallC s (callEnvC fd s.heap.objs.size a).locals (bindL (callEnvC fd s.heap.objs.size a).kindOf binds fun _=>none) (callEnvC fd s.heap.objs.size a).cells
    (bindC (callEnvC fd s.heap.objs.size a).kindOf binds fun _=>none) s₁ ->
   wpAny (model prog w) (A.deeper (callEnvC fd s.heap.objs.size a)) (execs body (callEnvC fd s.heap.objs.size a)) (fun f s'=>R (.ok (.ret (match f with | .ret v=>v | _=>.none))) s')
    (fun e s'=>wpAny (model prog w) (A.deeper (callEnvC fd s.heap.objs.size a)) («leaving» (callEnvC fd s.heap.objs.size a) e) (fun _ s''=>R (.error e) s'') (fun e' s''=>R (.error e') s'') s') s₁)
  (hco:fd.scope.isCoroutine=false:=by rfl) (hgen:fd.scope.isGenerator=false:=by rfl) (hk:fd.scope.kind=.function:=by rfl) :
  codeAny (model prog w) A (.call (.ref a) ⟨vals,[]⟩) R s:=by
 refine codeAny_call_function hroom ho hdata hco hgen hbody hcd ?_
 rw[hclo]
 refine hbind.here (wpAny_newFunctionEnv_cells hk hkind fun env he s' x=>?_)
 subst he
 exact ⟨hlim.keeps x.toInCall.keep,codeAny_func (h s' x)⟩
end
section
variable {prog:Program} {w:World} {F:Fn} {R:PH} {sig sig':List (Option AV)} {om om':Om} {tau:List (Value×AV)} {s:Shared}
set_option tactic.hygienic true in
theorem Qw {K:Frag} {fd:FuncData} {body:List Stmt} {f:Addr} {ps:List Str} {ds dd:List AV} {dv:List Value} {om₁:Om} {P:AV->Om->Prop} {n:Nat} (ok:DefOk fd ps) (hat:∀ V,Zo K V->DefAt fd body f V) (hlen:ps.length=(ds++dd).length) (hdv:∀ V,Zn V dd dv)
  (hbind:∀ (h:Heap) (vs:List Value),K.In h->vs.length=ds.length->Looks (model prog w) h (bindArgs fd ⟨vs,[]⟩) (ps.zip (vs++dv)))
  (h:∀ (A:Around) (G:PH) (s:Shared),Zo K G->Room (A.deeper (callEnvC fd s.heap.objs.size f)) n->(Zd fd f A G s).Ok->Ex prog w (Zd fd f A G s) (YO fd.scope.names ps (ds++dd)) om₁ body fun o=>match o with | .ret d' _ om'=>P d' om'∧(∀ b∈om'.map (·.1),b∈om₁.map (·.1)∨s.heap.objs.size≤b) | .nxt _ om'=>P .none om'∧(∀ b∈om'.map (·.1),b∈om₁.map (·.1)∨s.heap.objs.size≤b) | _=>False)
  (hco:fd.scope.isCoroutine=false:=by rfl) (hgen:fd.scope.isGenerator=false:=by rfl):VH prog w (Zo K) (n+1) (.ref f) ds om₁ P:=fun A G s vs Q E hr hB hG r nd hO op hq=>by
 obtain ⟨⟨o,ho,hd⟩,⟨c,oc,cvs,t,hc1,hc2,hc3,hc4⟩,⟨ol,es,ep,hl1,hl2,hl3,hl4⟩,hbody,hclo⟩:=hat G hB
 have hvl:=r.length
 refine (Vk (fd:=fd) hr.lim (hG _ _ ho) hd ⟨_,⟨ol,es,ep,hG _ _ hl1,hl2,hl3,fun _=>rfl⟩,hl4⟩ ⟨c,oc,cvs,t,hc1,hG _ _ hc2,hc3,hc4⟩ hbody (hbind s.heap vs (fun a o e=>hG _ _ (hB a o e)) hvl) hclo (fun x hx=>?_) (fun s₁ x=>?_) hco hgen ok.kind)
 ·have hx':x.1∈ps:=by
   obtain ⟨i,hi,e⟩:=getElem_of_mem hx
   rw[getElem_zip] at e
   rw[<-e]
   exact getElem_mem _
  rcases ok.pk x.1 hx' with q | q
  ·exact .inl q
  ·exact .inr ⟨q,cellsFrom_some fd.scope.names _ [] (.inl q)⟩
 ·have fok:=LU ok hr x.apart x.above (G:=G)
  have st:=Tw (A:=A) ok hG (r.append (hdv G)) nd hO op hlen x
  have fin:∀ (v:Value) (d:AV) (sig':List (Option AV)) (om':Om) (s':Shared),P d om'->(∀ b∈om'.map (·.1),b∈om₁.map (·.1)∨s.heap.objs.size≤b)->Sta (Zd fd f A G s) (VB G om₁ s.heap) sig' om' [(v,d)] s'->Q v s':=fun v d sig' om' s' hPd hnew st'=>by
   have hsame:=st'.same
   obtain ⟨h',tk,rfl⟩:=hsame
   have kv:((Zd fd f A G s).view (VB G om₁ s.heap) om' h').le (UK G s.heap.objs.size om' h'):=fun b ob e=>by
    have hv:=st'.vget e
    obtain ⟨c1,c2,c3⟩:=ZN e
    unfold UK
    rw[if_neg (fun q=>c1 (by unfold Fn.D;rw[mem_cons,mem_append];exact .inr (.inr q)))]
    rcases c3 with ⟨q,z⟩ | ⟨q,z⟩
    ·rw[if_pos (show b<s.heap.objs.size from q)];exact z
    ·rw[if_neg (show ¬ b<s.heap.objs.size from q)];exact z
   have ndo:=st'.nodup
   unfold Fn.D at ndo
   rw[nodup_cons,nodup_append] at ndo
   refine hq v d om' h' tk hPd ndo.2.2.1 hnew (fun b ob hb e=>?_) (fun p hp=>?_) (st'.top.mono kv)
   ·cases q:G b with
    | some og =>
     have:=hG _ _ q
     rw[e] at this;cases this
     exact (st'.g b _ q).2.2.1
    | none=>exact (st'.rf b ob (NC q hb e)).2
   ·obtain ⟨o,ho,hP⟩:=st'.opens p hp
    exact ⟨o,ho,fun V' hV=>hP V' (kv.trans hV)⟩
  refine h A G s hB (hr.deeper _) fok (VB G om₁ s.heap) [] s₁ _ _ st fun out fl s' ho hl=>?_
  cases out<;>cases fl<;>first | exact False.elim hl | change Sta _ _ _ _ _ _ at hl
  ·rename_i sig' om'
   exact fin _ _ sig' om' s' ho.1 ho.2 (hl.push Xj)
  ·exact ho.elim
  ·exact ho.elim
  ·rename_i d' sig' om' v
   exact fin v d' sig' om' s' ho.1 ho.2 hl
end
end
section
section
variable {prog:Program} {w:World} {F:Fn} {R:PH} {sig sig':List (Option AV)} {om om':Om} {tau:List (Value×AV)} {s:Shared}
theorem H6 (ok:F.Ok) {target iter:Expr} {body:List Stmt} {pos:Pos} {PE:AV->Om->Prop} {P:Out->Prop} (h₁:EvX prog w F sig om iter PE)
  (hr:∀ d om₀,PE d om₀->∃ (xs:List AV) (Inv:Nat->List (Option AV)->Om->Prop),Itr prog w F om₀ d xs∧Inv 0 sig om₀ ∧
   (∀ (i:Nat) (x:AV) sig om,xs[i]?=some x->Inv i sig om->∃ sig₁,As prog w F om target x sig sig₁∧Ex prog w F sig₁ om body fun o=>match o with
    | .nxt sig' om'=>Inv (i+1) sig' om'
    | .cnt sig' om'=>Inv (i+1) sig' om'
    | .brk sig' om'=>P (.nxt sig' om')
    | .ret d sig' om'=>P (.ret d sig' om')) ∧
   (∀ sig om,Inv xs.length sig om->P (.nxt sig om)))
  (hs:∀ x,foldedSetIterable iter F.env x=pure x):Ex1 prog w F sig om (.For target iter body [] pos) P:=fun R tau s Q E st hq =>
 wpAny_For (h₁ R tau s _ _ st fun v d om₀ s₁ hpe st₁=>by
  obtain ⟨xs,Inv,it,h0,turn,done⟩:=hr d om₀ hpe
  exact RU ok it Inv h0 turn done st₁ hq) hs
end
end
section
section
variable {prog:Program} {w:World} {A:Around} {K:Type} [DecidableEq K] {knd:KeyKind prog w K}
end
end
section
theorem Sy:∀ {l L:List Int},l.Nodup->(∀ k∈l,k∈L)->L.length≤l.length->L.Perm l
 | [],L,_,_,h=>by rw[List.length_eq_zero_iff.mp (Nat.le_zero.mp h)]
 | a::l,L,hn,hs,h=>by
  have hn:=List.nodup_cons.mp hn
  have ha:a∈L:=hs a mem_cons_self
  have p:=List.perm_cons_erase ha
  refine p.trans (List.Perm.cons a (Sy hn.2 (fun k hk=>?_) ?_))
  ·exact (List.mem_erase_of_ne (fun e=>hn.1 (by rw[<-e];exact hk))).mpr (hs k (mem_cons_of_mem _ hk))
  ·rw[List.length_erase_of_mem ha]
   rw[length_cons] at h
   exact Nat.sub_le_of_le_add h
section
variable {prog:Program} {w:World} {F:Fn} {R:PH} {sig sig':List (Option AV)} {om om' om₁:Om} {tau:List (Value×AV)} {s:Shared}
theorem Qx:∀ {es:List DictEntry},(∀ e∈es,∃ k,(intKind prog w).is k e.key=true∧e.hash=(intKind prog w).hash k)->∃ kvs,Pairs (intKind prog w) es kvs
 | [],_=>⟨[],.nil⟩
 | e::es,h=>by
  obtain ⟨k,hk,_⟩:=h e mem_cons_self
  obtain ⟨kvs,hp⟩:=Qx fun e he=>h e (mem_cons_of_mem _ he)
  exact ⟨(k,e.val)::kvs,.cons hk rfl hp⟩
theorem T9:∀ {kvs:List (Int×Value)} {i:Nat} {k:Int} {x:Value},(kvs.map (·.1)).Nodup->kvs[i]?=some (k,x)->valueAt kvs k=some x
 | [],i,k,x,_,h=>by cases h
 | (a,y)::kvs,0,k,x,_,h=>by
  cases h
  unfold valueAt
  rw[List.find?_cons_of_pos (by simp)]
  rfl
 | (a,y)::kvs,i+1,k,x,hn,h=>by
  have hn:=List.nodup_cons.mp hn
  have hk:k∈kvs.map (·.1):=List.mem_map.mpr ⟨(k,x),mem_of_getElem? h,rfl⟩
  have ih:=T9 hn.2 (show kvs[i]?=some (k,x) from h)
  unfold valueAt at ih ⊢
  rw[List.find?_cons_of_neg (by simpa using fun e:a=k=>hn.1 (e▸hk))]
  exact ih
theorem M5 {V:PH} {h:Heap} {D:Addr} {oD:Obj} {f:Int->Option AV} {m:Nat} {l:List Int} (ho:h.get? D=some oD) (hd:Z7 f m V oD) (hl:l.Nodup) (hlm:m≤l.length) (hf:∀ k,k∈l->∃ d,f k=some d) :
  ∃ kvs ep,h.DictAt (intKind prog w) D kvs ep∧(kvs.map (·.1)).Perm l∧∀ V',Z7 f m V' oD->∀ (i:Nat) (k:Int) (x:Value) (d:AV),kvs[i]?=some (k,x)->f k=some d->Rep V' d x:=by
 obtain ⟨h1,es,ep,h2,h3,h4,h5⟩:=hd
 have hk:KeysOf (intKind prog w) es:=fun e he=>by
  obtain ⟨k,t,e1,e2⟩:=h3 e he
  exact ⟨k,by rw[e1];show Value.isInt k (.int k t)=true;simp[Value.isInt],e2⟩
 obtain ⟨kvs,hp⟩:=Qx (prog:=prog) (w:=w) (es:=es.toList) fun e he=>hk e (by simpa using he)
 have hfind:∀ k,findBy (intKind prog w).is es k=valueAt kvs k:=fun k=>by
  rw[<-hp.find k]
  unfold findBy
  rw[<-Array.find?_toList]
 have hmem:∀ k∈l,k∈kvs.map (·.1):=fun k hk'=>by
  obtain ⟨d,e⟩:=hf k hk'
  have:=h5 k
  rw[e] at this
  obtain ⟨x,e',_⟩:=this
  rw[show findBy Value.isInt es k=findBy (intKind prog w).is es k from rfl,hfind k] at e'
  unfold valueAt at e'
  rw[Option.map_eq_some_iff] at e'
  obtain ⟨kv,q,_⟩:=e'
  have q1:=List.find?_some q
  have q2:=List.mem_of_find?_eq_some q
  exact List.mem_map.mpr ⟨kv,q2,of_decide_eq_true q1⟩
 have hperm:(kvs.map (·.1)).Perm l:=Sy hl hmem (by
  rw[length_map,<-hp.length,length_toList];exact Nat.le_trans h4 hlm)
 have hnd:(kvs.map (·.1)).Nodup:=hperm.nodup_iff.mpr hl
 refine ⟨kvs,ep,⟨oD,es,ho,h1,h2,hk,hp,hnd⟩,hperm,fun V' hd' i k x d hi hfk=>?_⟩
 obtain ⟨_,es',ep',h2',_,_,h5'⟩:=hd'
 rw[h2] at h2'
 cases h2'
 have:=h5' k
 rw[hfk] at this
 obtain ⟨x',e',r⟩:=this
 rw[show findBy Value.isInt es k=findBy (intKind prog w).is es k from rfl,hfind k] at e'
 rw[T9 hnd hi] at e'
 cases e'
 exact r
end
end
section
section
variable {prog:Program} {w:World} {F:Fn} {R:PH} {sig sig':List (Option AV)} {om om' om₁:Om} {tau:List (Value×AV)} {s:Shared}
theorem Sz {k:Int} {key:Value} (h:Value.isInt k key=true):∃ t,key=.int k t:=by
 cases key<;>simp[Value.isInt] at h
 exact ⟨_,by rw[h]⟩
end
end
section
noncomputable def Sub:List (Option AV)->List (Option AV)->Prop
 | [],_=>True
 | none::r,_::t=>Sub r t
 | none::r,[]=>Sub r []
 | some d::r,o::t=>o=some d∧Sub r t
 | some _::_,[]=>False
theorem Sub.out:∀ {a b:List (Option AV)},Sub a b->∀ (k:Nat) d,a[k]?=some (some d)->b[k]?=some (some d)
 | [],_,_,k,d,e=>nomatch (show none=some (some d) from e)
 | none::r,_::t,h,0,d,e=>nomatch (Option.some.inj e)
 | none::r,_::t,h,k+1,d,e=>Sub.out (a:=r) (b:=t) h k d e
 | none::r,[],h,0,d,e=>nomatch (Option.some.inj e)
 | none::r,[],h,k+1,d,e=>nomatch (show none=some (some d) from Sub.out (a:=r) (b:=[]) h k d e)
 | some d'::r,o::t,h,0,d,e=>by cases Option.some.inj (Option.some.inj e);exact congrArg some h.1
 | some d'::r,o::t,h,k+1,d,e=>Sub.out (a:=r) (b:=t) h.2 k d e
theorem Sub.refl:∀ {a:List (Option AV)},Sub a a
 | []=>trivial
 | none::r=>Sub.refl (a:=r)
 | some _::r=>⟨rfl,Sub.refl (a:=r)⟩
section
variable {prog:Program} {w:World} {F:Fn} {R:PH} {sig sig' sig₀:List (Option AV)} {om om':Om} {tau:List (Value×AV)} {s:Shared} {K:Frag}
theorem Sta.forget (x:Sta F R sig om tau s) (h:Sub sig₀ sig):Sta F R sig₀ om tau s :=
 ⟨x.same,x.nodup,x.g,x.rf,x.cells,x.opens,x.temps,let ⟨m,hm,sl⟩:=x.slots;⟨m,hm,fun k y kind d h1 h2=>sl k y kind d h1 (h.out k d h2)⟩⟩
theorem Fu {sts:List Stmt} {P:Out->Prop} (h:Sub sig₀ sig) (e:Ex prog w F sig₀ om sts P):Ex prog w F sig om sts P:=fun R tau s Q E st hq=>e R tau s Q E (st.forget h) hq
theorem P8 {t:Expr} {d:AV} (h:Sub sig₀ sig) (e:As prog w F om t d sig₀ sig'):As prog w F om t d sig sig':=fun R tau v s Q E st hq=>e R tau v s Q E (st.forget h) hq
noncomputable def K2:Out->Out->Prop
 | .nxt s o,.nxt s' o'=>Sub s s'∧o=o'
 | .brk s o,.brk s' o'=>Sub s s'∧o=o'
 | .cnt s o,.cnt s' o'=>Sub s s'∧o=o'
 | .ret d s o,.ret d' s' o'=>d=d'∧Sub s s'∧o=o'
 | _,_=>False
theorem M6 {o o':Out} {f:Flow} (h:K2 o o') (l:Sq F R tau o' f s):Sq F R tau o f s:=by
 cases o<;>cases o'<;>(try exact False.elim h)<;>cases f<;>(try exact False.elim l)
 ·obtain ⟨h,rfl⟩:=h;exact Sta.forget l h
 ·obtain ⟨h,rfl⟩:=h;exact Sta.forget l h
 ·obtain ⟨h,rfl⟩:=h;exact Sta.forget l h
 ·obtain ⟨rfl,h,rfl⟩:=h;exact Sta.forget l h
theorem NJ {st:Stmt} {P P':Out->Prop} (h:Ex1 prog w F sig om st P') (k:∀ o,P' o->∃ o₀,P o₀∧K2 o₀ o):Ex1 prog w F sig om st P:=fun R tau s Q E x hq =>
 h R tau s Q E x fun o f s' ho hl=>by
  obtain ⟨o₀,h1,h2⟩:=k o ho
  exact hq o₀ f s' h1 (M6 h2 hl)
theorem YS (ok:F.Ok) {target iter:Expr} {body:List Stmt} {pos:Pos} {d:AV} {xs:List AV} {P:Out->Prop} (h₁:Ev prog w F sig om iter d) (it:Itr prog w F om d xs) (Inv:Nat->List (Option AV)->Om->Prop) (h0:∃ sig₀,Sub sig₀ sig∧Inv 0 sig₀ om)
  (turn:∀ (i:Nat) (x:AV) sig om,xs[i]?=some x->Inv i sig om->∃ sig₁,As prog w F om target x sig sig₁∧Ex prog w F sig₁ om body fun o=>match o with
   | .nxt sig' om'=>∃ sig₀,Sub sig₀ sig'∧Inv (i+1) sig₀ om'
   | .cnt sig' om'=>∃ sig₀,Sub sig₀ sig'∧Inv (i+1) sig₀ om'
   | .brk sig' om'=>∃ sig₀,Sub sig₀ sig'∧P (.nxt sig₀ om')
   | .ret d sig' om'=>P (.ret d sig' om'))
  (done:∀ sig om,Inv xs.length sig om->P (.nxt sig om))
  (hs:∀ x,foldedSetIterable iter F.env x=pure x:=by intro _;rfl):Ex1 prog w F sig om (.For target iter body [] pos) P:=by
 refine NJ (P':=fun o=>match o with | .nxt sig om=>∃ sig₀,Sub sig₀ sig∧P (.nxt sig₀ om) | o=>P o) (ex_for ok h₁ it (fun i sig om=>∃ sig₀,Sub sig₀ sig∧Inv i sig₀ om) h0 (fun i x sig om hx hI=>?_) (fun sig om ⟨sig₀,h1,h2⟩=>⟨sig₀,h1,done _ _ h2⟩) hs) fun o ho=>?_
 ·obtain ⟨sig₀,hs,hI⟩:=hI
  obtain ⟨sig₁,h1,h2⟩:=turn i x sig₀ om hx hI
  refine ⟨sig₁,P8 hs h1,N2 h2 fun o ho=>?_⟩
  cases o<;>exact ho
 ·cases o with
  | nxt sig om=>obtain ⟨sig₀,h1,h2⟩:=ho;exact ⟨.nxt sig₀ om,h2,h1,rfl⟩
  | brk sig om=>exact ⟨_,ho,Sub.refl,rfl⟩
  | cnt sig om=>exact ⟨_,ho,Sub.refl,rfl⟩
  | ret d sig om=>exact ⟨_,ho,rfl,Sub.refl,rfl⟩
theorem XQ {test:Expr} {body:List Stmt} {pos:Pos} {P:Out->Prop} (Inv:Nat->List (Option AV)->Om->Prop) (n:Nat) (h0:∃ sig₀,Sub sig₀ sig∧Inv n sig₀ om)
  (turn:∀ n sig om,Inv n sig om->∃ b,Tst prog w F sig om test b∧(b=false->P (.nxt sig om))∧(b=true->Ex prog w F sig om body fun o=>match o with
   | .nxt sig' om'=>∃ m,m<n∧∃ sig₀,Sub sig₀ sig'∧Inv m sig₀ om'
   | .cnt sig' om'=>∃ m,m<n∧∃ sig₀,Sub sig₀ sig'∧Inv m sig₀ om'
   | .brk sig' om'=>∃ sig₀,Sub sig₀ sig'∧P (.nxt sig₀ om')
   | .ret d sig' om'=>P (.ret d sig' om'))):Ex1 prog w F sig om (.While test body [] pos) P:=fun R tau s Q E st hq=>by
 refine wpAny_While (codeAny_whileLoop (fun n s'=>∃ sig om,Inv n sig om∧Sta F R sig om tau s') (fun n s' hI=>?_) n (let ⟨sig₀,h1,h2⟩:=h0;⟨sig₀,om,h2,st.forget h1⟩))
 obtain ⟨sig,om,inv,st⟩:=hI
 obtain ⟨b,ht,hf,htr⟩:=turn n sig om inv
 refine ht R tau s' _ _ st fun s₂ st₂=>?_
 cases b with
 | false =>
  rw[if_neg Bool.false_ne_true]
  exact wpAny_execs_nil (hq (.nxt sig om) .next _ (hf rfl) st₂)
 | true =>
  rw[if_pos rfl]
  refine htr rfl R tau s₂ _ _ st₂ fun out f s₄ hout hl=>?_
  cases out<;>cases f<;>first | exact False.elim hl | change Sta _ _ _ _ _ _ at hl
  ·obtain ⟨m,hm,sig₀,h1,hi⟩:=hout;exact ⟨m,hm,_,_,hi,hl.forget h1⟩
  ·obtain ⟨sig₀,h1,hi⟩:=hout;exact hq (.nxt _ _) .next _ hi (hl.forget h1)
  ·obtain ⟨m,hm,sig₀,h1,hi⟩:=hout;exact ⟨m,hm,_,_,hi,hl.forget h1⟩
  ·exact hq (.ret _ _ _) (.ret _) _ hout hl
theorem GL (ok:F.Ok) {x:Str} {pos:Pos} (k:Nat) {kind:NameKind} {d:AV} (e:F.names[k]?=some (x,kind)) (hd:((x==("__debug__" : Str)) || (x==("__classdict__" : Str)))=false) (hs:sig[k]?=some (some d)):Ev prog w F sig om (.Name x pos) d :=
 Ny ok (At.of ok e hd) hs
theorem Fv (ok:F.Ok) {x:Str} {pos:Pos} (k:Nat) {v:Value} (e:F.names[k]?=some (x,.globalImplicit)) (hd:((x==("__debug__" : Str)) || (x==("__classdict__" : Str)))=false) (g:Glo F x v):Ev prog w F sig om (.Name x pos) (.raw fun _ u=>u=v) :=
 Nz ok (At.of ok e hd) g
theorem VJ (hk:Zo K F.G) (hg:F.env.globals=mainGlobals) (h1:nsOkIn K mainGlobals=true) {x:Str} {v:Value} (h2:nsIn K mainGlobals x=some (some v)):Glo F x v:=fun h hG=>by
 have X:K.In h:=fun a o e=>hG _ _ (hk a o e)
 rw[hg]
 have N:h.Ns mainGlobals (h.nsMap mainGlobals):=.of_isNs (isNs_of_in X h1)
 exact ⟨_,N,.inl (mg_of X N h2)⟩
noncomputable def BS (o:Obj):Array DictEntry:=match o.data with | .dict es _=>es | _=>#[]
noncomputable def A3 (o:Obj):Nat:=match o.data with | .dict _ n=>n | _=>0
noncomputable def GM (K:Frag):Prop:=nsOkIn K builtinsNs=true∧(K.lookup builtinsNs).map (·.data)=some (.dict (BS ((K.lookup builtinsNs).getD default)) (A3 ((K.lookup builtinsNs).getD default)))
theorem Xz (hk:Zo K F.G) (hg:F.env.globals=mainGlobals) (hb:F.env.builtins=builtinsNs) (h1:nsOkIn K mainGlobals=true) (h3:GM K) {x:Str} {v:Value} (h2:nsIn K mainGlobals x=some none) (h4:nsFind (BS ((K.lookup builtinsNs).getD default)) x=some v):Glo F x v:=fun h hG=>by
 have X:K.In h:=fun a o e=>hG _ _ (hk a o e)
 rw[hg,hb]
 have N:h.Ns mainGlobals (h.nsMap mainGlobals):=.of_isNs (isNs_of_in X h1)
 obtain ⟨h3,h5⟩:=h3
 have N':h.Ns builtinsNs (h.nsMap builtinsNs):=.of_isNs (isNs_of_in X h3)
 obtain ⟨o',q1,q2⟩:=Option.map_eq_some_iff.mp h5
 obtain ⟨o,es,ep,ho,hd,hs,hf⟩:=id N'
 refine ⟨_,N,.inr ⟨ns_none_of X N h2,_,N',?_⟩⟩
 cases Option.some.inj (ho.symm.trans (X _ _ q1))
 rw[<-hf,<-h4,(Data.dict.inj (hd.symm.trans q2)).1]
noncomputable def XW (o:Obj):FuncData:=match o.data with | .func fd=>fd | _=>{ (default:FuncData) with }
noncomputable def XE (K:Frag) (f:Addr) (fd:FuncData):Prop:=∃ o c oc vs t,K.lookup f=some o∧o.data=.func fd∧fd.code=.ref c∧K.lookup c=some oc∧oc.data=.fields vs∧vs[1]?=some (.str fd.qualname t)
noncomputable def P9 (K:Frag):Prop:=∃ o es ep,K.lookup cStatics=some o∧o.data=.dict es ep∧StrKeys es∧nsFind es "sys.recursionlimit" = none
theorem Ye {f:Addr} {fd:FuncData} {body:List Stmt} {V:PH} (h:Zo K V) (d:XE K f fd) (t:P9 K) (hb:fd.body=.stmts body) (hc:fd.closure=[]):DefAt fd body f V:=by
 obtain ⟨o,c,oc,vs,t',h1,h2,h3,h4,h5,h6⟩:=d
 obtain ⟨ol,es,ep,g1,g2,g3,g4⟩:=t
 exact ⟨⟨o,h _ _ h1,h2⟩,⟨c,oc,vs,t',h3,h _ _ h4,h5,h6⟩,⟨ol,es,ep,h _ _ g1,g2,g3,g4⟩,hb,hc⟩
theorem Yg {fd:FuncData} {ps:List Str} (h1:fd.scope.kind=.function) (h2:(fd.scope.names.map (·.1)).Nodup) (h3:fd.scope.names.all (fun y=>y.2 != .free)=true) (h4:ps.Nodup)
  (h5:ps.all (fun x=>fd.scope.names.lookup x==some .local || fd.scope.names.lookup x==some .cell)=true):DefOk fd ps :=
 ⟨h1,h2,fun y hy=>by have:=List.all_eq_true.mp h3 y hy;simpa using this,h4,fun x hx=>by have:=List.all_eq_true.mp h5 x hx;simpa using this⟩
noncomputable def cOf (fd:FuncData):Addr:=match fd.code with | .ref c=>c | _=>0
noncomputable def Fw (o:Obj):Array Value:=match o.data with | .fields vs=>vs | _=>#[]
noncomputable def A4 (v:Option Value):Tok:=match v with | some (.str _ t)=>t | _=>0
theorem Yh {f:Addr} (o:Obj) (h1:K.lookup f=some o) (h2:o.data=.func (XW o))
  (h3:((XW o).code,(K.lookup (cOf (XW o))).map (·.data),(Fw ((K.lookup (cOf (XW o))).getD default))[1]?)=(.ref (cOf (XW o)),some (.fields (Fw ((K.lookup (cOf (XW o))).getD default))),some (.str (XW o).qualname (A4 (Fw ((K.lookup (cOf (XW o))).getD default))[1]?)))):XE K f (XW o):=by
 obtain ⟨e1,e2⟩:=Prod.mk.inj h3
 obtain ⟨e2,e3⟩:=Prod.mk.inj e2
 obtain ⟨oc,q1,q2⟩:=Option.map_eq_some_iff.mp e2
 exact ⟨o,_,oc,_,_,h1,h2,e1,q1,q2,e3⟩
theorem M7 (o:Obj) {es:Array DictEntry} {ep:Nat} (h1:K.lookup cStatics=some o) (h2:o.data=.dict es ep) (h3:es.all (fun e=>match e.key with | .str _ _=>true | _=>false)=true) (h4:nsFind es "sys.recursionlimit" = none):P9 K :=
 ⟨o,es,ep,h1,h2,(show StrKeys es from fun e he=>by
  rw[Array.all_eq_true_iff_forall_mem] at h3
  have h:=h3 e he
  cases q:e.key<;>simp only[q,Bool.false_eq_true] at h
  exact ⟨_,_,rfl⟩),h4⟩
theorem Zt {e:Expr} {d d':AV} (h:Ev prog w F sig om e d) (q:d=d'):Ev prog w F sig om e d':=q▸h
theorem ZS {e:Expr} {d d':Bool} (h:Tst prog w F sig om e d) (q:d=d'):Tst prog w F sig om e d':=q▸h
end
end
section
noncomputable abbrev il (l:List Int):AV:=.lst (l.map .int)
theorem Rn {a b:Int} {l r:List Int}:((a::l)==(b::r))=((a==b)&&(l==r)):=rfl
theorem NK:∀ {a b:List Int},a.length=b.length->CmpL 0 (a.map .int) (b.map .int) (a==b)
 | [],[],_=>.nil
 | x::a,y::b,h=>by
  rw[Rn]
  exact .cons (.int x y) (NK (by simpa using h))
 | [],_::_,h=>by cases h
 | _::_,[],h=>by cases h
theorem Ro {a b:List Int}:Cmp 1 (il a) (il b) (a==b):=by
 by_cases h:a.length=b.length
 ·exact .lst (NK h)
 ·have:(a==b)=false:=by simp only[beq_eq_false_iff_ne,ne_eq];rintro rfl;exact h rfl
  rw[this]
  exact .len (by simpa using h)
section
variable {prog:Program} {w:World} {F:Fn} {R:PH} {sig sig' sig₀:List (Option AV)} {om om':Om} {tau:List (Value×AV)} {s:Shared} {K:Frag}
theorem Qy (ok:F.Ok) {a b:List Int}:Op2 prog w F om (compareOp .NotEq) (il a) (il b) (.bool (a != b)):=RQ ok Ro
theorem S0 (ok:F.Ok) {a:List Int}:Op2 prog w F om (compareOp .NotEq) (il a) (.lst []) (.bool (a != [])):=RQ ok (Ro (b:=[]))
theorem Xh (ok:F.Ok) {a b:List Int} (hsz:a.length+b.length≤sizeLine):Op2 prog w F om (binaryOp .Add) (il a) (il b) (il (a++b)):=by
 have:=LL (prog:=prog) (w:=w) (om:=om) ok (l:=a.map .int) (l':=b.map .int) (by simpa using hsz)
 rwa [<-map_append] at this
theorem Qz {l:List Int} (hl:l.length<2 ^ 62):OpC prog w F om (.builtin "len") [il l] (.int l.length):=by
 have:=Tq (prog:=prog) (w:=w) (F:=F) (om:=om) (l:=l.map .int) (by simpa using hl)
 rwa [length_map] at this
theorem Rp {b:Nat} {l:List Int}:∀ V (vs:Array Value),Zn V (l.map .int) vs.toList->Zn V ((l.take b).map .int) (slicePick vs none (some (b:Int)) none).toList:=fun V vs r=>by
 rw[List.map_take];exact Mo V vs r
theorem Rq {b:Nat} {l:List Int}:∀ V (vs:Array Value),Zn V (l.map .int) vs.toList->Zn V ((l.drop b).map .int) (slicePick vs (some (b:Int)) none none).toList:=fun V vs r=>by
 rw[List.map_drop];exact Mp V vs r
theorem UM {a b:Nat} {l:List Int}:∀ V (vs:Array Value),Zn V (l.map .int) vs.toList->Zn V (((l.take b).drop a).map .int) (slicePick vs (some (a:Int)) (some (b:Int)) none).toList:=fun V vs r=>by
 rw[List.map_drop,List.map_take];exact Re V vs r
theorem ZA {value slice:Expr} {l:List Int} {k:Int} {d:Int} (hn:W3 slice) (h0:0≤k) (hk:k<2 ^ 63) (hd:l[k.toNat]?=some d):Op2 prog w F om (subscriptTail value slice) (il l) (.int k) (.int d) :=
 Xb hn h0 hk (by rw[getElem?_map,hd];rfl)
theorem sl_upto (ok:F.Ok) {value slice:Expr} {l:List Int} {b:Int} (hn:LM slice) (h0:0≤b) (hsz:l.length≤sizeLine):Op2 prog w F om (subscriptTail value slice) (il l) (Xm none (some b) none) (il (l.take b.toNat)):=by
 obtain ⟨n,rfl⟩:=Int.eq_ofNat_of_zero_le h0
 exact W4 ok hn (by simp) (by simpa using hsz) Rp
theorem sl_from (ok:F.Ok) {value slice:Expr} {l:List Int} {b:Int} (hn:LM slice) (h0:0≤b) (hsz:l.length≤sizeLine):Op2 prog w F om (subscriptTail value slice) (il l) (Xm (some b) none none) (il (l.drop b.toNat)):=by
 obtain ⟨n,rfl⟩:=Int.eq_ofNat_of_zero_le h0
 exact W4 ok hn (by simp) (by simpa using hsz) Rq
theorem sl_between (ok:F.Ok) {value slice:Expr} {l:List Int} {a b:Int} (hn:LM slice) (ha:0≤a) (hb:0≤b) (hsz:l.length≤sizeLine):Op2 prog w F om (subscriptTail value slice) (il l) (Xm (some a) (some b) none) (il ((l.take b.toNat).drop a.toNat)):=by
 obtain ⟨n,rfl⟩:=Int.eq_ofNat_of_zero_le ha
 obtain ⟨m,rfl⟩:=Int.eq_ofNat_of_zero_le hb
 exact W4 ok hn (by simp) (by simpa using hsz) UM
theorem sl_rev (ok:F.Ok) {value slice:Expr} {l:List AV} (hn:LM slice) (hsz:l.length≤sizeLine):Op2 prog w F om (subscriptTail value slice) (.lst l) (Xm none none (some (-1))) (.lst l.reverse) :=
 W4 ok hn (by simp) hsz LN
theorem WP:EvP prog w F sig om none none:=trivial
theorem Wu {e:Expr} {k:Int} (h:Ev prog w F sig om e (.int k)):EvP prog w F sig om (some e) (some k):=h
inductive IsK:AV->AV->Prop
 | ll {l l':List AV}:IsK (.lst l) (.lst l')
 | ln {l:List AV}:IsK (.lst l) .none
 | ls {l:List AV} {x:Str}:IsK (.lst l) (.str x)
 | sn {x:Str}:IsK (.str x) .none
theorem Fx {V:PH} {A:Around} {d₁ d₂:AV} {v₁ v₂:Value} {Q:Value->Shared->Prop} {E:Value->Shared->Prop} (k:IsK d₁ d₂) (hv:W2 V s.heap) (r₁:Rep V d₁ v₁) (r₂:Rep V d₂ v₂) (h:∀ b,(b=true->v₁=v₂)->Q (.bool b) s) :
  wpAny (model prog w) A (compareOp .Is v₁ v₂) Q E s:=by
 cases k with
 | ll =>
  obtain ⟨a,vs,n,rfl,o,r⟩:=r₁
  obtain ⟨a',vs',n',rfl,o',r'⟩:=r₂
  by_cases e:a=a'
  ·subst e
   show wpAny _ _ (do return .bool (<-isSame (.ref a) (.ref a))) Q E s
   refine wpAny_bind ?_
   unfold isSame
   show wpAny _ _ (if (a==a)=true then pure true else _) _ _ _
   rw[if_pos (beq_self_eq_true a)]
   exact wpAny_pure (wpAny_pure (h true fun _=>rfl))
  ·exact wpAny_is_ref_other e (hv _ _ o) (hv _ _ o') (by intro z;simp at z) (h false fun z=>by cases z)
 | ln =>
  obtain ⟨a,vs,n,rfl,o,r⟩:=r₁
  subst r₂
  exact is_none (h _ fun z=>by cases z)
 | ls =>
  obtain ⟨a,vs,n,rfl,o,r⟩:=r₁
  obtain ⟨t,rfl⟩:=r₂
  exact wpAny_bind (wpAny_pure (wpAny_pure (h _ fun z=>by cases z)))
 | sn =>
  obtain ⟨t,rfl⟩:=r₁
  subst r₂
  exact is_none (h _ fun z=>by cases z)
theorem Q0 {l r:Expr} {p pos:Pos} {body orelse:List Stmt} {d₁ d₂:AV} {P:Out->Prop} (k:IsK d₁ d₂) (h₁:Ev prog w F sig om l d₁) (h₂:Ev prog w F sig om r d₂) (ht:(∃ V v,Rep V d₁ v∧Rep V d₂ v)->Ex prog w F sig om body P) (hf:Ex prog w F sig om orelse P)
  (hm:behindInMarks .Is r=false:=by with_unfolding_all rfl):Ex1 prog w F sig om (.If (.Compare l [.Is] [r] p) body orelse pos) P:=fun R tau s Q E x hq =>
 wpAny_If (wpAny_isTrue_Compare1 (h₁ R tau s _ _ x fun v₁ s₁ x₁=>h₂ R _ _ _ _ x₁ fun v₂ s₂ x₂=>Fx k x₂.viewIn x₂.top2 x₂.top fun b hb=>wpAny_truthy_bool (by
  cases b with
  | true=>exact ht ⟨_,_,x₂.top2,(hb rfl)▸x₂.top⟩ R tau s₂ _ _ x₂.pop.pop hq
  | false=>exact hf R tau s₂ _ _ x₂.pop.pop hq)) hm)
theorem S1 {V:PH}:∀ {a b:List Int} {vs:List Value},Zn V (a.map .int) vs->Zn V (b.map .int) vs->a=b
 | [],[],_,_,_=>rfl
 | [],b::bs,vs,h,h'=>by have h1:=h.length;have h2:=h'.length;rw[h1] at h2;simp at h2
 | a::as,[],vs,h,h'=>by have h1:=h.length;have h2:=h'.length;rw[h1] at h2;simp at h2
 | a::as,b::bs,vs,h,h'=>by
  simp only[map_cons,Zn] at h h'
  obtain ⟨v,vs₁,rfl,r,rs⟩:=h
  obtain ⟨v',vs₂,e,r',rs'⟩:=h'
  cases e
  obtain ⟨t,rfl⟩:=r
  obtain ⟨u,e⟩:=r'
  cases e
  rw[S1 rs rs']
theorem H7 {a b:List Int} (h:∃ V v,Rep V (il a) v∧Rep V (il b) v):a=b:=by
 obtain ⟨V,v,h1,h2⟩:=h
 obtain ⟨x,vs,n,rfl,o,r⟩:=h1
 obtain ⟨x',vs',n',e,o',r'⟩:=h2
 cases e
 rw[o] at o'
 cases o'
 exact S1 r r'
end
section
variable {prog:Program} {w:World} {F:Fn} {sig:List (Option AV)} {om:Om} {N:List (Str×NameKind)}
theorem Za (ok:F.Ok) (hN:F.names=N) (k:Nat) {x:Str} {kind:NameKind} (e:N[k]?=some (x,kind)) (hd:((x==("__debug__" : Str)) || (x==("__classdict__" : Str)))=false):At F x k kind:=At.of ok (hN▸e) hd
theorem Fy {x:Str} {k:Nat} (a:At F x k .local):Xc F x k:=.inl a
theorem Fz {x:Str} {k:Nat} (a:At F x k .cell) (hc:∃ c,F.env.cells.lookup x=some c∧c∈F.cs):Xc F x k:=.inr ⟨a,hc⟩
end
section
variable {prog:Program} {w:World} {F:Fn} {R:PH} {sig sig' sig₀:List (Option AV)} {om om':Om} {tau:List (Value×AV)} {s:Shared} {K:Frag}
theorem NL {l r:Expr} {op:CmpOp} {pos:Pos} {d₁ d₂ d:AV} (h₁:Ev prog w F sig om l d₁) (h₂:Ev prog w F sig om r d₂) (o:Op2 prog w F om (compareOp op) d₁ d₂ d)
  (hm:behindInMarks op r=false):Ev prog w F sig om (.Compare l [op] [r] pos) d:=Fg h₁ h₂ o hm
theorem Z0 {l r:Expr} {op:CmpOp} {pos:Pos} {d₁ d₂:AV} {b:Bool} (h₁:Ev prog w F sig om l d₁) (h₂:Ev prog w F sig om r d₂) (o:Op2 prog w F om (compareOp op) d₁ d₂ (.bool b))
  (hm:behindInMarks op r=false):Tst prog w F sig om (.Compare l [op] [r] pos) b:=Hj h₁ h₂ o hm
theorem ZT {e:Expr} {d:AV} {b:Bool} (h₁:Ev prog w F sig om e d) (t:Tru prog w F om d b)
  (he:∀ whole,isTrue e F.env whole=(do let v <-whole;standAt e.pos;holding [v] (truthy v))):Tst prog w F sig om e b:=Mk h₁ t he
theorem Ze {e:Expr} {es:List Expr} {d:AV} {ds:List AV} (h₁:Ev prog w F sig om e d) (h₂:EvL prog w F sig om es ds)
  (he:starEach (e::es) F.env=(false,eval e F.env)::starEach es F.env):EvL prog w F sig om (e::es) (d::ds):=LJ h₁ h₂ he
theorem Zv {func:Expr} {args:List Expr} {pos:Pos} {f:Value} {ds:List AV} {d:AV} (h₁:Ev prog w F sig om func (.raw fun _ u=>u=f)) (c:X9 prog w F f) (h₂:EvL prog w F sig om args ds) (o:OpC prog w F om f ds d)
  (hc:eval (.Call func args [] pos) F.env=(do callWith pos (<-eval func F.env) [] (backTo pos (starEach args F.env)) (backToKw pos (keywordEach [] F.env))))
  (hp:(backTo pos (starEach args F.env)).any (·.1)=false):Ev prog w F sig om (.Call func args [] pos) d:=Hl h₁ c h₂ o hc hp
theorem ZF (ok:F.Ok) {x:Str} {p pos:Pos} {e:Expr} {k:Nat} {d:AV} {rest:List Stmt} {P:Out->Prop} (a:Xc F x k) (h:Ev prog w F sig om e d)
  (hs:swapsWith e (some (.Name x p)) pos.line F.env=pure false) (hr:Ex prog w F (sig.set k (some d)) om rest P):Ex prog w F sig om (.Assign [.Name x p] e pos::rest) P:=Z1 (Xd ok a h hs) hr
theorem ZU {e:Expr} {pos:Pos} {d:AV} {P:Out->Prop} {rest:List Stmt} (h:Ev prog w F sig om e d) (hp:P (.ret d sig om)):Ex prog w F sig om (.Return (some e) pos::rest) P :=
 Zw (P₁:=(·=.ret d sig om)) (Mq h rfl) fun o ho=>by subst ho;exact hp
noncomputable def Q1 (prog:Program) (w:World) (F:Fn) (rest:List Stmt) (P:Out->Prop):Out->Prop
 | .nxt sig om=>Ex prog w F sig om rest P
 | o=>P o
theorem WQ {st:Stmt} {rest:List Stmt} {P:Out->Prop} (h:Ex1 prog w F sig om st (Q1 prog w F rest P)):Ex prog w F sig om (st::rest) P:=Zw h fun o ho=>by cases o<;>exact ho
theorem Wn {t:Expr} {body orelse rest:List Stmt} {pos:Pos} {b:Bool} {P:Out->Prop} (ht:Tst prog w F sig om t b) (h₁:b=true->Ex prog w F sig om body (Q1 prog w F rest P)) (h₂:b=false->Ex prog w F sig om orelse (Q1 prog w F rest P)):Ex prog w F sig om (.If t body orelse pos::rest) P :=
 WQ (V8 ht h₁ h₂)
theorem Zy {rest:List Stmt} {P:Out->Prop} (h:Ex prog w F sig om rest P):Ex prog w F sig om [] (Q1 prog w F rest P):=Zk h
end
section
variable {prog:Program} {w:World} {F:Fn} {sig:List (Option AV)} {om:Om} {N:List (Str×NameKind)}
theorem H8 {x:Str} {k:Nat} {p pos:Pos} {rest:List Stmt} {P:Out->Prop} (hi:interactive F.env=false) (h:Ex prog w F sig om rest P):Ex prog w F sig om (.Expr (.Constant (.str x) k p) pos::rest) P :=
 Z1 (Fh (P:=(·=.nxt sig om)) rfl hi) h
theorem Rr {t:Expr} {body orelse rest:List Stmt} {pos:Pos} {P:Out->Prop} (ht:Tst prog w F sig om t true) (h₁:Ex prog w F sig om body (Q1 prog w F rest P)):Ex prog w F sig om (.If t body orelse pos::rest) P :=
 Wn ht (fun _=>h₁) (fun h=>by cases h)
theorem Xv {t:Expr} {body orelse rest:List Stmt} {pos:Pos} {P:Out->Prop} (ht:Tst prog w F sig om t false) (h₂:Ex prog w F sig om orelse (Q1 prog w F rest P)):Ex prog w F sig om (.If t body orelse pos::rest) P :=
 Wn ht (fun h=>by cases h) (fun _=>h₂)
end
end
section
section
variable {prog:Program} {w:World} {F:Fn} {R:PH} {sig sig':List (Option AV)} {om om' om₁:Om} {tau:List (Value×AV)} {s:Shared} {K:Frag}
theorem Vd {o:Expr} {x:Str} {pos:Pos} {C a dx:Addr} {as as':List (Str×AV)} {d:AV} (hk:Zo K F.G) (hp:Y3 K C=true) (hx:ZM K C x=true) (h:Ev prog w F sig om o (inst C a dx)) (hd:XB d) (hz:as.length≤1000) (hput:Z2 x d as=as')
  (u:OmUpd om dx (Zm as) (Zm as') om'):AsX prog w F (.Attribute o x pos) d sig om sig om':=by
 subst hput;exact LY hk hp hx h hd hz u
theorem Wv {o e:Expr} {x:Str} {ap pos:Pos} {C a dx:Addr} {as as':List (Str×AV)} {d:AV} {rest:List Stmt} {P:Out->Prop} (hk:Zo K F.G) (hp:Y3 K C=true) (hx:ZM K C x=true) (he:Ev prog w F sig om e d) (h:Ev prog w F sig om o (inst C a dx)) (hd:XB d) (hz:as.length≤1000) (hput:Z2 x d as=as')
  (u:OmUpd om dx (Zm as) (Zm as') om') (hr:Ex prog w F sig om' rest P)
  (hs:swapsWithSole [.Attribute o x ap] e pos.line F.env=pure false) (hw:swappedStores [.Attribute o x ap] e F.env=pure none) (ha:(assignEach [.Attribute o x ap] F.env).map (·.2)=[assign (.Attribute o x ap) F.env]):Ex prog w F sig om (.Assign [.Attribute o x ap] e pos::rest) P :=
 Zw (P₁:=(·=.nxt sig om')) (ND (P:=fun d' om₁=>d'=d∧om₁=om) (Wl he ⟨rfl,rfl⟩) (fun d' om₁ ⟨e1,e2⟩=>by subst e1 e2;exact ⟨sig,om',Vd hk hp hx h hd hz hput u,rfl⟩) hs hw ha) fun o ho=>by subst ho;exact hr
theorem TA {o o₂ e:Expr} {x y:Str} {ap ap₂ pos:Pos} {C a dx:Addr} {as as' as₂:List (Str×AV)} {d:AV} {om₂:Om} {rest:List Stmt} {P:Out->Prop} (hk:Zo K F.G) (hp:Y3 K C=true) (hx:ZM K C x=true) (hy:ZM K C y=true) (he:Ev prog w F sig om e d) (h:Ev prog w F sig om o (inst C a dx)) (h₂:Ev prog w F sig om' o₂ (inst C a dx)) (hd:XB d) (hz:as.length≤1000) (hz':as'.length≤1000) (hput:Z2 x d as=as') (hput₂:Z2 y d as'=as₂)
  (u:OmUpd om dx (Zm as) (Zm as') om') (u₂:OmUpd om' dx (Zm as') (Zm as₂) om₂) (hr:Ex prog w F sig om₂ rest P)
  (hw:swappedStores [.Attribute o x ap,.Attribute o₂ y ap₂] e F.env=pure none) (ha:(assignEach [.Attribute o x ap,.Attribute o₂ y ap₂] F.env).map (·.2)=[assign (.Attribute o x ap) F.env,assign (.Attribute o₂ y ap₂) F.env]):Ex prog w F sig om (.Assign [.Attribute o x ap,.Attribute o₂ y ap₂] e pos::rest) P :=
 Zw (P₁:=(·=.nxt sig om₂)) (VD (P:=fun d' om₁=>d'=d∧om₁=om) (Wl he ⟨rfl,rfl⟩) (fun d' om₁ ⟨e1,e2⟩=>by subst e1 e2;exact ⟨sig,om',sig,om₂,Vd hk hp hx h hd hz hput u,Vd hk hp hy h₂ hd hz' hput₂ u₂,rfl⟩) hw ha) fun o ho=>by subst ho;exact hr
theorem VK (ok:F.Ok) {o e:Expr} {x n:Str} {ap np pos:Pos} {C a dx:Addr} {k:Nat} {PE:AV->Om->Prop} {rest:List Stmt} {P:Out->Prop} (hk:Zo K F.G) (hp:Y3 K C=true) (hx:ZM K C x=true) (hn:Xc F n k) (he:EvX prog w F sig om e PE)
  (hr:∀ d om₁,PE d om₁->XB d∧∃ as as' om',Ev prog w F sig om₁ o (inst C a dx)∧as.length≤1000∧Z2 x d as=as'∧OmUpd om₁ dx (Zm as) (Zm as') om'∧Ex prog w F (sig.set k (some d)) om' rest P)
  (hw:swappedStores [.Attribute o x ap,.Name n np] e F.env=pure none) (ha:(assignEach [.Attribute o x ap,.Name n np] F.env).map (·.2)=[assign (.Attribute o x ap) F.env,assign (.Name n np) F.env]):Ex prog w F sig om (.Assign [.Attribute o x ap,.Name n np] e pos::rest) P :=
 Zw (P₁:=fun o=>∃ sig' om',o=.nxt sig' om'∧Ex prog w F sig' om' rest P) (VD he (fun d om₁ hp'=>by
  obtain ⟨hd,as,as',om',h1,h2,h3,h4,h5⟩:=hr d om₁ hp'
  exact ⟨sig,om',_,om',Vd hk hp hx h1 hd h2 h3 h4,W8 (Zf ok hn),_,_,rfl,h5⟩) hw ha) fun o ho=>by obtain ⟨sig',om',rfl,h⟩:=ho;exact h
theorem Zu {e:Expr} {pos:Pos} {PE:AV->Om->Prop} {rest:List Stmt} {P:Out->Prop} (hi:interactive F.env=false) (h:EvX prog w F sig om e PE) (hr:∀ d om',PE d om'->Ex prog w F sig om' rest P)
  (hs:swapsWith e none pos.line F.env=pure false):Ex prog w F sig om (.Expr e pos::rest) P :=
 Zw (LS h hi hs) fun o ho=>by obtain ⟨d,om',hp,rfl⟩:=ho;exact hr d om' hp
theorem Yy (ok:F.Ok) {x:Str} {p pos:Pos} {e:Expr} {k:Nat} {PE:AV->Om->Prop} {rest:List Stmt} {P:Out->Prop} (a:Xc F x k) (h:EvX prog w F sig om e PE) (hr:∀ d om',PE d om'->Ex prog w F (sig.set k (some d)) om' rest P)
  (hs:swapsWith e (some (.Name x p)) pos.line F.env=pure false):Ex prog w F sig om (.Assign [.Name x p] e pos::rest) P :=
 Zw (Pn ok a h hs) fun o ho=>by obtain ⟨d,om',hp,rfl⟩:=ho;exact hr d om' hp
theorem Ys {o:Expr} {name:Str} {apos pos:Pos} {args:List Expr} {d₀:AV} {f:Value} {P:AV->Om->Prop} (pl:Sem Bool) (h₁:Ev prog w F sig om o d₀) (hm:Qi prog w F om d₀ name f) (c:X9 prog w F f) (h₂:RV prog w F sig om args fun ds om'=>OpX prog w F om' f (d₀::ds) P)
  (he:eval (.Call (.Attribute o name apos) args [] pos) F.env=(do
   let ov <-eval o F.env
   standAt apos.atName
   let (f,first) <-holding [ov] (getMethod ov name pl)
   callWith pos f first (backTo pos (starEach args F.env)) []))
  (hp:(backTo pos (starEach args F.env)).any (·.1)=false):EvX prog w F sig om (.Call (.Attribute o name apos) args [] pos) P:=Ka h₁ hm c h₂ pl he hp
end
end
section
noncomputable def X4 (b:List Int) (x:Int):List Int:=((List.range b.length).filter fun i=>b[i]?==some x).map fun (i:Nat)=>(i:Int)
theorem Ve (b:List Int) (y x:Int):X4 (b++[y]) x=X4 b x++if y=x then [(b.length:Int)] else []:=by
 unfold X4
 rw[length_append,length_singleton,range_succ,List.filter_append,map_append]
 congr 1
 ·congr 1
  apply List.filter_congr
  intro i hi
  rw[getElem?_append_left (by simpa using hi)]
 ·rw[List.filter_cons,List.filter_nil]
  by_cases h:y=x
  ·subst h;simp
  ·simp[h]
theorem K3 (b:List Int) (x:Int):(X4 b x).length≤b.length:=by
 unfold X4
 rw[length_map]
 exact Nat.le_trans (List.length_filter_le _ _) (by simp)
theorem Q2 {b:List Int} {x i:Int}:i∈X4 b x↔0≤i∧b[i.toNat]?=some x:=by
 unfold X4
 simp only[List.mem_map,mem_filter,List.mem_range,beq_iff_eq]
 constructor
 ·rintro ⟨n,⟨h1,h2⟩,rfl⟩
  exact ⟨by lia,by simpa using h2⟩
 ·rintro ⟨h1,h2⟩
  refine ⟨i.toNat,⟨?_,h2⟩,by lia⟩
  exact (List.getElem?_eq_some_iff.mp h2).1
theorem Q3 {b:List Int} {x:Int}:X4 b x=[]↔x∉b:=by
 constructor
 ·intro h hx
  obtain ⟨i,hi,e⟩:=getElem_of_mem hx
  have:(i:Int)∈X4 b x:=Q2.mpr ⟨by lia,by simp[hi,e]⟩
  rw[h] at this;cases this
 ·intro h
  cases q:X4 b x with
  | nil=>rfl
  | cons i r =>
   have:i∈X4 b x:=by rw[q];exact mem_cons_self
   exact absurd (mem_of_getElem? (Q2.mp this).2) h
theorem WR {y:Int} {a:Addr}:∀ {l:List (Int×Addr)},l.lookup y=some a->(y,a)∈l
 | [],h=>by cases h
 | (x,b)::r,h=>by
  rw[lookup_cons] at h
  cases q:y==x with
  | true=>rw[q] at h;cases h;rw[show y=x by simpa using q];exact mem_cons_self
  | false=>rw[q] at h;exact mem_cons_of_mem _ (WR h)
noncomputable abbrev Cs:=List (Int×Addr)
noncomputable def Ww (cs:Cs) (pre:List Int):Om:=cs.map fun c=>(c.2,Zc ((X4 pre c.1).map .int))
noncomputable def csF (cs:Cs):Int->Option AV:=fun x=>(cs.lookup x).map .ptr
theorem S2 {cs:Cs} {pre:List Int} {y:Int} (h:cs.lookup y=none):Ww cs (pre++[y])=Ww cs pre:=by
 induction cs with
 | nil=>rfl
 | cons c cs ih =>
  obtain ⟨x,a⟩:=c
  rw[lookup_cons] at h
  have hne:(y==x)=false:=by cases q:y==x with | false=>rfl | true=>rw[q] at h;cases h
  rw[hne] at h
  show (a,Zc ((X4 (pre++[y]) x).map .int))::Ww cs (pre++[y])=(a,Zc ((X4 pre x).map .int))::Ww cs pre
  rw[ih h,Ve,if_neg (by simpa using hne),append_nil]
theorem K4 {cs:Cs} {pre:List Int} {y:Int} {a:Addr} {rest:Om} (hn:(cs.map (·.1)).Nodup) (h:cs.lookup y=some a) :
  OmUpd (Ww cs pre++rest) a (Zc ((X4 pre y).map .int)) (Zc ((X4 pre y).map .int++[.int pre.length])) (Ww cs (pre++[y])++rest):=by
 induction cs with
 | nil=>cases h
 | cons c cs ih =>
  obtain ⟨x,b⟩:=c
  rw[map_cons,nodup_cons] at hn
  rw[lookup_cons] at h
  cases q:y==x with
  | true =>
   rw[q] at h
   cases h
   have:y=x:=by simpa using q
   subst this
   have h2:cs.lookup y=none:=by
    cases e:cs.lookup y with
    | none=>rfl
    | some z =>
     refine absurd ?_ hn.1
     have:=WR e
     exact List.mem_map.mpr ⟨_,this,rfl⟩
   show OmUpd ((a,_)::(Ww cs pre++rest)) a _ _ ((a,Zc ((X4 (pre++[y]) y).map .int))::(Ww cs (pre++[y])++rest))
   rw[S2 h2,Ve,if_pos rfl,map_append]
   exact .here
  | false =>
   rw[q] at h
   have hne:¬ y=x:=by simpa using q
   show OmUpd ((b,_)::(Ww cs pre++rest)) a _ _ ((b,Zc ((X4 (pre++[y]) x).map .int))::(Ww cs (pre++[y])++rest))
   rw[Ve pre y x,if_neg hne,append_nil]
   exact .there (ih hn.2 h)
section
variable {prog:Program} {w:World} {F:Fn} {R:PH} {sig sig':List (Option AV)} {om om' om₁:Om} {tau:List (Value×AV)} {s:Shared} {K:Frag}
theorem PA {sts:List Stmt} {P:Out->Prop} {b:Addr} {o:Obj} (hg:F.G b=some o) (h:b<F.n₀->Ex prog w F sig om sts P):Ex prog w F sig om sts P:=fun R tau s Q E st hq=>h (st.g b o hg).1 R tau s Q E st hq
noncomputable def csV (cs:Cs) (pre:List Int) (f:Int->Option AV):Int->Option AV:=fun x=>if (cs.lookup x).isSome then some (il (X4 pre x)) else f x
theorem U5 (ok:F.Ok) {D:Addr} {pre:List Int} {m:Nat} {rest:Om} {sts:List Stmt} {P:Out->Prop}:∀ (cs:Cs) (f:Int->Option AV),(cs.map (·.1)).Nodup->(∀ x a,cs.lookup x=some a->f x=some (.ptr a))->(∀ c∈cs,F.n₀≤c.2) ->
  Ex prog w F sig ((D,Z7 (csV cs pre f) m)::rest) sts P->Ex prog w F sig (Ww cs pre++(D,Z7 f m)::rest) sts P
 | [],f,_,_,_,h=>h
 | (x,a)::cs,f,hn,hf,hl,h=>by
  rw[map_cons,nodup_cons] at hn
  have hx:cs.lookup x=none:=by
   cases e:cs.lookup x with
   | none=>rfl
   | some z=>exact absurd (List.mem_map.mpr ⟨_,WR e,rfl⟩) hn.1
  have hfx:f x=some (.ptr a):=hf x a (by rw[lookup_cons];simp)
  have hc:∀ {o₁:Om},OmCast a (.lst ((X4 pre x).map .int)) (o₁++(D,Z7 f m)::rest) (o₁++(D,Z7 (upd f x (.lst ((X4 pre x).map .int))) m)::rest):=fun {o₁}=>by
   induction o₁ with
   | nil =>
    refine .cons (Z7.weak fun k=>?_) OmCast.refl
    unfold upd
    by_cases q:k=x
    ·subst q;rw[if_pos rfl];exact .inr ⟨hfx,rfl⟩
    ·rw[if_neg q];exact .inl rfl
   | cons p o₁ ih=>exact .cons Sv ih
  refine Yx ok (om₁:=Ww cs pre++(D,Z7 f m)::rest) (om':=Ww cs pre++(D,Z7 (upd f x (.lst ((X4 pre x).map .int))) m)::rest) (OmDel.here) (hl (x,a) mem_cons_self) YK ZH.refl hc ?_
  refine U5 ok cs _ hn.2 (fun y b e=>?_) (fun c hc=>hl c (mem_cons_of_mem _ hc)) ?_
  ·unfold upd
   have hne:y≠x:=fun q=>by subst q;rw[hx] at e;cases e
   rw[if_neg hne]
   refine hf y b ?_
   rw[lookup_cons,show (y==x)=false by simpa using hne];exact e
  ·have:csV cs pre (upd f x (.lst ((X4 pre x).map .int)))=csV ((x,a)::cs) pre f:=by
    funext y
    unfold csV upd
    rw[lookup_cons]
    by_cases q:y=x
    ·subst q;simp[hx]
    ·rw[show (y==x)=false by simpa using q];simp[q]
   rw[this];exact h
theorem K5 (ok:F.Ok) {ts:List Expr} {kk:Nat} {tp:Pos} {func b:Expr} {body:List Stmt} {pos cpos:Pos} {d:AV} {xs:List AV} {P:Out->Prop} (hf:Ev prog w F sig om func (.raw fun _ u=>u=.type "enumerate")) (hb:EvL prog w F sig om [b] [d]) (en:Enu prog w F om d xs)
  (Inv:Nat->List (Option AV)->Om->Prop) (h0:∃ sig₀,Sub sig₀ sig∧Inv 0 sig₀ om)
  (turn:∀ (i:Nat) (x:AV) sig om,xs[i]?=some x->Inv i sig om->∃ sig₁,As prog w F om (.Tuple ts kk tp) (Rl [.int i,x]) sig sig₁∧Ex prog w F sig₁ om body fun o=>match o with
   | .nxt sig' om'=>∃ sig₀,Sub sig₀ sig'∧Inv (i+1) sig₀ om'
   | .cnt sig' om'=>∃ sig₀,Sub sig₀ sig'∧Inv (i+1) sig₀ om'
   | .brk sig' om'=>∃ sig₀,Sub sig₀ sig'∧P (.nxt sig₀ om')
   | .ret d sig' om'=>P (.ret d sig' om'))
  (done:∀ sig om,Inv xs.length sig om->P (.nxt sig om))
  (hs:∀ x,foldedSetIterable (.Call func [b] [] cpos) F.env x=pure x)
  (hc:eval (.Call func [b] [] cpos) F.env=(do callWith cpos (<-eval func F.env) [] (backTo cpos (starEach [b] F.env)) (backToKw cpos (keywordEach [] F.env))))
  (hp:(backTo cpos (starEach [b] F.env)).any (·.1)=false):Ex1 prog w F sig om (.For (.Tuple ts kk tp) (.Call func [b] [] cpos) body [] pos) P:=by
 refine NJ (P':=fun o=>match o with | .nxt sig om=>∃ sig₀,Sub sig₀ sig∧P (.nxt sig₀ om) | o=>P o) (ex_enum ok hf hb en (fun i sig om=>∃ sig₀,Sub sig₀ sig∧Inv i sig₀ om) h0 (fun i x sig om hx hI=>?_) (fun sig om ⟨sig₀,h1,h2⟩=>⟨sig₀,h1,done _ _ h2⟩) hs hc hp) fun o ho=>?_
 ·obtain ⟨sig₀,hs,hI⟩:=hI
  obtain ⟨sig₁,h1,h2⟩:=turn i x sig₀ om hx hI
  refine ⟨sig₁,P8 hs h1,N2 h2 fun o ho=>?_⟩
  cases o<;>exact ho
 ·cases o with
  | nxt sig om=>obtain ⟨sig₀,h1,h2⟩:=ho;exact ⟨.nxt sig₀ om,h2,h1,rfl⟩
  | brk sig om=>exact ⟨_,ho,Sub.refl,rfl⟩
  | cnt sig om=>exact ⟨_,ho,Sub.refl,rfl⟩
  | ret d sig om=>exact ⟨_,ho,rfl,Sub.refl,rfl⟩
end
end
section
noncomputable abbrev N3:=Nat×Nat×Nat
noncomputable def rl (A B:List Int) (ok:Int->Bool) (alo blo bhi:Nat):Nat->Nat->Nat
 | 0,j=>if alo=0∧blo≤j∧j<bhi∧∃ x,A[0]?=some x∧B[j]?=some x∧ok x=true then 1 else 0
 | i+1,0=>if alo≤i+1∧blo=0∧0<bhi∧∃ x,A[i+1]?=some x∧B[0]?=some x∧ok x=true then 1 else 0
 | i+1,j+1=>if alo≤i+1∧blo≤j+1∧j+1<bhi∧∃ x,A[i+1]?=some x∧B[j+1]?=some x∧ok x=true then rl A B ok alo blo bhi i j+1 else 0
section
variable {A B:List Int} {ok:Int->Bool} {alo blo bhi:Nat}
noncomputable def hit (A B:List Int) (ok:Int->Bool) (alo blo bhi i j:Nat):Prop:=alo≤i∧blo≤j∧j<bhi∧∃ x,A[i]?=some x∧B[j]?=some x∧ok x=true
theorem Rs {i j:Nat} (h:¬ hit A B ok alo blo bhi i j):rl A B ok alo blo bhi i j=0:=by
 unfold hit at h
 cases i with
 | zero=>exact if_neg fun q=>h ⟨le_of_eq q.1,q.2⟩
 | succ i=>cases j with
  | zero=>exact if_neg fun q=>h ⟨q.1,le_of_eq q.2.1,q.2.2⟩
  | succ j=>exact if_neg h
noncomputable def rlp (A B:List Int) (ok:Int->Bool) (alo blo bhi:Nat):Nat->Nat->Nat
 | i+1,j+1=>rl A B ok alo blo bhi i j
 | _,_=>0
theorem Ur {i j:Nat} (h:hit A B ok alo blo bhi i j):rl A B ok alo blo bhi i j=rlp A B ok alo blo bhi i j+1:=by
 unfold hit at h
 cases i with
 | zero=>exact if_pos ⟨Nat.le_zero.mp h.1,h.2⟩
 | succ i=>cases j with
  | zero=>exact if_pos ⟨h.1,Nat.le_zero.mp h.2.1,h.2.2⟩
  | succ j=>exact if_pos h
theorem TB {i j:Nat}:0<rl A B ok alo blo bhi i j↔hit A B ok alo blo bhi i j:=by
 constructor
 ·intro h;apply Classical.byContradiction;intro q;rw[Rs q] at h;exact absurd h (lt_irrefl 0)
 ·intro h;rw[Ur h];exact succ_pos _
theorem K6 (i j:Nat):rl A B ok alo blo bhi i j≤i+1-alo∧rl A B ok alo blo bhi i j≤j+1-blo:=by
 induction i generalizing j with
 | zero =>
  by_cases h:hit A B ok alo blo bhi 0 j
  ·have e:rlp A B ok alo blo bhi 0 j=0:=by cases j<;>rfl
   rw[Ur h,e]
   exact ⟨UR h.1,UR h.2.1⟩
  ·rw[Rs h];exact ⟨zero_le _,zero_le _⟩
 | succ i ih =>
  by_cases h:hit A B ok alo blo bhi (i+1) j
  ·rw[Ur h]
   cases j with
   | zero=>exact ⟨UR h.1,UR h.2.1⟩
   | succ j=>exact ⟨Nr h.1 (ih j).1,Nr h.2.1 (ih j).2⟩
  ·rw[Rs h];exact ⟨zero_le _,zero_le _⟩
noncomputable def UN (A:List Int) (idx:Int->List Nat) (blo bhi i:Nat):List Nat:=(idx (A.getD i 0)).filter fun j=>decide (blo≤j)&&decide (j<bhi)
noncomputable def up1 (A B:List Int) (ok:Int->Bool) (alo blo bhi:Nat) (b:N3) (c:Nat×Nat):N3 :=
 if rl A B ok alo blo bhi c.1 c.2>b.2.2 then (c.1+1-rl A B ok alo blo bhi c.1 c.2,c.2+1-rl A B ok alo blo bhi c.1 c.2,rl A B ok alo blo bhi c.1 c.2) else b
noncomputable def ZZ (A:List Int) (idx:Int->List Nat) (alo blo bhi n:Nat):List (Nat×Nat):=(List.range' alo n).flatMap fun i=>(UN A idx blo bhi i).map fun j=>(i,j)
theorem TC {idx:Int->List Nat} {n:Nat}:ZZ A idx alo blo bhi (n+1)=ZZ A idx alo blo bhi n++(UN A idx blo bhi (alo+n)).map fun j=>(alo+n,j):=by
 unfold ZZ
 rw[List.range'_concat,flatMap_append]
 simp
noncomputable def ZD (A B:List Int) (ok:Int->Bool) (alo blo bhi:Nat) (cs:List (Nat×Nat)):N3:=cs.foldl (up1 A B ok alo blo bhi) (alo,blo,0)
theorem U6 {cs:List (Nat×Nat)} {c:Nat×Nat}:ZD A B ok alo blo bhi (cs++[c])=up1 A B ok alo blo bhi (ZD A B ok alo blo bhi cs) c:=by
 unfold ZD;rw[foldl_append];rfl
noncomputable def Vx (A B:List Int) (alo blo:Nat):Nat->N3->N3
 | 0,b=>b
 | f+1,(i,j,k)=>if alo<i∧blo<j∧A[i-1]?=B[j-1]? then Vx A B alo blo f (i-1,j-1,k+1) else (i,j,k)
noncomputable def VL (A B:List Int) (ahi bhi:Nat):Nat->N3->N3
 | 0,b=>b
 | f+1,(i,j,k)=>if i+k<ahi∧j+k<bhi∧A[i+k]?=B[j+k]? then VL A B ahi bhi f (i,j,k+1) else (i,j,k)
noncomputable def flm (A B:List Int) (ok:Int->Bool) (idx:Int->List Nat) (alo ahi blo bhi:Nat):N3 :=
 let b:=Vx A B alo blo A.length (ZD A B ok alo blo bhi (ZZ A idx alo blo bhi (ahi-alo)))
 VL A B ahi bhi A.length b
end
noncomputable def natD (p:Nat->Option Nat):Int->Option AV:=fun k=>if 0≤k then (p k.toNat).map (fun (n:Nat)=>AV.int (n:Int)) else none
noncomputable def H9 (p:Nat->Option Nat) (j k:Nat):Nat->Option Nat:=fun x=>if x=j then some k else p x
theorem K7 {p:Nat->Option Nat} {j k:Nat}:upd (natD p) (j:Int) (.int (k:Int))=natD (H9 p j k):=by
 funext x
 unfold upd natD H9
 by_cases h:x=(j:Int)
 ·subst h;simp
 ·rw[if_neg h]
  by_cases h0:0≤x
  ·rw[if_pos h0,if_pos h0,if_neg fun q=>h (by rw[<-q,Int.toNat_of_nonneg h0])]
  ·rw[if_neg h0,if_neg h0]
noncomputable def pget (p:Nat->Option Nat):Nat->Nat
 | 0=>0
 | j+1=>(p j).getD 0
theorem K8 {p:Nat->Option Nat} {j:Nat}:(natD p ((j:Int)-1)).getD (.int 0)=.int ((pget p j:Nat):Int):=by
 unfold natD
 cases j with
 | zero=>rw[if_neg (by decide)];rfl
 | succ j =>
  rw[show (((j+1:Nat):Int)-1)=(j:Int) from Int.add_sub_cancel (j:Int) 1,if_pos (natCast_nonneg j),toNat_natCast]
  show ((p j).map (fun (n:Nat)=>AV.int (n:Int))).getD (.int 0)=.int (((p j).getD 0:Nat):Int)
  cases p j<;>rfl
theorem S3:natD (fun _=>none)=fun _=>none:=by
 funext x;unfold natD;exact ite_self _
noncomputable abbrev nl (l:List Nat):AV:=.lst (l.map fun (n:Nat)=>AV.int (n:Int))
section
variable {prog:Program} {w:World} {F:Fn} {R:PH} {sig sig':List (Option AV)} {om om' om₁:Om} {tau:List (Value×AV)} {s:Shared} {K:Frag}
theorem NM (okF:F.Ok) {x:Str} {p pos:Pos} {e:Expr} {k:Nat} {kind:NameKind} {a b:Int} {rest:List Stmt} {P:Out->Prop} (hx:At F x k kind) (hs:sig[k]?=some (some (.int a))) (st:Xc F x k) (he:Ev prog w F sig om e (.int b)) (hr:Ex prog w F (sig.set k (some (.int (a+b)))) om rest P) :
  Ex prog w F sig om (.AugAssign (.Name x p) .Add e pos::rest) P:=by
 refine Zw (P₁:=(·=.nxt (sig.set k (some (.int (a+b)))) om)) (fun R tau s Q E x₀ hq=>?_) fun o ho=>by subst ho;exact hr
 refine wpAny_AugAssign_Name ?_
 have ld:∀ {Q:Value->Shared->Prop},(∀ v s',Sta F R sig om ((v,.int a)::tau) s'->Q v s')->wpAny (model prog w) F.A (loadName F.env x) Q E s:=fun {Q} h=>by
  obtain ⟨m,hm,sl⟩:=x₀.slots
  have:=sl k x kind _ hx.1 hs
  have hk:=hx.2.1
  cases this with
  | loc e r=>exact wpAny_loadName_local okF.kind hk hm e (h _ _ (x₀.push r))
  | cel hc ho hd r _=>exact wpAny_loadName_cell okF.kind hk hc ⟨_,ho,hd⟩ (h _ _ (x₀.push r))
  | fre hc ho hd r _=>exact wpAny_loadName_free okF.kind hk hc ⟨_,ho,hd⟩ (h _ _ (x₀.push r)) hx.2.2.2
 refine ld fun v₁ s₁ x₁=>he R _ s₁ _ _ x₁ fun v₂ s₂ x₂=>?_
 have h1:=x₂.top2;have h2:=x₂.top
 obtain ⟨t,rfl⟩:=h1;obtain ⟨u,rfl⟩:=h2
 refine wpAny_iadd_int (Xu okF st (tau:=tau) x₂.pop.pop.tok1 ZR fun s' x'=>hq _ _ _ rfl x')
noncomputable def BU (sc:Scope):Env:={ scope:=sc,locals:=0,globals:=0,cells:=[] }
theorem swS {env:Env} {sc:Scope} (h:env.scope=sc) (ts:List Expr) (v:Expr):swappedStores ts v env=swappedStores ts v (BU sc):=by subst h;rfl
theorem XX (okF:F.Ok) {x y:Str} {p q tp pos:Pos} {kk k₁ k₂:Nat} {e:Expr} {d₁ d₂:AV} {rest:List Stmt} {P:Out->Prop} (s₁:Xc F x k₁) (s₂:Xc F y k₂) (h:Ev prog w F sig om e (.tup [d₁,d₂]))
  (hs:swapsWithSole [.Tuple [.Name x p,.Name y q] kk tp] e pos.line F.env=pure false) (hw:swappedStores [.Tuple [.Name x p,.Name y q] kk tp] e F.env=pure (some [x,y]))
  (hr:Ex prog w F ((sig.set k₂ (some d₂)).set k₁ (some d₁)) om rest P):Ex prog w F sig om (.Assign [.Tuple [.Name x p,.Name y q] kk tp] e pos::rest) P :=
 Z1 (Wi okF (names:=[x,y]) (ds:=[d₁,d₂]) h rfl (.cons s₂ (.cons s₁ .nil)) hs hw) hr
theorem VM (okF:F.Ok) {x y z:Str} {p q r tp pos:Pos} {kk k₁ k₂ k₃:Nat} {e:Expr} {d₁ d₂ d₃:AV} {rest:List Stmt} {P:Out->Prop} (s₁:Xc F x k₁) (s₂:Xc F y k₂) (s₃:Xc F z k₃) (h:Ev prog w F sig om e (.tup [d₁,d₂,d₃]))
  (hs:swapsWithSole [.Tuple [.Name x p,.Name y q,.Name z r] kk tp] e pos.line F.env=pure false) (hw:swappedStores [.Tuple [.Name x p,.Name y q,.Name z r] kk tp] e F.env=pure (some [x,y,z]))
  (hr:Ex prog w F (((sig.set k₃ (some d₃)).set k₂ (some d₂)).set k₁ (some d₁)) om rest P):Ex prog w F sig om (.Assign [.Tuple [.Name x p,.Name y q,.Name z r] kk tp] e pos::rest) P :=
 Z1 (Wi okF (names:=[x,y,z]) (ds:=[d₁,d₂,d₃]) h rfl (.cons s₃ (.cons s₂ (.cons s₁ .nil))) hs hw) hr
theorem M8 {pos:Pos} {rest:List Stmt} {P:Out->Prop} (h:P (.brk sig om)):Ex prog w F sig om (.Break pos::rest) P:=Zw (P₁:=(·=.brk sig om)) (LP rfl) fun o ho=>by subst ho;exact h
theorem Rt {pos:Pos} {rest:List Stmt} {P:Out->Prop} (h:P (.cnt sig om)):Ex prog w F sig om (.Continue pos::rest) P:=Zw (P₁:=(·=.cnt sig om)) (RT rfl) fun o ho=>by subst ho;exact h
end
end
section
noncomputable abbrev N4:=Nat×Nat×Nat×Nat
noncomputable abbrev FL:=Nat->Nat->Nat->Nat->N3
structure FlOk (f:FL):Prop where
 inside:∀ alo ahi blo bhi,alo≤ahi->blo≤bhi->0<(f alo ahi blo bhi).2.2->alo≤(f alo ahi blo bhi).1∧(f alo ahi blo bhi).1+(f alo ahi blo bhi).2.2≤ahi∧blo≤(f alo ahi blo bhi).2.1∧(f alo ahi blo bhi).2.1+(f alo ahi blo bhi).2.2≤bhi
noncomputable def mbs (f:FL):Nat->N4->List N3
 | 0,_=>[]
 | n+1,(alo,ahi,blo,bhi) =>
  if (f alo ahi blo bhi).2.2=0 then [] else
   (if alo<(f alo ahi blo bhi).1∧blo<(f alo ahi blo bhi).2.1 then mbs f n (alo,(f alo ahi blo bhi).1,blo,(f alo ahi blo bhi).2.1) else [])++f alo ahi blo bhi ::
   (if (f alo ahi blo bhi).1+(f alo ahi blo bhi).2.2<ahi∧(f alo ahi blo bhi).2.1+(f alo ahi blo bhi).2.2<bhi then mbs f n ((f alo ahi blo bhi).1+(f alo ahi blo bhi).2.2,ahi,(f alo ahi blo bhi).2.1+(f alo ahi blo bhi).2.2,bhi) else [])
noncomputable def qOk (q:N4):Prop:=q.1≤q.2.1∧q.2.2.1≤q.2.2.2
set_option tactic.hygienic true in
theorem VN {f:FL} (hf:FlOk f):∀ (n m:Nat) (q:N4),qOk q->q.2.1-q.1<n->q.2.1-q.1<m->mbs f n q=mbs f m q
 | 0,_,_,_,h,_=>by lia
 | _,0,_,_,_,h=>by lia
 | n+1,m+1,(alo,ahi,blo,bhi),hq,h1,h2=>by
  unfold mbs
  by_cases e:(f alo ahi blo bhi).2.2=0
  ·rw[if_pos e,if_pos e]
  ·rw[if_neg e,if_neg e]
   obtain ⟨a1,a2,a3,a4⟩:=hf.inside alo ahi blo bhi hq.1 hq.2 (by lia)
   dsimp only at h1 h2
   have q1:qOk (alo,(f alo ahi blo bhi).1,blo,(f alo ahi blo bhi).2.1):=⟨a1,a3⟩
   have q2:qOk ((f alo ahi blo bhi).1+(f alo ahi blo bhi).2.2,ahi,(f alo ahi blo bhi).2.1+(f alo ahi blo bhi).2.2,bhi):=⟨a2,a4⟩
   congr 1
   ·split
    ·exact VN hf n m _ q1 (by rename_i c;exact SZ h1 c.1 e a2) (by rename_i c;exact SZ h2 c.1 e a2)
    ·rfl
   ·congr 1
    split
    ·exact VN hf n m _ q2 (by rename_i c;exact SY h1 a1 e c.1) (by rename_i c;exact SY h2 a1 e c.1)
    ·rfl
noncomputable def mb (f:FL) (q:N4):List N3:=mbs f (q.2.1-q.1+1) q
theorem HA {f:FL} {alo ahi blo bhi:Nat} (e:(f alo ahi blo bhi).2.2=0):mb f (alo,ahi,blo,bhi)=[]:=by
 unfold mb mbs;rw[if_pos e]
set_option tactic.hygienic true in
theorem NN {f:FL} (hf:FlOk f) {alo ahi blo bhi:Nat} (hq:qOk (alo,ahi,blo,bhi)) (e:¬ (f alo ahi blo bhi).2.2=0):mb f (alo,ahi,blo,bhi) =
  (if alo<(f alo ahi blo bhi).1∧blo<(f alo ahi blo bhi).2.1 then mb f (alo,(f alo ahi blo bhi).1,blo,(f alo ahi blo bhi).2.1) else [])++f alo ahi blo bhi ::
   (if (f alo ahi blo bhi).1+(f alo ahi blo bhi).2.2<ahi∧(f alo ahi blo bhi).2.1+(f alo ahi blo bhi).2.2<bhi then mb f ((f alo ahi blo bhi).1+(f alo ahi blo bhi).2.2,ahi,(f alo ahi blo bhi).2.1+(f alo ahi blo bhi).2.2,bhi) else []):=by
 have hstep:mb f (alo,ahi,blo,bhi)=mbs f (ahi-alo+1) (alo,ahi,blo,bhi):=rfl
 rw[hstep]
 unfold mbs
 rw[if_neg e]
 obtain ⟨a1,a2,a3,a4⟩:=hf.inside alo ahi blo bhi hq.1 hq.2 (by lia)
 have q1:qOk (alo,(f alo ahi blo bhi).1,blo,(f alo ahi blo bhi).2.1):=⟨a1,a3⟩
 have q2:qOk ((f alo ahi blo bhi).1+(f alo ahi blo bhi).2.2,ahi,(f alo ahi blo bhi).2.1+(f alo ahi blo bhi).2.2,bhi):=⟨a2,a4⟩
 congr 1
 ·split
  ·exact VN hf _ _ _ q1 (by rename_i c;exact SZ (lt_succ_self _) c.1 e a2) (lt_succ_self _)
  ·rfl
 ·congr 1
  split
  ·exact VN hf _ _ _ q2 (by rename_i c;exact SY (lt_succ_self _) a1 e c.1) (lt_succ_self _)
  ·rfl
theorem PB {f:FL} (hf:FlOk f):∀ (n:Nat) (q:N4),qOk q->(∀ b∈mbs f n q,0<b.2.2∧q.1≤b.1∧b.1+b.2.2≤q.2.1∧q.2.2.1≤b.2.1∧b.2.1+b.2.2≤q.2.2.2)∧(mbs f n q).Pairwise fun a b=>a.1+a.2.2≤b.1∧a.2.1+a.2.2≤b.2.1
 | 0,q,_=>⟨fun b h=>(by cases h),List.Pairwise.nil⟩
 | n+1,(alo,ahi,blo,bhi),hq=>by
  unfold mbs
  by_cases e:(f alo ahi blo bhi).2.2=0
  ·rw[if_pos e];exact ⟨fun b h=>(by cases h),List.Pairwise.nil⟩
  ·rw[if_neg e]
   obtain ⟨a1,a2,a3,a4⟩:=hf.inside alo ahi blo bhi hq.1 hq.2 (by lia)
   have i1:=PB hf n (alo,(f alo ahi blo bhi).1,blo,(f alo ahi blo bhi).2.1) ⟨a1,a3⟩
   have i2:=PB hf n ((f alo ahi blo bhi).1+(f alo ahi blo bhi).2.2,ahi,(f alo ahi blo bhi).2.1+(f alo ahi blo bhi).2.2,bhi) ⟨a2,a4⟩
   dsimp only at i1 i2 ⊢
   have L1:∀ b∈(if alo<(f alo ahi blo bhi).1∧blo<(f alo ahi blo bhi).2.1 then mbs f n (alo,(f alo ahi blo bhi).1,blo,(f alo ahi blo bhi).2.1) else []),0<b.2.2∧alo≤b.1∧b.1+b.2.2≤(f alo ahi blo bhi).1∧blo≤b.2.1∧b.2.1+b.2.2≤(f alo ahi blo bhi).2.1:=fun b h=>by
    split at h
    ·exact i1.1 b h
    ·cases h
   have L2:∀ b∈(if (f alo ahi blo bhi).1+(f alo ahi blo bhi).2.2<ahi∧(f alo ahi blo bhi).2.1+(f alo ahi blo bhi).2.2<bhi then mbs f n ((f alo ahi blo bhi).1+(f alo ahi blo bhi).2.2,ahi,(f alo ahi blo bhi).2.1+(f alo ahi blo bhi).2.2,bhi) else []),0<b.2.2∧(f alo ahi blo bhi).1+(f alo ahi blo bhi).2.2≤b.1∧b.1+b.2.2≤ahi∧(f alo ahi blo bhi).2.1+(f alo ahi blo bhi).2.2≤b.2.1∧b.2.1+b.2.2≤bhi:=fun b h=>by
    split at h
    ·exact i2.1 b h
    ·cases h
   refine ⟨fun b h=>?_,?_⟩
   ·rcases List.mem_append.mp h with h | h
    ·have:=L1 b h
     exact ⟨this.1,this.2.1,Nat.le_trans this.2.2.1 (Nat.le_trans (Nat.le_add_right _ _) a2),this.2.2.2.1,Nat.le_trans this.2.2.2.2 (Nat.le_trans (Nat.le_add_right _ _) a4)⟩
    ·rcases List.mem_cons.mp h with rfl | h
     ·exact ⟨Nat.pos_of_ne_zero e,a1,a2,a3,a4⟩
     ·have:=L2 b h
      exact ⟨this.1,Nat.le_trans (Nat.le_trans a1 (Nat.le_add_right _ _)) this.2.1,this.2.2.1,Nat.le_trans (Nat.le_trans a3 (Nat.le_add_right _ _)) this.2.2.2.1,this.2.2.2.2⟩
   ·rw[List.pairwise_append,List.pairwise_cons]
    refine ⟨?_,⟨fun b h=>?_,?_⟩,fun a ha b hb=>?_⟩
    ·split
     ·exact i1.2
     ·exact List.Pairwise.nil
    ·have:=L2 b h
     exact ⟨this.2.1,this.2.2.2.1⟩
    ·split
     ·exact i2.2
     ·exact List.Pairwise.nil
    ·have ha:=L1 a ha
     rcases List.mem_cons.mp hb with rfl | hb
     ·exact ⟨ha.2.2.1,ha.2.2.2.2⟩
     ·have:=L2 b hb
      exact ⟨Nat.le_trans ha.2.2.1 (Nat.le_trans (Nat.le_add_right _ _) this.2.1),Nat.le_trans ha.2.2.2.2 (Nat.le_trans (Nat.le_add_right _ _) this.2.2.2.1)⟩
noncomputable def n3T (n:N3):T3:=((n.1:Int),(n.2.1:Int),(n.2.2:Int))
theorem M9 {f:FL} (hf:FlOk f) {q:N4} (hq:qOk q):((mb f q).map n3T).Pairwise fun a b=>ltT a b=true:=by
 rw[List.pairwise_map]
 obtain ⟨h1,h2⟩:=PB hf (q.2.1-q.1+1) q hq
 refine List.Pairwise.imp_of_mem ?_ h2
 intro a b ha hb hab
 have:=(h1 a ha).1
 unfold ltT n3T
 dsimp only
 rw[if_neg (by simp;lia)]
 simp;lia
noncomputable def YA (s:N3×List N3) (b:N3):N3×List N3 :=
 if s.1.1+s.1.2.2=b.1∧s.1.2.1+s.1.2.2=b.2.1 then ((s.1.1,s.1.2.1,s.1.2.2+b.2.2),s.2) else (b,if s.1.2.2=0 then s.2 else s.2++[s.1])
noncomputable def mrg (l:List N3) (s:N3×List N3):N3×List N3:=l.foldl YA s
noncomputable def blocks (f:FL) (la lb:Nat):List N3 :=
 let s:=mrg (mb f (0,la,0,lb)) ((0,0,0),[])
 (if s.1.2.2=0 then s.2 else s.2++[s.1])++[(la,lb,0)]
noncomputable abbrev OpN:=Str×Nat×Nat×Nat×Nat
noncomputable abbrev opN (o:OpN):AV:=.tup [.str o.1,.int (o.2.1:Nat),.int (o.2.2.1:Nat),.int (o.2.2.2.1:Nat),.int (o.2.2.2.2:Nat)]
noncomputable abbrev Vl (l:List OpN):AV:=.lst (l.map opN)
noncomputable def Yk (i ai j bj:Nat):Str:=if i<ai∧j<bj then "replace" else if i<ai then "delete" else if j<bj then "insert" else ""
noncomputable def ZO (s:(Nat×Nat)×List OpN) (b:N3):(Nat×Nat)×List OpN :=
 let out:=if s.1.1<b.1∨s.1.2<b.2.1 then s.2++[(Yk s.1.1 b.1 s.1.2 b.2.1,s.1.1,b.1,s.1.2,b.2.1)] else s.2
 ((b.1+b.2.2,b.2.1+b.2.2),if b.2.2=0 then out else out++[((("equal" : Str),b.1,b.1+b.2.2,b.2.1,b.2.1+b.2.2):OpN)])
noncomputable def opcodes (f:FL) (la lb:Nat):List OpN:=((blocks f la lb).foldl ZO ((0,0),[])).2
section
variable {prog:Program} {w:World} {F:Fn} {sig:List (Option AV)} {om om':Om}
theorem Us {t:Expr} {body orelse rest:List Stmt} {pos:Pos} {b:Bool} {P:Out->Prop} (om':Om) (ht:Tst prog w F sig om t b) (h₁:b=true->Ex prog w F sig om body (·=.nxt sig om')) (h₂:b=false->Ex prog w F sig om orelse (·=.nxt sig om')) (hr:Ex prog w F sig om' rest P):Ex prog w F sig om (.If t body orelse pos::rest) P :=
 Zw (P₁:=(·=.nxt sig om')) (V8 ht h₁ h₂) fun o ho=>by subst ho;exact hr
end
end
section
noncomputable def XC (B:List Int) (x:Int):List Nat:=(List.range B.length).filter fun i=>B[i]?==some x
theorem F0 (B:List Int) (x:Int):X4 B x=(XC B x).map fun (n:Nat)=>(n:Int):=rfl
theorem VO {B:List Int} {x:Int} {j:Nat}:j∈XC B x↔B[j]?=some x:=by
 unfold XC
 simp only[mem_filter,List.mem_range,beq_iff_eq]
 constructor
 ·exact fun h=>h.2
 ·exact fun h=>⟨(List.getElem?_eq_some_iff.mp h).1,h⟩
theorem U7 (B:List Int) (x:Int):(XC B x).Pairwise (·<·):=List.Pairwise.filter _ List.pairwise_lt_range
section
variable {A B:List Int} {okx:Int->Bool} {alo ahi blo bhi:Nat}
theorem K9 (i j t:Nat) (h:t<rl A B okx alo blo bhi i j):A[i-t]?=B[j-t]?∧t≤i∧t≤j:=by
 induction t generalizing i j with
 | zero =>
  obtain ⟨_,_,_,x,h1,h2,_⟩:=TB.mp h
  exact ⟨by rw[sub_zero,sub_zero,h1,h2],zero_le _,zero_le _⟩
 | succ t ih =>
  rw[Ur (TB.mp (lt_of_le_of_lt (zero_le _) h))] at h
  have h:=Nat.lt_of_succ_lt_succ h
  cases i with
  | zero =>
   have e:rlp A B okx alo blo bhi 0 j=0:=by cases j<;>rfl
   rw[e] at h
   exact absurd h (not_lt_zero _)
  | succ i=>cases j with
   | zero=>exact absurd h (not_lt_zero t)
   | succ j =>
    obtain ⟨a,b,c⟩:=ih i j h
    rw[Nat.add_sub_add_right,Nat.add_sub_add_right]
    exact ⟨a,succ_le_succ b,succ_le_succ c⟩
structure Snd (A B:List Int) (alo ahi blo bhi:Nat) (b:N3):Prop where
 a1:alo≤b.1
 a2:b.1+b.2.2≤ahi
 b1:blo≤b.2.1
 b2:b.2.1+b.2.2≤bhi
 eq:∀ t,t<b.2.2->A[b.1+t]?=B[b.2.1+t]?
set_option tactic.hygienic true in
theorem HB {b:N3} {c:Nat×Nat} (h:Snd A B alo ahi blo bhi b) (hc:c.1<ahi∧c.2<bhi):Snd A B alo ahi blo bhi (up1 A B okx alo blo bhi b c):=by
 unfold up1
 split
 ·rename_i h1
  have hl:=K6 (A:=A) (B:=B) (ok:=okx) (alo:=alo) (blo:=blo) (bhi:=bhi) c.1 c.2
  have hs:=K9 (A:=A) (B:=B) (okx:=okx) (alo:=alo) (blo:=blo) (bhi:=bhi) c.1 c.2
  generalize rl A B okx alo blo bhi c.1 c.2=r at h1 hl hs
  have h0:0<r:=lt_of_le_of_lt (zero_le _) h1
  have h2:=hs (r-1) (sub_lt h0 one_pos)
  refine ⟨Nu h0 hl.1,Nv hl.1 hc.1,Nu h0 hl.2,Nv hl.2 hc.2,fun t ht=>?_⟩
  dsimp only at ht ⊢
  have:=(hs (r-1-t) (lt_of_le_of_lt (sub_le _ _) (sub_lt h0 one_pos))).1
  rw[Nw h2.2.1 ht,Nw h2.2.2 ht] at this
  exact this
 ·exact h
theorem KA {cs:List (Nat×Nat)} (h:∀ c∈cs,c.1<ahi∧c.2<bhi) (ha:alo≤ahi) (hb:blo≤bhi):Snd A B alo ahi blo bhi (ZD A B okx alo blo bhi cs):=by
 unfold ZD
 suffices ∀ b:N3,Snd A B alo ahi blo bhi b->Snd A B alo ahi blo bhi (cs.foldl (up1 A B okx alo blo bhi) b) from this _ ⟨le_refl _,ha,le_refl _,hb,fun t h=>by cases h⟩
 induction cs with
 | nil=>exact fun b h=>h
 | cons c cs ih=>exact fun b hb=>ih (fun c hc=>h c (mem_cons_of_mem _ hc)) _ (HB hb (h c mem_cons_self))
set_option tactic.hygienic true in
theorem S4 {cs:List (Nat×Nat)} {b:N3}:b.2.2≤(cs.foldl (up1 A B okx alo blo bhi) b).2.2∧∀ c∈cs,rl A B okx alo blo bhi c.1 c.2≤(cs.foldl (up1 A B okx alo blo bhi) b).2.2:=by
 induction cs generalizing b with
 | nil=>exact ⟨le_refl _,fun c h=>by cases h⟩
 | cons c cs ih =>
  rw[foldl_cons]
  obtain ⟨h1,h2⟩:=ih (b:=up1 A B okx alo blo bhi b c)
  have h3:b.2.2≤(up1 A B okx alo blo bhi b c).2.2∧rl A B okx alo blo bhi c.1 c.2≤(up1 A B okx alo blo bhi b c).2.2:=by
   unfold up1
   split<;>rename_i q
   ·exact ⟨le_of_lt q,le_refl _⟩
   ·exact ⟨le_refl _,le_of_not_lt q⟩
  refine ⟨Nat.le_trans h3.1 h1,fun d hd=>?_⟩
  rcases List.mem_cons.mp hd with rfl | hd
  ·exact Nat.le_trans h3.2 h1
  ·exact h2 d hd
theorem NO {a i k:Nat} (h:a<i):i-1+(k+1)=i+k:=by rw[add_comm k,<-add_assoc,sub_add_cancel (lt_of_le_of_lt (zero_le a) h)]
set_option tactic.hygienic true in
theorem Q4:∀ (f:Nat) (b:N3),Snd A B alo ahi blo bhi b->Snd A B alo ahi blo bhi (Vx A B alo blo f b)∧b.2.2≤(Vx A B alo blo f b).2.2
 | 0,b,h=>⟨h,le_refl _⟩
 | f+1,(i,j,k),h=>by
  unfold Vx
  split
  ·rename_i c
   obtain ⟨c1,c2,c3⟩:=c
   obtain ⟨a1,a2,b1,b2,e⟩:=h
   dsimp only at a1 a2 b1 b2 e
   obtain ⟨h1,h2⟩:=Q4 f (i-1,j-1,k+1) ⟨Nat.le_sub_one_of_lt c1,Nat.le_trans (le_of_eq (NO c1)) a2,Nat.le_sub_one_of_lt c2,Nat.le_trans (le_of_eq (NO c2)) b2,fun t ht=>by
    dsimp only at ht ⊢
    cases t with
    | zero=>rw[add_zero,add_zero];exact c3
    | succ t =>
     rw[NO c1,NO c2]
     exact e t (Nat.lt_of_succ_lt_succ ht)⟩
   exact ⟨h1,le_of_succ_le h2⟩
  ·exact ⟨h,le_refl _⟩
set_option tactic.hygienic true in
theorem Q5:∀ (f:Nat) (b:N3),Snd A B alo ahi blo bhi b->Snd A B alo ahi blo bhi (VL A B ahi bhi f b)∧b.2.2≤(VL A B ahi bhi f b).2.2
 | 0,b,h=>⟨h,le_refl _⟩
 | f+1,(i,j,k),h=>by
  unfold VL
  split
  ·rename_i c
   obtain ⟨c1,c2,c3⟩:=c
   obtain ⟨a1,a2,b1,b2,e⟩:=h
   dsimp only at a1 a2 b1 b2 e
   obtain ⟨h1,h2⟩:=Q5 f (i,j,k+1) ⟨a1,c1,b1,c2,fun t ht=>by
    dsimp only at ht ⊢
    by_cases q:t=k
    ·subst q;exact c3
    ·exact e t (lt_of_le_of_ne (le_of_lt_succ ht) q)⟩
   exact ⟨h1,le_of_succ_le h2⟩
  ·exact ⟨h,le_refl _⟩
theorem Ru {idx:Int->List Nat} (ha:alo≤ahi) (hb:blo≤bhi):Snd A B alo ahi blo bhi (flm A B okx idx alo ahi blo bhi)∧(ZD A B okx alo blo bhi (ZZ A idx alo blo bhi (ahi-alo))).2.2≤(flm A B okx idx alo ahi blo bhi).2.2:=by
 unfold flm
 have h0:Snd A B alo ahi blo bhi (ZD A B okx alo blo bhi (ZZ A idx alo blo bhi (ahi-alo))):=KA (fun c hc=>by
  unfold ZZ at hc
  rw[List.mem_flatMap] at hc
  obtain ⟨i,h1,h2⟩:=hc
  rw[List.mem_map] at h2
  obtain ⟨j,h3,rfl⟩:=h2
  unfold UN at h3
  rw[mem_filter] at h3
  rw[List.mem_range'_1] at h1
  simp only[Bool.and_eq_true,decide_eq_true_eq] at h3
  exact ⟨Nat.lt_of_lt_of_eq h1.2 (add_sub_of_le ha),h3.2.2⟩) ha hb
 obtain ⟨h1,h2⟩:=Q4 A.length _ h0
 obtain ⟨h3,h4⟩:=Q5 A.length _ h1
 exact ⟨h3,Nat.le_trans h2 h4⟩
end
noncomputable abbrev flF (A B:List Int):FL:=fun alo ahi blo bhi=>flm A B (fun _=>true) (XC B) alo ahi blo bhi
theorem KB (A B:List Int):FlOk (flF A B):=⟨fun alo ahi blo bhi ha hb _=>by
 have h:=(Ru (A:=A) (B:=B) (okx:=fun _=>true) (idx:=XC B) ha hb).1
 exact ⟨h.a1,h.a2,h.b1,h.b2⟩⟩
noncomputable abbrev opsAB (A B:List Int):List OpN:=opcodes (flF A B) A.length B.length
noncomputable abbrev BW (A B:List Int):List N3:=blocks (flF A B) A.length B.length
noncomputable abbrev MA (A B:List Int):List N3:=mb (flF A B) (0,A.length,0,B.length)
end
section
noncomputable def X0 (names:List (Str×NameKind)):List Str:=(names.filter fun y=>y.2==.free).map (·.1)
theorem Zr {sc:Scope} {env:Env} (g:Str->Addr) (h:∀ x∈X0 sc.names,env.cells.lookup x=some (g x)):closureFor sc env=pure ((X0 sc.names).reverse.map fun x=>(x,g x)):=by
 unfold closureFor
 suffices ∀ (names:List (Str×NameKind)) (acc:List (Str×Addr)),(∀ x∈X0 names,env.cells.lookup x=some (g x)) ->
   (forIn names acc fun (y:Str×NameKind) (cs:List (Str×Addr))=>(if (y.2==NameKind.free)=true then (do let c <-cellOf env y.1;pure (ForInStep.yield ((y.1,c)::cs))) else pure (ForInStep.yield cs):Sem (ForInStep (List (Str×Addr)))))=pure ((X0 names).reverse.map (fun x=>(x,g x))++acc) by
  have:=this sc.names [] h
  rw[append_nil] at this
  exact (congrArg (fun t=>t >>= fun cs=>pure cs) this).trans rfl
 intro names
 induction names with
 | nil=>intro acc _;rfl
 | cons y names ih =>
  intro acc h
  rw[forIn_cons]
  obtain ⟨n,k⟩:=y
  by_cases hk:(k==NameKind.free)=true
  ·have hf:X0 ((n,k)::names)=n::X0 names:=by unfold X0;rw[List.filter_cons_of_pos (by simpa using hk)];rfl
   rw[hf] at h ⊢
   have hc:cellOf env n=pure (g n):=by unfold cellOf;rw[h n mem_cons_self]
   have:=ih ((n,g n)::acc) fun x hx=>h x (mem_cons_of_mem _ hx)
   simp only[hk,if_true,hc]
   refine Eq.trans ?_ (this.trans ?_)
   ·rfl
   ·simp
  ·have hf:X0 ((n,k)::names)=X0 names:=by unfold X0;rw[List.filter_cons_of_neg (by simpa using hk)]
   rw[hf] at h ⊢
   have:=ih acc h
   simp only[hk]
   exact this
structure CapE where
 j:Nat
 k:Nat
 x:Str
 d:AV
theorem Yt {F:Fn} {sig:List (Option AV)} {scope:Scope} {cl:List (Str×Addr)} {cap:List (Option AV)} (es:List CapE) (h1:∀ j d,cap[j]?=some (some d)->∃ e∈es,e.j=j∧e.d=d)
  (h2:∀ e∈es,scope.names[e.j]?=some (e.x,.free)∧(F.names[e.k]?=some (e.x,.cell)∨F.names[e.k]?=some (e.x,.free))∧sig[e.k]?=some (some e.d)∧cl.lookup e.x=F.env.cells.lookup e.x):Qa F sig scope cl cap:=by
 intro j x kind d hj hc
 obtain ⟨e,he,rfl,rfl⟩:=h1 j d hc
 obtain ⟨g1,g2,g3,g4⟩:=h2 e he
 have hx:x=e.x∧(kind=.cell∨kind=.free):=by
  unfold relabel at hj
  simp only[getElem?_map,g1,Option.map_some] at hj
  split at hj
  ·cases hj;exact ⟨rfl,.inl rfl⟩
  ·cases hj;exact ⟨rfl,.inr rfl⟩
 obtain ⟨rfl,hk⟩:=hx
 refine ⟨hk,?_⟩
 rcases g2 with g2 | g2
 ·exact ⟨e.k,.cell,g2,.inl rfl,g3,g4⟩
 ·exact ⟨e.k,.free,g2,.inr rfl,g3,g4⟩
section
variable {prog:Program} {w:World} {F:Fn} {sig:List (Option AV)} {om:Om} {scope:Scope} {cl:List (Str×Addr)} {V:PH} {n C:Addr}
theorem ZI (ok:(Z5 F scope cl V n C).Ok) {x:Str} {pos:Pos} (k:Nat) {d:AV} (e:scope.names[k]?=some (x,.local)) (hd:((x==("__debug__" : Str)) || (x==("__classdict__" : Str)))=false) (hs:sig[k]?=some (some d)):Ev prog w (Z5 F scope cl V n C) sig om (.Name x pos) d :=
 GL ok k (W7 e) hd hs
theorem cnm_glo (ok:(Z5 F scope cl V n C).Ok) {x:Str} {pos:Pos} (k:Nat) {v:Value} (e:scope.names[k]?=some (x,.globalImplicit)) (hd:((x==("__debug__" : Str)) || (x==("__classdict__" : Str)))=false) (g:Glo (Z5 F scope cl V n C) x v):Ev prog w (Z5 F scope cl V n C) sig om (.Name x pos) (.raw fun _ u=>u=v):=by
 refine Fv ok k ?_ hd g
 show (relabel scope F.env).names[k]?=_
 unfold relabel
 simp only[getElem?_map,e,Option.map_some]
 rfl
theorem Yi (ok:(Z5 F scope cl V n C).Ok) {x:Str} {pos:Pos} (k:Nat) {d:AV} (e:scope.names[k]?=some (x,.free)) (hd:((x==("__debug__" : Str)) || (x==("__classdict__" : Str)))=false) (hs:sig[k]?=some (some d)):Ev prog w (Z5 F scope cl V n C) sig om (.Name x pos) d:=by
 have:∃ kind,(Z5 F scope cl V n C).names[k]?=some (x,kind):=by
  show ∃ kind,(relabel scope F.env).names[k]?=_
  unfold relabel
  simp only[getElem?_map,e,Option.map_some]
  split
  ·exact ⟨_,rfl⟩
  ·exact ⟨_,rfl⟩
 obtain ⟨kind,hk⟩:=this
 exact GL ok k hk hd hs
theorem swW {env:Env} {sc:Scope} (h:env.scope=sc) (v:Expr) (t:Option Expr) (l:Nat):swapsWith v t l env=swapsWith v t l (BU sc):=by subst h;rfl
end
section
variable {prog:Program} {w:World} {F:Fn} {sig:List (Option AV)} {om:Om}
theorem PC {l r:Expr} {op:CmpOp} {p pos:Pos} {body orelse rest:List Stmt} {PE:AV->Om->Prop} {P:Out->Prop} (h₁:EvX prog w F sig om l PE)
  (h₂:∀ d₁ om₁,PE d₁ om₁->∃ d₂ b,Ev prog w F sig om₁ r d₂∧Op2 prog w F om₁ (compareOp op) d₁ d₂ (.bool b)∧(b=true->Ex prog w F sig om₁ body (Q1 prog w F rest P))∧(b=false->Ex prog w F sig om₁ orelse (Q1 prog w F rest P)))
  (hm:behindInMarks op r=false):Ex prog w F sig om (.If (.Compare l [op] [r] p) body orelse pos::rest) P:=by
 refine WQ fun R tau s Q E x hq=>?_
 refine wpAny_If (wpAny_isTrue_Compare1 (h₁ R tau s _ _ x fun v₁ d₁ om₁ s₁ hpe x₁=>?_) hm)
 obtain ⟨d₂,b,e2,o,ht,hf⟩:=h₂ d₁ om₁ hpe
 refine e2 R _ _ _ _ x₁ fun v₂ s₂ x₂=>o R sig tau _ _ _ _ _ x₂ fun v s' x₃=>?_
 have:=x₃.top
 subst this
 refine wpAny_truthy_bool ?_
 cases b with
 | true=>exact ht rfl R tau s' _ _ x₃.pop hq
 | false=>exact hf rfl R tau s' _ _ x₃.pop hq
end
end
section
theorem Sub.of:∀ {a b:List (Option AV)},(∀ (k:Nat) (d:AV),a[k]?=some (some d)->b[k]?=some (some d))->Sub a b
 | [],_,_=>trivial
 | none::r,[],h=>by
  show Sub r []
  exact Sub.of fun k d e=>nomatch (show none=some (some d) from h (k+1) d e)
 | none::r,_::t,h=>by
  show Sub r t
  exact Sub.of fun k d e=>h (k+1) d e
 | some d::r,[],h=>nomatch (show none=some (some d) from h 0 d rfl)
 | some d::r,o::t,h=>⟨Option.some.inj (h 0 d rfl),Sub.of fun k d e=>h (k+1) d e⟩
noncomputable def X5 (n:Nat) (ys:Nat->List AV) (f:Nat->Nat->AV):List AV:=(List.range n).flatMap fun i=>(List.range (ys i).length).map (f i)
theorem WB (n:Nat) (ys:Nat->List AV) (f:Nat->Nat->AV):X5 (n+1) ys f=X5 n ys f++(List.range (ys n).length).map (f n):=by
 unfold X5
 rw[range_succ,flatMap_append];simp
section
variable {prog:Program} {w:World} {F:Fn} {R:PH} {sig sig' sig₀:List (Option AV)} {om om':Om} {tau:List (Value×AV)} {s:Shared}
theorem F1 {act:Sem PySem.Fin} {c:Code} {P:List (Option AV)->Om->Prop} (h:Sub sig₀ sig) (e:Do prog w F sig₀ om act c P):Do prog w F sig om act c P:=fun R tau s Q E st hq=>e R tau s Q E (st.forget h) hq
set_option tactic.hygienic true in
theorem KC (ok:F.Ok) {elt iter iter':Expr} {x y:Str} {px py:Pos} {scope:Scope} {pos:Pos} {cl:List (Str×Addr)} {cap:List (Option AV)} {k k':Nat} {d:AV} {xs:List AV} (ys:Nat->List AV) (dd:Nat->AV) (f:Nat->Nat->AV)
  (c:CompOk F scope cl) (hcap:Qa F sig scope cl cap) (hx:scope.names[k]?=some (x,.local)) (hy:scope.names[k']?=some (y,.local)) (hdx:((x==("__debug__" : Str)) || (x==("__classdict__" : Str)))=false) (hdy:((y==("__debug__" : Str)) || (y==("__classdict__" : Str)))=false) (hkk:k≠k')
  (h:Ev prog w F sig om iter d) (itr:Itr prog w F om d xs) (hsz:∀ i,i≤xs.length->(X5 i ys f).length≤sizeLine) (hs':∀ env x,foldedSetIterable iter' env x=pure x)
  (body:∀ (V:PH) (n:Addr) (l:List AV),(Z5 F scope cl V n (n+1)).Ok->F.G.le V->n∉om.map (·.1)->∀ (i:Nat) xv,xs[i]?=some xv ->
   Ev prog w (Z5 F scope cl V n (n+1)) ((cap.set k (some xv)).set k' none) ((n,Zc l)::om) iter' (dd i)∧Itr prog w (Z5 F scope cl V n (n+1)) ((n,Zc l)::om) (dd i) (ys i) ∧
   ∀ (j:Nat) yv,(ys i)[j]?=some yv->Ev prog w (Z5 F scope cl V n (n+1)) ((cap.set k (some xv)).set k' (some yv)) ((n,Zc l)::om) elt (f i j)) :
  Comp prog w F sig om elt iter [⟨.Name x px,iter,[],0⟩,⟨.Name y py,iter',[],0⟩] scope pos cl (X5 xs.length ys f) :=
 ⟨d,fun R tau s E RR st hRR=>by
  refine Qc ok (act:=fun acc env=>N9 (.ListComp elt [⟨.Name x px,iter,[],0⟩,⟨.Name y py,iter',[],0⟩] scope pos) iter' acc env 0) (fun acc env=>Po elt (.Name x px) iter (.Name y py) iter' [] [] scope pos acc env) rfl rfl c.cell c.kind c.names hcap h itr (fun V n ok' hV hn=>?_) st hRR
  refine ⟨fun i sig om'=>(sig=cap∨∃ xv yo,sig=(cap.set k (some xv)).set k' yo)∧om'=(n,Zc (X5 i ys f))::om,⟨.inl rfl,rfl⟩,fun sig' om' hi=>hi.2,?_⟩
  rintro I i xv sig om' hx' ⟨hsig,rfl⟩
  have hil:i<xs.length:=(List.getElem?_eq_some_iff.mp hx').1
  refine ⟨sig.set k (some xv),true,Zf ok' (.inl (At.of ok' (W7 hx) hdx)),Yd,fun e=>(nomatch e),fun _=>?_⟩
  refine F1 (sig₀:=(cap.set k (some xv)).set k' none) (Sub.of fun j e he=>?_) ?_
  ·rw[List.getElem?_set] at he
   split at he
   ·split at he<;>cases he
   ·rename_i hj
    rw[List.getElem?_set] at he ⊢
    rcases hsig with rfl | ⟨xv',yo,rfl⟩
    ·exact he
    ·rw[List.length_set,List.length_set,List.getElem?_set,if_neg hj,List.getElem?_set]
     split
     ·rename_i q;rw[if_pos q] at he;exact he
     ·rename_i q;rw[if_neg q] at he;exact he
  ·obtain ⟨b1,b2,-⟩:=body V n (X5 i ys f) ok' hV hn i xv hx'
   refine LW ok' (k:=0) (act:=Sr (.ListComp elt [⟨.Name x px,iter,[],0⟩,⟨.Name y py,iter',[],0⟩] scope pos) elt (.ref n) (Z5 F scope cl V n (n+1)).env 1) (Qb elt (.Name x px) iter (.Name y py) iter' [] [] scope pos (.ref n) _) rfl rfl b1 b2
    (fun j sg om''=>(∃ yo,sg=(cap.set k (some xv)).set k' yo)∧om''=(n,Zc (X5 i ys f++(List.range j).map (f i)))::om) ⟨⟨none,rfl⟩,by simp⟩ ?_ ?_ (hs' _)
   ·rintro I' j yv sg om'' hy' ⟨⟨yo,rfl⟩,rfl⟩
    have hjl:j<(ys i).length:=(List.getElem?_eq_some_iff.mp hy').1
    obtain ⟨-,-,b3⟩:=body V n (X5 i ys f++(List.range j).map (f i)) ok' hV hn i xv hx'
    refine ⟨((cap.set k (some xv)).set k' yo).set k' (some yv),true,Zf ok' (.inl (At.of ok' (W7 hy) hdy)),Yd,fun e=>(nomatch e),fun _=>?_⟩
    rw[List.set_set]
    refine NB (b3 j yv hy') OmUpd.here ?_ ⟨⟨_,rfl⟩,?_⟩
    ·have:=hsz (i+1) hil
     rw[WB,length_append,length_map,length_range] at this
     rw[length_append,length_map,length_range]
     omega
    ·rw[range_succ,map_append,<-append_assoc];rfl
   ·rintro sg om'' ⟨⟨yo,rfl⟩,rfl⟩
    exact ⟨.inr ⟨xv,yo,rfl⟩,by rw[WB]⟩⟩
end
section
variable {prog:Program} {w:World} {F:Fn} {sig:List (Option AV)} {om:Om}
theorem ZV {elt iter target:Expr} {ifs:List Expr} {gs:List Comprehension} {scope:Scope} {pos:Pos} {cl:List (Str×Addr)} {res:List AV} (c:CompOk F scope cl) (h:CompOk F scope cl->Comp prog w F sig om elt iter (⟨target,iter,ifs,0⟩::gs) scope pos cl res)
  (hs:∀ x,foldedSetIterable iter F.env x=pure x:=by intro _;rfl):Ev prog w F sig om (.ListComp elt (⟨target,iter,ifs,0⟩::gs) scope pos) (.lst res):=Hp c (h c) hs
theorem Y4 (ok:F.Ok) {x:Str} {p spos:Pos} {k:Nat} {elt iter target:Expr} {ifs:List Expr} {gs:List Comprehension} {scope:Scope} {pos:Pos} {cl:List (Str×Addr)} {res:List AV} (c:CompOk F scope cl) (a:Xc F x k)
  (h:CompOk F scope cl->Comp prog w F sig om elt iter (⟨target,iter,ifs,0⟩::gs) scope pos cl res)
  (hsw:swapsWith (.ListComp elt (⟨target,iter,ifs,0⟩::gs) scope pos) (some (.Name x p)) spos.line F.env=pure true)
  (hs:∀ x,foldedSetIterable iter F.env x=pure x:=by intro _;rfl):Ex1 prog w F sig om (.Assign [.Name x p] (.ListComp elt (⟨target,iter,ifs,0⟩::gs) scope pos) spos) (·=.nxt (sig.set k (some (.lst res))) om):=Tu ok c a (h c) hsw hs
end
noncomputable def S5 (L:List CapE):Nat->List (Option AV)->Prop
 | _,[]=>True
 | j,none::r=>S5 L (j+1) r
 | j,some d::r=>(∃ e∈L,e.j=j∧e.d=d)∧S5 L (j+1) r
theorem Rv {L:List CapE}:∀ {cap:List (Option AV)} {b:Nat},S5 L b cap->∀ j d,cap[j]?=some (some d)->∃ e∈L,e.j=b+j∧e.d=d
 | [],b,_,j,d,h=>by cases h
 | none::r,b,q,0,d,h=>by cases h
 | none::r,b,q,j+1,d,h=>by
  have:=Rv (b:=b+1) (show S5 L (b+1) r from q) j d h
  rwa [add_right_comm] at this
 | some e::r,b,q,0,d,h=>by cases h;exact q.1
 | some e::r,b,q,j+1,d,h=>by
  have:=Rv (b:=b+1) (show S5 L (b+1) r from q.2) j d h
  rwa [add_right_comm] at this
theorem UZ {L:List CapE} {cap:List (Option AV)} (q:S5 L 0 cap):∀ j d,cap[j]?=some (some d)->∃ e∈L,e.j=j∧e.d=d:=fun j d h=>by
 have:=Rv q j d h
 rwa [zero_add] at this
theorem Q6 {a b:Int}:(ZC a b).length=(b-a).toNat:=by unfold ZC;rw[length_map,length_range]
theorem TD {a b:Nat}:(ZC (a:Int) (b:Int)).length=b-a:=Q6.trans (toNat_sub b a)
theorem YL {b:Nat}:(ZC 0 (b:Int)).length=b:=Q6.trans (by rw[Int.sub_zero];exact toNat_natCast b)
theorem KD (n:Nat):((-1:Int)+(n:Nat)).toNat=n-1:=by rw[Int.add_comm];exact toNat_sub n 1
theorem KE {a:Nat} (h1:a≤1000):a≤sizeLine:=Nat.le_trans h1 (by decide)
theorem GO {a:Nat} (h1:a≤1000):a<2 ^ 62:=lt_of_le_of_lt h1 (by decide)
theorem Vp {a:Nat} (h1:a≤1000):(a:Int)<2 ^ 63:=by omega
theorem YR {a:Nat}:(0:Int)≤(a:Nat):=natCast_nonneg a
theorem Rw {a:Nat}:-(2 ^ 62)≤(a:Int):=Int.le_trans (by decide) (natCast_nonneg a)
theorem Rx {a:Nat} (h:a≤1000):(a:Int)<2 ^ 62:=Int.lt_of_le_of_lt (Int.ofNat_le.mpr h) (by decide)
section
variable {prog:Program} {w:World} {F:Fn} {om:Om}
theorem TE (ok:F.Ok) {a b:Nat} (ha:a≤1000) (hb:b≤1000):Itr prog w F om (.rng (a:Int) (b:Int)) (ZC (a:Int) (b:Int)):=UU ok Rw (Rx ha) Rw (Rx hb)
theorem ZW (ok:F.Ok) {b:Nat} (hb:b≤1000):Itr prog w F om (.rng 0 (b:Int)) (ZC 0 (b:Int)):=UU ok (by decide) (by decide) Rw (Rx hb)
theorem KF (ok:F.Ok) {b:Nat} (hb:b≤1000):Itr prog w F om (.rng 1 (b:Int)) (ZC 1 (b:Int)):=UU ok (by decide) (by decide) Rw (Rx hb)
end
theorem VP {i b:Nat} (h:i<((b:Int)-0).toNat):i<b:=by rwa [Int.sub_zero,toNat_natCast] at h
theorem HC {i b:Nat} (h:i<((b:Int)-1).toNat):i+1<b:=by rw[show ((b:Int)-1).toNat=b-1 from toNat_sub b 1] at h;exact Nat.add_lt_of_lt_sub h
theorem Q7 {a b:Nat} (h:a≤1000):a-b≤sizeLine:=KE (Nat.le_trans (sub_le _ _) h)
end
section
structure RdS where
 told:List Int
 gone:List Int
 last:Str
 i:Nat
 j:Nat
noncomputable def Y9 (l:List Int) (a b:Nat):List Int:=(l.take b).drop a
noncomputable def Rd (old new notes:List Int) (now:Int) (s0:RdS) (c:OpN) (s1:RdS):Prop :=
 (c.2.1=s0.i∧c.2.2.2.1=s0.j) ∧
 ((c.1 = "equal" ∧ c.2.1<c.2.2.1∧c.2.2.2.1<c.2.2.2.2∧Y9 old c.2.1 c.2.2.1=Y9 new c.2.2.2.1 c.2.2.2.2∧s0.last ≠ "equal" ∧ s1=⟨s0.told++Y9 notes c.2.1 c.2.2.1,s0.gone, "equal",c.2.2.1,c.2.2.2.2⟩) ∨
  (((c.1 = "replace" ∧ c.2.1<c.2.2.1∧c.2.2.2.1<c.2.2.2.2)∨(c.1 = "delete" ∧ c.2.1<c.2.2.1∧¬ c.2.2.2.1<c.2.2.2.2)∨(c.1 = "insert" ∧ ¬ c.2.1<c.2.2.1∧c.2.2.2.1<c.2.2.2.2))∧(s0.last = "" ∨ s0.last = "equal") ∧
   s1=⟨s0.told++List.replicate (c.2.2.2.2-c.2.2.2.1) now,s0.gone++(List.range' c.2.1 (c.2.2.1-c.2.1)).map (fun (n:Nat)=>(n:Int)),c.1,c.2.2.1,c.2.2.2.2⟩))
section
variable {old new notes:List Int} {now:Int} {told gone:List Int} {last tag:Str} {i1 i2 j1 j2:Nat}
theorem Rd.eq (h1:i1<i2) (h2:j1<j2) (h3:Y9 old i1 i2=Y9 new j1 j2) (h4:last ≠ "equal"):Rd old new notes now ⟨told,gone,last,i1,j1⟩ ("equal",i1,i2,j1,j2) ⟨told++Y9 notes i1 i2,gone, "equal",i2,j2⟩:=⟨⟨rfl,rfl⟩,.inl ⟨rfl,h1,h2,h3,h4,rfl⟩⟩
theorem Rd.change (h1:(tag = "replace" ∧ i1<i2∧j1<j2)∨(tag = "delete" ∧ i1<i2∧¬ j1<j2)∨(tag = "insert" ∧ ¬ i1<i2∧j1<j2)) (h2:last = "" ∨ last = "equal") :
  Rd old new notes now ⟨told,gone,last,i1,j1⟩ (tag,i1,i2,j1,j2) ⟨told++List.replicate (j2-j1) now,gone++(List.range' i1 (i2-i1)).map (fun (n:Nat)=>(n:Int)),tag,i2,j2⟩:=⟨⟨rfl,rfl⟩,.inr ⟨h1,h2,rfl⟩⟩
end
noncomputable def WC (i1 i2 j1 j2:Nat):Str:=if i1<i2 then (if j1<j2 then "replace" else "delete") else (if j1<j2 then "insert" else "nothing")
theorem TF {a b:AV}:[a,b].length≤sizeLine:=show 2≤sizeLine by decide
theorem PD {a b:Str} (h:a≠b):(a.cps.toList==b.cps.toList)=false:=by
 rw[beq_eq_false_iff_ne]
 intro e
 apply h
 cases a;cases b
 exact congrArg Str.mk (Array.toList_inj.mp e)
theorem Ut {tag:Str} {p q r:Prop} (h1:(tag = "replace" ∧ p)∨(tag = "delete" ∧ q)∨(tag = "insert" ∧ r)):tag ≠ "equal" := by
 rcases h1 with ⟨e,_⟩ | ⟨e,_⟩ | ⟨e,_⟩<;>rw[e]<;>decide
theorem Rd.t1 {old new notes:List Int} {now:Int} {s0 s1:RdS} {tag:Str} {i1 i2 j1 j2:Nat} (h:Rd old new notes now s0 (tag,i1,i2,j1,j2) s1) :
  ((!(((i1:Int)==(s0.i:Int))&&(((j1:Int)==(s0.j:Int))&&true))) || (((s0.last.cps.toList != ("" : Str).cps.toList)&&(((tag.cps.toList==("equal" : Str).cps.toList)==(s0.last.cps.toList==("equal" : Str).cps.toList))&&true)) || false))=false:=by
 obtain ⟨⟨hi,hj⟩,h⟩:=h
 dsimp only at hi hj h
 rw[hi,hj,beq_self_eq_true,beq_self_eq_true]
 rcases h with ⟨ht,h⟩ | ⟨h1,h2,_⟩
 ·rw[ht,beq_self_eq_true,PD h.2.2.2.1]
  cases (s0.last.cps.toList != ("" : Str).cps.toList)<;>rfl
 ·rcases h2 with e | e
  ·rw[e,bne_self_eq_false];rfl
  ·rw[e,PD (Ut h1),beq_self_eq_true];rfl
noncomputable def rd0:RdS:=⟨[],[], "",0,0⟩
end
section
theorem VQ {V:PH}:∀ {l:List Int} {vs:List Value},Zn V (l.map .int) vs->IntsAre vs l
 | [],vs,h=>by
  unfold Zn at h;simp only[List.map_nil] at h;subst h;exact .nil
 | a::l,vs,h=>by
  rw[map_cons] at h
  unfold Zn at h
  obtain ⟨v,vs',rfl,h1,h2⟩:=h
  obtain ⟨t,rfl⟩:=h1
  exact .cons _ _ (VQ h2)
theorem KG {prog:Program} {w:World} {F:Fn} {om:Om} {l:List Int} (ok:F.Ok):OpC prog w F om (.builtin "sum") [il l] (.int l.sum):=fun R sig tau vs s Q E hv st h=>by
 obtain ⟨v,rfl,st⟩:=Wk hv st
 have h1:=st.top
 obtain ⟨a,vs,n,rfl,o,r⟩:=h1
 have hi:IntsAre vs.toList l:=VQ r
 have hl:s.heap.IsList a vs:=⟨_,st.vget o,rfl,n,rfl⟩
 have e:=hi.numsOf
 obtain ⟨xs,hx⟩:=hi.allInts.items
 rw[Array.toArray_toList] at hx
 subst hx
 refine sum_intListG ok.handled hl fun h' tk t' hk=>?_
 rw[preSum_eq,List.take_of_length_le (by simp),<-nums_intItems,e]
 exact h _ _ ((st.pop.grow hk).push ZR)
end
section
section
variable {prog:Program} {w:World} {F:Fn} {R:PH} {sig sig':List (Option AV)} {om om':Om} {tau:List (Value×AV)} {s:Shared}
end
end
section
section
variable {prog:Program} {w:World} {F:Fn} {R:PH} {sig sig':List (Option AV)} {om om':Om} {tau:List (Value×AV)} {s:Shared} {f:Int->Option AV} {m:Nat} {k:Int} {a:Addr}
theorem VR {t:Tok}:(intKind prog w).is k (.int k t)=true:=by show Value.isInt k (.int k t)=true;simp[Value.isInt]
theorem U8 {V:PH} {r:Option Value} {d:Option AV} (h:W9 V d r):r.isSome=d.isSome:=by
 cases d with
 | none =>
  have h:r=none:=h
  rw[h];rfl
 | some d=>obtain ⟨u,e,_⟩:=h;rw[e];rfl
theorem Ry:Op2 prog w F om (compareOp .NotIn) (.int k) (dct f m) (.bool (!(f k).isSome)):=fun R sig tau v₁ v₂ s Q E st h=>by
 have r1:=st.top2
 have r2:=st.top
 unfold dct at r2
 obtain ⟨t,rfl⟩:=r1
 obtain ⟨a,o,rfl,hsm,hV,hd⟩:=r2 _ (PH.le.refl _)
 obtain ⟨g,hm,hz,hg⟩:=hd.map (prog:=prog) (w:=w) (st.vget hV)
 refine wpAny_notIn_of VR hsm hm ?_
 rw[U8 (hg k)]
 exact h _ _ (st.pop.pop.tok1.push ZJ)
theorem Vq (ha:(a==sysModules)=false) (hmem:(a,Z7 f m)∈om):Op2 prog w F om (compareOp .NotIn) (.int k) (.ptr a) (.bool (!(f k).isSome)):=fun R sig tau v₁ v₂ s Q E st h=>by
 have r1:=st.top2
 have r2:=st.top
 obtain ⟨t,rfl⟩:=r1
 subst r2
 obtain ⟨g,hm,hz,hg⟩:=st.openDct (prog:=prog) (w:=w) hmem
 refine wpAny_notIn_of VR ha hm ?_
 rw[U8 (hg k)]
 exact h _ _ (st.pop.pop.tok1.push ZJ)
theorem KH {value slice:Expr} {d:AV} (hn:W3 slice) (hf:f k=some d):Op2 prog w F om (subscriptTail value slice) (dct f m) (.int k) d:=fun R sig tau v₁ v₂ s Q E st h=>by
 have r1:=st.top2
 have r2:=st.top
 unfold dct at r1
 obtain ⟨t,rfl⟩:=r2
 obtain ⟨a,o,rfl,hsm,hV,hd⟩:=r1 _ (PH.le.refl _)
 obtain ⟨g,hm,hz,hg⟩:=hd.map (prog:=prog) (w:=w) (st.vget hV)
 have hgk:=hg k
 rw[hf] at hgk
 obtain ⟨u,e,r⟩:=hgk
 exact tail_any hm.typeIs PySem.slot_dict_getitem.lookup (wpAny_getItem_of VR hm e (h _ _ (st.pop.pop.tok1.push r))) (hn _ _)
end
end
section
noncomputable def QE (prog:Program) (w:World) (A:Around) (cenv:Env) (base:Heap) (x:Str) (k:Int) (e:Expr) (P:Value->Prop):Prop :=
 ∀ (s₃:Shared) (m₃:Str->Option Value) (t:Tok) (E':Value->Shared->Prop),s₃.heap.Ns cenv.locals m₃->m₃ x=some (.int k t)->(∀ b o,base.get? b=some o->s₃.heap.get? b=some o) ->
  wpAny (model prog w) A (eval e cenv) (fun y s₄=>P y∧Keeps s₃ s₄) E' s₃
section
variable {prog:Program} {w:World} {A:Around} {cenv:Env} {base:Heap} {x:Str} {k:Int}
theorem XY (s:Shared):Keeps s s:=⟨s.heap,s.toks,rfl,fun _ _ e=>e⟩
theorem Uu (s:Shared):Keeps s { s with toks:=s.toks+1 }:=⟨s.heap,s.toks+1,rfl,fun _ _ e=>e⟩
theorem U9 {s s' s'':Shared} (h:Keeps s s') (h':Keeps s' s''):Keeps s s'':=by
 obtain ⟨h1,t1,rfl,k1⟩:=h
 obtain ⟨h2,t2,rfl,k2⟩:=h'
 exact ⟨h2,t2,rfl,fun b o e=>k2 b o (k1 b o e)⟩
theorem HD {pos:Pos} (hk:cenv.scope.kind=.function) (hl:cenv.kindOf x=some .local) (hd:(x==("__debug__" : Str))=false):QE prog w A cenv base x k (.Name x pos) (fun y=>∃ t,y=.int k t):=fun s₃ m₃ t E' hn hm hb =>
 wpAny_Name (wpAny_loadName_local hk hl hn hm ⟨⟨t,rfl⟩,XY _⟩) hd
theorem NP {y:Str} {pos:Pos} {c:Addr} {o:Obj} {v:Value} (hk:cenv.scope.kind=.function) (hl:cenv.kindOf y=some .cell) (hc:cenv.cells.lookup y=some c) (ho:base.get? c=some o) (hv:o.data=.cell (some v)) (hd:(y==("__debug__" : Str))=false) :
  QE prog w A cenv base x k (.Name y pos) (fun u=>u=v):=fun s₃ m₃ t E' hn hm hb =>
 wpAny_Name (wpAny_loadName_cell hk hl hc ⟨o,hb _ _ ho,hv⟩ ⟨rfl,XY _⟩) hd
theorem HE {s₃ s₄:Shared} {m₃:Str->Option Value} (hn:s₃.heap.Ns cenv.locals m₃) (hk:Keeps s₃ s₄):s₄.heap.Ns cenv.locals m₃:=by
 obtain ⟨h,tk,rfl,kp⟩:=hk
 exact hn.keeps kp
theorem Rz {s₃ s₄:Shared} (hb:∀ b o,base.get? b=some o->s₃.heap.get? b=some o) (hk:Keeps s₃ s₄):∀ b o,base.get? b=some o->s₄.heap.get? b=some o:=by
 obtain ⟨h,tk,rfl,kp⟩:=hk
 exact fun b o e=>kp _ _ (hb _ _ e)
theorem R0 {e₁ e₂ e:Expr} {P₁ P₂ P:Value->Prop} {f:Value->Value->Sem Value} (h₁:QE prog w A cenv base x k e₁ P₁) (h₂:QE prog w A cenv base x k e₂ P₂)
  (hf:∀ (v₁ v₂:Value) (s:Shared) (E:Value->Shared->Prop),P₁ v₁->P₂ v₂->(∀ b o,base.get? b=some o->s.heap.get? b=some o)->wpAny (model prog w) A (f v₁ v₂) (fun y s'=>P y∧Keeps s s') E s)
  (he:∀ (s:Shared) (Q:Value->Shared->Prop) (E:Value->Shared->Prop),wpAny (model prog w) A (eval e₁ cenv) (fun v₁ s₁=>wpAny (model prog w) A (eval e₂ cenv) (fun v₂ s₂=>wpAny (model prog w) A (f v₁ v₂) Q E s₂) E s₁) E s->wpAny (model prog w) A (eval e cenv) Q E s) :
  QE prog w A cenv base x k e P:=fun s₃ m₃ t E' hn hm hb=>he _ _ _ (wpAny_mono (h₁ s₃ m₃ t E' hn hm hb) (fun v₁ s₁ ⟨p₁,k₁⟩ =>
   wpAny_mono (h₂ s₁ m₃ t E' (HE hn k₁) hm (Rz hb k₁)) (fun v₂ s₂ ⟨p₂,k₂⟩=>wpAny_mono (hf v₁ v₂ s₂ E' p₁ p₂ (Rz (Rz hb k₁) k₂)) (fun y s' ⟨p,k₃⟩=>⟨p,U9 (U9 k₁ k₂) k₃⟩) fun _ _ z=>z) fun _ _ z=>z) fun _ _ z=>z)
theorem HF {e₁ e₂:Expr} {pos:Pos} {a:Addr} {o:Obj} {vs:Array Value} {n j:Nat} {u:Value} (h₁:QE prog w A cenv base x k e₁ (fun y=>y=.ref a)) (h₂:QE prog w A cenv base x k e₂ (fun y=>∃ t,y=.int (j:Nat) t)) (ho:base.get? a=some { cls:=.type "list",data:=.seq vs n })
  (hj:(j:Int)<2 ^ 63) (hu:vs[j]?=some u) (hn:W3 e₂):QE prog w A cenv base x k (.Subscript e₁ e₂ pos) (fun y=>y=u) :=
 R0 (f:=subscriptTail e₁ e₂) h₁ h₂ (fun v₁ v₂ s E p₁ p₂ hb=>by
  subst p₁
  obtain ⟨t,rfl⟩:=p₂
  have L:s.heap.IsList a vs:=⟨_,hb _ _ ho,rfl,n,rfl⟩
  exact tail_any L.typeIs PySem.slot_list_getitem.lookup (wpAny_getItem_list L (natCast_nonneg j) hj (by rw[toNat_natCast];exact hu) ⟨rfl,XY _⟩) (hn _ _)) fun s Q E h=>Subscript_ h
theorem HG {e₁ e₂:Expr} {pos:Pos} {a:Addr} {g:Int->Option Value} {j:Int} {u:Value} (h₁:QE prog w A cenv base x k e₁ (fun y=>y=.ref a)) (h₂:QE prog w A cenv base x k e₂ (fun y=>∃ t,y=.int j t)) (hm:base.MapOf (intKind prog w) a g)
  (hu:g j=some u) (hn:W3 e₂):QE prog w A cenv base x k (.Subscript e₁ e₂ pos) (fun y=>y=u) :=
 R0 (f:=subscriptTail e₁ e₂) h₁ h₂ (fun v₁ v₂ s E p₁ p₂ hb=>by
  subst p₁
  obtain ⟨t,rfl⟩:=p₂
  obtain ⟨o,es,ep,ho,r⟩:=hm
  have M:s.heap.MapOf (intKind prog w) a g:=⟨o,es,ep,hb _ _ ho,r⟩
  exact tail_any M.typeIs PySem.slot_dict_getitem.lookup (wpAny_getItem_of VR M hu ⟨rfl,Uu _⟩) (hn _ _)) fun s Q E h=>Subscript_ h
theorem F2 {i:Int} {kk:Nat} {pos:Pos}:QE prog w A cenv base x k (.Constant (.int i) kk pos) (fun y=>∃ t,y=.int i t):=fun s₃ m₃ t E' hn hm hb=>wpAny_Constant_int ⟨⟨_,rfl⟩,Uu _⟩
theorem F3 {l r:Expr} {pos:Pos} {i j:Int} (h₁:QE prog w A cenv base x k l (fun y=>∃ t,y=.int i t)) (h₂:QE prog w A cenv base x k r (fun y=>∃ t,y=.int j t)):QE prog w A cenv base x k (.BinOp l .Sub r pos) (fun y=>∃ t,y=.int (i-j) t) :=
 R0 (f:=binaryOp .Sub) h₁ h₂ (fun v₁ v₂ s E p₁ p₂ hb=>by
  obtain ⟨t,rfl⟩:=p₁
  obtain ⟨t',rfl⟩:=p₂
  exact P.sub_int ⟨⟨_,rfl⟩,Uu _⟩) fun s Q E h=>wpAny_BinOp h
theorem BX {l r:Expr} {pos:Pos} {i j:Int} (h₁:QE prog w A cenv base x k l (fun y=>∃ t,y=.int i t)) (h₂:QE prog w A cenv base x k r (fun y=>∃ t,y=.int j t)) (hm:behindInMarks .Eq r=false):QE prog w A cenv base x k (.Compare l [.Eq] [r] pos) (fun y=>y=.bool (i==j)) :=
 R0 (f:=compareOp .Eq) h₁ h₂ (fun v₁ v₂ s E p₁ p₂ hb=>by
  obtain ⟨t,rfl⟩:=p₁
  obtain ⟨t',rfl⟩:=p₂
  exact P.eq_int ⟨rfl,XY _⟩) fun s Q E h=>wpAny_Compare1 h hm
end
end
section
theorem UA {k x:Int} {v:Value}:∀ {kvs:List (Int×Value)},valueAt (kvs.map fun kv=>if kv.1=k then (kv.1,v) else kv) x=if x=k then (valueAt kvs x).map (fun _=>v) else valueAt kvs x
 | []=>by unfold valueAt;split<;>rfl
 | (a,y)::kvs=>by
  have ih:=UA (k:=k) (x:=x) (v:=v) (kvs:=kvs)
  unfold valueAt at ih ⊢
  by_cases q:a=k
  ·subst q
   rw[map_cons,if_pos rfl]
   by_cases r:a=x
   ·subst r
    rw[List.find?_cons_of_pos (by simp),List.find?_cons_of_pos (by simp),if_pos rfl];rfl
   ·rw[List.find?_cons_of_neg (by simpa using r),List.find?_cons_of_neg (by simpa using r)]
    exact ih
  ·rw[map_cons,if_neg q]
   by_cases r:a=x
   ·subst r
    rw[List.find?_cons_of_pos (by simp),List.find?_cons_of_pos (by simp),if_neg q]
   ·rw[List.find?_cons_of_neg (by simpa using r),List.find?_cons_of_neg (by simpa using r)]
    exact ih
theorem WS {kvs:List (Int×Value)} {k x:Int} {v:Value}:valueAt (stored kvs k v) x=if x=k then some v else valueAt kvs x:=by
 unfold stored
 by_cases q:kvs.any (fun kv=>kv.1=k)=true
 ·rw[if_pos q,UA]
  by_cases r:x=k
  ·subst r
   rw[if_pos rfl,if_pos rfl]
   obtain ⟨kv,h1,h2⟩:=List.any_eq_true.mp q
   unfold valueAt
   cases e:kvs.find? fun kv=>kv.1=x with
   | none=>exact absurd h2 (List.find?_eq_none.mp e kv h1)
   | some p=>rfl
  ·rw[if_neg r,if_neg r]
 ·rw[if_neg q]
  unfold valueAt
  rw[List.find?_append]
  by_cases r:x=k
  ·subst r
   rw[if_pos rfl]
   have:kvs.find? (fun kv=>kv.1=x)=none:=List.find?_eq_none.mpr fun kv h h'=>q (List.any_eq_true.mpr ⟨kv,h,h'⟩)
   rw[this,Option.none_or,List.find?_cons_of_pos (by simp)];rfl
  ·rw[if_neg r,List.find?_cons_of_neg (by simpa using fun e:k=x=>r e.symm),List.find?_nil,Option.or_none]
theorem Sj {kf:Int->Int} {vf:Int->Bool} {L:List Int} (inj:∀ a∈L,∀ b∈L,kf a=kf b->a=b) {l:List Value} {kvs:List (Int×Value)}
  (h:StoredAll (fun v k'=>∃ k t,v=.int k t∧k∈L∧k'=kf k) (fun v y=>∃ k t,v=.int k t∧y=.bool (vf k)) l kvs) :
  (∀ k∈L,(∃ t,Value.int k t∈l)->valueAt kvs (kf k)=some (.bool (vf k)))∧∀ j,(∀ k∈L,kf k≠j)->valueAt kvs j=none:=by
 induction h with
 | nil=>exact ⟨fun k _ ⟨t,h⟩=>(not_mem_nil h).elim,fun j _=>rfl⟩
 | @snoc l kvs v k' y _ h1 h2 ih =>
  obtain ⟨k,t,rfl,hk,rfl⟩:=h1
  obtain ⟨k₂,t₂,e,rfl⟩:=h2
  cases e
  refine ⟨fun a ha ⟨u,hu⟩=>?_,fun j hj=>?_⟩
  ·rw[WS]
   by_cases q:a=k
   ·subst q
    rw[if_pos rfl]
   ·rw[if_neg (fun e=>q (inj a ha k hk e))]
    refine ih.1 a ha ⟨u,?_⟩
    rcases List.mem_append.mp hu with hu | hu
    ·exact hu
    ·cases List.mem_singleton.mp hu;exact (q rfl).elim
  ·rw[WS,if_neg (fun e=>hj k hk e.symm)]
   exact ih.2 j hj
noncomputable def dcF (kf:Int->Int) (vf:Int->Bool) (L:List Int):Int->Option AV:=fun j=>(L.find? fun k=>kf k==j).map fun k=>.bool (vf k)
section
variable {prog:Program} {w:World} {F:Fn} {sig:List (Option AV)} {om:Om}
theorem Q8 (ok:F.Ok) {x:Str} {px pos:Pos} {kx vx iter:Expr} {scope:Scope} {cl:List (Str×Addr)} {D:Addr} {f:Int->Option AV} {m:Nat} {l:List Int} {kf:Int->Int} {vf:Int->Bool}
  (c:CompOk F scope cl) (hx:scope.names.lookup x=some .local) (hl0:∀ y∈scope.names,y.2=.local->scope.names.lookup y.1=some .local) (hit:Ev prog w F sig om iter (.ptr D)) (hmem:(D,Z7 f m)∈om) (hsm:sysModules<D) (hl:l.Nodup) (hlm:m≤l.length) (hz:l.length≤sizeLine) (hf:∀ k,k∈l->∃ d,f k=some d) (inj:∀ a∈l,∀ b∈l,kf a=kf b->a=b)
  (hq:∀ (R:PH) (tau:List (Value×AV)) (s:Shared),Sta F R sig om tau s->∀ C k,k∈l->QE prog w F.A (compEnvC scope cl C F.env) s.heap x k kx (fun y=>∃ t,y=.int (kf k) t)∧QE prog w F.A (compEnvC scope cl C F.env) s.heap x k vx (fun y=>y=.bool (vf k)))
  (hs:∀ x,foldedSetIterable iter F.env x=pure x):Ev prog w F sig om (.DictComp kx vx [⟨.Name x px,iter,[],0⟩] scope pos) (dct (dcF kf vf l) l.length):=fun R tau s Q E st h=>by
 rw[arm_eval_DictComp]
 refine wpAny_comprehension_free (use:=none) rfl hs c.clos c.kind hl0 (hit R tau s _ _ st fun v s₁ st₁=>?_)
 have r1:=st₁.top
 subst r1
 obtain ⟨oD,hoD,hP⟩:=st₁.opens _ hmem
 obtain ⟨kvs,ep,hat,hpm,_⟩:=M5 (prog:=prog) (w:=w) hoD (hP _ (PH.le.refl _)) hl hlm hf
 have hDlt:=Heap.lt_size hoD
 have hlen:kvs.length=l.length:=by rw[<-hpm.length_eq,length_map]
 refine wpAny_pyIter_dict (by simpa using (ne_of_lt hsm).symm) hat (wpAny_newObj_type (wpAny_newFunctionEnv c.cell (fun y hy=>(not_mem_nil hy).elim) (fun h₁ hns₁ hsb₁=>?_) c.kind))
 dsimp only at hns₁ hsb₁ ⊢
 generalize hI:({ cls:=.type "dict_keyiterator",data:=.fields #[.ref D,.int 0 0,.int kvs.length 0,.int ep 0] }:Obj)=oI at hns₁ hsb₁ ⊢
 have zA:(s₁.heap.push oI).objs.size=s₁.heap.objs.size+1:=Heap.size_push ..
 have zB:((s₁.heap.push oI).push { cls:=.type "dict",dict:=none,data:=.dict #[] }).objs.size=s₁.heap.objs.size+2:=by rw[Heap.size_push,zA]
 rw[zB] at hns₁ hsb₁
 rw[zA,zB]
 have up:∀ b o,s₁.heap.get? b=some o->(b≠s₁.heap.objs.size+2∧b≠s₁.heap.objs.size+1∧b≠s₁.heap.objs.size)∧h₁.get? b=some o:=fun b o e=>by
  have:=Heap.lt_size e
  have k:b≠s₁.heap.objs.size+2∧b≠s₁.heap.objs.size+1∧b≠s₁.heap.objs.size:=⟨ne_of_lt (Nat.lt_add_right 2 this),ne_of_lt (Nat.lt_add_right 1 this),ne_of_lt this⟩
  exact ⟨k,hsb₁.extBut b o k.1 (Heap.get?_push_of_some _ (Heap.get?_push_of_some _ (Heap.get?_push_of_some _ e)))⟩
 have isk:∀ {i:Nat} {v:Value},(∃ k y,kvs[i]?=some (k,y)∧(intKind prog w).is k v=true)->∃ k t,v=.int k t∧k∈l:=fun {i v} ⟨k,y,e,hv⟩=>by
  obtain ⟨t,rfl⟩:=Sz hv
  exact ⟨k,t,rfl,hpm.mem_iff.mp (List.mem_map.mpr ⟨(k,y),mem_of_getElem? e,rfl⟩)⟩
 have hIt:h₁.get? s₁.heap.objs.size=some oI:=hsb₁.extBut _ _ (ne_of_lt (lt_add_of_pos_right (by decide))) (Heap.get?_push_of_some _ (Heap.get?_push_of_some _ (Heap.get?_push_size _ (by rw[<-hI];rfl))))
 have hDn:h₁.DictOf (intKind prog w) (s₁.heap.objs.size+1) []:=by
  have:=(Heap.DictOf.new (knd:=intKind prog w) (s₁.heap.push oI)).at (h':=h₁) fun o e=>hsb₁.extBut _ _ (by rw[zA];exact ne_of_lt (lt_succ_self _)) (Heap.get?_push_of_some _ e)
  rwa [zA] at this
 have far:∀ b,s₁.heap.objs.size<b->b∉[s₁.heap.objs.size,D]:=fun b hb z=>by
  rcases List.mem_cons.mp z with e | z
  ·exact absurd e (ne_of_gt hb)
  ·rw[List.mem_singleton.mp z] at hb;exact Nat.lt_asymm hb hDlt
 have loop:∀ s₃:Shared,s₃={ s₁ with heap:=h₁,toks:=s₁.toks+([]:List (Str×Value)).length } ->
   codeAny (model prog w) F.A (.compLoop (.DictComp kx vx [⟨.Name x px,iter,[],0⟩] scope pos) 0 (.ref s₁.heap.objs.size) (.ref (s₁.heap.objs.size+1)) (compEnvC scope cl (s₁.heap.objs.size+2) F.env))
    (compPost (model prog w) F.A E none Q (.ref (s₁.heap.objs.size+1)) (s₁.heap.objs.size+2)) s₃:=by
  rintro s₃ rfl
  refine codeAny_compLoop_walkD (knd:=intKind prog w) (cenv:=compEnvC scope cl (s₁.heap.objs.size+2) F.env) (hsz:=by rw[hlen];exact hz) (Walks.dictKeys ok.handled s₁.heap.objs.size D (ne_of_lt hDlt) kvs ep) (fun _=>true) (fun v k'=>∃ k t,v=.int k t∧k∈l∧k'=kf k) (fun v y=>∃ k t,v=.int k t∧y=.bool (vf k))
   (lookup_relabel_local hx) (by simp[compEnvC,relabel,c.kind]) (ne_of_lt (lt_succ_self _)) ?_ ?_ ⟨⟨_,hIt,by rw[<-hI],by rw[<-hI];rfl⟩,hat.at' fun o e=>(up _ _ e).2⟩ hDn hns₁ (fun i v s₂ m₂ hv hn hm hk=>wpAny_pure ⟨rfl,XY _⟩)
   (fun i v s₂ m₂ hv _ hn hm hk=>?_) (fun i v s₂ m₂ hv _ hn hm hk=>?_) fun h' tk m' kvs' vs hn ha hvl hvs hsa hk=>?_
  ·exact far _ (lt_succ_self _)
  ·exact far _ (lt_add_of_pos_right (by decide))
  ·obtain ⟨k,t,rfl,hkl⟩:=isk hv
   refine wpAny_mono ((hq R _ s₁ st₁.pop _ k hkl).1 s₂ m₂ t _ hn hm fun b o e=>hk b o (up b o e).1.1 (fun z=>(up b o e).1.2.2 (List.mem_singleton.mp z)) (up b o e).1.2.1 (up b o e).2) (fun y s₄ ⟨⟨t',e⟩,kp⟩=>⟨⟨kf k,by rw[e];exact VR,k,t,rfl,hkl,rfl⟩,kp⟩) fun _ _ z=>z
  ·obtain ⟨k,t,rfl,hkl⟩:=isk hv
   exact wpAny_mono ((hq R _ s₁ st₁.pop _ k hkl).2 s₂ m₂ t _ hn hm fun b o e=>hk b o (up b o e).1.1 (fun z=>(up b o e).1.2.2 (List.mem_singleton.mp z)) (up b o e).1.2.1 (up b o e).2) (fun y s₄ ⟨e,kp⟩=>⟨⟨k,t,rfl,e⟩,kp⟩) fun _ _ z=>z
  ·refine ⟨m',hn,fun h'' hs''=>h _ _ ?_⟩
   have ha':=hs''.extBut
   have kp:∀ b o,s₁.heap.get? b=some o->h''.get? b=some o:=fun b o e=>ha' b o (up b o e).1.1 (hk b o (up b o e).1.1 (fun z=>(up b o e).1.2.2 (List.mem_singleton.mp z)) (up b o e).1.2.1 (up b o e).2)
   have hd'':h''.DictOf (intKind prog w) (s₁.heap.objs.size+1) kvs':=ha.extBut ha' (ne_of_lt (lt_succ_self _))
   obtain ⟨v1,v2⟩:=Sj inj (by rwa [List.filter_eq_self.mpr fun _ _=>rfl] at hsa)
   have hkl:kvs'.length≤l.length:=by
    have:=hsa.length_le
    rw[List.filter_eq_self.mpr fun _ _=>rfl,hvl,hlen] at this
    exact this
   have hle:h''.DictLe (s₁.heap.objs.size+1) l.length:=by
    obtain ⟨o,es,ep',ho,_,hdd,_,hpr,_⟩:=hd''
    intro o' es' ep'' ho' hdd'
    rw[ho] at ho';cases ho'
    rw[hdd] at hdd';cases hdd'
    rw[<-length_toList,hpr.length]
    exact hkl
   have all:∀ k∈l,∃ t,Value.int k t∈vs:=fun k hk=>by
    obtain ⟨⟨k',y⟩,h1,e⟩:=List.mem_map.mp (hpm.mem_iff.mpr hk)
    obtain ⟨i,hi,e'⟩:=List.mem_iff_getElem.mp h1
    have e2:kvs[i]?=some (k',y):=by rw[getElem?_eq_getElem hi,e']
    have hv:i<vs.length:=by rw[hvl];exact hi
    obtain ⟨k₂,y₂,e3,e4⟩:=hvs i vs[i] (getElem?_eq_getElem hv)
    rw[e2] at e3
    cases e3
    obtain ⟨t,e5⟩:=Sz e4
    dsimp only at e;subst e
    exact ⟨t,by rw[<-e5];exact getElem_mem hv⟩
   have hr:∀ j,W9 (F.view R om h'') (dcF kf vf l j) (valueAt kvs' j):=fun j=>by
    unfold dcF
    cases e:l.find? fun k=>kf k==j with
    | none=>exact v2 j fun k hk z=>by simpa [z] using List.find?_eq_none.mp e k hk
    | some k =>
     have e1:kf k=j:=by simpa using List.find?_some e
     have e2:=List.mem_of_find?_eq_some e
     rw[<-e1,v1 k e2 (all k e2)]
     exact ⟨_,rfl,ZJ⟩
   obtain ⟨o',ho',hP'⟩:=Z7.of_map (V:=F.view R om h'') hd''.mapOf hle hr
   refine (st₁.pop.grow (tk:=tk) kp).push (UV (lt_succ_of_lt (lt_trans hsm hDlt)) _ _ (st₁.new_view ok (le_succ _) ho') (hP' _ (PH.le.refl _)))
 exact codeAny_compStart_dict (loop _ rfl) (Walks.self (Walks.dictKeys (knd:=intKind prog w) ok.handled s₁.heap.objs.size D (ne_of_lt hDlt) kvs ep) 0 _ _ _ ⟨⟨_,hIt,by rw[<-hI],by rw[<-hI];rfl⟩,hat.at' fun o e=>(up _ _ e).2⟩ (loop _ rfl))
end
end
section
set_option tactic.hygienic true in
theorem XF {env:Env} (hk:env.scope.kind=.function) {x:Str} (hx:env.kindOf x=some .cell):∀ {names:List (Str×NameKind)},names.lookup x=some .free ->
  (names.map fun (n,k)=>if (k==NameKind.free&&env.scope.kind==.function&&env.kindOf n==some .cell) then (n,NameKind.cell) else (n,k)).lookup x=some .cell
 | [],h=>by cases h
 | (n,k)::r,h=>by
  rw[lookup_cons] at h
  rw[map_cons]
  by_cases e:x=n
  ·subst e
   rw[beq_self_eq_true] at h
   have h:some k=some NameKind.free:=h
   cases h
   dsimp only
   rw[hk,hx]
   rw[if_pos (by decide),lookup_cons,beq_self_eq_true]
  ·have e':(x==n)=false:=by simpa using e
   rw[e'] at h
   have ih:=XF hk hx (names:=r) h
   rw[lookup_cons]
   split
   ·rename_i q
    have q:(x==(if (k==NameKind.free&&env.scope.kind==ScopeKind.function&&env.kindOf n==some NameKind.cell)=true then (n,NameKind.cell) else (n,k)).1)=true:=q
    split at q<;>rw[e'] at q<;>cases q
   ·exact ih
section
variable {prog:Program} {w:World} {F:Fn} {R:PH} {sig:List (Option AV)} {om:Om} {tau:List (Value×AV)} {s:Shared}
theorem Sta.cel (st:Sta F R sig om tau s) {k:Nat} {x:Str} {d:AV} (hx:F.names[k]?=some (x,.cell)) (hs:sig[k]?=some (some d)):∃ c o v,F.env.cells.lookup x=some c∧s.heap.get? c=some o∧o.data=.cell (some v)∧Rep (F.view R om s.heap) d v:=by
 obtain ⟨m,hm,sl⟩:=st.slots
 have:=sl k x _ d hx hs
 cases this with
 | cel hc ho hd r _=>exact ⟨_,_,_,hc,ho,hd,r⟩
theorem Q9 {V:PH}:∀ {ds:List AV} {vs:List Value},Zn V ds vs->∀ {j:Nat} {d:AV},ds[j]?=some d->∃ v,vs[j]?=some v∧Rep V d v
 | [],_,_,j,d,e=>by cases e
 | a::ds,vs,h,j,d,e=>by
  obtain ⟨v,vs',rfl,r,rest⟩:=h
  cases j with
  | zero=>cases e;exact ⟨_,rfl,r⟩
  | succ j=>exact Q9 rest (j:=j) (by simpa using e)
theorem MB (ok:F.Ok) (st:Sta F R sig om tau s) {scope:Scope} {cl:List (Str×Addr)} {C:Addr} {kE kO:Nat} {E:List Int} {own:Int->Option AV} {D:Addr} {m k b:Nat} {e:Int} {p1 p2 p3 p4 p5 p6 p7 p8 p9 p10:Pos} {kk:Nat}
  (hxE:At F "ends" kE .cell) (hsE:sig[kE]?=some (some (il E))) (hxO:At F "owners" kO .cell) (hsO:sig[kO]?=some (some (.ptr D))) (hmem:(D,Z7 own m)∈om) (hkind:scope.kind=.function)
  (lE:scope.names.lookup ("ends" : Str)=some .free) (lO:scope.names.lookup ("owners" : Str)=some .free) (lS:scope.names.lookup ("side" : Str)=some .local) (cE:cl.lookup ("ends" : Str)=F.env.cells.lookup ("ends" : Str)) (cO:cl.lookup ("owners" : Str)=F.env.cells.lookup ("owners" : Str))
  (hk:own (k:Nat)=some (.int (b:Nat))) (hkl:k≤1000) (he:E[k]?=some e) :
  QE prog w F.A (compEnvC scope cl C F.env) s.heap "side" (k:Nat) (.Subscript (.Name "ends" p1) (.Name "side" p2) p3) (fun y=>∃ t,y=.int e t) ∧
  QE prog w F.A (compEnvC scope cl C F.env) s.heap "side" (k:Nat) (.Compare (.Subscript (.Name "owners" p4) (.Name "side" p5) p6) [.Eq] [.BinOp (.Name "side" p7) .Sub (.Constant (.int 1) kk p8) p9] p10) (fun y=>y=.bool (((b:Nat):Int)==(k:Nat)-1)):=by
 obtain ⟨c1,o1,v1,a1,a2,a3,a4⟩:=st.cel hxE.1 hsE
 obtain ⟨c2,o2,v2,b1,b2,b3,b4⟩:=st.cel hxO.1 hsO
 obtain ⟨a,vs,n,rfl,hV,hr⟩:=a4
 subst b4
 obtain ⟨u,hu,hru⟩:=Q9 hr (j:=k) (d:=.int e) (by rw[getElem?_map,he];rfl)
 obtain ⟨t,rfl⟩:=hru
 obtain ⟨g,hm,hz,hg⟩:=st.openDct (prog:=prog) (w:=w) hmem
 have hgk:=hg (k:Nat)
 rw[hk] at hgk
 obtain ⟨u,hu2,hru2⟩:=hgk
 obtain ⟨t2,rfl⟩:=hru2
 have kd:∀ {x:Str},F.env.kindOf x=some .cell->scope.names.lookup x=some .free->(compEnvC scope cl C F.env).kindOf x=some .cell:=fun h1 h2=>XF ok.kind h1 h2
 have kf:(compEnvC scope cl C F.env).scope.kind=.function:=hkind
 have ks:(compEnvC scope cl C F.env).kindOf ("side" : Str)=some .local:=lookup_relabel_local lS
 have qs:∀ {p:Pos},QE prog w F.A (compEnvC scope cl C F.env) s.heap "side" (k:Nat) (.Name "side" p) (fun y=>∃ t,y=.int (k:Nat) t):=fun {p}=>HD kf ks (by kernel_rfl)
 have k63:((k:Nat):Int)<2 ^ 63:=Vp hkl
 constructor
 ·have q1:=HF (o:=o1) (prog:=prog) (w:=w) (A:=F.A) (pos:=p3) (NP (prog:=prog) (w:=w) (A:=F.A) (x := "side") (k:=(k:Nat)) (pos:=p1) kf (kd hxE.2.1 lE) (by show cl.lookup _=_;rw[cE];exact a1) a2 a3 (by kernel_rfl)) (qs (p:=p2)) (st.vget hV) k63 (by rw[<-getElem?_toList];exact hu) (fun _ _=>rfl)
  exact fun s₃ m₃ t' E' h1 h2 h3=>wpAny_mono (q1 s₃ m₃ t' E' h1 h2 h3) (fun y s₄ ⟨e1,e2⟩=>⟨⟨t,e1⟩,e2⟩) fun _ _ z=>z
 ·have q1:=HG (prog:=prog) (w:=w) (A:=F.A) (pos:=p6) (NP (prog:=prog) (w:=w) (A:=F.A) (x := "side") (k:=(k:Nat)) (pos:=p4) kf (kd hxO.2.1 lO) (by show cl.lookup _=_;rw[cO];exact b1) b2 b3 (by kernel_rfl)) (qs (p:=p5)) hm hu2 (fun _ _=>rfl)
  exact BX (fun s₃ m₃ t' E' h1 h2 h3=>wpAny_mono (q1 s₃ m₃ t' E' h1 h2 h3) (fun y s₄ ⟨e1,e2⟩=>⟨⟨t2,e1⟩,e2⟩) fun _ _ z=>z) (F3 qs F2) rfl
end
end
section
section
variable {prog:Program} {w:World} {F:Fn} {sig:List (Option AV)} {om:Om}
theorem F4 {e₁ e₂:Expr} {pos:Pos} {c:Bool} {d:AV} (h₁:Ev prog w F sig om e₁ (.bool c)) (h₂:c=false->Ev prog w F sig om e₂ d) (hd:c=true->d=.bool true):Ev prog w F sig om (.BoolOp .Or [e₁,e₂] pos) d:=fun R tau s Q E st h=>by
 rw[arm_eval_BoolOp]
 show wpAny _ _ (boolOp pos .Or [eval e₁ F.env,eval e₂ F.env]) _ _ _
 refine wpAny_bind (m:=eval e₁ F.env) (h₁ R tau s _ _ st fun v s₁ st₁=>?_)
 obtain rfl:v=.bool c:=st₁.top
 refine wpAny_bind (wpAny_standAt (wpAny_bind (wpAny_holding (wpAny_truthy_bool ?_))))
 cases c with
 | true=>exact wpAny_pure (h _ _ (by rw[hd rfl];exact st₁))
 | false=>exact h₂ rfl R tau s₁ _ _ st₁.pop h
end
end
section
section
variable {A B:List Int} {alo ahi blo bhi:Nat}
structure Run (A B:List Int) (alo ahi blo bhi i j k:Nat):Prop where
 a1:alo≤i
 a2:i+k≤ahi
 b1:blo≤j
 b2:j+k≤bhi
 eq:∀ t,t<k->∃ x,A[i+t]?=some x∧B[j+t]?=some x
noncomputable abbrev rlT (A B:List Int) (alo blo bhi:Nat):=rl A B (fun _=>true) alo blo bhi
theorem Run.hit {i j k t:Nat} (h:Run A B alo ahi blo bhi i j k) (ht:t<k):hit A B (fun _=>true) alo blo bhi (i+t) (j+t):=by
 obtain ⟨x,e1,e2⟩:=h.eq t ht
 exact ⟨Nat.le_trans h.a1 (Nat.le_add_right _ _),Nat.le_trans h.b1 (Nat.le_add_right _ _),lt_of_lt_of_le (add_lt_add_left ht j) h.b2,x,e1,e2,rfl⟩
theorem Run.rl {i j k:Nat} (h:Run A B alo ahi blo bhi i j k):∀ t,t<k->t+1≤rlT A B alo blo bhi (i+t) (j+t)
 | 0,ht=>TB.mpr (h.hit ht)
 | t+1,ht=>by
  have ih:=h.rl t (lt_of_succ_lt ht)
  exact Nat.le_trans (succ_le_succ ih) (le_of_eq (Ur (h.hit ht)).symm)
theorem QA (i:Nat):(UN A (XC B) blo bhi i).Pairwise (·<·):=List.Pairwise.filter _ (U7 B _)
noncomputable def KI (a b:Nat×Nat):Prop:=a.1<b.1∨(a.1=b.1∧a.2<b.2)
theorem S6:∀ n,(ZZ A (XC B) alo blo bhi n).Pairwise KI∧∀ c∈ZZ A (XC B) alo blo bhi n,c.1<alo+n
 | 0=>⟨List.Pairwise.nil,fun c h=>by cases h⟩
 | n+1=>by
  obtain ⟨h1,h2⟩:=S6 n
  rw[TC]
  refine ⟨List.pairwise_append.mpr ⟨h1,?_,fun a ha b hb=>?_⟩,fun c hc=>?_⟩
  ·rw[List.pairwise_map]
   exact (QA (alo+n)).imp fun h=>.inr ⟨rfl,h⟩
  ·obtain ⟨j,_,rfl⟩:=List.mem_map.mp hb
   exact .inl (h2 a ha)
  ·rcases List.mem_append.mp hc with h | h
   ·exact lt_of_lt_of_le (h2 c h) (add_le_add_left (le_succ n) alo)
   ·obtain ⟨j,_,rfl⟩:=List.mem_map.mp h
    exact lt_succ_self _
set_option tactic.hygienic true in
theorem PF {cs:List (Nat×Nat)} (hs:cs.Pairwise KI):(ZD A B (fun _=>true) alo blo bhi cs=(alo,blo,0))∨∃ c∈cs,ZD A B (fun _=>true) alo blo bhi cs=(c.1+1-rlT A B alo blo bhi c.1 c.2,c.2+1-rlT A B alo blo bhi c.1 c.2,rlT A B alo blo bhi c.1 c.2) ∧
  ∀ c'∈cs,rlT A B alo blo bhi c.1 c.2≤rlT A B alo blo bhi c'.1 c'.2->c=c'∨KI c c':=by
 suffices H:∀ (n:Nat) (cs:List (Nat×Nat)),cs.length=n->cs.Pairwise KI->((ZD A B (fun _=>true) alo blo bhi cs=(alo,blo,0))∨∃ c∈cs,ZD A B (fun _=>true) alo blo bhi cs=(c.1+1-rlT A B alo blo bhi c.1 c.2,c.2+1-rlT A B alo blo bhi c.1 c.2,rlT A B alo blo bhi c.1 c.2) ∧
  ∀ c'∈cs,rlT A B alo blo bhi c.1 c.2≤rlT A B alo blo bhi c'.1 c'.2->c=c'∨KI c c') from H _ cs rfl hs
 intro n
 induction n with
 | zero=>intro cs hn _;rw[List.length_eq_zero_iff.mp hn];exact .inl rfl
 | succ n ih =>
  intro cs hn hs
  have hne:cs≠[]:=by rintro rfl;cases hn
  obtain ⟨l,a,rfl⟩:∃ l a,cs=l++[a]:=⟨cs.dropLast,cs.getLast hne,(List.dropLast_concat_getLast hne).symm⟩
  rw[length_append] at hn
  obtain ⟨hs1,_,hs3⟩:=List.pairwise_append.mp hs
  rw[U6]
  have ih:=ih l (Nat.succ.inj hn) hs1
  unfold up1
  have gr:=@S4 A B (fun _=>true) alo blo bhi l (alo,blo,0)
  split
  ·rename_i hgt
   refine .inr ⟨a,List.mem_append_right _ (List.mem_singleton.mpr rfl),rfl,fun c' hc' hle=>?_⟩
   rcases List.mem_append.mp hc' with h | h
   ·have:=gr.2 c' h
    exact absurd (lt_of_lt_of_le hgt (Nat.le_trans hle this)) (lt_irrefl _)
   ·exact .inl (List.mem_singleton.mp h).symm
  ·rename_i hgt
   rcases ih with h | ⟨c,hc,he,hf⟩
   ·exact .inl h
   ·refine .inr ⟨c,List.mem_append_left _ hc,he,fun c' hc' hle=>?_⟩
    rcases List.mem_append.mp hc' with h | h
    ·exact hf c' h hle
    ·exact .inr (hs3 c hc c' h)
theorem NQ:∀ (f:Nat) (b:N3),b.2.2≤(Vx A B alo blo f b).2.2
 | 0,b=>le_refl _
 | f+1,(i,j,k)=>by
  unfold Vx
  split
  ·exact Nat.le_trans (le_succ k) (NQ f (i-1,j-1,k+1))
  ·exact le_refl _
theorem R1:∀ (f:Nat) (b:N3),b.2.2≤(VL A B ahi bhi f b).2.2
 | 0,b=>le_refl _
 | f+1,(i,j,k)=>by
  unfold VL
  split
  ·exact Nat.le_trans (le_succ k) (R1 f (i,j,k+1))
  ·exact le_refl _
set_option tactic.hygienic true in
theorem MC:∀ (f:Nat) (b:N3),(Vx A B alo blo f b).2.2≤b.2.2->Vx A B alo blo f b=b
 | 0,b,_=>by cases b;rfl
 | f+1,(i,j,k),h=>by
  unfold Vx at h ⊢
  split
  ·rename_i c
   rw[if_pos c] at h
   exfalso
   have:k+1≤(Vx A B alo blo f (i-1,j-1,k+1)).2.2:=NQ f (i-1,j-1,k+1)
   exact absurd (lt_of_lt_of_le (lt_succ_self k) (Nat.le_trans this h)) (lt_irrefl _)
  ·rfl
set_option tactic.hygienic true in
theorem MD:∀ (f:Nat) (b:N3),(VL A B ahi bhi f b).2.2≤b.2.2->VL A B ahi bhi f b=b
 | 0,b,_=>by cases b;rfl
 | f+1,(i,j,k),h=>by
  unfold VL at h ⊢
  split
  ·rename_i c
   rw[if_pos c] at h
   exfalso
   have:k+1≤(VL A B ahi bhi f (i,j,k+1)).2.2:=R1 f (i,j,k+1)
   exact absurd (lt_of_lt_of_le (lt_succ_self k) (Nat.le_trans this h)) (lt_irrefl _)
  ·rfl
theorem Run.cand {i j k:Nat} (h:Run A B alo ahi blo bhi i j (k+1)):(i+k,j+k)∈ZZ A (XC B) alo blo bhi (ahi-alo):=by
 obtain ⟨x,e1,e2⟩:=h.eq k (lt_succ_self k)
 unfold ZZ
 rw[List.mem_flatMap]
 have a1:=h.a1
 have a2:=h.a2
 refine ⟨i+k,by rw[List.mem_range'_1];exact ⟨Nat.le_trans a1 (Nat.le_add_right _ _),lt_of_lt_of_le a2 (le_of_eq (add_sub_of_le (Nat.le_trans a1 (Nat.le_trans (Nat.le_add_right i (k+1)) a2))).symm)⟩,List.mem_map.mpr ⟨j+k,?_,rfl⟩⟩
 unfold UN
 rw[mem_filter,VO]
 have:A.getD (i+k) 0=x:=by simp[List.getD,e1]
 rw[this]
 have b1:=h.b1
 have b2:=h.b2
 exact ⟨e2,by simp only[Bool.and_eq_true,decide_eq_true_eq];exact ⟨Nat.le_trans b1 (Nat.le_add_right _ _),b2⟩⟩
theorem Snd.run {b:N3} (h:Snd A B alo ahi blo bhi b) (hA:ahi≤A.length):Run A B alo ahi blo bhi b.1 b.2.1 b.2.2 :=
 ⟨h.a1,h.a2,h.b1,h.b2,fun t ht=>by
  have hl:b.1+t<A.length:=lt_of_lt_of_le (add_lt_add_left ht _) (Nat.le_trans h.a2 hA)
  exact ⟨A[b.1+t],getElem?_eq_getElem hl,(h.eq t ht).symm.trans (getElem?_eq_getElem hl)⟩⟩
theorem ME (ha:alo≤ahi) (hb:blo≤bhi) (hA:ahi≤A.length) {i j k:Nat} (h:Run A B alo ahi blo bhi i j (k+1)) :
  k+1≤(flF A B alo ahi blo bhi).2.2∧(k+1=(flF A B alo ahi blo bhi).2.2->(flF A B alo ahi blo bhi).1<i∨((flF A B alo ahi blo bhi).1=i∧(flF A B alo ahi blo bhi).2.1≤j)):=by
 have fs:=Ru (A:=A) (B:=B) (okx:=fun _=>true) (idx:=XC B) ha hb
 have top:∀ {i j k:Nat},Run A B alo ahi blo bhi i j (k+1)->k+1≤(ZD A B (fun _=>true) alo blo bhi (ZZ A (XC B) alo blo bhi (ahi-alo))).2.2:=fun h =>
  Nat.le_trans (h.rl _ (lt_succ_self _)) ((S4 (A:=A) (B:=B) (okx:=fun _=>true) (alo:=alo) (blo:=blo) (bhi:=bhi) (cs:=ZZ A (XC B) alo blo bhi (ahi-alo)) (b:=(alo,blo,0))).2 _ h.cand)
 refine ⟨Nat.le_trans (top h) fs.2,fun e=>?_⟩
 have fr:=fs.1.run hA
 have bf:=PF (A:=A) (B:=B) (alo:=alo) (blo:=blo) (bhi:=bhi) (S6 (A:=A) (B:=B) (alo:=alo) (blo:=blo) (bhi:=bhi) (ahi-alo)).1
 have ef:flF A B alo ahi blo bhi=ZD A B (fun _=>true) alo blo bhi (ZZ A (XC B) alo blo bhi (ahi-alo)):=by
  have e':(flF A B alo ahi blo bhi).2.2≤(ZD A B (fun _=>true) alo blo bhi (ZZ A (XC B) alo blo bhi (ahi-alo))).2.2:=by
   rw[<-e] ;exact top h
  unfold flF flm at e' ⊢
  dsimp only at e' ⊢
  have d1:Vx A B alo blo A.length (ZD A B (fun _=>true) alo blo bhi (ZZ A (XC B) alo blo bhi (ahi-alo)))=_:=MC A.length _ (Nat.le_trans (R1 (ahi:=ahi) (bhi:=bhi) A.length _) e')
  rw[d1] at e' ⊢
  exact MD _ _ e'
 rw[ef] at e ⊢
 rcases bf with q | ⟨c,hc,q,hf⟩
 ·rw[q] at e;cases e
 ·rw[q] at e ⊢
  dsimp only at e ⊢
  have:=hf _ h.cand (by rw[<-e];exact h.rl k (lt_succ_self k))
  have hl:rlT A B alo blo bhi c.1 c.2≤c.1+1-alo∧rlT A B alo blo bhi c.1 c.2≤c.2+1-blo:=K6 c.1 c.2
  rw[<-e] at hl ⊢
  rcases this with rfl | h2 | ⟨h2,h3⟩
  ·exact .inr ⟨add_sub_cancel (n:=i) (m:=k+1),le_of_eq (add_sub_cancel (n:=j) (m:=k+1))⟩
  ·exact .inl (Nat.sub_lt_right_of_lt_add (Nat.le_trans hl.1 (sub_le _ _)) (succ_lt_succ h2))
  ·exact .inr ⟨(congrArg (fun x=>x+1-(k+1)) h2).trans (add_sub_cancel (n:=i) (m:=k+1)),le_of_lt (Nat.sub_lt_right_of_lt_add (Nat.le_trans hl.2 (sub_le _ _)) (succ_lt_succ h3))⟩
end
end
section
section
variable {A B:List Int} {alo ahi blo bhi P Q:Nat}
theorem HH (ha:alo≤ahi) (hb:blo≤bhi):Snd A B alo ahi blo bhi (flF A B alo ahi blo bhi):=(Ru (A:=A) (B:=B) (okx:=fun _=>true) (idx:=XC B) ha hb).1
theorem KJ {b:N3} {i j k:Nat} (h1:b.1=i) (h2:b.2.1=j) (h3:b.2.2=k):b=(i,j,k):=by
 obtain ⟨a,c,d⟩:=b
 dsimp only at h1 h2 h3
 rw[h1,h2,h3]
theorem MF {la lb:Nat} {f:FL}:blocks f la lb=(fun s:N3×List N3=>(if s.1.2.2=0 then s.2 else s.2++[s.1])++[(la,lb,0)]) (mrg (mb f (0,la,0,lb)) ((0,0,0),[])):=rfl
theorem PG {la lb:Nat} {f:FL} {l:List N3} (h:blocks f la lb=l):opcodes f la lb=(l.foldl ZO ((0,0),[])).2:=by rw[<-h];rfl
noncomputable abbrev eqO (i ai j bj:Nat):OpN:=((("equal" : Str),i,ai,j,bj):OpN)
end
end
section
noncomputable def rep (ref:List Int) (a:Nat):List Int:=(List.replicate a ref).flatten
theorem Ta {ref:List Int} {a:Nat}:(rep ref a).length=a*ref.length:=by
 unfold rep;rw[List.length_flatten,List.map_replicate,List.sum_replicate_nat]
theorem HI {ref:List Int} {a b:Nat}:rep ref (a+b)=rep ref a++rep ref b:=by
 unfold rep;rw[<-List.replicate_append_replicate,List.flatten_append]
end
section
noncomputable def Zg (o n:List Nat):List Nat:=(List.range 6).filter fun t=>decide (o.getD t 0≠n.getD t 0)
noncomputable def eN (o n:List Nat):List Nat:=0::(Zg o n).map (·+1)++[7]
noncomputable def stN (o n:List Nat):List Nat:=0::(Zg o n).map (fun t=>min (o.getD t 0) (n.getD t 0))++[0]
noncomputable def baseW (o n sizes:List Nat) (size u:Nat):Nat:=((sizes.take ((eN o n).getD (u+1) 0)).drop ((eN o n).getD u 0)).sum+size*((o.take ((eN o n).getD (u+1) 0-1)).drop ((eN o n).getD u 0)).sum
noncomputable abbrev Own:=Int->Option Nat
noncomputable def Y5 (o n:List Nat) (size:Nat) (own:Own) (s:Nat):Nat:=if (own s).isNone then size*(stN o n).getD s 0 else 0
noncomputable def XZ (o n sizes:List Nat) (size:Nat) (own:Own) (u:Nat):Nat:=baseW o n sizes size u+Y5 o n size own u+Y5 o n size own (u+1)
noncomputable def ZK (w:Nat->Nat) (s:Int×Nat) (u:Nat):Int×Nat:=if s.2<w u then ((u:Int),w u) else s
noncomputable def Wa (w:Nat->Nat) (l:List Nat):Nat:=(l.foldl (ZK w) (-1,0)).1.toNat
noncomputable def claim (own:Own) (s:Nat) (b:Nat):Own:=if (own s).isNone then fun k=>if k=(s:Int) then some b else own k else own
noncomputable def XJ (own:Own) (b:Nat):Own:=claim (claim own b b) (b+1) b
noncomputable def Wb (o n sizes:List Nat) (size:Nat):Nat->Own->List Nat->Own
 | 0,own,_=>own
 | k+1,own,l=>if l=[] then own else Wb o n sizes size k (XJ own (Wa (XZ o n sizes size own) l)) (l.filter fun u=>decide (u≠Wa (XZ o n sizes size own) l))
noncomputable def UO (o n sizes:List Nat) (size:Nat):Own:=Wb o n sizes size ((Zg o n).length+1) (fun _=>none) (List.range ((Zg o n).length+1))
noncomputable def Wc (own:Own):Int->Option AV:=fun k=>(own k).map fun u=>.int (u:Nat)
theorem KK {own:Own} {s b:Nat}:upd (Wc own) s (.int b)=Wc fun k=>if k=(s:Int) then some b else own k:=by
 funext k
 unfold upd Wc
 show _=Option.map (fun (u:Nat)=>AV.int u) (if k=(s:Int) then some b else own k)
 by_cases q:k=(s:Int)
 ·rw[if_pos q,if_pos q];rfl
 ·rw[if_neg q,if_neg q]
noncomputable def cnt (own:Own) (m:Nat):Nat:=((List.range m).filter fun s=>(own (s:Nat)).isSome).length
theorem KL {own:Own} {m:Nat}:cnt own m≤m:=Nat.le_trans (List.length_filter_le _ _) (by rw[length_range];exact le_refl _)
theorem PI {l:List Nat} (hn:l.Nodup) {s:Nat} (hs:s∈l) {p q:Nat->Bool} (h1:p s=false) (h2:q s=true) (h:∀ x,x≠s->q x=p x):(l.filter q).length=(l.filter p).length+1:=by
 induction l with
 | nil=>cases hs
 | cons a l ih =>
  obtain ⟨n1,n2⟩:=List.nodup_cons.mp hn
  by_cases e:a=s
  ·subst e
   rw[List.filter_cons_of_pos h2,List.filter_cons_of_neg (by simp[h1]),length_cons]
   congr 2
   refine List.filter_congr fun x hx=>h x fun e=>n1 (e▸hx)
  ·have ih:=ih n2 ((List.mem_cons.mp hs).resolve_left fun e'=>e e'.symm)
   cases e2:p a with
   | true =>
    rw[List.filter_cons_of_pos e2,List.filter_cons_of_pos (by rw[h a e,e2]),length_cons,length_cons,ih]
   | false =>
    rw[List.filter_cons_of_neg (p:=q) (by rw[h a e,e2];decide),List.filter_cons_of_neg (p:=p) (by rw[e2];decide),ih]
theorem HJ {own:Own} {m s b:Nat} (hs:s<m) (h:own (s:Nat)=none):cnt (fun k=>if k=(s:Int) then some b else own k) m=cnt own m+1:=by
 unfold cnt
 refine PI List.nodup_range (List.mem_range.mpr hs) (by rw[h];rfl) (by show (if (s:Int)=s then some b else own s).isSome=true;rw[if_pos rfl];rfl) fun x hx=>?_
 show (if (x:Int)=s then some b else own x).isSome=_
 rw[if_neg fun e=>hx (Int.ofNat_inj.mp e)]
theorem S7 {w:Nat->Nat}:∀ {l:List Nat} {s:Int×Nat},l.foldl (ZK w) s=s∨∃ u∈l,l.foldl (ZK w) s=((u:Int),w u)
 | [],s=>.inl rfl
 | a::l,s=>by
  rw[foldl_cons]
  rcases S7 (w:=w) (l:=l) (s:=ZK w s a) with e | ⟨u,hu,e⟩
  ·rw[e]
   unfold ZK
   split
   ·exact .inr ⟨a,mem_cons_self,rfl⟩
   ·exact .inl rfl
  ·exact .inr ⟨u,mem_cons_of_mem _ hu,e⟩
set_option tactic.hygienic true in
theorem QB {w:Nat->Nat}:∀ {l:List Nat} {s:Int×Nat},s.2≤(l.foldl (ZK w) s).2∧∀ u∈l,w u≤(l.foldl (ZK w) s).2
 | [],s=>⟨le_refl _,fun u h=>(not_mem_nil h).elim⟩
 | a::l,s=>by
  rw[foldl_cons]
  obtain ⟨h1,h2⟩:=QB (w:=w) (l:=l) (s:=ZK w s a)
  have h3:s.2≤(ZK w s a).2∧w a≤(ZK w s a).2:=by
   unfold ZK
   split
   ·rename_i q;exact ⟨le_of_lt q,le_refl _⟩
   ·rename_i q;exact ⟨le_refl _,le_of_not_lt q⟩
  refine ⟨Nat.le_trans h3.1 h1,fun u hu=>?_⟩
  rcases List.mem_cons.mp hu with rfl | hu
  ·exact Nat.le_trans h3.2 h1
  ·exact h2 u hu
theorem VS {w:Nat->Nat} {l:List Nat} (hl:l≠[]) (hw:∀ u∈l,0<w u):Wa w l∈l∧l.foldl (ZK w) (-1,0)=((Wa w l:Int),w (Wa w l))∧∀ u∈l,w u≤w (Wa w l):=by
 obtain ⟨h1,h2⟩:=QB (w:=w) (l:=l) (s:=(-1,0))
 rcases S7 (w:=w) (l:=l) (s:=(-1,0)) with e | ⟨u,hu,e⟩
 ·obtain ⟨a,ha⟩:=List.exists_mem_of_ne_nil l hl
  have:=lt_of_lt_of_le (hw a ha) (h2 a ha)
  rw[e] at this
  exact absurd this (lt_irrefl 0)
 ·have hb:Wa w l=u:=by unfold Wa;rw[e];exact toNat_natCast u
  rw[hb]
  refine ⟨hu,e,fun v hv=>?_⟩
  have:=h2 v hv
  rwa [e] at this
end
section
set_option tactic.hygienic true in
theorem QC {w:Nat->Nat}:∀ {l:List Nat} {s:Int×Nat},l.foldl (ZK w) s=s∨s.2<(l.foldl (ZK w) s).2
 | [],s=>.inl rfl
 | a::l,s=>by
  rw[foldl_cons]
  have h1:ZK w s a=s∨s.2<(ZK w s a).2:=by
   unfold ZK
   split
   ·rename_i q;exact .inr q
   ·exact .inl rfl
  rcases QC (w:=w) (l:=l) (s:=ZK w s a) with e | e
  ·rw[e];exact h1
  ·rcases h1 with e1 | e1
   ·rw[e1] at e ⊢;exact .inr e
   ·exact .inr (lt_trans e1 e)
set_option tactic.hygienic true in
theorem UB {w:Nat->Nat}:∀ {l:List Nat} {s:Int×Nat},l.Pairwise (·<·)->(∀ v∈l,s.1<(v:Int))->∀ v∈l,(v:Int)<(l.foldl (ZK w) s).1->w v<(l.foldl (ZK w) s).2
 | [],s,_,_,v,h,_=>(not_mem_nil h).elim
 | a::l,s,hp,hs,v,hv,hlt=>by
  obtain ⟨p1,p2⟩:=List.pairwise_cons.mp hp
  rw[foldl_cons] at hlt ⊢
  have hsa:(ZK w s a).1=a∨ZK w s a=s:=by
   unfold ZK
   split
   ·exact .inl rfl
   ·exact .inr rfl
  have hge:w a≤(ZK w s a).2:=by
   unfold ZK
   split
   ·exact le_refl _
   ·rename_i q;exact le_of_not_lt q
  have hs':∀ v∈l,(ZK w s a).1<(v:Int):=fun v hv=>by
   rcases hsa with e | e
   ·rw[e];exact Int.ofNat_lt.mpr (p1 v hv)
   ·rw[e];exact hs v (mem_cons_of_mem _ hv)
  rcases List.mem_cons.mp hv with rfl | hv
  ·rcases QC (w:=w) (l:=l) (s:=ZK w s v) with e | e
   ·rw[e] at hlt
    rcases hsa with q | q
    ·rw[q] at hlt;exact absurd hlt (Int.lt_irrefl _)
    ·rw[q] at hlt;exact absurd (Int.lt_trans hlt (hs v mem_cons_self)) (Int.lt_irrefl _)
   ·exact lt_of_le_of_lt hge e
  ·exact UB p2 hs' v hv hlt
theorem QD {w:Nat->Nat} {l:List Nat} (hl:l≠[]) (hw:∀ u∈l,0<w u) (hp:l.Pairwise (·<·)):∀ v∈l,v<Wa w l->w v<w (Wa w l):=fun v hv h=>by
 obtain ⟨_,e,_⟩:=VS hl hw
 have:=UB (w:=w) (s:=(-1,0)) hp (fun v _=>Int.lt_of_lt_of_le (by decide) (natCast_nonneg v)) v hv (by rw[e];exact Int.ofNat_lt.mpr h)
 rwa [e] at this
set_option tactic.hygienic true in
theorem Vy {own:Own} {s b x:Nat} {k:Int} (h:own k=some x):claim own s b k=some x:=by
 unfold claim
 split
 ·rename_i q
  show (if k=(s:Int) then some b else own k)=_
  split
  ·rename_i e;rw[<-e,h] at q;cases q
  ·exact h
 ·exact h
theorem WT {own:Own} {s b:Nat} {k:Int} (h:k≠(s:Int)):claim own s b k=own k:=by
 unfold claim
 split
 ·show (if k=(s:Int) then some b else own k)=_
  rw[if_neg h]
 ·rfl
theorem S8 {own:Own} {s b:Nat} (h:own (s:Nat)=none):claim own s b (s:Nat)=some b:=by
 unfold claim
 rw[if_pos (by rw[h];rfl)]
 show (if (s:Int)=(s:Int) then some b else own s)=_
 rw[if_pos rfl]
theorem R2 {a b:Nat} (h:a≠b):(a:Int)≠(b:Int):=fun e=>h (Int.ofNat_inj.mp e)
theorem S9 {own:Own} {b x:Nat} {k:Int} (h:own k=some x):XJ own b k=some x:=Vy (Vy h)
theorem Vz {own:Own} {b s:Nat} (h1:s≠b) (h2:s≠b+1):XJ own b (s:Nat)=own (s:Nat):=(WT (R2 h2)).trans (WT (R2 h1))
theorem SA {own:Own} {b:Nat} (h:own (b:Nat)=none):XJ own b (b:Nat)=some b:=Vy (S8 h)
theorem TG {own:Own} {b:Nat} (h:own ((b+1:Nat):Int)=none):XJ own b ((b+1:Nat):Int)=some b:=S8 ((WT (R2 (Nat.succ_ne_self b))).trans h)
section
variable {o n sizes:List Nat} {size:Nat}
theorem R3:∀ (k:Nat) {own:Own} {left:List Nat} {s:Int} {x:Nat},own s=some x->Wb o n sizes size k own left s=some x
 | 0,own,left,s,x,h=>h
 | k+1,own,left,s,x,h=>by
  unfold Wb
  split
  ·exact h
  ·exact R3 k (S9 h)
theorem Vf {own:Own} {s b:Nat} (h:Y5 o n size own s=0):Y5 o n size (XJ own b) s=0:=by
 unfold Y5 at h ⊢
 cases e:own (s:Nat) with
 | some x=>rw[S9 e];rfl
 | none =>
  rw[e] at h
  have h:size*(stN o n).getD s 0=0:=h
  rw[h]
  split<;>rfl
theorem SB {own:Own} {s x:Nat} (h:own (s:Nat)=some x):Y5 o n size own s=0:=by unfold Y5;rw[h];rfl
noncomputable def wI (o n sizes:List Nat) (size lo hi u:Nat):Nat:=baseW o n sizes size u+(if lo<u then size*(stN o n).getD u 0 else 0)+(if u<hi then size*(stN o n).getD (u+1) 0 else 0)
structure Iv (o n sizes:List Nat) (size:Nat) (final:Own) (k lo hi:Nat) (own:Own) (left:List Nat):Prop where
 le:left.length≤k
 go:Wb o n sizes size k own left=final
 srt:left.Pairwise (·<·)
 pos:∀ own':Own,∀ u∈left,0<XZ o n sizes size own' u
 all:∀ u,lo≤u->u≤hi->u∈left
 sl:Y5 o n size own lo=0
 sr:Y5 o n size own (hi+1)=0
 inn:∀ s:Nat,lo<s->s≤hi->own (s:Nat)=none
theorem Iv.w {final own:Own} {k lo hi u:Nat} {left:List Nat} (h:Iv o n sizes size final k lo hi own left) (h1:lo≤u) (h2:u≤hi):XZ o n sizes size own u=wI o n sizes size lo hi u:=by
 unfold XZ wI
 have e1:Y5 o n size own u=if lo<u then size*(stN o n).getD u 0 else 0:=by
  by_cases q:lo<u
  ·rw[if_pos q];unfold Y5;rw[h.inn u q h2];rfl
  ·rw[if_neg q,<-le_antisymm h1 (le_of_not_lt q)];exact h.sl
 have e2:Y5 o n size own (u+1)=if u<hi then size*(stN o n).getD (u+1) 0 else 0:=by
  by_cases q:u<hi
  ·rw[if_pos q];unfold Y5;rw[h.inn (u+1) (lt_succ_of_le h1) q];rfl
  ·rw[if_neg q,le_antisymm h2 (le_of_not_lt q)];exact h.sr
 rw[e1,e2]
theorem Iv.pick {final:Own} {lo hi:Nat} (hlh:lo≤hi):∀ (k:Nat) {own:Own} {left:List Nat},Iv o n sizes size final k lo hi own left ->
  ∃ b,lo≤b∧b≤hi∧(∀ u,lo≤u->u≤hi->wI o n sizes size lo hi u≤wI o n sizes size lo hi b)∧(∀ u,lo≤u->u<b->wI o n sizes size lo hi u<wI o n sizes size lo hi b) ∧
   (lo<b->final (b:Nat)=some b)∧(b<hi->final ((b+1:Nat):Int)=some b)∧(lo<b->∃ k own left,Iv o n sizes size final k lo (b-1) own left)∧(b<hi->∃ k own left,Iv o n sizes size final k (b+1) hi own left)
 | 0,own,left,h=>by
  have:=h.all lo (le_refl _) hlh
  rw[List.eq_nil_of_length_eq_zero (Nat.le_zero.mp h.le)] at this
  cases this
 | k+1,own,left,h=>by
  have hl0:left≠[]:=List.ne_nil_of_mem (h.all lo (le_refl _) hlh)
  obtain ⟨b1,b2,b3⟩:=VS hl0 (h.pos own)
  have b4:=QD hl0 (h.pos own) h.srt
  have hgo:=h.go
  unfold Wb at hgo
  rw[if_neg hl0] at hgo
  generalize Wa (XZ o n sizes size own) left=b at hgo b1 b2 b3 b4
  have hfl:(left.filter fun u=>decide (u≠b)).length<left.length:=List.length_filter_lt_length_iff_exists.mpr ⟨b,b1,by simp⟩
  have hle:=le_of_lt_succ (lt_of_lt_of_le hfl h.le)
  have hsr:=h.srt.filter fun u=>decide (u≠b)
  have hps:∀ own':Own,∀ u∈left.filter fun u=>decide (u≠b),0<XZ o n sizes size own' u:=fun own' u hu=>h.pos own' u (List.mem_filter.mp hu).1
  have hal:∀ u,lo≤u->u≤hi->u≠b->u∈left.filter fun u=>decide (u≠b):=fun u h1 h2 h3=>List.mem_filter.mpr ⟨h.all u h1 h2,by simpa using h3⟩
  by_cases q:lo≤b∧b≤hi
  ·refine ⟨b,q.1,q.2,fun u h1 h2=>?_,fun u h1 h2=>?_,fun h1=>?_,fun h1=>?_,fun h1=>⟨k,_,_,hle,hgo,hsr,hps,fun u h2 h3=>?_,Vf h.sl,?_,fun s h2 h3=>?_⟩,fun h1=>⟨k,_,_,hle,hgo,hsr,hps,fun u h2 h3=>?_,?_,Vf h.sr,fun s h2 h3=>?_⟩⟩
   ·rw[<-h.w h1 h2,<-h.w q.1 q.2];exact b3 u (h.all u h1 h2)
   ·rw[<-h.w h1 (Nat.le_trans (le_of_lt h2) q.2),<-h.w q.1 q.2];exact b4 u (h.all u h1 (Nat.le_trans (le_of_lt h2) q.2)) h2
   ·rw[<-hgo];exact R3 k (SA (h.inn b h1 q.2))
   ·rw[<-hgo];exact R3 k (TG (h.inn (b+1) (lt_succ_of_le q.1) h1))
   ·have:u<b:=Nat.lt_of_le_sub_one (lt_of_le_of_lt (zero_le _) h1) h3
    exact hal u h2 (Nat.le_trans (le_of_lt this) q.2) (ne_of_lt this)
   ·rw[sub_add_cancel (lt_of_le_of_lt (zero_le _) h1)]
    exact SB (SA (h.inn b h1 q.2))
   ·have:s<b:=Nat.lt_of_le_sub_one (lt_of_le_of_lt (zero_le _) h1) h3
    rw[Vz (ne_of_lt this) (ne_of_lt (lt_succ_of_lt this))]
    exact h.inn s h2 (Nat.le_trans (le_of_lt this) q.2)
   ·exact hal u (Nat.le_trans (le_succ_of_le q.1) h2) h3 (ne_of_gt h2)
   ·exact SB (TG (h.inn (b+1) (lt_succ_of_le q.1) h1))
   ·rw[Vz (ne_of_gt (lt_of_succ_lt h2)) (ne_of_gt h2)]
    exact h.inn s (lt_of_le_of_lt (le_succ_of_le q.1) h2) h3
  ·have ne:∀ u,lo≤u->u≤hi->u≠b:=fun u h1 h2 e=>q ⟨e▸h1,e▸h2⟩
   refine Iv.pick hlh k ⟨hle,hgo,hsr,hps,fun u h1 h2=>hal u h1 h2 (ne u h1 h2),Vf h.sl,Vf h.sr,fun s h1 h2=>?_⟩
   rw[Vz (ne s (le_of_lt h1) h2) fun e=>?_]
   ·exact h.inn s h1 h2
   ·rw[e] at h1 h2
    exact ne b (le_of_lt_succ h1) (le_of_succ_le h2) rfl
end
end
section
section
variable {A B:List Int} {alo ahi blo bhi:Nat} {I J L:Nat->Nat} {lo hi b:Nat}
noncomputable def MG (A B:List Int) (alo ahi blo bhi:Nat) (I J L:Nat->Nat) (lo hi:Nat):Prop:=∀ i j k,Run A B alo ahi blo bhi i j (k+1)->∃ u,lo≤u∧u≤hi∧((i+J u=j+I u∧I u≤i∧i+(k+1)≤I u+L u)∨k+1<L u)
theorem PJ (hc:MG A B alo ahi blo bhi I J L lo hi) (ha:alo≤ahi) (hb:blo≤bhi) (hA:ahi≤A.length) (blk:Run A B alo ahi blo bhi (I b) (J b) (L b)) (h0:0<L b)
  (mx:∀ u,lo≤u->u≤hi->L u≤L b) (fs:∀ u,lo≤u->u<b->L u<L b) (inc:∀ u,b<u->u≤hi->I b<I u):flF A B alo ahi blo bhi=(I b,J b,L b):=by
 obtain ⟨k0,hk0⟩:∃ k,L b=k+1:=⟨L b-1,(sub_add_cancel h0).symm⟩
 rw[hk0] at blk
 obtain ⟨f1,f2⟩:=ME ha hb hA blk
 have fr:=(HH (A:=A) (B:=B) ha hb).run hA
 generalize flF A B alo ahi blo bhi=f at f1 f2 fr ⊢
 obtain ⟨i,j,k⟩:=f
 dsimp only at f1 f2 fr
 cases k with
 | zero=>exact absurd f1 (Nat.not_succ_le_zero _)
 | succ k =>
  obtain ⟨u,h1,h2,⟨q1,q2,q3⟩ | q⟩:=hc i j k fr
  ·have hm:=mx u h1 h2
   have a:k+1≤L u:=Nat.le_of_add_le_add_left (Nat.le_trans q3 (add_le_add_right q2 _))
   have f1:L b≤k+1:=Nat.le_trans (le_of_eq hk0) f1
   have e1:k+1=L b:=le_antisymm (Nat.le_trans a hm) f1
   have e2:L u=L b:=le_antisymm hm (Nat.le_trans f1 a)
   have e3:i=I u:=le_antisymm (Nat.le_of_add_le_add_right (b:=k+1) (Nat.le_trans q3 (le_of_eq (by rw[e2,e1])))) q2
   rcases Nat.lt_trichotomy u b with c | c | c
   ·exact absurd e2 (ne_of_lt (fs u h1 c))
   ·subst c
    rw[e3,add_comm] at q1
    exact KJ e3 (Nat.add_right_cancel q1).symm e1
   ·have:=inc u c h2
    rw[<-e3] at this
    rcases f2 (hk0.symm.trans e1.symm) with g | ⟨g,_⟩
    ·exact absurd this (Nat.not_lt.mpr (le_of_lt g))
    ·exact absurd g.symm (ne_of_lt this)
  ·exact absurd (lt_of_lt_of_le q (Nat.le_trans (mx u h1 h2) (le_of_eq hk0))) (Nat.not_lt.mpr f1)
end
end
section
theorem QF {lo hi b:Nat} (h1:lo≤b) (h2:b≤hi):List.range' lo (hi+1-lo)=List.range' lo (b-lo)++b::List.range' (b+1) (hi-b):=by
 obtain ⟨p,rfl⟩:=exists_eq_add_of_le h1
 obtain ⟨q,rfl⟩:=exists_eq_add_of_le h2
 rw[add_sub_cancel_left,add_sub_cancel_left,add_assoc (lo+p) q 1,add_assoc lo p,add_sub_cancel_left,<-List.range'_append_1,List.range'_succ]
structure Share (A B:List Int) (Q:Nat->Nat->Prop) (aL aH bL bH:Nat->Nat) (blk:Nat->N3) (lo hi b:Nat):Prop where
 h1:lo≤b
 h2:b≤hi
 ok:aL lo≤aH hi∧bL lo≤bH hi
 found:flF A B (aL lo) (aH hi) (bL lo) (bH hi)=blk b
 pos:(blk b).2.2≠0
 left:lo<b->Q lo (b-1)∧(blk b).1=aH (b-1)∧(blk b).2.1=bH (b-1)∧aL lo<(blk b).1∧bL lo<(blk b).2.1
 left0:lo=b->¬ (aL lo<(blk b).1∧bL lo<(blk b).2.1)
 right:b<hi->Q (b+1) hi∧(blk b).1+(blk b).2.2=aL (b+1)∧(blk b).2.1+(blk b).2.2=bL (b+1)∧(blk b).1+(blk b).2.2<aH hi∧(blk b).2.1+(blk b).2.2<bH hi
 right0:b=hi->¬ ((blk b).1+(blk b).2.2<aH hi∧(blk b).2.1+(blk b).2.2<bH hi)
theorem MH {A B:List Int} {Q:Nat->Nat->Prop} {aL aH bL bH:Nat->Nat} {blk:Nat->N3} (hs:∀ lo hi,lo≤hi->Q lo hi->∃ b,Share A B Q aL aH bL bH blk lo hi b):∀ (k lo hi:Nat),lo≤hi->hi-lo≤k->Q lo hi ->
  mb (flF A B) (aL lo,aH hi,bL lo,bH hi)=(List.range' lo (hi+1-lo)).map blk:=by
 intro k
 induction k using Nat.strongRecOn with
 | _ k ih =>
  intro lo hi hlh hk hq
  obtain ⟨b,s⟩:=hs lo hi hlh hq
  have s1:=s.h1
  have s2:=s.h2
  rw[NN (KB A B) s.ok (by rw[s.found];exact s.pos),s.found,QF s1 s2,map_append,map_cons]
  have e1:(if aL lo<(blk b).1∧bL lo<(blk b).2.1 then mb (flF A B) (aL lo,(blk b).1,bL lo,(blk b).2.1) else [])=(List.range' lo (b-lo)).map blk:=by
   by_cases q:lo<b
   ·obtain ⟨c,rfl⟩:=Nat.exists_eq_add_one_of_ne_zero (ne_of_gt (lt_of_le_of_lt (zero_le _) q))
    obtain ⟨q1,q2,q3,q4,q5⟩:=s.left q
    have hc:=le_of_lt_succ q
    rw[if_pos ⟨q4,q5⟩,q2,q3]
    exact ih (c-lo) (lt_of_lt_of_le (Nat.sub_lt_sub_right hc s2) hk) lo c hc (le_refl _) q1
   ·have q:=le_antisymm s1 (le_of_not_lt q)
    rw[if_neg (s.left0 q),<-q,sub_self];rfl
  have e2:(if (blk b).1+(blk b).2.2<aH hi∧(blk b).2.1+(blk b).2.2<bH hi then mb (flF A B) ((blk b).1+(blk b).2.2,aH hi,(blk b).2.1+(blk b).2.2,bH hi) else [])=(List.range' (b+1) (hi-b)).map blk:=by
   by_cases q:b<hi
   ·obtain ⟨q1,q2,q3,q4,q5⟩:=s.right q
    have hl:=lt_of_le_of_lt s1 q
    rw[if_pos ⟨q4,q5⟩,q2,q3,ih (hi-(b+1)) (lt_of_lt_of_le (Nat.sub_lt_sub_left hl (lt_succ_of_le s1)) hk) (b+1) hi q (le_refl _) q1,Nat.add_sub_add_right]
   ·have q:=le_antisymm s2 (le_of_not_lt q)
    rw[if_neg (s.right0 q),<-q,sub_self];rfl
  rw[e1,e2]
end
section
structure Fm (A B:List Int) (m:Nat) (pA pB w x y st:Nat->Nat):Prop where
 nA:∀ u,u<m->pA (u+1)=pA u+w u+x (u+1)
 nB:∀ u,u<m->pB (u+1)=pB u+w u+y (u+1)
 sx:∀ u,u<m->st (u+1)≤x (u+1)
 sy:∀ u,u<m->st (u+1)≤y (u+1)
 w0:∀ u,u≤m->0<w u
 zA:pA 0=0
 zB:pB 0=0
 s0:st 0=0
 sm:st (m+1)=0
 lA:A.length=pA m+w m
 lB:B.length=pB m+w m
 comW:∀ u d,u≤m->d<w u->∃ v,A[pA u+d]?=some v∧B[pB u+d]?=some v
 comR:∀ u e,u<m->e<st (u+1)->∃ v,A[pA u+w u+e]?=some v∧B[pB u+w u+e]?=some v
 comL:∀ u e,u<m->e<st (u+1)->∃ v,A[pA (u+1)-st (u+1)+e]?=some v∧B[pB (u+1)-st (u+1)+e]?=some v
 dia:∀ i j v,A[i]?=some v->B[j]?=some v->3≤v->∃ u d,u≤m∧d<w u∧i=pA u+d∧j=pB u+d
 hdA:∀ u,u≤m->∃ v,A[pA u]?=some v∧3≤v
 hdB:∀ u,u≤m->∃ v,B[pB u]?=some v∧3≤v
 tlA:∀ u,u≤m->∃ v,A[pA u+(w u-1)]?=some v∧3≤v
 tlB:∀ u,u≤m->∃ v,B[pB u+(w u-1)]?=some v∧3≤v
 gpA:∀ u e,u<m->e<x (u+1)->∃ v,A[pA u+w u+e]?=some v∧v<3
 gpB:∀ u e,u<m->e<y (u+1)->∃ v,B[pB u+w u+e]?=some v∧v<3
section
variable {A B:List Int} {m:Nat} {pA pB w x y st:Nat->Nat} {lo hi u:Nat}
theorem Fm.swap (h:Fm A B m pA pB w x y st):Fm B A m pB pA w y x st where
 nA:=h.nB
 nB:=h.nA
 sx:=h.sy
 sy:=h.sx
 w0:=h.w0
 zA:=h.zB
 zB:=h.zA
 s0:=h.s0
 sm:=h.sm
 lA:=h.lB
 lB:=h.lA
 comW u d h1 h2:=let ⟨v,a,b⟩:=h.comW u d h1 h2;⟨v,b,a⟩
 comR u d h1 h2:=let ⟨v,a,b⟩:=h.comR u d h1 h2;⟨v,b,a⟩
 comL u d h1 h2:=let ⟨v,a,b⟩:=h.comL u d h1 h2;⟨v,b,a⟩
 dia i j v h1 h2 h3:=let ⟨u,d,a,b,c,e⟩:=h.dia j i v h2 h1 h3;⟨u,d,a,b,e,c⟩
 hdA:=h.hdB
 hdB:=h.hdA
 tlA:=h.tlB
 tlB:=h.tlA
 gpA:=h.gpB
 gpB:=h.gpA
theorem Fm.mono (h:Fm A B m pA pB w x y st):∀ {v:Nat},u<v->v≤m->pA u+w u≤pA v
 | 0,h1,_=>absurd h1 (not_lt_zero _)
 | v+1,h1,h2=>by
  rw[h.nA v h2]
  by_cases q:u<v
  ·exact Nat.le_trans (h.mono q (le_of_succ_le h2)) (Nat.le_trans (Nat.le_add_right _ _) (Nat.le_add_right _ _))
  ·rw[le_antisymm (le_of_lt_succ h1) (le_of_not_lt q)]
   exact Nat.le_add_right _ _
theorem Fm.place (h:Fm A B m pA pB w x y st) {i:Nat}:∀ {hi:Nat},lo≤hi->hi≤m->pA lo≤i->i<pA hi+w hi->∃ u,lo≤u∧u≤hi∧pA u≤i∧(i<pA u+w u∨(u<hi∧pA u+w u≤i∧i<pA (u+1)))
 | 0,h1,h2,h3,h4=>by
  cases Nat.le_zero.mp h1
  exact ⟨0,le_refl _,le_refl _,h3,.inl h4⟩
 | hi+1,h1,h2,h3,h4=>by
  by_cases q:lo≤hi
  ·by_cases q2:i<pA hi+w hi
   ·obtain ⟨u,a,b,c,d⟩:=h.place q (le_of_succ_le h2) h3 q2
    exact ⟨u,a,le_succ_of_le b,c,d.imp id fun e=>⟨lt_succ_of_lt e.1,e.2⟩⟩
   ·have q2:=le_of_not_lt q2
    by_cases q3:i<pA (hi+1)
    ·exact ⟨hi,q,le_succ _,Nat.le_trans (Nat.le_add_right _ _) q2,.inr ⟨lt_succ_self _,q2,q3⟩⟩
    ·exact ⟨hi+1,h1,le_refl _,le_of_not_lt q3,.inl h4⟩
  ·have e:=le_antisymm h1 (lt_of_not_le q)
   subst e
   exact ⟨hi+1,le_refl _,le_refl _,h3,.inl h4⟩
noncomputable def Ib (p st:Nat->Nat) (lo u:Nat):Nat:=p u-if lo<u then st u else 0
noncomputable def Lb (w st:Nat->Nat) (lo hi u:Nat):Nat:=w u+(if lo<u then st u else 0)+if u<hi then st (u+1) else 0
theorem KM {i j a b s:Nat} (h:i+b=j+a) (h1:s≤a) (h2:s≤b):i+(b-s)=j+(a-s):=by
 rw[<-Nat.add_sub_assoc h2,<-Nat.add_sub_assoc h1,h]
theorem HK {i j t a b d:Nat} (h1:i+t=a+d) (h2:j+t=b+d):i+b=j+a:=by
 have e:i+b+(t+d)=j+a+(t+d):=by rw[Nat.add_add_add_comm,h1,<-h2,Nat.add_add_add_comm j,add_comm]
 exact Nat.add_right_cancel e
theorem A5 {i j f a b w x g:Nat} (h1:i+f+1=a+w) (h2:i+(b+w+(x+g+1))=j+(a+w+x)):j+f=b+w+g:=by
 have e:j+f+(i+1+x)=b+w+g+(i+1+x):=by
  rw[<-h1] at h2
  rw[show j+f+(i+1+x)=j+(i+f+1+x) by ac_rfl,<-h2]
  ac_rfl
 exact Nat.add_right_cancel e
theorem Fm.stA (h:Fm A B m pA pB w x y st) (h1:lo<u) (h2:u≤m):pA (u-1)+w (u-1)+st u≤pA u:=by
 obtain ⟨v,rfl⟩:=Nat.exists_eq_add_one_of_ne_zero (ne_of_gt (lt_of_le_of_lt (zero_le _) h1))
 rw[add_sub_cancel,h.nA v h2]
 exact add_le_add_left (h.sx v h2) _
theorem Fm.leA (h:Fm A B m pA pB w x y st) (h2:u≤m):(if lo<u then st u else 0)≤pA u:=by
 by_cases q:lo<u
 ·rw[if_pos q];exact Nat.le_trans (Nat.le_add_left _ _) (h.stA q h2)
 ·rw[if_neg q];exact zero_le _
theorem Uv {p c w d:Nat} (h:c≤p):p-c+(w+c+d)=p+w+d:=by
 rw[<-add_assoc (p-c),<-add_assoc (p-c) w c,add_right_comm (p-c) w c,sub_add_cancel h]
theorem A6 {i j f a b w x:Nat} (h1:i+f=a+w+x) (h2:i+b=j+a):j+f=b+w+x:=by
 have e:j+f+(i+a)=b+w+x+(i+a):=by
  rw[show j+f+(i+a)=(j+a)+(i+f) by ac_rfl,h1,<-h2]
  ac_rfl
 exact Nat.add_right_cancel e
theorem Fm.endA (h:Fm A B m pA pB w x y st) (h2:u≤m):Ib pA st lo u+Lb w st lo hi u=pA u+w u+if u<hi then st (u+1) else 0:=Uv (h.leA h2)
theorem Fm.endA_eq (h:Fm A B m pA pB w x y st) (hx:∀ u,u<m->st (u+1)=x (u+1)) (h2:u<hi) (h3:hi≤m):Ib pA st lo u+Lb w st lo hi u=pA (u+1):=by
 have hu:=lt_of_lt_of_le h2 h3
 rw[h.endA (le_of_lt hu),if_pos h2,hx u hu,h.nA u hu]
theorem Fm.cls (h:Fm A B m pA pB w x y st) (hx:∀ u,u<m->st (u+1)=x (u+1)∧x (u+1)<y (u+1)) (hlh:lo≤hi) (hm:hi≤m) {blo bhi:Nat}:MG A B (pA lo) (pA hi+w hi) blo bhi (Ib pA st lo) (Ib pB st lo) (Lb w st lo hi) lo hi:=by
 intro i j k r
 have a1:=r.a1
 have a2:=r.a2
 by_cases q:∃ t v,t<k+1∧A[i+t]?=some v∧3≤v
 ·obtain ⟨t,v,ht,hv,h3⟩:=q
  obtain ⟨v',e1,e2⟩:=r.eq t ht
  rw[hv] at e1;cases e1
  obtain ⟨u,d,hu,hd,ei,ej⟩:=h.dia _ _ _ hv e2 h3
  have h1:lo≤u:=by
   apply le_of_not_lt;intro c
   exact lt_irrefl _ (lt_of_le_of_lt (Nat.le_trans (h.mono c (Nat.le_trans hlh hm)) (Nat.le_trans a1 (Nat.le_trans (Nat.le_add_right i t) (le_of_eq ei)))) (add_lt_add_left hd _))
  have h2:u≤hi:=by
   apply le_of_not_lt;intro c
   exact lt_irrefl _ (lt_of_lt_of_le (add_lt_add_left ht i) (Nat.le_trans a2 (Nat.le_trans (h.mono c hu) (Nat.le_trans (Nat.le_add_right _ d) (le_of_eq ei.symm)))))
  have ed:i+pB u=j+pA u:=HK ei ej
  refine ⟨u,h1,h2,.inl ⟨KM ed (h.leA hu) (h.swap.leA hu),?_,?_⟩⟩
  ·unfold Ib
   by_cases c:lo<u
   ·rw[if_pos c]
    obtain ⟨u,rfl⟩:=Nat.exists_eq_add_one_of_ne_zero (ne_of_gt (lt_of_le_of_lt (zero_le _) c))
    obtain ⟨s1,s2⟩:=hx u hu
    have n1:=h.nA u hu
    have n2:=h.nB u hu
    have p0:=h.w0 u (le_of_succ_le hu)
    obtain ⟨g,hg⟩:=Nat.exists_eq_add_of_lt s2
    rw[s1,n1,add_sub_cancel]
    apply le_of_not_lt;intro c2
    obtain ⟨v1,g1,g2⟩:=h.tlA u (le_of_succ_le hu)
    obtain ⟨v2,g3,g4⟩:=h.gpB u g hu (by rw[hg];exact lt_succ_of_le (Nat.le_add_left _ _))
    have hP:pA u+(w u-1)+1=pA u+w u:=by rw[add_assoc,sub_add_cancel p0]
    obtain ⟨f,hf⟩:=exists_eq_add_of_le (le_of_lt_succ (Nat.lt_of_lt_of_eq c2 hP.symm))
    rw[hf] at hP g1
    have hft:f<t:=Nat.lt_of_add_lt_add_left (n:=i) (lt_of_lt_of_le (Nat.lt_of_lt_of_eq (lt_succ_self _) hP) (Nat.le_trans (Nat.le_add_right _ (x (u+1)+d)) (le_of_eq (by rw[ei,n1,<-add_assoc (pA u+w u)]))))
    obtain ⟨v3,g5,g6⟩:=r.eq f (lt_trans hft ht)
    rw[g1] at g5
    rw[n1,n2,hg] at ed
    rw[A5 hP ed,g3] at g6
    cases g5
    cases g6
    exact absurd g4 (Int.not_lt.mpr g2)
   ·rw[if_neg c]
    have:=le_antisymm h1 (le_of_not_lt c)
    rw[<-this];exact a1
  ·by_cases c:u<hi
   ·rw[h.endA_eq (fun u q=>(hx u q).1) c hm]
    have hu:=lt_of_lt_of_le c hm
    obtain ⟨s1,s2⟩:=hx u hu
    have n1:=h.nA u hu
    apply le_of_not_lt;intro c2
    obtain ⟨v1,g1,g2⟩:=h.hdA (u+1) hu
    obtain ⟨v2,g3,g4⟩:=h.gpB u (x (u+1)) hu s2
    have hi:i≤pA (u+1):=Nat.le_trans (Nat.le_trans (Nat.le_add_right i t) (le_of_eq ei)) (Nat.le_trans (le_of_lt (add_lt_add_left hd _)) (Nat.le_trans (Nat.le_add_right _ _) (le_of_eq n1.symm)))
    obtain ⟨f,hf⟩:=exists_eq_add_of_le hi
    obtain ⟨v3,g5,g6⟩:=r.eq f (Nat.lt_of_add_lt_add_left (n:=i) (lt_of_le_of_lt (le_of_eq hf.symm) c2))
    have ej:j+f=pB u+w u+x (u+1):=by
     exact A6 (hf.symm.trans n1) ed
    rw[<-hf,g1] at g5
    rw[ej,g3] at g6
    cases g5
    cases g6
    exact absurd g4 (Int.not_lt.mpr g2)
   ·rw[h.endA hu,if_neg c,le_antisymm h2 (le_of_not_lt c)]
    exact a2
 ·have q:∀ p v,i≤p->p<i+(k+1)->A[p]?=some v->¬ 3≤v:=fun p v h1 h2 h3 h4=>q ⟨p-i,v,Nat.sub_lt_left_of_lt_add h1 h2,by rw[add_sub_of_le h1];exact h3,h4⟩
  obtain ⟨u,h1,h2,h3,h4⟩:=h.place hlh hm a1 (lt_of_lt_of_le (lt_add_of_pos_right (succ_pos k)) a2)
  have hu:=Nat.le_trans h2 hm
  rcases h4 with h4 | ⟨h4,h5,h6⟩
  ·refine ⟨u,h1,h2,.inr (lt_of_lt_of_le ?_ (Nat.le_trans (Nat.le_add_right (w u) _) (Nat.le_add_right _ _)))⟩
   have p0:=h.w0 u hu
   obtain ⟨v,g1,g2⟩:=h.tlA u hu
   apply lt_of_not_le;intro c
   have hP:pA u+(w u-1)+1=pA u+w u:=by rw[add_assoc,sub_add_cancel p0]
   refine q _ v (le_of_lt_succ (Nat.lt_of_lt_of_eq h4 hP.symm)) (lt_of_lt_of_le (lt_succ_self _) (Nat.le_trans (le_of_eq hP) (Nat.le_trans (add_le_add_right h3 _) (add_le_add_left c _)))) g1 g2
  ·have hu':=lt_of_lt_of_le h4 hm
   have n1:=h.nA u hu'
   refine ⟨u+1,le_succ_of_le h1,h4,.inr (lt_of_lt_of_le ?_ (Nat.le_add_right _ _))⟩
   rw[if_pos (lt_succ_of_le h1),(hx u hu').1]
   obtain ⟨v,g1,g2⟩:=h.hdA (u+1) hu'
   apply lt_of_not_le;intro c
   refine q _ v (le_of_lt h6) (lt_of_lt_of_le ?_ (add_le_add_left c i)) g1 g2
   rw[n1,add_comm (w (u+1)),<-add_assoc]
   exact lt_of_lt_of_le (add_lt_add_left (h.w0 (u+1) hu') _) (add_le_add_right (add_le_add_right h5 _) _)
end
end
section
section
variable {A B:List Int} {m:Nat} {pA pB w x y st:Nat->Nat} {lo hi u b:Nat} {gl gr:Nat->Bool}
theorem R4 {R:Nat->Nat->Prop} {a b w l r:Nat} (h1:l≤a) (h2:l≤b) (hL:∀ e,e<l->R (a-l+e) (b-l+e)) (hW:∀ d,d<w->R (a+d) (b+d)) (hR:∀ e,e<r->R (a+w+e) (b+w+e)) (d:Nat) (hd:d<w+l+r):R (a-l+d) (b-l+d):=by
 by_cases q:d<l
 ·exact hL d q
 ·obtain ⟨e,rfl⟩:=exists_eq_add_of_le (le_of_not_lt q)
  rw[<-add_assoc,<-add_assoc,sub_add_cancel h1,sub_add_cancel h2]
  by_cases q2:e<w
  ·exact hW e q2
  ·obtain ⟨f,rfl⟩:=exists_eq_add_of_le (le_of_not_lt q2)
   rw[<-add_assoc,<-add_assoc]
   rw[Nat.add_left_comm,<-add_assoc] at hd
   exact hR f (Nat.lt_of_add_lt_add_left hd)
noncomputable def aLo (p w st:Nat->Nat):Nat->Nat
 | 0=>0
 | u+1=>p u+w u+st (u+1)
noncomputable def aHi (p w st:Nat->Nat) (m u:Nat):Nat:=if u<m then p (u+1)-st (u+1) else p u+w u
theorem Fm.lo_le (h:Fm A B m pA pB w x y st):∀ {u:Nat},u≤m->aLo pA w st u≤pA u
 | 0,_=>zero_le _
 | u+1,hu=>by
  unfold aLo
  rw[h.nA u hu]
  exact add_le_add_left (h.sx u hu) _
theorem Fm.lo_eq (h:Fm A B m pA pB w x y st) (hx:∀ u,u<m->st (u+1)=x (u+1)):∀ {u:Nat},u≤m->aLo pA w st u=pA u
 | 0,_=>h.zA.symm
 | u+1,hu=>by
  rw[h.nA u hu,<-hx u hu];rfl
set_option tactic.hygienic true in
theorem Fm.hi_ge (h:Fm A B m pA pB w x y st) (hu:u≤m):pA u+w u≤aHi pA w st m u:=by
 unfold aHi
 split
 ·rename_i q
  rw[h.nA u q]
  exact Nat.le_sub_of_add_le (add_le_add_left (h.sx u q) _)
 ·exact le_refl _
set_option tactic.hygienic true in
theorem Fm.hi_eq (h:Fm A B m pA pB w x y st) (hx:∀ u,u<m->st (u+1)=x (u+1)) (hu:u≤m):aHi pA w st m u=pA u+w u:=by
 unfold aHi
 split
 ·rename_i q
  rw[h.nA u q,hx u q,add_sub_cancel]
 ·rfl
set_option tactic.hygienic true in
theorem Fm.hi_le (h:Fm A B m pA pB w x y st) (hu:u≤m):aHi pA w st m u≤A.length:=by
 unfold aHi
 rw[h.lA]
 split
 ·rename_i q
  refine Nat.le_trans (sub_le _ _) ?_
  by_cases c:u+1<m
  ·exact Nat.le_trans (Nat.le_add_right _ _) (Nat.le_trans (h.mono c (le_refl _)) (Nat.le_add_right _ _))
  ·have e:u+1=m:=le_antisymm q (le_of_not_lt c)
   rw[e];exact Nat.le_add_right _ _
 ·rename_i q
  rw[le_antisymm hu (le_of_not_lt q)];exact le_refl _
theorem Fm.le_le (h:Fm A B m pA pB w x y st) (h1:lo≤hi) (h2:hi≤m):pA lo≤pA hi:=by
 by_cases c:lo<hi
 ·exact Nat.le_trans (Nat.le_add_right _ _) (h.mono c h2)
 ·rw[le_antisymm h1 (le_of_not_lt c)];exact le_refl _
theorem Fm.win (h:Fm A B m pA pB w x y st) (h1:lo≤hi) (h2:hi≤m):aLo pA w st lo≤aHi pA w st m hi :=
 Nat.le_trans (h.lo_le (Nat.le_trans h1 h2)) (Nat.le_trans (h.le_le h1 h2) (Nat.le_trans (Nat.le_add_right _ _) (h.hi_ge h2)))
theorem Fm.beg (h:Fm A B m pA pB w x y st) (h1:lo≤b) (h2:b≤m):aLo pA w st lo≤Ib pA st lo b∧(lo<b->aLo pA w st lo<Ib pA st lo b):=by
 have g:lo<b->aLo pA w st lo<Ib pA st lo b:=fun c=>by
  unfold Ib
  rw[if_pos c]
  have a1:=h.stA c h2
  have hb:=Nat.le_trans (sub_le b 1) h2
  have a2:=h.lo_le (Nat.le_trans h1 h2)
  have a3:=h.le_le (Nat.le_sub_one_of_lt c) hb
  exact lt_of_lt_of_le (lt_of_le_of_lt (Nat.le_trans a2 a3) (lt_add_of_pos_right (h.w0 (b-1) hb))) (Nat.le_sub_of_add_le a1)
 refine ⟨?_,g⟩
 by_cases c:lo<b
 ·exact le_of_lt (g c)
 ·unfold Ib
  rw[if_neg c,<-le_antisymm h1 (le_of_not_lt c)]
  exact h.lo_le (Nat.le_trans h1 h2)
theorem Fm.fin (h:Fm A B m pA pB w x y st) (h1:b≤hi) (h2:hi≤m):Ib pA st lo b+Lb w st lo hi b≤aHi pA w st m hi∧(b<hi->Ib pA st lo b+Lb w st lo hi b<aHi pA w st m hi):=by
 have g:b<hi->Ib pA st lo b+Lb w st lo hi b<aHi pA w st m hi:=fun c=>by
  have hb:=lt_of_lt_of_le c h2
  rw[h.endA (le_of_lt hb),if_pos c]
  have a1:=h.nA b hb
  have a2:=h.sx b hb
  have a3:pA (b+1)≤pA hi:=h.le_le c h2
  exact lt_of_le_of_lt (Nat.le_trans (add_le_add_left a2 _) (Nat.le_trans (le_of_eq a1.symm) a3)) (lt_of_lt_of_le (lt_add_of_pos_right (h.w0 hi h2)) (h.hi_ge h2))
 refine ⟨?_,g⟩
 by_cases c:b<hi
 ·exact le_of_lt (g c)
 ·rw[h.endA (Nat.le_trans h1 h2),if_neg c,le_antisymm h1 (le_of_not_lt c)]
  exact h.hi_ge h2
theorem Fm.run (h:Fm A B m pA pB w x y st) (h0:lo≤b) (h1:b≤hi) (h2:hi≤m):Run A B (aLo pA w st lo) (aHi pA w st m hi) (aLo pB w st lo) (aHi pB w st m hi) (Ib pA st lo b) (Ib pB st lo b) (Lb w st lo hi b):=by
 have hb:=Nat.le_trans h1 h2
 refine ⟨(h.beg h0 hb).1,(h.fin h1 h2).1,(h.swap.beg h0 hb).1,(h.swap.fin h1 h2).1,R4 (R:=fun i j=>∃ x,A[i]?=some x∧B[j]?=some x) (h.leA hb) (h.swap.leA hb) (fun e he=>?_) (fun d hd=>h.comW b d hb hd) fun e he=>?_⟩
 ·by_cases c:lo<b
  ·rw[if_pos c] at he ⊢
   obtain ⟨u,rfl⟩:=Nat.exists_eq_add_one_of_ne_zero (ne_of_gt (lt_of_le_of_lt (zero_le _) c))
   exact h.comL u e hb he
  ·rw[if_neg c] at he;exact absurd he (not_lt_zero _)
 ·by_cases c:b<hi
  ·rw[if_pos c] at he
   exact h.comR b e (lt_of_lt_of_le c h2) he
  ·rw[if_neg c] at he;exact absurd he (not_lt_zero _)
theorem MG.swap {alo ahi blo bhi:Nat} {I J L:Nat->Nat} (h:MG B A blo bhi alo ahi J I L lo hi):MG A B alo ahi blo bhi I J L lo hi:=fun i j k r=>by
 obtain ⟨u,h1,h2,g⟩:=h j i k ⟨r.b1,r.b2,r.a1,r.a2,fun t ht=>let ⟨v,a,b⟩:=r.eq t ht;⟨v,b,a⟩⟩
 refine ⟨u,h1,h2,g.imp (fun g=>⟨g.1.symm,Nat.le_of_add_le_add_left (a:=j) (Nat.le_trans (le_of_eq g.1) (Nat.le_trans (add_le_add_left g.2.1 i) (le_of_eq (add_comm i j)))),Nat.le_of_add_le_add_right (b:=J u) ?_⟩) id⟩
 rw[add_right_comm,<-g.1,add_right_comm,add_right_comm (I u),add_comm (I u),add_right_comm (J u)]
 exact add_le_add_right g.2.2 _
noncomputable def UP (m:Nat) (x y st:Nat->Nat):Prop:=∀ u,u<m->st (u+1)=x (u+1)∧x (u+1)<y (u+1)
end
end
section
section
variable {A B:List Int} {m:Nat} {pA pB w x y st:Nat->Nat} {lo hi u b:Nat} {gl gr:Nat->Bool}
theorem Fm.clsG (h:Fm A B m pA pB w x y st) (hd:UP m x y st∨UP m y x st) (h1:lo≤hi) (h2:hi≤m):MG A B (aLo pA w st lo) (aHi pA w st m hi) (aLo pB w st lo) (aHi pB w st m hi) (Ib pA st lo) (Ib pB st lo) (Lb w st lo hi) lo hi:=by
 rcases hd with hd | hd
 ·rw[h.lo_eq (fun u q=>(hd u q).1) (Nat.le_trans h1 h2),h.hi_eq (fun u q=>(hd u q).1) h2]
  exact h.cls hd h1 h2
 ·rw[h.swap.lo_eq (fun u q=>(hd u q).1) (Nat.le_trans h1 h2),h.swap.hi_eq (fun u q=>(hd u q).1) h2]
  exact (h.swap.cls hd h1 h2).swap
noncomputable abbrev cpl (st:Nat->Nat) (g:Nat->Bool) (u:Nat):Nat:=if g u=true then st u else 0
noncomputable abbrev cpr (st:Nat->Nat) (g:Nat->Bool) (u:Nat):Nat:=if g u=true then st (u+1) else 0
noncomputable def Wx (pA pB w st:Nat->Nat) (gl gr:Nat->Bool) (u:Nat):N3:=(pA u-cpl st gl u,pB u-cpl st gl u,w u+cpl st gl u+cpr st gr u)
structure Pick (w st:Nat->Nat) (gl gr:Nat->Bool) (P:Nat->Nat->Prop) (lo hi b:Nat):Prop where
 h1:lo≤b
 h2:b≤hi
 mx:∀ u,lo≤u->u≤hi->Lb w st lo hi u≤Lb w st lo hi b
 fs:∀ u,lo≤u->u<b->Lb w st lo hi u<Lb w st lo hi b
 left:lo<b->gl b=true∧gr (b-1)=false∧P lo (b-1)
 right:b<hi->gr b=true∧gl (b+1)=false∧P (b+1) hi
structure QI (m:Nat) (st:Nat->Nat) (gl gr:Nat->Bool) (P:Nat->Nat->Prop) (lo hi:Nat):Prop where
 hm:hi≤m
 p:P lo hi
 zl:cpl st gl lo=0
 zr:cpr st gr hi=0
theorem Uw (h:gl u=false):cpl st gl u=0:=by unfold cpl;rw[h];rfl
theorem V0 (h:gr u=false):cpr st gr u=0:=by unfold cpr;rw[h];rfl
theorem HL (e1:(if lo<b then st b else 0)=cpl st gl b) (e2:(if b<hi then st (b+1) else 0)=cpr st gr b):(Ib pA st lo b,Ib pB st lo b,Lb w st lo hi b)=Wx pA pB w st gl gr b:=by
 unfold Ib Lb Wx
 rw[e1,e2]
theorem Fm.inc (h:Fm A B m pA pB w x y st) (h1:b<u) (h2:u≤m):Ib pA st lo b<Ib pA st lo u:=by
 have a1:Ib pA st lo b≤pA b:=sub_le _ _
 have a3:=h.w0 b (Nat.le_trans (le_of_lt h1) h2)
 have a2:pA b+w b≤Ib pA st lo u:=by
  unfold Ib
  split
  ·have hb:=Nat.le_trans (sub_le u 1) h2
   have b1:=h.stA h1 h2
   have b2:=h.le_le (Nat.le_sub_one_of_lt h1) hb
   by_cases c:b<u-1
   ·exact Nat.le_sub_of_add_le (Nat.le_trans (add_le_add_right (Nat.le_trans (h.mono c hb) (Nat.le_add_right _ _)) _) b1)
   ·rw[le_antisymm (Nat.le_sub_one_of_lt h1) (le_of_not_lt c)]
    exact Nat.le_sub_of_add_le b1
  ·exact h.mono h1 h2
 exact lt_of_le_of_lt a1 (lt_of_lt_of_le (lt_add_of_pos_right a3) a2)
theorem Fm.share (h:Fm A B m pA pB w x y st) (hd:UP m x y st∨UP m y x st) {P:Nat->Nat->Prop} (pk:∀ lo hi,lo≤hi->hi≤m->P lo hi->∃ b,Pick w st gl gr P lo hi b) (lo hi:Nat) (hlh:lo≤hi) (q:QI m st gl gr P lo hi) :
  ∃ b,Share A B (QI m st gl gr P) (aLo pA w st) (aHi pA w st m) (aLo pB w st) (aHi pB w st m) (Wx pA pB w st gl gr) lo hi b:=by
 obtain ⟨b,k⟩:=pk lo hi hlh q.hm q.p
 have hm:=q.hm
 have hb:=Nat.le_trans k.h2 hm
 have e1:(if lo<b then st b else 0)=cpl st gl b:=by
  by_cases c:lo<b
  ·rw[if_pos c];unfold cpl;rw[if_pos (k.left c).1]
  ·rw[if_neg c,<-le_antisymm k.h1 (le_of_not_lt c)];exact q.zl.symm
 have e2:(if b<hi then st (b+1) else 0)=cpr st gr b:=by
  by_cases c:b<hi
  ·rw[if_pos c];unfold cpr;rw[if_pos (k.right c).1]
  ·rw[if_neg c,le_antisymm k.h2 (le_of_not_lt c)];exact q.zr.symm
 have eb:=HL (pA:=pA) (pB:=pB) (w:=w) e1 e2
 have w0:=h.w0 b hb
 have p0:0<Lb w st lo hi b:=lt_of_lt_of_le w0 (Nat.le_trans (Nat.le_add_right (w b) _) (Nat.le_add_right _ _))
 have gA:=h.beg k.h1 hb
 have gB:=h.swap.beg k.h1 hb
 have fA:=h.fin (lo:=lo) k.h2 hm
 have fB:=h.swap.fin (lo:=lo) k.h2 hm
 have found:=PJ (h.clsG hd hlh hm) (h.win hlh hm) (h.swap.win hlh hm) (h.hi_le hm) (h.run k.h1 k.h2 hm) p0 k.mx k.fs fun u h1 h2=>h.inc h1 (Nat.le_trans h2 hm)
 have zA:=h.endA (lo:=lo) (hi:=hi) hb
 have zB:=h.swap.endA (lo:=lo) (hi:=hi) hb
 rw[eb] at found
 have b1:Ib pA st lo b=(Wx pA pB w st gl gr b).1:=by rw[<-eb]
 have b2:Ib pB st lo b=(Wx pA pB w st gl gr b).2.1:=by rw[<-eb]
 have b3:Lb w st lo hi b=(Wx pA pB w st gl gr b).2.2:=by rw[<-eb]
 rw[b1] at gA fA zA
 rw[b2] at gB fB zB
 rw[b3] at fA fB p0 zA zB
 refine ⟨b,k.h1,k.h2,⟨h.win hlh hm,h.swap.win hlh hm⟩,found,ne_of_gt p0,fun c=>?_,fun c=>?_,fun c=>?_,fun c=>?_⟩
 ·obtain ⟨l1,l2,l3⟩:=k.left c
  obtain ⟨v,rfl⟩:=Nat.exists_eq_add_one_of_ne_zero (ne_of_gt (lt_of_le_of_lt (zero_le _) c))
  refine ⟨⟨le_of_succ_le hb,l3,q.zl,V0 l2⟩,?_,?_,gA.2 c,gB.2 c⟩
  ·rw[<-b1];unfold Ib aHi;rw[if_pos c,add_sub_cancel,if_pos (Nat.lt_of_succ_le hb)]
  ·rw[<-b2];unfold Ib aHi;rw[if_pos c,add_sub_cancel,if_pos (Nat.lt_of_succ_le hb)]
 ·rintro ⟨r1,r2⟩
  rw[<-b1] at r1
  rw[<-b2] at r2
  unfold Ib at r1 r2
  rw[<-c,if_neg (lt_irrefl _)] at r1 r2
  have hl:=Nat.le_trans hlh hm
  rcases hd with hd | hd
  ·rw[h.lo_eq (fun u q=>(hd u q).1) hl] at r1
   exact lt_irrefl _ r1
  ·rw[h.swap.lo_eq (fun u q=>(hd u q).1) hl] at r2
   exact lt_irrefl _ r2
 ·obtain ⟨l1,l2,l3⟩:=k.right c
  rw[if_pos c] at zA zB
  exact ⟨⟨hm,l3,Uw l2,q.zr⟩,zA,zB,fA.2 c,fB.2 c⟩
 ·rintro ⟨r1,r2⟩
  rw[zA,if_neg (Nat.not_lt.mpr (le_of_eq c.symm)),c] at r1
  rw[zB,if_neg (Nat.not_lt.mpr (le_of_eq c.symm)),c] at r2
  rcases hd with hd | hd
  ·rw[h.hi_eq (fun u q=>(hd u q).1) hm] at r1
   exact lt_irrefl _ r1
  ·rw[h.swap.hi_eq (fun u q=>(hd u q).1) hm] at r2
   exact lt_irrefl _ r2
theorem Fm.len (h:Fm A B m pA pB w x y st):aHi pA w st m m=A.length:=by unfold aHi;rw[if_neg (lt_irrefl _),h.lA]
theorem Fm.mb (h:Fm A B m pA pB w x y st) (hd:UP m x y st∨UP m y x st) {P:Nat->Nat->Prop} (pk:∀ lo hi,lo≤hi->hi≤m->P lo hi->∃ b,Pick w st gl gr P lo hi b) (p0:P 0 m) (s0:st 0=0) (sm:st (m+1)=0):MA A B=(List.range (m+1)).map (Wx pA pB w st gl gr):=by
 have:=MH (h.share hd pk) m 0 m (zero_le _) (le_refl _) ⟨le_refl _,p0,by unfold cpl;rw[s0];split<;>rfl,by unfold cpr;rw[sm];split<;>rfl⟩
 rw[h.len,h.swap.len,sub_zero] at this
 rw[List.range_eq_range']
 exact this
end
end
section
noncomputable def Bd (old new:List Int) (s:RdS):Prop:=s.told.length≤1000∧s.gone.length≤1000∧s.i≤old.length∧s.j≤new.length
structure Way (old new notes:List Int) (now:Int) (codes:List OpN) (s1:RdS) (S:Nat->RdS):Prop where
 z:S 0=rd0
 st:∀ t c,codes[t]?=some c->Rd old new notes now (S t) c (S (t+1))
 bd:∀ t,t≤codes.length->Bd old new (S t)
 e:S codes.length=s1
section
variable {old new notes D:List Int} {now:Int} {codes:List OpN} {s1 s2:RdS} {S:Nat->RdS} {c:OpN}
theorem Way.nil:Way old new notes now [] rd0 (fun _=>rd0):=⟨rfl,fun t c h=>(by cases h),fun t _=>⟨zero_le _,zero_le _,zero_le _,zero_le _⟩,rfl⟩
set_option tactic.hygienic true in
theorem Way.snoc (h:Way old new notes now codes s1 S) (r:Rd old new notes now s1 c s2) (b:Bd old new s2):Way old new notes now (codes++[c]) s2 fun t=>if t≤codes.length then S t else s2:=by
 refine ⟨by rw[if_pos (zero_le _)];exact h.z,fun t d hd=>?_,fun t ht=>?_,by rw[length_append,length_singleton,if_neg (Nat.not_succ_le_self _)]⟩
 ·by_cases q:t<codes.length
  ·rw[getElem?_append_left q] at hd
   rw[if_pos (le_of_lt q),if_pos (Nat.succ_le_of_lt q)]
   exact h.st t d hd
  ·have hl:=(List.getElem?_eq_some_iff.mp hd).1
   rw[length_append,length_singleton] at hl
   have e:=le_antisymm (le_of_lt_succ hl) (le_of_not_lt q)
   subst e
   rw[getElem?_append_right (le_refl _),sub_self] at hd
   cases hd
   rw[if_pos (le_refl _),if_neg (Nat.not_succ_le_self _),h.e]
   exact r
 ·split
  ·rename_i q;exact h.bd t q
  ·exact b
set_option tactic.hygienic true in
theorem VT {X Y:List Int} {i j L:Nat} (h:∀ d,d<L->X[i+d]?=Y[j+d]?):Y9 X i (i+L)=Y9 Y j (j+L):=by
 unfold Y9
 rw[List.drop_take,List.drop_take,add_sub_cancel_left,add_sub_cancel_left]
 refine List.ext_getElem? fun d=>?_
 rw[List.getElem?_take,List.getElem?_take]
 split
 ·rename_i q;rw[List.getElem?_drop,List.getElem?_drop];exact h d q
 ·rfl
theorem V1 {X:List Int} {j L:Nat}:X.take j++Y9 X j (j+L)=X.take (j+L):=by
 unfold Y9
 rw[List.drop_take,add_sub_cancel_left,List.take_add]
set_option tactic.hygienic true in
theorem MI {X:List Int} {j L:Nat} (h:∀ d,d<L->X[j+d]?=some now):Y9 X j (j+L)=List.replicate L now:=by
 unfold Y9
 rw[List.drop_take,add_sub_cancel_left]
 refine List.ext_getElem? fun d=>?_
 rw[List.getElem?_take,List.getElem?_replicate]
 split
 ·rename_i q;rw[List.getElem?_drop];exact h d q
 ·rfl
end
section
variable {A B NA D:List Int} {now:Int} {m:Nat} {bk:Nat->N3} {G:Nat->List Int}
noncomputable abbrev enA (bk:Nat->N3) (u:Nat):Nat:=(bk u).1+(bk u).2.2
noncomputable abbrev enB (bk:Nat->N3) (u:Nat):Nat:=(bk u).2.1+(bk u).2.2
structure Bks (A B:List Int) (m:Nat) (bk:Nat->N3):Prop where
 pos:∀ u,u≤m->0<(bk u).2.2
 z:(bk 0).1=0∧(bk 0).2.1=0
 e:enA bk m=A.length∧enB bk m=B.length
 gap:∀ u,u<m->(enA bk u<(bk (u+1)).1∧enB bk u=(bk (u+1)).2.1)∨(enA bk u=(bk (u+1)).1∧enB bk u<(bk (u+1)).2.1)
noncomputable def eqB (b:N3):OpN:=eqO b.1 (b.1+b.2.2) b.2.1 (b.2.1+b.2.2)
noncomputable def gpB (a b:N3):OpN:=(Yk (a.1+a.2.2) b.1 (a.2.1+a.2.2) b.2.1,a.1+a.2.2,b.1,a.2.1+a.2.2,b.2.1)
noncomputable def HM (bk:Nat->N3):Nat->List OpN
 | 0=>[eqB (bk 0)]
 | u+1=>HM bk u++[gpB (bk u) (bk (u+1))]++[eqB (bk (u+1))]
theorem Bks.apart (h:Bks A B m bk) {u:Nat} (hu:u<m):¬ ((bk u).1+(bk u).2.2=(bk (u+1)).1∧(bk u).2.1+(bk u).2.2=(bk (u+1)).2.1):=fun ⟨a,b⟩=>by
 rcases h.gap u hu with ⟨q,_⟩ | ⟨_,q⟩
 ·exact absurd a (ne_of_lt q)
 ·exact absurd b (ne_of_lt q)
theorem Bks.mrgL (h:Bks A B m bk):∀ u,u≤m->mrg ((List.range (u+1)).map bk) ((0,0,0),[])=(bk u,(List.range u).map bk)
 | 0,_=>by
  show YA ((0,0,0),[]) (bk 0)=(bk 0,[])
  unfold YA
  rw[if_pos ⟨h.z.1.symm,h.z.2.symm⟩]
  exact congrArg (fun b=>(b,[])) (KJ h.z.1 h.z.2 (zero_add _).symm).symm
 | u+1,hu=>by
  have ih:=h.mrgL u (le_of_succ_le hu)
  unfold mrg at ih ⊢
  rw[range_succ,map_append,foldl_append,ih]
  show YA _ _=_
  unfold YA
  rw[if_neg (h.apart hu),if_neg (ne_of_gt (h.pos u (le_of_succ_le hu))),range_succ,map_append];rfl
theorem Bks.ops (h:Bks A B m bk):∀ u,u≤m->((List.range (u+1)).map bk).foldl ZO ((0,0),[])=((enA bk u,enB bk u),HM bk u)
 | 0,_=>by
  show ZO ((0,0),[]) (bk 0)=_
  unfold ZO
  dsimp only
  rw[if_neg (ne_of_gt (h.pos 0 (zero_le _))),h.z.1,h.z.2,if_neg (fun c=>c.elim (lt_irrefl _) (lt_irrefl _))]
  show _=(((bk 0).1+(bk 0).2.2,(bk 0).2.1+(bk 0).2.2),[eqO (bk 0).1 ((bk 0).1+(bk 0).2.2) (bk 0).2.1 ((bk 0).2.1+(bk 0).2.2)])
  rw[h.z.1,h.z.2];rfl
 | u+1,hu=>by
  rw[range_succ,map_append,foldl_append,h.ops u (le_of_succ_le hu)]
  show ZO _ _=_
  unfold ZO
  dsimp only
  rw[if_neg (ne_of_gt (h.pos (u+1) hu)),if_pos ((h.gap u hu).imp And.left And.right)];rfl
theorem Bks.opsAB (h:Bks A B m bk) (hm:MA A B=(List.range (m+1)).map bk):opsAB A B=HM bk m:=by
 have hb:blocks (flF A B) A.length B.length=(List.range (m+1)).map bk++[(A.length,B.length,0)]:=by
  rw[MF,show mb (flF A B) (0,A.length,0,B.length)=_ from hm,h.mrgL m (le_refl _)]
  dsimp only
  rw[if_neg (ne_of_gt (h.pos m (le_refl _))),range_succ,map_append];rfl
 show opcodes (flF A B) A.length B.length=_
 rw[PG hb,foldl_append,h.ops m (le_refl _)]
 show (ZO _ _).2=_
 unfold ZO
 dsimp only
 rw[if_pos rfl,h.e.1,h.e.2,if_neg (fun c=>c.elim (lt_irrefl _) (lt_irrefl _))]
structure Tells (A B NA D:List Int) (now:Int) (m:Nat) (bk:Nat->N3) (G:Nat->List Int):Prop where
 com:∀ u d,u≤m->d<(bk u).2.2->A[(bk u).1+d]?=B[(bk u).2.1+d]?
 kept:∀ u d,u≤m->d<(bk u).2.2->NA[(bk u).1+d]?=D[(bk u).2.1+d]?
 ins:∀ u d,u<m->enB bk u+d<(bk (u+1)).2.1->D[enB bk u+d]?=some now
 gone:∀ u,u<m->G (u+1)=G u++(List.range' (enA bk u) ((bk (u+1)).1-enA bk u)).map fun (n:Nat)=>(n:Int)
 g0:G 0=[]
 lD:D.length≤1000
 lG:∀ u,u≤m->(G u).length≤1000
theorem Bks.inA (h:Bks A B m bk) {u:Nat} (hu:u≤m):enA bk u≤A.length∧enB bk u≤B.length:=by
 suffices ∀ k u,u+k=m->enA bk u≤A.length∧enB bk u≤B.length from this (m-u) u (add_sub_of_le hu)
 intro k
 induction k with
 | zero=>intro u e;rw[show u=m from e];exact ⟨le_of_eq h.e.1,le_of_eq h.e.2⟩
 | succ k ih =>
  intro u e
  have ih:=ih (u+1) ((Nat.succ_add_eq_add_succ u k).trans e)
  have tr:=fun (a:enA bk u≤(bk (u+1)).1) (b:enB bk u≤(bk (u+1)).2.1)=>And.intro (Nat.le_trans a (Nat.le_trans (Nat.le_add_right _ _) ih.1)) (Nat.le_trans b (Nat.le_trans (Nat.le_add_right _ _) ih.2))
  rcases h.gap u (Nat.lt_of_lt_of_eq (lt_add_of_pos_right (succ_pos k)) e) with g | g
  ·exact tr (le_of_lt g.1) (le_of_eq g.2)
  ·exact tr (le_of_eq g.1) (le_of_lt g.2)
theorem QG {a b:N3} (h:(a.1+a.2.2<b.1∧a.2.1+a.2.2=b.2.1)∨(a.1+a.2.2=b.1∧a.2.1+a.2.2<b.2.1)):(Yk (a.1+a.2.2) b.1 (a.2.1+a.2.2) b.2.1 = "delete" ∧ a.1+a.2.2<b.1∧¬ a.2.1+a.2.2<b.2.1)∨(Yk (a.1+a.2.2) b.1 (a.2.1+a.2.2) b.2.1 = "insert" ∧ ¬ a.1+a.2.2<b.1∧a.2.1+a.2.2<b.2.1):=by
 unfold Yk
 rcases h with ⟨h1,h2⟩ | ⟨h1,h2⟩
 ·have n2:¬ a.2.1+a.2.2<b.2.1:=Nat.not_lt.mpr (le_of_eq h2.symm)
  exact .inl ⟨by rw[if_neg fun c=>n2 c.2,if_pos h1],h1,n2⟩
 ·have n1:¬ a.1+a.2.2<b.1:=Nat.not_lt.mpr (le_of_eq h1.symm)
  exact .inr ⟨by rw[if_neg fun c=>n1 c.1,if_neg n1,if_pos h2],n1,h2⟩
theorem Bks.way (h:Bks A B m bk) (r:Tells A B NA D now m bk G):∀ u,u≤m->∃ S,Way A B NA now (HM bk u) ⟨D.take (enB bk u),G u, "equal",enA bk u,enB bk u⟩ S
 | 0,h0=>by
  have p:=h.pos 0 h0
  have q:=@Rd.eq A B NA now [] [] "" (bk 0).1 (enA bk 0) (bk 0).2.1 (enB bk 0) (lt_add_of_pos_right p) (lt_add_of_pos_right p) (VT fun d hd=>r.com 0 d h0 hd) (by decide)
  have q2:=Way.snoc (Way.nil (old:=A) (new:=B) (notes:=NA) (now:=now)) (c:=eqB (bk 0)) (s2:=⟨D.take (enB bk 0),G 0, "equal",enA bk 0,enB bk 0⟩) (by
   have e:=VT fun d hd=>r.kept 0 d h0 hd
   rw[e,nil_append] at q
   have e2:Y9 D (bk 0).2.1 ((bk 0).2.1+(bk 0).2.2)=D.take (enB bk 0):=by
    rw[<-V1,h.z.2,List.take_zero,nil_append]
   rw[e2] at q
   have q3:rd0=⟨[],[], "",(bk 0).1,(bk 0).2.1⟩:=by rw[h.z.1,h.z.2];rfl
   rw[q3,r.g0]
   exact q) ⟨by dsimp only;rw[length_take];exact Nat.le_trans (Nat.min_le_right _ _) r.lD,r.lG 0 h0,(h.inA h0).1,(h.inA h0).2⟩
  exact ⟨_,q2⟩
 | u+1,hu=>by
  have hu':=le_of_succ_le hu
  obtain ⟨S,ih⟩:=h.way r u hu'
  have p:=h.pos (u+1) hu
  have lk:∀ k,(D.take k).length≤1000:=fun k=>by rw[length_take];exact Nat.le_trans (Nat.min_le_right _ _) r.lD
  have b2:=h.inA hu
  have cw:=QG (h.gap u hu)
  have c1:=@Rd.change A B NA now (D.take (enB bk u)) (G u) "equal" (Yk (enA bk u) (bk (u+1)).1 (enB bk u) (bk (u+1)).2.1) (enA bk u) (bk (u+1)).1 (enB bk u) (bk (u+1)).2.1 (.inr cw) (.inr rfl)
  have e1:D.take (enB bk u)++List.replicate ((bk (u+1)).2.1-enB bk u) now=D.take (bk (u+1)).2.1:=by
   have le:enB bk u≤(bk (u+1)).2.1:=by
    rcases h.gap u hu with ⟨_,q⟩ | ⟨_,q⟩
    ·exact le_of_eq q
    ·exact le_of_lt q
   obtain ⟨L,e⟩:=exists_eq_add_of_le le
   rw[e,add_sub_cancel_left,<-MI fun d hd=>r.ins u d hu (by rw[e];exact add_lt_add_left hd _),V1]
  rw[e1,<-r.gone u hu] at c1
  have w1:=ih.snoc (c:=gpB (bk u) (bk (u+1))) c1 ⟨lk _,r.lG _ hu,Nat.le_trans (Nat.le_add_right _ _) b2.1,Nat.le_trans (Nat.le_add_right _ _) b2.2⟩
  have c2:=@Rd.eq A B NA now (D.take (bk (u+1)).2.1) (G (u+1)) (Yk (enA bk u) (bk (u+1)).1 (enB bk u) (bk (u+1)).2.1) (bk (u+1)).1 (enA bk (u+1)) (bk (u+1)).2.1 (enB bk (u+1)) (lt_add_of_pos_right p) (lt_add_of_pos_right p) (VT fun d hd=>r.com (u+1) d hu hd) (Ut (p:=True) (.inr cw))
  rw[VT fun d hd=>r.kept (u+1) d hu hd,V1] at c2
  exact ⟨_,w1.snoc (c:=eqB (bk (u+1))) c2 ⟨lk _,r.lG _ hu,b2.1,b2.2⟩⟩
end
end
section
section
variable {A B NA D:List Int} {now:Int} {m:Nat} {pA pB w x y st:Nat->Nat} {u:Nat} {gl gr:Nat->Bool} {G:Nat->List Int}
noncomputable def Tb (m:Nat) (gl gr:Nat->Bool):Prop:=∀ u,u<m->(gr u=true∧gl (u+1)=false)∨(gr u=false∧gl (u+1)=true)
theorem VU (h:gl u=true):cpl st gl u=st u:=by unfold cpl;rw[h];rfl
theorem Vg (h:gr u=true):cpr st gr u=st (u+1):=by unfold cpr;rw[h];rfl
theorem Fm.cl_le (h:Fm A B m pA pB w x y st) (hu:u≤m):cpl st gl u≤pA u:=by
 cases u with
 | zero =>
  unfold cpl
  split
  ·rw[h.s0];exact zero_le _
  ·exact zero_le _
 | succ u =>
  have:cpl st gl (u+1)≤st (u+1):=by
   unfold cpl
   split
   ·exact le_refl _
   ·exact zero_le _
  rw[h.nA u hu]
  exact Nat.le_trans this (Nat.le_trans (h.sx u hu) (Nat.le_add_left _ _))
theorem Fm.en (h:Fm A B m pA pB w x y st) (hu:u≤m):enA (Wx pA pB w st gl gr) u=pA u+w u+cpr st gr u:=Uv (h.cl_le hu)
theorem Fm.en' (h:Fm A B m pA pB w x y st) (hu:u≤m):enB (Wx pA pB w st gl gr) u=pB u+w u+cpr st gr u:=Uv (h.swap.cl_le hu)
theorem KN {a x y z c d s:Nat} (h:c=s∧d=0∨c=0∧d=s) (h1:s=x) (h2:x<y):a+c=a+x-d∧z+c<z+y-d:=by
 rcases h with ⟨h,g⟩ | ⟨h,g⟩
 ·rw[h,g,sub_zero,sub_zero,h1]
  exact ⟨rfl,add_lt_add_left h2 z⟩
 ·rw[h,g,h1,add_sub_cancel]
  exact ⟨rfl,Nat.lt_sub_of_add_lt (add_lt_add_left h2 z)⟩
theorem Fm.bks (h:Fm A B m pA pB w x y st) (hd:UP m x y st∨UP m y x st) (o1:Tb m gl gr):Bks A B m (Wx pA pB w st gl gr):=by
 refine ⟨fun u hu=>lt_of_lt_of_le (h.w0 u hu) (Nat.le_trans (Nat.le_add_right (w u) _) (Nat.le_add_right _ _)),⟨?_,?_⟩,⟨?_,?_⟩,fun u hu=>?_⟩
 ·show pA 0-_=0
  rw[h.zA,Nat.zero_sub]
 ·show pB 0-_=0
  rw[h.zB,Nat.zero_sub]
 ·have e:cpr st gr m=0:=by unfold cpr;rw[h.sm];split<;>rfl
  rw[h.en (le_refl _),e,h.lA];rfl
 ·have e:cpr st gr m=0:=by unfold cpr;rw[h.sm];split<;>rfl
  rw[h.en' (le_refl _),e,h.lB];rfl
 ·have hs:cpr st gr u=st (u+1)∧cpl st gl (u+1)=0∨cpr st gr u=0∧cpl st gl (u+1)=st (u+1):=(o1 u hu).imp (fun q=>⟨Vg q.1,Uw q.2⟩) fun q=>⟨V0 q.1,VU q.2⟩
  rw[h.en (le_of_lt hu),h.en' (le_of_lt hu)]
  show (_<pA (u+1)-cpl st gl (u+1)∧_=pB (u+1)-cpl st gl (u+1))∨(_=pA (u+1)-cpl st gl (u+1)∧_<pB (u+1)-cpl st gl (u+1))
  rw[h.nA u hu,h.nB u hu]
  rcases hd with hd | hd
  ·exact .inr (KN hs (hd u hu).1 (hd u hu).2)
  ·exact .inl (KN hs (hd u hu).1 (hd u hu).2).symm
structure Nt (NA D:List Int) (now:Int) (m:Nat) (pA pB w x y st:Nat->Nat) (gl gr:Nat->Bool) (G:Nat->List Int):Prop where
 kW:∀ u d,u≤m->d<w u->NA[pA u+d]?=D[pB u+d]?
 kR:∀ u e,u<m->gr u=true->e<st (u+1)->NA[pA u+w u+e]?=D[pB u+w u+e]?
 kL:∀ u e,u<m->gl (u+1)=true->e<st (u+1)->NA[pA (u+1)-st (u+1)+e]?=D[pB (u+1)-st (u+1)+e]?
 iR:∀ u e,u<m->gr u=true->st (u+1)+e<y (u+1)->D[pB u+w u+(st (u+1)+e)]?=some now
 iL:∀ u e,u<m->gl (u+1)=true->e+st (u+1)<y (u+1)->D[pB u+w u+e]?=some now
 gone:∀ u,u<m->G (u+1)=G u++(List.range' (pA u+w u+cpr st gr u) (x (u+1)-st (u+1))).map fun (n:Nat)=>(n:Int)
 g0:G 0=[]
 lD:D.length≤1000
 lG:∀ u,u≤m->(G u).length≤1000
theorem Fm.com (h:Fm A B m pA pB w x y st) (hu:u≤m) (d:Nat) (hd:d<(Wx pA pB w st gl gr u).2.2):A[(Wx pA pB w st gl gr u).1+d]?=B[(Wx pA pB w st gl gr u).2.1+d]?:=by
 refine R4 (R:=fun i j=>A[i]?=B[j]?) (h.cl_le hu) (h.swap.cl_le hu) (fun e he=>?_) (fun d hd=>?_) (fun e he=>?_) d hd
 ·cases u with
  | zero =>
   unfold cpl at he
   rw[h.s0,ite_self] at he
   exact absurd he (not_lt_zero _)
  | succ u =>
   cases q:gl (u+1) with
   | true =>
    rw[VU q] at he ⊢
    obtain ⟨v,a,b⟩:=h.comL u e hu he
    rw[a,b]
   | false=>rw[Uw q] at he;exact absurd he (not_lt_zero _)
 ·obtain ⟨v,a,b⟩:=h.comW u d hu hd
  rw[a,b]
 ·by_cases c:u<m
  ·cases q:gr u with
   | true =>
    rw[Vg q] at he
    obtain ⟨v,a,b⟩:=h.comR u e c he
    rw[a,b]
   | false=>rw[V0 q] at he;exact absurd he (not_lt_zero _)
  ·unfold cpr at he
   rw[le_antisymm hu (le_of_not_lt c),h.sm,ite_self] at he
   exact absurd he (not_lt_zero _)
theorem Fm.kept (h:Fm A B m pA pB w x y st) (r:Nt NA D now m pA pB w x y st gl gr G) (hu:u≤m) (d:Nat) (hd:d<(Wx pA pB w st gl gr u).2.2):NA[(Wx pA pB w st gl gr u).1+d]?=D[(Wx pA pB w st gl gr u).2.1+d]?:=by
 refine R4 (R:=fun i j=>NA[i]?=D[j]?) (h.cl_le hu) (h.swap.cl_le hu) (fun e he=>?_) (fun d hd=>r.kW u d hu hd) (fun e he=>?_) d hd
 ·cases u with
  | zero =>
   unfold cpl at he
   rw[h.s0,ite_self] at he
   exact absurd he (not_lt_zero _)
  | succ u =>
   cases q:gl (u+1) with
   | true =>
    rw[VU q] at he ⊢
    exact r.kL u e hu q he
   | false=>rw[Uw q] at he;exact absurd he (not_lt_zero _)
 ·by_cases c:u<m
  ·cases q:gr u with
   | true =>
    rw[Vg q] at he
    exact r.kR u e c q he
   | false=>rw[V0 q] at he;exact absurd he (not_lt_zero _)
  ·unfold cpr at he
   rw[le_antisymm hu (le_of_not_lt c),h.sm,ite_self] at he
   exact absurd he (not_lt_zero _)
theorem Fm.tells (h:Fm A B m pA pB w x y st) (o1:Tb m gl gr) (r:Nt NA D now m pA pB w x y st gl gr G):Tells A B NA D now m (Wx pA pB w st gl gr) G:=by
 refine ⟨fun u d hu hd=>h.com hu d hd,fun u d hu hd=>h.kept r hu d hd,fun u d hu hd=>?_,fun u hu=>?_,r.g0,r.lD,r.lG⟩
 ·rw[h.en' (le_of_lt hu)] at hd ⊢
  have hd:pB u+w u+cpr st gr u+d<pB (u+1)-cpl st gl (u+1):=hd
  rw[h.nB u hu,add_assoc (pB u+w u)] at hd
  rcases o1 u hu with ⟨q1,q2⟩ | ⟨q1,q2⟩
  ·rw[Vg q1,Uw q2,sub_zero] at hd
   rw[Vg q1,add_assoc (pB u+w u)]
   exact r.iR u d hu q1 (Nat.lt_of_add_lt_add_left hd)
  ·rw[V0 q1,VU q2,zero_add] at hd
   rw[V0 q1,add_zero]
   exact r.iL u d hu q2 (Nat.lt_of_add_lt_add_left (n:=pB u+w u) (by rw[<-add_assoc];exact Nat.add_lt_of_lt_sub hd))
 ·have e:(Wx pA pB w st gl gr (u+1)).1-enA (Wx pA pB w st gl gr) u=x (u+1)-st (u+1):=by
   rw[h.en (le_of_lt hu)]
   show pA (u+1)-cpl st gl (u+1)-(pA u+w u+cpr st gr u)=_
   have:=h.sx u hu
   rw[h.nA u hu]
   rcases o1 u hu with ⟨q1,q2⟩ | ⟨q1,q2⟩
   ·rw[Vg q1,Uw q2,sub_zero,Nat.add_sub_add_left]
   ·rw[V0 q1,VU q2,Nat.add_sub_assoc this];exact add_sub_cancel_left ..
  rw[r.gone u hu,e,h.en (le_of_lt hu)]
theorem Fm.way (h:Fm A B m pA pB w x y st) (hd:UP m x y st∨UP m y x st) {P:Nat->Nat->Prop} (pk:∀ lo hi,lo≤hi->hi≤m->P lo hi->∃ b,Pick w st gl gr P lo hi b) (p0:P 0 m) (o1:Tb m gl gr) :
  MA A B=(List.range (m+1)).map (Wx pA pB w st gl gr)∧∀ {NA D:List Int} {now:Int} {G:Nat->List Int},Nt NA D now m pA pB w x y st gl gr G->D.length=B.length->∃ S,Way A B NA now (opsAB A B) ⟨D,G m, "equal",A.length,B.length⟩ S:=by
 have hm:=h.mb hd pk p0 h.s0 h.sm
 have hb:=h.bks hd o1
 refine ⟨hm,fun {NA D now G} r hl=>?_⟩
 have:=hb.way (h.tells o1 r) m (le_refl _)
 rw[hb.e.1,hb.e.2,List.take_of_length_le (le_of_eq hl),<-hb.opsAB hm] at this
 exact this
end
end
section
theorem nsg (P:Params):nsOkIn (Zp P) mainGlobals=true:=by kernel_rfl
theorem nsb (P:Params):GM (Zp P):=⟨by kernel_rfl,by kernel_rfl⟩
theorem VV (P:Params):P9 (Zp P):=M7 (boot_o_2 P) (by kernel_rfl) rfl (by kernel_rfl) (by kernel_rfl)
theorem TH {F:Fn} {P:Params} (hk:Zo (Zp P) F.G) (hg:F.env.globals=mainGlobals) (hb:F.env.builtins=builtinsNs):Glo F "len" (.builtin "len"):=Xz hk hg hb (nsg P) (nsb P) (by kernel_rfl) (by kernel_rfl)
theorem XK {F:Fn} {P:Params} (hk:Zo (Zp P) F.G) (hg:F.env.globals=mainGlobals) (hb:F.env.builtins=builtinsNs):Glo F "range" (.type "range"):=Xz hk hg hb (nsg P) (nsb P) (by kernel_rfl) (by kernel_rfl)
theorem QH {F:Fn} {P:Params} (hk:Zo (Zp P) F.G) (hg:F.env.globals=mainGlobals) (hb:F.env.builtins=builtinsNs):Glo F "enumerate" (.type "enumerate"):=Xz hk hg hb (nsg P) (nsb P) (by kernel_rfl) (by kernel_rfl)
theorem BY {F:Fn} {P:Params} (hk:Zo (Zp P) F.G) (hg:F.env.globals=mainGlobals) (hb:F.env.builtins=builtinsNs):Glo F "set" (.type "set"):=Xz hk hg hb (nsg P) (nsb P) (by kernel_rfl) (by kernel_rfl)
theorem BZ {F:Fn} {P:Params} (hk:Zo (Zp P) F.G) (hg:F.env.globals=mainGlobals) (hb:F.env.builtins=builtinsNs):Glo F "map" (.type "map"):=Xz hk hg hb (nsg P) (nsb P) (by kernel_rfl) (by kernel_rfl)
theorem F5 {F:Fn} {P:Params} (hk:Zo (Zp P) F.G) (hg:F.env.globals=mainGlobals) (hb:F.env.builtins=builtinsNs):Glo F "list" (.type "list"):=Xz hk hg hb (nsg P) (nsb P) (by kernel_rfl) (by kernel_rfl)
theorem HN {F:Fn} {P:Params} (hk:Zo (Zp P) F.G) (hg:F.env.globals=mainGlobals) (hb:F.env.builtins=builtinsNs):Glo F "tuple" (.type "tuple"):=Xz hk hg hb (nsg P) (nsb P) (by kernel_rfl) (by kernel_rfl)
theorem Aa {F:Fn} {P:Params} (hk:Zo (Zp P) F.G) (hg:F.env.globals=mainGlobals) (hb:F.env.builtins=builtinsNs):Glo F "max" (.builtin "max"):=Xz hk hg hb (nsg P) (nsb P) (by kernel_rfl) (by kernel_rfl)
theorem KO {F:Fn} {P:Params} (hk:Zo (Zp P) F.G) (hg:F.env.globals=mainGlobals) (hb:F.env.builtins=builtinsNs):Glo F "min" (.builtin "min"):=Xz hk hg hb (nsg P) (nsb P) (by kernel_rfl) (by kernel_rfl)
theorem NR {F:Fn} {P:Params} (hk:Zo (Zp P) F.G) (hg:F.env.globals=mainGlobals):Glo F "Match" (.ref 135):=VJ hk hg (nsg P) (by kernel_rfl)
theorem VW {F:Fn} {P:Params} (hk:Zo (Zp P) F.G) (hg:F.env.globals=mainGlobals):Glo F "SequenceMatcher" (.ref 242):=VJ hk hg (nsg P) (by kernel_rfl)
theorem WU (P:Params):Wm (Zp P) 135=true:=by kernel_rfl
theorem QJ (P:Params):readsIn (Zp P) 135 (.type "type")=true:=by kernel_rfl
theorem F6 (P:Params):findCls (Zp P) (.ref 135) (.type "type") "__new__" = some (.get (.builtin "staticmethod.__get__") (.ref 136) .none (.ref 135)):=by kernel_rfl
theorem HO (P:Params):recIn (Zp P) 136 "staticmethod" = some [.ref 82]:=by kernel_rfl
theorem HP (P:Params):findCls (Zp P) (.ref 135) (.type "type") "_make" = some (.get (.builtin "classmethod.__get__") (.ref 91) .none (.ref 135)):=by kernel_rfl
theorem HQ (P:Params):recIn (Zp P) 91 "classmethod" = some [.ref 89,.bool false]:=by kernel_rfl
theorem R5 (P:Params):findIn (Zp P) (.ref 135) "__iter__" = some (some (.builtin "tuple.__iter__")):=by kernel_rfl
theorem F7 (P:Params):findIn (Zp P) (.ref 135) "__len__" = some (some (.builtin "tuple.__len__")):=by kernel_rfl
theorem Ab (P:Params):findIn (Zp P) (.ref 135) "__lt__" = some (some (.builtin "tuple.__lt__")):=by kernel_rfl
theorem Z3 (P:Params):Y3 (Zp P) 242=true:=by kernel_rfl
theorem KP (P:Params):makesIn (Zp P) 242=true:=by kernel_rfl
theorem HR (P:Params):findIn (Zp P) (.ref 242) "__init__" = some (some (.ref 160)):=by kernel_rfl
end
section
example:True:=by
 k_with "m r" => (with_unfolding_all rfl)
 k_with "m nm" => (first | with_reducible exact Ny fok (by assumption) (by walk_at "m r") | with_reducible exact Nz fok (by assumption) (by walk_at "m glo"))
 k_with "m st" => (first | with_reducible exact Fy (by assumption) | with_reducible exact Fz (by assumption) (by assumption))
 k_with "m side" => (first | with_reducible assumption | with_reducible exact TF | lia | with_unfolding_all omega | with_unfolding_all (simp only[List.length_nil,length_cons,length_append,length_map,length_take,List.length_drop,sizeLine_eq] at *;omega) | with_unfolding_all (simp;done))
 k_with "m ev" => (first
  | ((with_reducible show Ev _ _ _ _ _ (Expr.Constant _ _ _) _);first | with_reducible exact Z4 | with_reducible exact Hi | with_reducible exact Nx | with_reducible exact Uk)
  | ((with_reducible show Ev _ _ _ _ _ (Expr.Name _ _) _);walk_at "m nm")
  | ((with_reducible show Ev _ _ _ _ _ (Expr.BinOp _ _ _ _) _);with_reducible exact Zj (by walk_at "m ev") (by walk_at "m ev") (by walk_at "m bin"))
  | ((with_reducible show Ev _ _ _ _ _ (Expr.Subscript _ _ _) _);with_reducible exact Zz (by walk_at "m ev") (by walk_at "m ev") (by walk_at "m sub"))
  | ((with_reducible show Ev _ _ _ _ _ (Expr.Call _ _ _ _) _);with_reducible exact Zv (by walk_at "m ev") (by walk_at "m callee") (by walk_at "m evl") (by walk_at "m call") (by with_unfolding_all rfl) (by with_unfolding_all rfl))
  | ((with_reducible show Ev _ _ _ _ _ (Expr.Tuple _ _ _) _);with_reducible exact Xl (by assumption) (by walk_at "m evl") (by walk_at "m side"))
  | ((with_reducible show Ev _ _ _ _ _ (Expr.List _ _) _);with_reducible exact V6 (by assumption) (by walk_at "m evl") (by walk_at "m side"))
  | ((with_reducible show Ev _ _ _ _ _ (Expr.Slice _ _ _ _) _);with_reducible exact V7 (by assumption) (by walk_at "m evp") (by walk_at "m evp") (by walk_at "m evp"))
  | ((with_reducible show Ev _ _ _ _ _ (Expr.Compare _ _ _ _) _);with_reducible exact NL (by walk_at "m ev") (by walk_at "m ev") (by walk_at "m cmp") (by with_unfolding_all rfl))
  | ((with_reducible show Ev _ _ _ _ _ (Expr.UnaryOp _ _ _) _);with_reducible exact V5 (by walk_at "m ev") (by exact Tk)))
 k_with "m evp" => (first | with_reducible exact WP | ((with_reducible show EvP _ _ _ _ _ (some _) _);with_reducible exact Wu (by walk_at "m ev")))
 k_with "m evl" => (first | with_reducible exact Zq | ((with_reducible show EvL _ _ _ _ _ (_::_) _);with_reducible exact Ze (by walk_at "m ev") (by walk_at "m evl") (by with_unfolding_all rfl)))
 k_with "m bin" => (first
  | with_reducible exact YN
  | with_reducible exact Ti
  | ((with_reducible refine' Xh (by assumption) ?_);walk_at "m side")
  | ((with_reducible refine' LL (by assumption) ?_);walk_at "m side")
  | ((with_reducible refine' Tj ?_);walk_at "m side")
  | ((with_reducible refine' UT ?_ ?_)<;>walk_at "m side")
  | ((with_reducible refine' Vs ?_);walk_at "m side"))
 k_with "m cmp" => (first
  | with_reducible exact WZ
  | with_reducible exact Va
  | with_reducible exact Vb
  | with_reducible exact op_le_int
  | with_reducible exact So
  | with_reducible exact Ml
  | with_reducible exact Mm
  | with_reducible exact Mn
  | with_reducible exact op_eq_nil (by assumption)
  | with_reducible exact S0 (by assumption)
  | with_reducible exact op_eq_il (by assumption)
  | with_reducible exact Qy (by assumption))
 k_with "m sub" => (first
  | ((with_reducible refine' sl_upto (by assumption) (by with_unfolding_all exact fun _ _=>⟨_,rfl⟩) ?_ ?_)<;>walk_at "m side")
  | ((with_reducible refine' sl_from (by assumption) (by with_unfolding_all exact fun _ _=>⟨_,rfl⟩) ?_ ?_)<;>walk_at "m side")
  | ((with_reducible refine' sl_between (by assumption) (by with_unfolding_all exact fun _ _=>⟨_,rfl⟩) ?_ ?_ ?_)<;>walk_at "m side")
  | ((with_reducible refine' sl_rev (by assumption) (by with_unfolding_all exact fun _ _=>⟨_,rfl⟩) ?_)<;>walk_at "m side")
  | with_reducible exact ZA (by with_unfolding_all exact fun _ _=>rfl) (by walk_at "m side") (by walk_at "m side") (by with_reducible assumption)
  | with_reducible exact Xb (by with_unfolding_all exact fun _ _=>rfl) (by walk_at "m side") (by walk_at "m side") (by with_reducible assumption))
 k_with "m callee" => (first | with_reducible exact Zs | with_reducible exact Zx)
 k_with "m call" => (first
  | ((with_reducible refine' Qz ?_);walk_at "m side")
  | ((with_reducible refine' Tq ?_);walk_at "m side")
  | with_reducible exact GH (by assumption)
  | with_reducible exact N1 (by assumption)
  | with_reducible exact YC (by assumption)
  | with_reducible exact RS (by assumption)
  | ((with_reducible refine' c_divmod (by assumption) ?_ ?_)<;>walk_at "m side"))
 k_with "m tst" => (first
  | ((with_reducible show Tst _ _ _ _ _ (Expr.Compare _ _ _ _) _);with_reducible exact Z0 (by walk_at "m ev") (by walk_at "m ev") (by walk_at "m cmp") (by with_unfolding_all rfl))
  | ((with_reducible show Tst _ _ _ _ _ (Expr.UnaryOp PySem.UnaryOp.Not _ _) _);with_reducible exact Rb (by walk_at "m tst"))
  | ((with_reducible show Tst _ _ _ _ _ (Expr.BoolOp _ _ _) _);with_reducible exact Xk (by walk_at "m all"))
  | with_reducible exact ZT (by walk_at "m ev") (by walk_at "m tru") (by intro _;with_unfolding_all rfl))
 k_with "m tru" => (first | with_reducible exact Hk | with_reducible exact X2)
 k_with "m all" => (first
  | with_reducible exact US
  | with_reducible exact Rc
  | ((with_reducible show W1 _ _ _ _ _ PySem.BoolOp.And (_::_) _);with_reducible exact all_cons (by walk_at "m tst") (fun ht=>by walk_at "m all"))
  | ((with_reducible show W1 _ _ _ _ _ PySem.BoolOp.Or (_::_) _);with_reducible exact any_cons (by walk_at "m tst") (fun ht=>by walk_at "m all")))
 k_with "m assign" => (((with_reducible show Ex _ _ _ _ _ (PySem.Stmt.Assign [Expr.Name _ _] _ _::_) _);with_reducible refine' ZF (by assumption) (by walk_at "m st") (by walk_at "m ev") (by with_unfolding_all rfl) ?_))
 k_with "m if" => (((with_reducible show Ex _ _ _ _ _ (PySem.Stmt.If _ _ _ _::_) _);with_reducible refine' Wn (by walk_at "m tst") ?_ ?_))
 k_with "m ret" => (((with_reducible show Ex _ _ _ _ _ (PySem.Stmt.Return (some _) _::_) _);with_reducible refine' ZU (by walk_at "m ev") ?_))
 k_with "m doc" => (((with_reducible show Ex _ _ _ _ _ (PySem.Stmt.Expr (Expr.Constant _ _ _) _::_) _);with_reducible refine' H8 (by assumption) ?_))
 k_with "m glo" => (first
  | with_reducible exact TH (by assumption) (by assumption) (by assumption)
  | with_reducible exact HN (by assumption) (by assumption) (by assumption))
 trivial
noncomputable abbrev isV (v:Value):AV:=.raw fun _ u=>u=v
noncomputable def Yz (P:Params):FuncData:=XW (GY P)
theorem KQ (P:Params):XE (Zp P) 82 (Yz P):=Yh (GY P) (by kernel_rfl) (by kernel_rfl) (by kernel_rfl)
theorem KR {P:Params} {a0 a1 a2 a3:AV}:YO (Yz P).scope.names ["_cls", "a", "b", "size"] [a0,a1,a2,a3]=[some a0,some a1,some a2,some a3,none]:=by kernel_rfl
theorem HS (P:Params):DefOk (Yz P) ["_cls", "a", "b", "size"]:=Yg rfl (of_decide_eq_true (by kernel_rfl)) (by kernel_rfl) (of_decide_eq_true (by kernel_rfl)) (by kernel_rfl)
noncomputable def HU:List (Str×NameKind):=[("_cls",.local),("a",.local),("b",.local),("size",.local),("tuple",.globalImplicit)]
theorem PK (P:Params):(Yz P).scope.names=HU:=by kernel_rfl
theorem MJ {prog:Program} {w:World} {d1 d2 d3:AV}:WK prog w (Zo (Zp w.params)) 2 (.ref 82) [isV (.ref 135),d1,d2,d3] (mat 135 [d1,d2,d3]):=by
 refine XM (HS w.params) (fun V hV=>Ye hV (KQ w.params) (VV w.params) rfl rfl) rfl (fun vs hv=>?_) (fun xAr xG xs xB room fok=>?_)
 ·obtain ⟨v0,v1,v2,v3,rfl⟩:=Ff hv
  kernel_rfl
 rw[KR]
 have xg:(Zd (Yz w.params) 82 xAr xG xs).env.globals=mainGlobals:=rfl
 have xb:(Zd (Yz w.params) 82 xAr xG xs).env.builtins=builtinsNs:=rfl
 have hk:Zo (Zp w.params) (Zd (Yz w.params) 82 xAr xG xs).G:=xB
 have xN:(Zd (Yz w.params) 82 xAr xG xs).names=(Yz w.params).scope.names:=rfl
 have xA:Room (Zd (Yz w.params) 82 xAr xG xs).A _:=room
 have xn:(Zd (Yz w.params) 82 xAr xG xs).n₀=xs.heap.objs.size:=rfl
 have xi:interactive (Zd (Yz w.params) 82 xAr xG xs).env=false:=rfl
 have xS:(Zd (Yz w.params) 82 xAr xG xs).env.scope=(Yz w.params).scope:=rfl
 generalize Zd (Yz w.params) 82 xAr xG xs=F at fok xg xb hk xN xA xn xi xS ⊢
 have xN1:=xN.trans (PK w.params)
 have xn0:At F "_cls" 0 .local:=Za fok xN1 0 rfl (by kernel_rfl)
 have xn1:At F "a" 1 .local:=Za fok xN1 1 rfl (by kernel_rfl)
 have xn2:At F "b" 2 .local:=Za fok xN1 2 rfl (by kernel_rfl)
 have xn3:At F "size" 3 .local:=Za fok xN1 3 rfl (by kernel_rfl)
 have xn4:At F "tuple" 4 .globalImplicit:=Za fok xN1 4 rfl (by kernel_rfl)
 walk_at "m doc"
 refine ZU (d:=mat 135 [d1,d2,d3]) ?_ rfl
 refine VG fok hk (WU w.params) ?_ ?_ (show 3≤sizeLine by decide) _
 ·walk_at "m ev"
 ·walk_at "m evl"
noncomputable def ZX (P:Params):FuncData:=XW (GZ P)
theorem MK (P:Params):XE (Zp P) 89 (ZX P):=Yh (GZ P) (by kernel_rfl) (by kernel_rfl) (by kernel_rfl)
theorem ML {P:Params} {a0 a1:AV}:YO (ZX P).scope.names ["cls", "iterable"] [a0,a1]=[some a0,some a1,none,none,none,none]:=by kernel_rfl
theorem KS (P:Params):DefOk (ZX P) ["cls", "iterable"]:=Yg rfl (of_decide_eq_true (by kernel_rfl)) (by kernel_rfl) (of_decide_eq_true (by kernel_rfl)) (by kernel_rfl)
noncomputable def KT:List (Str×NameKind):=[("cls",.local),("iterable",.local),("result",.local),("tuple",.globalImplicit),("len",.globalImplicit),("TypeError",.globalImplicit)]
theorem QK (P:Params):(ZX P).scope.names=KT:=by kernel_rfl
theorem PL {prog:Program} {w:World} {d1 d2 d3:AV}:WK prog w (Zo (Zp w.params)) 2 (.ref 89) [isV (.ref 135),.tup [d1,d2,d3]] (mat 135 [d1,d2,d3]):=by
 refine XM (KS w.params) (fun V hV=>Ye hV (MK w.params) (VV w.params) rfl rfl) rfl (fun vs hv=>?_) (fun xAr xG xs xB room fok=>?_)
 ·obtain ⟨v0,v1,rfl⟩:=Mi hv
  kernel_rfl
 rw[ML]
 have xg:(Zd (ZX w.params) 89 xAr xG xs).env.globals=mainGlobals:=rfl
 have xb:(Zd (ZX w.params) 89 xAr xG xs).env.builtins=builtinsNs:=rfl
 have hk:Zo (Zp w.params) (Zd (ZX w.params) 89 xAr xG xs).G:=xB
 have xN:(Zd (ZX w.params) 89 xAr xG xs).names=(ZX w.params).scope.names:=rfl
 have xA:Room (Zd (ZX w.params) 89 xAr xG xs).A _:=room
 have xn:(Zd (ZX w.params) 89 xAr xG xs).n₀=xs.heap.objs.size:=rfl
 have xi:interactive (Zd (ZX w.params) 89 xAr xG xs).env=false:=rfl
 have xS:(Zd (ZX w.params) 89 xAr xG xs).env.scope=(ZX w.params).scope:=rfl
 generalize Zd (ZX w.params) 89 xAr xG xs=F at fok xg xb hk xN xA xn xi xS ⊢
 have xN1:=xN.trans (QK w.params)
 have xn0:At F "cls" 0 .local:=Za fok xN1 0 rfl (by kernel_rfl)
 have xn1:At F "iterable" 1 .local:=Za fok xN1 1 rfl (by kernel_rfl)
 have xn2:At F "result" 2 .local:=Za fok xN1 2 rfl (by kernel_rfl)
 have xn3:At F "tuple" 3 .globalImplicit:=Za fok xN1 3 rfl (by kernel_rfl)
 have xn4:At F "len" 4 .globalImplicit:=Za fok xN1 4 rfl (by kernel_rfl)
 have xn5:At F "TypeError" 5 .globalImplicit:=Za fok xN1 5 rfl (by kernel_rfl)
 walk_at "m doc"
 refine ZF (k:=2) (d:=mat 135 [d1,d2,d3]) fok ?_ ?_ rfl ?_
 ·walk_at "m st"
 ·refine VG fok hk (WU w.params) ?_ ?_ (show 3≤sizeLine by decide) _
  ·walk_at "m ev"
  ·walk_at "m evl"
 refine Xv ?_ (Zy ?_)
 ·refine ZS (Z0 (d₁:=.int 3) (d₂:=.int 3) ?_ ?_ Va rfl) rfl
  ·refine Zv ?_ Zs ?_ (M4 (ds:=[d1,d2,d3]) hk (WU w.params) (F7 w.params) (show 3<2 ^ 62 by decide)) rfl rfl
   ·walk_at "m ev"
   ·walk_at "m evl"
  ·exact Z4
 ·walk_at "m ret"
  rfl
end
section
noncomputable def Yl (aj:Bool) (a b mb op fb bj bjunk bp:AV):List (Str×AV):=[("isjunk",.none),("a",a),("b",b),("autojunk",.bool aj),("matching_blocks",mb),("opcodes",op),("fullbcount",fb),("b2j",bj),("bjunk",bjunk),("bpopular",bp)]
section
variable {aj:Bool} {a b mb op fb bj bjunk bp d:AV}
theorem KU:(Yl aj a b mb op fb bj bjunk bp).length≤1000:=by show 10≤1000;decide
theorem TI:(Yl aj a b mb op fb bj bjunk bp).lookup (Str.ofString "isjunk")=some .none:=by kernel_rfl
theorem KV:(Yl aj a b mb op fb bj bjunk bp).lookup (Str.ofString "a")=some a:=by kernel_rfl
theorem KW:(Yl aj a b mb op fb bj bjunk bp).lookup (Str.ofString "b")=some b:=by kernel_rfl
theorem VX:(Yl aj a b mb op fb bj bjunk bp).lookup (Str.ofString "autojunk")=some (.bool aj):=by kernel_rfl
theorem F8:(Yl aj a b mb op fb bj bjunk bp).lookup (Str.ofString "matching_blocks")=some mb:=by kernel_rfl
theorem F9:(Yl aj a b mb op fb bj bjunk bp).lookup (Str.ofString "opcodes")=some op:=by kernel_rfl
theorem HV:(Yl aj a b mb op fb bj bjunk bp).lookup (Str.ofString "b2j")=some bj:=by kernel_rfl
theorem MM:(Yl aj a b mb op fb bj bjunk bp).lookup (Str.ofString "bjunk")=some bjunk:=by kernel_rfl
theorem KX:(Yl aj a b mb op fb bj bjunk bp).lookup (Str.ofString "set_seq1")=none:=by kernel_rfl
theorem KY:(Yl aj a b mb op fb bj bjunk bp).lookup (Str.ofString "set_seq2")=none:=by kernel_rfl
theorem KZ:(Yl aj a b mb op fb bj bjunk bp).lookup (Str.ofString "_SequenceMatcher__chain_b")=none:=by kernel_rfl
theorem FA:(Yl aj a b mb op fb bj bjunk bp).lookup (Str.ofString "find_longest_match")=none:=by kernel_rfl
theorem FB:(Yl aj a b mb op fb bj bjunk bp).lookup (Str.ofString "get_matching_blocks")=none:=by kernel_rfl
theorem FC:(Yl aj a b mb op fb bj bjunk bp).lookup (Str.ofString "get_opcodes")=none:=by kernel_rfl
theorem FD:(Yl aj a b mb op fb bj bjunk bp).lookup (Str.ofString "set_seqs")=none:=by kernel_rfl
theorem FE:Z2 "matching_blocks" d (Yl aj a b mb op fb bj bjunk bp)=Yl aj a b d op fb bj bjunk bp:=by kernel_rfl
theorem FF:Z2 "opcodes" d (Yl aj a b mb op fb bj bjunk bp)=Yl aj a b mb d fb bj bjunk bp:=by kernel_rfl
end
section
variable {P:Params}
theorem TJ:ZM (Zp P) 242 "isjunk" = true:=by kernel_rfl
theorem Ja:ZM (Zp P) 242 "a" = true:=by kernel_rfl
theorem Jb:ZM (Zp P) 242 "b" = true:=by kernel_rfl
theorem VY:ZM (Zp P) 242 "autojunk" = true:=by kernel_rfl
theorem R6:ZM (Zp P) 242 "matching_blocks" = true:=by kernel_rfl
theorem R7:ZM (Zp P) 242 "opcodes" = true:=by kernel_rfl
theorem FG:ZM (Zp P) 242 "fullbcount" = true:=by kernel_rfl
theorem NS:ZM (Zp P) 242 "b2j" = true:=by kernel_rfl
theorem SC:ZM (Zp P) 242 "bjunk" = true:=by kernel_rfl
theorem FH:ZM (Zp P) 242 "bpopular" = true:=by kernel_rfl
end
noncomputable abbrev ZL (x dx:Addr):AV:=inst 242 x dx
section
variable {prog:Program} {w:World} {F:Fn} {sig:List (Option AV)} {om:Om} {o:Expr} {pos:Pos} {x dx:Addr} {P:Params} {aj:Bool} {a b mb op fb bj bjunk bp d:AV}
theorem UC {nm:Str} {as:List (Str×AV)} (hx:ZM (Zp P) 242 nm=true) (hk:Zo (Zp P) F.G) (h:Ev prog w F sig om o (ZL x dx)) (hm:(dx,Zm as)∈om) (hl:as.lookup nm=some d)
  (he:eval (.Attribute o nm pos) F.env=(do
   let ov <-eval o F.env
   standAt pos.atName
   let r <-holding [ov] (getAttr ov nm true)
   letTemporaryGo o ov r
   pure r)):Ev prog w F sig om (.Attribute o nm pos) d:=Hr hk (Z3 P) hx h hm hl he
end
structure Idn (d' d:AV):Prop where
 k:IsK d' d
 same:(∃ V v,Rep V d' v∧Rep V d v)->d'=d
 handed:XB d'
theorem Jc {A B:List Int}:Idn (il A) (il B):=⟨.ll,fun h=>by rw[H7 h],Vv⟩
theorem Jd {A:List Int} {x:Str}:Idn (il A) (.str x):=⟨.ls,fun ⟨V,v,h1,h2⟩=>by
 obtain ⟨_,_,_,rfl,_⟩:=h1;obtain ⟨_,e⟩:=h2;(cases e),Vv⟩
theorem Je {x:Str}:Idn (.str x) .none:=⟨.sn,fun ⟨V,v,h1,h2⟩=>by
 obtain ⟨_,rfl⟩:=h1;(cases h2),Pq⟩
theorem Yu {x:Str} {d:AV}:∀ {as:List (Str×AV)},(Z2 x d as).length≤as.length+1
 | []=>by simp[Z2]
 | (y,e)::r=>by have:=Yu (x:=x) (d:=d) (as:=r);unfold Z2;split<;>simp<;>lia
set_option tactic.hygienic true in
theorem R8 {x:Str} {d:AV}:∀ {as:List (Str×AV)},(Z2 x d as).lookup x=some d
 | []=>by simp[Z2]
 | (y,e)::r=>by
  unfold Z2
  split
  ·rename_i h;subst h;simp
  ·rename_i h;rw[lookup_cons,show (x==y)=false by simpa using fun e:x=y=>h e.symm];exact R8
set_option tactic.hygienic true in
theorem Z6 {x y:Str} {d:AV} (hne:(y==x)=false):∀ {as:List (Str×AV)},(Z2 x d as).lookup y=as.lookup y
 | []=>by simp[Z2,lookup_cons,hne]
 | (z,e)::r=>by
  unfold Z2
  split
  ·rename_i h;subst h;rw[lookup_cons,lookup_cons,hne]
  ·rw[lookup_cons,lookup_cons,Z6 hne]
theorem UD {a:Addr} {x:Str} {d:AV}:∀ {as:List (Str×AV)},AttCast a d (Z2 x (.ptr a) as) (Z2 x d as)
 | []=>.cast .nil
 | (y,e)::r=>by
  unfold Z2
  split
  ·exact .cast (AttCast.refl' r)
  ·exact .same UD
where AttCast.refl' {a:Addr} {d:AV}:∀ (r:List (Str×AV)),AttCast a d r r
 | []=>.nil
 | (_,_)::r=>.same (AttCast.refl' r)
example:True:=by
 k_with "m upd" => (first | with_reducible exact OmUpd.here | (with_reducible refine' OmUpd.there ?_;walk_at "m upd"))
 k_with "m mem" => (first | with_reducible exact mem_cons_self | (with_reducible refine' mem_cons_of_mem _ ?_;walk_at "m mem"))
 k_with "m ev" => (((with_reducible show Ev _ _ _ _ _ (Expr.Attribute _ _ _) _);first
  | with_reducible exact UC Ja (by assumption) (by walk_at "m ev") (by walk_at "m mem") (by with_reducible assumption) (by with_unfolding_all rfl)
  | with_reducible exact UC Jb (by assumption) (by walk_at "m ev") (by walk_at "m mem") (by with_reducible assumption) (by with_unfolding_all rfl)
  | with_reducible exact UC NS (by assumption) (by walk_at "m ev") (by walk_at "m mem") (by with_reducible assumption) (by with_unfolding_all rfl)
  | with_reducible exact UC SC (by assumption) (by walk_at "m ev") (by walk_at "m mem") (by with_reducible assumption) (by with_unfolding_all rfl)
  | with_reducible exact UC TJ (by assumption) (by walk_at "m ev") (by walk_at "m mem") (by with_reducible assumption) (by with_unfolding_all rfl)
  | with_reducible exact UC VY (by assumption) (by walk_at "m ev") (by walk_at "m mem") (by with_reducible assumption) (by with_unfolding_all rfl)
  | with_reducible exact UC R6 (by assumption) (by walk_at "m ev") (by walk_at "m mem") (by with_reducible assumption) (by with_unfolding_all rfl)
  | with_reducible exact UC R7 (by assumption) (by walk_at "m ev") (by walk_at "m mem") (by with_reducible assumption) (by with_unfolding_all rfl)))
 trivial
noncomputable def YT (P:Params):FuncData:=XW (Ni P)
theorem HW (P:Params):XE (Zp P) 174 (YT P):=Yh (Ni P) (by kernel_rfl) (by kernel_rfl) (by kernel_rfl)
theorem HX {P:Params} {a0 a1:AV}:YO (YT P).scope.names ["self", "a"] [a0,a1]=[some a0,some a1]:=by kernel_rfl
theorem FI (P:Params):DefOk (YT P) ["self", "a"]:=Yg rfl (of_decide_eq_true (by kernel_rfl)) (by kernel_rfl) (of_decide_eq_true (by kernel_rfl)) (by kernel_rfl)
noncomputable def FJ:List (Str×NameKind):=[("self",.local),("a",.local)]
theorem MN (P:Params):(YT P).scope.names=FJ:=by kernel_rfl
theorem Jf {prog:Program} {w:World} {x dx:Addr} {as:List (Str×AV)} {a' a:AV} (hid:Idn a' a) (ha:as.lookup (Str.ofString "a")=some a) (hz:as.length≤900):VH prog w (Zo (Zp w.params)) 2 (.ref 174) [ZL x dx,a'] [(dx,Zm as)]
  fun d om₂=>d=.none∧((a'=a∧om₂=[(dx,Zm as)])∨om₂=[(dx,Zm (Z2 "opcodes" .none (Z2 "matching_blocks" .none (Z2 "a" a' as))))]):=by
 refine Wt (dd:=[]) (dv:=[]) (FI w.params) (fun V hV=>Ye hV (HW w.params) (VV w.params) rfl rfl) rfl (fun V=>Zn.nil) (fun vs hv=>?_) (fun xAr xG xs xB room fok=>?_)
 ·obtain ⟨v0,v1,rfl⟩:=Mi hv
  kernel_rfl
 rw[append_nil,HX]
 have xg:(Zd (YT w.params) 174 xAr xG xs).env.globals=mainGlobals:=rfl
 have xb:(Zd (YT w.params) 174 xAr xG xs).env.builtins=builtinsNs:=rfl
 have hk:Zo (Zp w.params) (Zd (YT w.params) 174 xAr xG xs).G:=xB
 have xN:(Zd (YT w.params) 174 xAr xG xs).names=(YT w.params).scope.names:=rfl
 have xA:Room (Zd (YT w.params) 174 xAr xG xs).A _:=room
 have xn:(Zd (YT w.params) 174 xAr xG xs).n₀=xs.heap.objs.size:=rfl
 have xi:interactive (Zd (YT w.params) 174 xAr xG xs).env=false:=rfl
 have xS:(Zd (YT w.params) 174 xAr xG xs).env.scope=(YT w.params).scope:=rfl
 generalize Zd (YT w.params) 174 xAr xG xs=F at fok xg xb hk xN xA xn xi xS ⊢
 have xN1:=xN.trans (MN w.params)
 have xn0:At F "self" 0 .local:=Za fok xN1 0 rfl (by kernel_rfl)
 have xn1:At F "a" 1 .local:=Za fok xN1 1 rfl (by kernel_rfl)
 walk_at "m doc"
 refine WQ (Q0 hid.k (by walk_at "m ev") (by walk_at "m ev") (fun hs=>?_) ?_ rfl)
 ·refine Zw (WI (P:=(·=.ret .none _ _)) rfl) fun o ho=>?_
  subst ho
  exact ⟨⟨rfl,.inl ⟨hid.same hs,rfl⟩⟩,fun b hb=>.inl hb⟩
 ·refine Zy ?_
  have z1:=Yu (x := "a") (d:=a') (as:=as)
  have z2:=Yu (x := "matching_blocks") (d:=.none) (as:=Z2 "a" a' as)
  refine Wv hk (Z3 w.params) Ja (by walk_at "m ev") (by walk_at "m ev") hid.handed (by lia) rfl .here ?_ rfl rfl rfl
  refine TA hk (Z3 w.params) R6 R7 (by walk_at "m ev") (by walk_at "m ev") (by walk_at "m ev") X3 (by lia) (by lia) rfl rfl .here .here ?_ rfl rfl
  exact Zk ⟨⟨rfl,.inr rfl⟩,fun b hb=>.inl hb⟩
end
section
structure BV (prog:Program) (w:World) (bv:AV) (B:List Int):Prop where
 enu:∀ {F:Fn} {om:Om},F.Ok->Enu prog w F om bv (B.map .int)
 len:∀ {F:Fn} {om:Om},OpC prog w F om (.builtin "len") [bv] (.int B.length)
 small:B.length≤1000000
theorem GP {prog:Program} {w:World} {B:List Int} (h:B.length≤1000000):BV prog w (il B) B:=⟨fun ok=>Kd ok,Qz (by lia),h⟩
theorem MO {prog:Program} {w:World} {F:Fn} {om:Om} {x:Str} (hx:(x.length:Int)<2 ^ 62):OpC prog w F om (.builtin "len") [.str x] (.int x.length):=fun R sig tau vs s Q E hv st h=>by
 obtain ⟨v,rfl,st⟩:=Wk hv st
 have h1:=st.top
 obtain ⟨t,rfl⟩:=h1
 exact len_str (by lia) (h _ _ (st.pop.tok2.push ZR))
theorem FK {prog:Program} {w:World}:BV prog w (.str "") []:=⟨fun ok=>Kf ok (by kernel_rfl) (by kernel_rfl),MO (x := "") (by decide +kernel),by decide⟩
noncomputable def VZ (B:List Int):Int->Option AV:=fun x=>if x∈B then some (il (X4 B x)) else none
noncomputable abbrev Z9 (prog:Program) (w:World):AV:=Sc prog w (fun _=>false) 0
theorem TK {prog:Program} {w:World} {S:Int->Bool} {n:Nat}:XB (Sc prog w S n):=fun V v h=>by
 unfold Sc at h
 obtain ⟨a,o,rfl,_⟩:=h V (PH.le.refl _);rfl
noncomputable def FM (prog:Program) (w:World) (dx:Addr) (as:List (Str×AV)) (B:List Int) (d:AV) (om₂:Om):Prop :=
 d=.none∧∃ m,om₂=[(dx,Zm (Z2 "bpopular" (Z9 prog w) (Z2 "bjunk" (Z9 prog w) (Z2 "b2j" (dct (VZ B) m) as))))]
theorem Jg {prog:Program} {w:World} {F:Fn} {om:Om}:Tru prog w F om .none false:=fun R sig tau v₁ s Q E st h=>by
 have h1:=st.top
 subst h1
 exact truthy_none (h _ st.pop)
theorem FN {cs:Cs} {B:List Int} (h:∀ y,(cs.lookup y).isSome=true↔y∈B):csV cs B (csF cs)=VZ B:=by
 funext y
 unfold csV VZ csF
 by_cases q:y∈B
 ·rw[if_pos ((h y).mpr q),if_pos q]
 ·have:¬ (cs.lookup y).isSome=true:=fun z=>q ((h y).mp z)
  rw[if_neg this,if_neg q]
  cases e:cs.lookup y with
  | none=>rfl
  | some a=>rw[e] at this;exact absurd rfl this
theorem OmUpd.skip {om om':Om} {a:Addr} {P P':PH->Obj->Prop} (u:OmUpd om a P P' om'):∀ (l:Om),OmUpd (l++om) a P P' (l++om')
 | []=>u
 | _::l=>.there (u.skip l)
theorem Jh {cs:Cs} {y:Int} {a:Addr}:csF ((y,a)::cs)=upd (csF cs) y (.ptr a):=by
 funext x
 unfold csF upd
 rw[lookup_cons]
 by_cases h:x=y
 ·subst h;simp
 ·rw[show (x==y)=false by simpa using h,if_neg h]
example:True:=by
 k_with "m glo" => (first
  | with_reducible exact TH (by assumption) (by assumption) (by assumption)
  | with_reducible exact QH (by assumption) (by assumption) (by assumption)
  | with_reducible exact BY (by assumption) (by assumption) (by assumption))
 trivial
noncomputable def YU (P:Params):FuncData:=XW (Nk P)
theorem HY (P:Params):XE (Zp P) 188 (YU P):=Yh (Nk P) (by kernel_rfl) (by kernel_rfl) (by kernel_rfl)
theorem HZ {P:Params} {a0:AV}:YO (YU P).scope.names ["self"] [a0]=[some a0,none,none,none,none,none,none,none,none,none,none,none,none,none,none]:=by kernel_rfl
theorem FO (P:Params):DefOk (YU P) ["self"]:=Yg rfl (of_decide_eq_true (by kernel_rfl)) (by kernel_rfl) (of_decide_eq_true (by kernel_rfl)) (by kernel_rfl)
noncomputable def FP:List (Str×NameKind):=[("self",.local),("b",.local),("b2j",.local),("i",.local),("elt",.local),("indices",.local),("junk",.local),("isjunk",.local),("popular",.local),("n",.local),("ntest",.local),("idxs",.local),("enumerate",.globalImplicit),("set",.globalImplicit),("len",.globalImplicit)]
theorem MP (P:Params):(YU P).scope.names=FP:=by kernel_rfl
noncomputable def QL (x dx D:Addr) (bv:AV):List (Option AV):=[some (ZL x dx),some bv,some (.ptr D),none,none,none,none,none,none,none,none,none,none,none,none]
set_option maxHeartbeats 8000000 in
theorem Ji {prog:Program} {w:World} {x dx:Addr} {as:List (Str×AV)} {bv:AV} {B:List Int} {aj:Bool} (hB:BV prog w bv B) (hb:as.lookup (Str.ofString "b")=some bv) (hj:as.lookup (Str.ofString "isjunk")=some .none) (ha:as.lookup (Str.ofString "autojunk")=some (.bool aj)) (hpop:aj=false∨B.length<200) (hz:as.length≤900) :
  VH prog w (Zo (Zp w.params)) 2 (.ref 188) [ZL x dx] [(dx,Zm as)] (FM prog w dx as B):=by
 refine Wt (dd:=[]) (dv:=[]) (FO w.params) (fun V hV=>Ye hV (HY w.params) (VV w.params) rfl rfl) rfl (fun V=>Zn.nil) (fun vs hv=>?_) (fun xAr xG xs xB room fok=>?_)
 ·obtain ⟨v0,rfl⟩:=RO hv
  kernel_rfl
 rw[append_nil,HZ]
 have xg:(Zd (YU w.params) 188 xAr xG xs).env.globals=mainGlobals:=rfl
 have xb:(Zd (YU w.params) 188 xAr xG xs).env.builtins=builtinsNs:=rfl
 have hk:Zo (Zp w.params) (Zd (YU w.params) 188 xAr xG xs).G:=xB
 have xN:(Zd (YU w.params) 188 xAr xG xs).names=(YU w.params).scope.names:=rfl
 have xA:Room (Zd (YU w.params) 188 xAr xG xs).A _:=room
 have xn:(Zd (YU w.params) 188 xAr xG xs).n₀=xs.heap.objs.size:=rfl
 have xi:interactive (Zd (YU w.params) 188 xAr xG xs).env=false:=rfl
 have xS:(Zd (YU w.params) 188 xAr xG xs).env.scope=(YU w.params).scope:=rfl
 generalize Zd (YU w.params) 188 xAr xG xs=F at fok xg xb hk xN xA xn xi xS ⊢
 have xN1:=xN.trans (MP w.params)
 have xn0:At F "self" 0 .local:=Za fok xN1 0 rfl (by kernel_rfl)
 have xn1:At F "b" 1 .local:=Za fok xN1 1 rfl (by kernel_rfl)
 have xn2:At F "b2j" 2 .local:=Za fok xN1 2 rfl (by kernel_rfl)
 have xn3:At F "i" 3 .local:=Za fok xN1 3 rfl (by kernel_rfl)
 have xn4:At F "elt" 4 .local:=Za fok xN1 4 rfl (by kernel_rfl)
 have xn5:At F "indices" 5 .local:=Za fok xN1 5 rfl (by kernel_rfl)
 have xn6:At F "junk" 6 .local:=Za fok xN1 6 rfl (by kernel_rfl)
 have xn7:At F "isjunk" 7 .local:=Za fok xN1 7 rfl (by kernel_rfl)
 have xn8:At F "popular" 8 .local:=Za fok xN1 8 rfl (by kernel_rfl)
 have xn9:At F "n" 9 .local:=Za fok xN1 9 rfl (by kernel_rfl)
 have xn10:At F "ntest" 10 .local:=Za fok xN1 10 rfl (by kernel_rfl)
 have xn11:At F "idxs" 11 .local:=Za fok xN1 11 rfl (by kernel_rfl)
 have xn12:At F "enumerate" 12 .globalImplicit:=Za fok xN1 12 rfl (by kernel_rfl)
 have xn13:At F "set" 13 .globalImplicit:=Za fok xN1 13 rfl (by kernel_rfl)
 have xn14:At F "len" 14 .globalImplicit:=Za fok xN1 14 rfl (by kernel_rfl)
 refine PA (hk 242 (RN w.params) (by kernel_rfl)) fun hlow=>?_
 walk_at "m assign"
 refine VK fok (C:=242) (a:=x) (dx:=dx) (k:=2) hk (Z3 w.params) NS (by walk_at "m st") (VF fok (P:=fun d om'=>∃ D,F.n₀≤D∧d=.ptr D∧om'=(D,Z7 (fun _=>none) 0)::[(dx,Zm as)]) fun D hD=>⟨D,hD,rfl,rfl⟩) ?_ rfl rfl
 rintro d om₁ ⟨D,hD,rfl,rfl⟩
 refine ⟨Tx,as,_,_,by walk_at "m ev",by lia,rfl,.there .here,?_⟩
 have hDs:(D==sysModules)=false:=by
  have:sysModules<242:=by decide
  have hD':242<D:=lt_of_lt_of_le hlow hD
  simp only[beq_eq_false_iff_ne,ne_eq]
  intro e
  rw[e] at hD'
  exact lt_irrefl _ (lt_trans this hD')
 refine WQ (K5 fok (by walk_at "m ev") (by walk_at "m evl") (hB.enu fok)
  (fun i sig om=>∃ cs:Cs,sig=QL x dx D bv∧om=Ww cs (B.take i)++(D,Z7 (csF cs) cs.length)::[(dx,Zm (Z2 "b2j" (.ptr D) as))]∧(cs.map (·.1)).Nodup∧(∀ c∈cs,F.n₀≤c.2)∧cs.length≤i∧∀ y,(cs.lookup y).isSome=true↔y∈B.take i)
  ⟨QL x dx D bv,?_,[],rfl,rfl,List.nodup_nil,(by intro c h;cases h),le_refl _,(by intro y;simp)⟩ ?_ ?_ (by intro _;rfl) rfl rfl)
 ·exact ⟨rfl,rfl,rfl,trivial⟩
 ·-- a turn
  rintro i y sig om hy ⟨cs,rfl,rfl,hn,hl,hc,hkeys⟩
  rw[getElem?_map,Option.map_eq_some_iff] at hy
  obtain ⟨y,hy,rfl⟩:=hy
  have hi:i<B.length:=(List.getElem?_eq_some_iff.mp hy).1
  have htk:B.take (i+1)=B.take i++[y]:=by rw[List.take_succ,hy];rfl
  have hlen:(B.take i).length=i:=by rw[length_take];lia
  refine ⟨((QL x dx D bv).set 3 (some (.int i))).set 4 (some (.int y)),Hs fok (Zl (Zf fok (by walk_at "m st")) (Zl (Zf fok (by walk_at "m st")) Xn)) rfl,?_⟩
  have hsm:=hB.small
  have hsl:(1000000:Nat)≤sizeLine:=by decide
  refine Yy fok (k:=5) (by walk_at "m st")
   (PE:=fun d om'=>(∃ a' a,cs.lookup y=some a'∧d=.ptr a'∧om'=(a,Zc [])::(Ww cs (B.take i)++(D,Z7 (csF cs) cs.length)::[(dx,Zm (Z2 "b2j" (.ptr D) as))])) ∨
    (∃ a,cs.lookup y=none∧F.n₀≤a∧d=.ptr a∧om'=(a,Zc [])::(Ww cs (B.take i)++(D,Z7 (csF ((y,a)::cs)) (cs.length+1))::[(dx,Zm (Z2 "b2j" (.ptr D) as))])))
   (Ys _ (by walk_at "m ev") (Mv (f:=csF cs) (m:=cs.length) PySem.F.slot_dict_setdefault PySem.F.type_dict_setdefault (by simp)) Zs
    (Yo (P₁:=fun d om'=>d=.int y∧om'=_) (Wl (by walk_at "m ev") ⟨rfl,rfl⟩) (by
     rintro d om' ⟨rfl,rfl⟩
     refine Yo (P₁:=fun d om'=>∃ a,F.n₀≤a∧d=.ptr a∧om'=(a,Zc [])::_) (Yn fok Zq (zero_le _) fun a ha=>⟨a,ha,rfl,rfl⟩) ?_ rfl
     rintro d om' ⟨a,ha,rfl,rfl⟩
     refine XU (Rh (f:=csF cs) (m:=cs.length) (lt_of_lt_of_le (lt_trans (by decide) hlow) hD) (by lia) (by simp) (fun d hd=>.inl ?_) fun hno=>?_)
     ·unfold csF at hd
      rw[Option.map_eq_some_iff] at hd
      obtain ⟨a',h1,rfl⟩:=hd
      exact ⟨a',a,h1,rfl,rfl⟩
     ·refine ⟨(a,Zc [])::(Ww cs (B.take i)++(D,Z7 (csF ((y,a)::cs)) (cs.length+1))::[(dx,Zm (Z2 "b2j" (.ptr D) as))]),.there (OmUpd.skip ?_ _),.inr ⟨a,?_,ha,rfl,rfl⟩⟩
      ·rw[Jh];exact .here
      ·unfold csF at hno
       rwa [Option.map_eq_none_iff] at hno) rfl) rfl rfl) ?_ rfl
  rintro d om' (⟨a',a,hlk,rfl,rfl⟩ | ⟨a,hlk,ha,rfl,rfl⟩)
  ·refine NE fok .here ?_
   refine Zu xi (ZE fok (by walk_at "m ev") (by walk_at "m ev") (P:=fun _ om'=>om'=Ww cs (B.take i++[y])++(D,Z7 (csF cs) cs.length)::[(dx,Zm (Z2 "b2j" (.ptr D) as))]) (by have:=K4 (pre:=B.take i) (rest:=(D,Z7 (csF cs) cs.length)::[(dx,Zm (Z2 "b2j" (.ptr D) as))]) hn hlk;rw[hlen] at this;exact this) (by have:=K3 (B.take i) y;rw[length_map];lia) rfl _) ?_ rfl
   rintro d om' rfl
   refine Zk ⟨QL x dx D bv,⟨rfl,rfl,rfl,trivial⟩,cs,rfl,by rw[htk],hn,hl,by lia,fun z=>?_⟩
   rw[htk,mem_append,mem_singleton,<-hkeys z]
   exact ⟨.inl,fun h=>h.elim id fun e=>by rw[e,hlk];rfl⟩
  ·refine Zu xi (ZE fok (by walk_at "m ev") (by walk_at "m ev") (P:=fun _ om'=>om'=(a,Zc ([]++[.int i]))::(Ww cs (B.take i)++(D,Z7 (csF ((y,a)::cs)) (cs.length+1))::[(dx,Zm (Z2 "b2j" (.ptr D) as))])) .here (zero_le _) rfl _) ?_ rfl
   rintro d om' rfl
   have hny:y∉B.take i:=fun h=>by have:=(hkeys y).mpr h;rw[hlk] at this;cases this
   refine Zk ⟨QL x dx D bv,⟨rfl,rfl,rfl,trivial⟩,(y,a)::cs,rfl,?_,?_,?_,by simp;lia,fun z=>?_⟩
   ·rw[htk]
    show _=(a,Zc ((X4 (B.take i++[y]) y).map .int))::(Ww cs (B.take i++[y])++_)
    rw[S2 hlk,Ve,if_pos rfl,Q3.mpr hny,hlen]
    rfl
   ·rw[map_cons,nodup_cons]
    refine ⟨fun h=>?_,hn⟩
    obtain ⟨c,hc1,hc2⟩:=List.mem_map.mp h
    have:(cs.lookup y).isSome=true:=by
     rw[List.lookup_isSome_iff];exact ⟨c,hc1,by simpa using hc2.symm⟩
    rw[hlk] at this;cases this
   ·intro c hc
    rcases List.mem_cons.mp hc with rfl | hc
    ·exact ha
    ·exact hl c hc
   ·rw[htk,mem_append,mem_singleton,<-hkeys z,lookup_cons]
    cases q:z==y with
    | true=>simp[show z=y by simpa using q]
    | false=>simp[show ¬ z=y by simpa using q]
 ·-- behind it
  rintro sig om ⟨cs,rfl,rfl,hn,hl,hc,hkeys⟩
  rw[length_map,take_length] at hkeys
  rw[length_map,take_length]
  refine U5 fok cs _ hn (fun z a e=>by unfold csF;rw[e];rfl) hl ?_
  rw[FN hkeys]
  refine Yx fok .here hD (UV (lt_of_lt_of_le (lt_trans (by decide) hlow) hD)) ZH.refl (.cons (Zm.weak UD) .nil) ?_
  generalize cs.length=m
  have z1:=Yu (x := "b2j") (d:=dct (VZ B) m) (as:=as)
  have z2:=Yu (x := "bjunk") (d:=Z9 prog w) (as:=Z2 "b2j" (dct (VZ B) m) as)
  have z3:=Yu (x := "bpopular") (d:=Z9 prog w) (as:=Z2 "bjunk" (Z9 prog w) (Z2 "b2j" (dct (VZ B) m) as))
  have k1:(Z2 "bjunk" (Z9 prog w) (Z2 "b2j" (dct (VZ B) m) as)).lookup (Str.ofString "isjunk")=some .none:=by
   rw[Z6 (by decide +kernel),Z6 (by decide +kernel)];exact hj
  have k2:(Z2 "bpopular" (Z9 prog w) (Z2 "bjunk" (Z9 prog w) (Z2 "b2j" (dct (VZ B) m) as))).lookup (Str.ofString "autojunk")=some (.bool aj):=by
   rw[Z6 (by decide +kernel),Z6 (by decide +kernel),Z6 (by decide +kernel)];exact ha
  refine VK fok (C:=242) (a:=x) (dx:=dx) (k:=6) hk (Z3 w.params) SC (by walk_at "m st") (Wl (P:=fun d om'=>d=Z9 prog w∧om'=_) (Zv (by walk_at "m ev") Zx Zq (GK fok) rfl rfl) ⟨rfl,rfl⟩) ?_ rfl rfl
  rintro d om₁ ⟨rfl,rfl⟩
  refine ⟨TK,_,_,_,by walk_at "m ev",by lia,rfl,.here,?_⟩
  walk_at "m assign"
  refine Xv (ZT (by walk_at "m ev") Jg (by intro _;rfl)) (Zy ?_)
  refine VK fok (C:=242) (a:=x) (dx:=dx) (k:=8) hk (Z3 w.params) FH (by walk_at "m st") (Wl (P:=fun d om'=>d=Z9 prog w∧om'=_) (Zv (by walk_at "m ev") Zx Zq (GK fok) rfl rfl) ⟨rfl,rfl⟩) ?_ rfl rfl
  rintro d om₁ ⟨rfl,rfl⟩
  refine ⟨TK,_,_,_,by walk_at "m ev",by lia,rfl,.here,?_⟩
  refine ZF fok (k:=9) (by walk_at "m st") (Zv (by walk_at "m ev") Zs (by walk_at "m evl") hB.len rfl rfl) rfl ?_
  refine Xv (ZS (Xk (all_cons (ZT (by walk_at "m ev") X2 (by intro _;rfl)) (fun _=>by walk_at "m all"))) ?_) (Zy (Zk ⟨⟨rfl,m,rfl⟩,fun b hb=>.inl hb⟩))
  rcases hpop with h | h
  ·rw[h];rfl
  ·simp only[Bool.and_true,Bool.and_eq_false_iff]
   exact .inr (by simp;lia)
end
section
noncomputable abbrev SK (w:World):PH->Prop:=Zo (Zp w.params)
theorem Y0 {w:World}:∀ V V':PH,V.le V'->SK w V->SK w V':=fun _ _ k h=>h.mono k
theorem FQ (P:Params):typeIn (Zp P) (.ref 174)=some (.type "function"):=by kernel_rfl
theorem FR (P:Params):findIn (Zp P) (.ref 242) "set_seq1" = some (some (.ref 174)):=by kernel_rfl
theorem FS (P:Params):typeIn (Zp P) (.ref 181)=some (.type "function"):=by kernel_rfl
theorem FT (P:Params):findIn (Zp P) (.ref 242) "set_seq2" = some (some (.ref 181)):=by kernel_rfl
theorem FU (P:Params):typeIn (Zp P) (.ref 188)=some (.type "function"):=by kernel_rfl
theorem FV (P:Params):findIn (Zp P) (.ref 242) "_SequenceMatcher__chain_b" = some (some (.ref 188)):=by kernel_rfl
theorem Jj (P:Params):typeIn (Zp P) (.ref 167)=some (.type "function"):=by kernel_rfl
theorem Jk (P:Params):findIn (Zp P) (.ref 242) "set_seqs" = some (some (.ref 167)):=by kernel_rfl
noncomputable def R9 (a':AV) (as:List (Str×AV)):List (Str×AV):=Z2 "opcodes" .none (Z2 "matching_blocks" .none (Z2 "a" a' as))
noncomputable def put2 (b':AV) (as:List (Str×AV)):List (Str×AV):=Z2 "fullbcount" .none (Z2 "opcodes" .none (Z2 "matching_blocks" .none (Z2 "b" b' as)))
noncomputable def PM (prog:Program) (w:World) (B:List Int) (m:Nat) (as:List (Str×AV)):List (Str×AV):=Z2 "bpopular" (Z9 prog w) (Z2 "bjunk" (Z9 prog w) (Z2 "b2j" (dct (VZ B) m) as))
theorem Ua {a':AV} {as:List (Str×AV)} {y:Str} (h:(y == "opcodes")=false∧(y == "matching_blocks")=false∧(y == "a")=false):(R9 a' as).lookup y=as.lookup y:=by
 unfold R9;rw[Z6 h.1,Z6 h.2.1,Z6 h.2.2]
theorem RA {b':AV} {as:List (Str×AV)} {y:Str} (h:(y == "opcodes")=false∧(y == "matching_blocks")=false∧(y == "b")=false∧(y == "fullbcount")=false):(put2 b' as).lookup y=as.lookup y:=by
 unfold put2;rw[Z6 h.2.2.2,Z6 h.1,Z6 h.2.1,Z6 h.2.2.1]
theorem Jl {a':AV} {as:List (Str×AV)}:(R9 a' as).length≤as.length+3:=by
 unfold R9
 have z1:=Yu (x := "a") (d:=a') (as:=as)
 have z2:=Yu (x := "matching_blocks") (d:=.none) (as:=Z2 "a" a' as)
 have z3:=Yu (x := "opcodes") (d:=.none) (as:=Z2 "matching_blocks" .none (Z2 "a" a' as))
 lia
noncomputable def YV (P:Params):FuncData:=XW (Nj P)
theorem Ga (P:Params):XE (Zp P) 181 (YV P):=Yh (Nj P) (by kernel_rfl) (by kernel_rfl) (by kernel_rfl)
theorem Gb {P:Params} {a0 a1:AV}:YO (YV P).scope.names ["self", "b"] [a0,a1]=[some a0,some a1]:=by kernel_rfl
theorem FW (P:Params):DefOk (YV P) ["self", "b"]:=Yg rfl (of_decide_eq_true (by kernel_rfl)) (by kernel_rfl) (of_decide_eq_true (by kernel_rfl)) (by kernel_rfl)
noncomputable def FX:List (Str×NameKind):=[("self",.local),("b",.local)]
theorem MQ (P:Params):(YV P).scope.names=FX:=by kernel_rfl
theorem Jm {prog:Program} {w:World} {x dx:Addr} {as:List (Str×AV)} {b' b:AV} {B:List Int} {aj:Bool} (hid:Idn b' b) (hB:BV prog w b' B) (hb:as.lookup (Str.ofString "b")=some b) (hj:as.lookup (Str.ofString "isjunk")=some .none) (ha:as.lookup (Str.ofString "autojunk")=some (.bool aj)) (hm:as.lookup (Str.ofString "_SequenceMatcher__chain_b")=none) (hpop:aj=false∨B.length<200) (hz:as.length≤800) :
  VH prog w (SK w) 4 (.ref 181) [ZL x dx,b'] [(dx,Zm as)] fun d om₂=>d=.none∧((b'=b∧om₂=[(dx,Zm as)])∨∃ m,om₂=[(dx,Zm (PM prog w B m (put2 b' as)))]):=by
 refine Wt (dd:=[]) (dv:=[]) (FW w.params) (fun V hV=>Ye hV (Ga w.params) (VV w.params) rfl rfl) rfl (fun V=>Zn.nil) (fun vs hv=>?_) (fun xAr xG xs xB room fok=>?_)
 ·obtain ⟨v0,v1,rfl⟩:=Mi hv
  kernel_rfl
 rw[append_nil,Gb]
 have xg:(Zd (YV w.params) 181 xAr xG xs).env.globals=mainGlobals:=rfl
 have xb:(Zd (YV w.params) 181 xAr xG xs).env.builtins=builtinsNs:=rfl
 have hk:Zo (Zp w.params) (Zd (YV w.params) 181 xAr xG xs).G:=xB
 have xN:(Zd (YV w.params) 181 xAr xG xs).names=(YV w.params).scope.names:=rfl
 have xA:Room (Zd (YV w.params) 181 xAr xG xs).A _:=room
 have xn:(Zd (YV w.params) 181 xAr xG xs).n₀=xs.heap.objs.size:=rfl
 have xi:interactive (Zd (YV w.params) 181 xAr xG xs).env=false:=rfl
 have xS:(Zd (YV w.params) 181 xAr xG xs).env.scope=(YV w.params).scope:=rfl
 generalize Zd (YV w.params) 181 xAr xG xs=F at fok xg xb hk xN xA xn xi xS ⊢
 have xN1:=xN.trans (MQ w.params)
 have xn0:At F "self" 0 .local:=Za fok xN1 0 rfl (by kernel_rfl)
 have xn1:At F "b" 1 .local:=Za fok xN1 1 rfl (by kernel_rfl)
 walk_at "m doc"
 refine WQ (Q0 hid.k (by walk_at "m ev") (by walk_at "m ev") (fun hs=>?_) ?_ rfl)
 ·refine Zw (WI (P:=(·=.ret .none _ _)) rfl) fun o ho=>?_
  subst ho
  exact ⟨⟨rfl,.inl ⟨hid.same hs,rfl⟩⟩,fun b hb=>.inl hb⟩
 ·refine Zy ?_
  have z1:=Yu (x := "b") (d:=b') (as:=as)
  have z2:=Yu (x := "matching_blocks") (d:=.none) (as:=Z2 "b" b' as)
  have z3:=Yu (x := "opcodes") (d:=.none) (as:=Z2 "matching_blocks" .none (Z2 "b" b' as))
  have z4:=Yu (x := "fullbcount") (d:=.none) (as:=Z2 "opcodes" .none (Z2 "matching_blocks" .none (Z2 "b" b' as)))
  refine Wv hk (Z3 w.params) Jb (by walk_at "m ev") (by walk_at "m ev") hid.handed (by lia) rfl .here ?_ rfl rfl rfl
  refine TA hk (Z3 w.params) R6 R7 (by walk_at "m ev") (by walk_at "m ev") (by walk_at "m ev") X3 (by lia) (by lia) rfl rfl .here .here ?_ rfl rfl
  refine Wv hk (Z3 w.params) FG (by walk_at "m ev") (by walk_at "m ev") X3 (by lia) rfl .here ?_ rfl rfl rfl
  refine Zu xi (Ys (d₀:=ZL x dx) (f:=.ref 188) (P:=fun d om'=>∃ m,om'=[(dx,Zm (PM prog w B m (put2 b' as)))]) _ (by walk_at "m ev") (Xf (as:=put2 b' as) hk (Z3 w.params) (FV w.params) (FU w.params) (by exact mem_cons_self) (by rw[RA (by decide +kernel)];exact hm)) (Yr (hk 188 (Nk w.params) (by kernel_rfl)) rfl)
   (XU (VA fok hk Y0 (xA.mono (by decide)) (Ji (as:=put2 b' as) hB (by unfold put2;rw[Z6 (by decide +kernel),Z6 (by decide +kernel),Z6 (by decide +kernel),R8]) (by rw[RA (by decide +kernel)];exact hj) (by rw[RA (by decide +kernel)];exact ha) hpop (by unfold put2;lia)).fn (rest:=[]) (List.Perm.refl _) ?_)) rfl rfl) ?_ rfl
  ·rintro d om₂ ⟨e,m,rfl⟩
   exact ⟨m,rfl⟩
  ·rintro d om' ⟨m,rfl⟩
   exact Zk ⟨⟨rfl,.inr ⟨m,rfl⟩⟩,fun b hb=>.inl hb⟩
noncomputable def YW (P:Params):FuncData:=XW (RM P)
theorem Gc (P:Params):XE (Zp P) 167 (YW P):=Yh (RM P) (by kernel_rfl) (by kernel_rfl) (by kernel_rfl)
theorem Gd {P:Params} {a0 a1 a2:AV}:YO (YW P).scope.names ["self", "a", "b"] [a0,a1,a2]=[some a0,some a1,some a2]:=by kernel_rfl
theorem FY (P:Params):DefOk (YW P) ["self", "a", "b"]:=Yg rfl (of_decide_eq_true (by kernel_rfl)) (by kernel_rfl) (of_decide_eq_true (by kernel_rfl)) (by kernel_rfl)
noncomputable def FZ:List (Str×NameKind):=[("self",.local),("a",.local),("b",.local)]
theorem MR (P:Params):(YW P).scope.names=FZ:=by kernel_rfl
noncomputable def Ac (prog:Program) (w:World) (dx:Addr) (as:List (Str×AV)) (a' a b' b:AV) (B:List Int) (d:AV) (om₂:Om):Prop :=
 d=.none∧∃ as₁,((a'=a∧as₁=as)∨as₁=R9 a' as)∧((b'=b∧om₂=[(dx,Zm as₁)])∨∃ m,om₂=[(dx,Zm (PM prog w B m (put2 b' as₁)))])
theorem TL {prog:Program} {w:World} {x dx:Addr} {as:List (Str×AV)} {a' a b' b:AV} {B:List Int} {aj:Bool} (hia:Idn a' a) (hib:Idn b' b) (hB:BV prog w b' B) (hva:as.lookup (Str.ofString "a")=some a) (hb:as.lookup (Str.ofString "b")=some b) (hj:as.lookup (Str.ofString "isjunk")=some .none) (ha:as.lookup (Str.ofString "autojunk")=some (.bool aj)) (hm:as.lookup (Str.ofString "_SequenceMatcher__chain_b")=none)
  (hm1:as.lookup (Str.ofString "set_seq1")=none) (hm2:as.lookup (Str.ofString "set_seq2")=none) (hpop:aj=false∨B.length<200) (hz:as.length≤700) :
  VH prog w (SK w) 6 (.ref 167) [ZL x dx,a',b'] [(dx,Zm as)] (Ac prog w dx as a' a b' b B):=by
 refine Wt (dd:=[]) (dv:=[]) (FY w.params) (fun V hV=>Ye hV (Gc w.params) (VV w.params) rfl rfl) rfl (fun V=>Zn.nil) (fun vs hv=>?_) (fun xAr xG xs xB room fok=>?_)
 ·obtain ⟨v0,v1,v2,rfl⟩:=Mj hv
  kernel_rfl
 rw[append_nil,Gd]
 have xg:(Zd (YW w.params) 167 xAr xG xs).env.globals=mainGlobals:=rfl
 have xb:(Zd (YW w.params) 167 xAr xG xs).env.builtins=builtinsNs:=rfl
 have hk:Zo (Zp w.params) (Zd (YW w.params) 167 xAr xG xs).G:=xB
 have xN:(Zd (YW w.params) 167 xAr xG xs).names=(YW w.params).scope.names:=rfl
 have xA:Room (Zd (YW w.params) 167 xAr xG xs).A _:=room
 have xn:(Zd (YW w.params) 167 xAr xG xs).n₀=xs.heap.objs.size:=rfl
 have xi:interactive (Zd (YW w.params) 167 xAr xG xs).env=false:=rfl
 have xS:(Zd (YW w.params) 167 xAr xG xs).env.scope=(YW w.params).scope:=rfl
 generalize Zd (YW w.params) 167 xAr xG xs=F at fok xg xb hk xN xA xn xi xS ⊢
 have xN1:=xN.trans (MR w.params)
 have xn0:At F "self" 0 .local:=Za fok xN1 0 rfl (by kernel_rfl)
 have xn1:At F "a" 1 .local:=Za fok xN1 1 rfl (by kernel_rfl)
 have xn2:At F "b" 2 .local:=Za fok xN1 2 rfl (by kernel_rfl)
 walk_at "m doc"
 refine Zu xi (Ys (d₀:=ZL x dx) (f:=.ref 174) (P:=fun d om'=>∃ as₁,((a'=a∧as₁=as)∨as₁=R9 a' as)∧om'=[(dx,Zm as₁)]) _ (by walk_at "m ev") (Xf (as:=as) hk (Z3 w.params) (FR w.params) (FQ w.params) (by exact mem_cons_self) hm1) (Yr (hk 174 (Ni w.params) (by kernel_rfl)) rfl)
  (Xo (ds:=[a']) (by walk_at "m evl") (VA fok hk Y0 (xA.mono (by decide)) (Jf (as:=as) hia hva (by lia)).fn (rest:=[]) (List.Perm.refl _) ?_)) rfl rfl) ?_ rfl
 ·rintro d om₂ ⟨e,⟨h1,rfl⟩ | rfl⟩
  ·exact ⟨as,.inl ⟨h1,rfl⟩,rfl⟩
  ·exact ⟨_,.inr rfl,rfl⟩
 rintro d om' ⟨as₁,h1,rfl⟩
 have f:as₁.length≤703∧as₁.lookup (Str.ofString "b")=some b∧as₁.lookup (Str.ofString "isjunk")=some .none∧as₁.lookup (Str.ofString "autojunk")=some (.bool aj)∧as₁.lookup (Str.ofString "_SequenceMatcher__chain_b")=none∧as₁.lookup (Str.ofString "set_seq2")=none:=by
  rcases h1 with ⟨_,rfl⟩ | rfl
  ·exact ⟨by lia,hb,hj,ha,hm,hm2⟩
  ·exact ⟨by have:=Jl (a':=a') (as:=as);lia,by rw[Ua (by decide +kernel)];exact hb,by rw[Ua (by decide +kernel)];exact hj,by rw[Ua (by decide +kernel)];exact ha,by rw[Ua (by decide +kernel)];exact hm,by rw[Ua (by decide +kernel)];exact hm2⟩
 obtain ⟨f0,f1,f2,f3,f4,f5⟩:=f
 refine Zu xi (Ys (d₀:=ZL x dx) (f:=.ref 181) (P:=fun d om'=>(b'=b∧om'=[(dx,Zm as₁)])∨∃ m,om'=[(dx,Zm (PM prog w B m (put2 b' as₁)))]) _ (by walk_at "m ev") (Xf (as:=as₁) hk (Z3 w.params) (FT w.params) (FS w.params) (by exact mem_cons_self) f5) (Yr (hk 181 (Nj w.params) (by kernel_rfl)) rfl)
  (Xo (ds:=[b']) (by walk_at "m evl") (VA fok hk Y0 (xA.mono (by decide)) (Jm (as:=as₁) hib hB f1 f2 f3 f4 hpop (by lia)).fn (rest:=[]) (List.Perm.refl _) ?_)) rfl rfl) ?_ rfl
 ·rintro d om₂ ⟨e,h⟩
  rcases h with ⟨h2,rfl⟩ | ⟨m,rfl⟩
  ·exact .inl ⟨h2,rfl⟩
  ·exact .inr ⟨m,rfl⟩
 rintro d om' h2
 refine Zk ⟨⟨rfl,as₁,h1,h2⟩,fun b hb=>?_⟩
 rcases h2 with ⟨_,rfl⟩ | ⟨m,rfl⟩<;>exact .inl hb
end
section
noncomputable def YX (P:Params):FuncData:=XW (LD P)
theorem Ge (P:Params):XE (Zp P) 160 (YX P):=Yh (LD P) (by kernel_rfl) (by kernel_rfl) (by kernel_rfl)
theorem Gf {P:Params} {a0 a1 a2 a3 a4:AV}:YO (YX P).scope.names ["self", "isjunk", "a", "b", "autojunk"] [a0,a1,a2,a3,a4]=[some a0,some a1,some a2,some a3,some a4]:=by kernel_rfl
theorem Ea (P:Params):DefOk (YX P) ["self", "isjunk", "a", "b", "autojunk"]:=Yg rfl (of_decide_eq_true (by kernel_rfl)) (by kernel_rfl) (of_decide_eq_true (by kernel_rfl)) (by kernel_rfl)
noncomputable def Eb:List (Str×NameKind):=[("self",.local),("isjunk",.local),("a",.local),("b",.local),("autojunk",.local)]
theorem MS (P:Params):(YX P).scope.names=Eb:=by kernel_rfl
noncomputable def as0 (aj:Bool):List (Str×AV):=[("isjunk",.none),("a",.none),("b",.none),("autojunk",.bool aj)]
noncomputable abbrev SD (prog:Program) (w:World) (aj:Bool) (m:Nat):List (Str×AV):=Yl aj (.str "") (.str "") .none .none .none (dct (VZ []) m) (Z9 prog w) (Z9 prog w)
theorem Jn {prog:Program} {w:World} {x dx:Addr}:VH prog w (SK w) 8 (.ref 160) [ZL x dx] [(dx,Zm [])] fun d om₂=>d=.none∧∃ m,om₂=[(dx,Zm (SD prog w true m))]:=by
 refine Qw (K:=Zp w.params) (dd:=[.none,.str "",.str "",.bool true]) (dv:=[.none,.str "" 404,.str "" 405,.bool true]) (Ea w.params) (fun V hV=>Ye hV (Ge w.params) (VV w.params) rfl rfl) rfl (fun V=>.cons Xj (.cons Ra (.cons Ra (.cons ZJ .nil)))) (fun h vs hX hv=>?_) (fun xAr xG xs xB room fok=>?_)
 ·obtain ⟨v0,rfl⟩:=RO hv
  exact Looks.of_peek hX (by kernel_rfl)
 rw[cons_append,nil_append,Gf]
 have xg:(Zd (YX w.params) 160 xAr xG xs).env.globals=mainGlobals:=rfl
 have xb:(Zd (YX w.params) 160 xAr xG xs).env.builtins=builtinsNs:=rfl
 have hk:Zo (Zp w.params) (Zd (YX w.params) 160 xAr xG xs).G:=xB
 have xN:(Zd (YX w.params) 160 xAr xG xs).names=(YX w.params).scope.names:=rfl
 have xA:Room (Zd (YX w.params) 160 xAr xG xs).A _:=room
 have xn:(Zd (YX w.params) 160 xAr xG xs).n₀=xs.heap.objs.size:=rfl
 have xi:interactive (Zd (YX w.params) 160 xAr xG xs).env=false:=rfl
 have xS:(Zd (YX w.params) 160 xAr xG xs).env.scope=(YX w.params).scope:=rfl
 generalize Zd (YX w.params) 160 xAr xG xs=F at fok xg xb hk xN xA xn xi xS ⊢
 have xN1:=xN.trans (MS w.params)
 have xn0:At F "self" 0 .local:=Za fok xN1 0 rfl (by kernel_rfl)
 have xn1:At F "isjunk" 1 .local:=Za fok xN1 1 rfl (by kernel_rfl)
 have xn2:At F "a" 2 .local:=Za fok xN1 2 rfl (by kernel_rfl)
 have xn3:At F "b" 3 .local:=Za fok xN1 3 rfl (by kernel_rfl)
 have xn4:At F "autojunk" 4 .local:=Za fok xN1 4 rfl (by kernel_rfl)
 walk_at "m doc"
 refine Wv (a:=x) hk (Z3 w.params) TJ (by walk_at "m ev") (by walk_at "m ev") X3 (by decide) (as':=[("isjunk",.none)]) (by kernel_rfl) .here ?_ rfl rfl rfl
 refine TA (a:=x) (as:=[("isjunk",.none)]) hk (Z3 w.params) Ja Jb (by walk_at "m ev") (by walk_at "m ev") (by walk_at "m ev") X3 (show 1≤1000 by decide) (as':=[("isjunk",.none),("a",.none)]) (show 2≤1000 by decide) (as₂:=[("isjunk",.none),("a",.none),("b",.none)]) (by kernel_rfl) (by kernel_rfl) .here .here ?_ rfl rfl
 refine Wv (a:=x) (as:=[("isjunk",.none),("a",.none),("b",.none)]) hk (Z3 w.params) VY (by walk_at "m ev") (by walk_at "m ev") Qg (show 3≤1000 by decide) (as':=as0 true) (by kernel_rfl) .here ?_ rfl rfl rfl
 refine Zu xi (Ys (d₀:=ZL x dx) (f:=.ref 167) (P:=fun d om'=>∃ m,om'=[(dx,Zm (SD prog w true m))]) _ (by walk_at "m ev") (Xf (as:=as0 true) hk (Z3 w.params) (Jk w.params) (Jj w.params) (by exact mem_cons_self) (by kernel_rfl)) (Yr (hk 167 (RM w.params) (by kernel_rfl)) rfl)
  (Xo (ds:=[.str "",.str ""]) (by walk_at "m evl") (VA fok hk Y0 (xA.mono (by decide)) (TL (as:=as0 true) (aj:=true) Je Je FK (by kernel_rfl) (by kernel_rfl) (by kernel_rfl) (by kernel_rfl) (by kernel_rfl) (by kernel_rfl) (by kernel_rfl) (.inr (by decide)) (show 4≤700 by decide)).fn (rest:=[]) (List.Perm.refl _) ?_)) rfl rfl) ?_ rfl
 ·rintro d om₂ ⟨e,as₁,h1,h2⟩
  rcases h1 with ⟨h1,_⟩ | rfl
  ·cases h1
  ·rcases h2 with ⟨h2,_⟩ | ⟨m,rfl⟩
   ·cases h2
   ·refine ⟨m,?_⟩
    show [(dx,Zm (PM prog w [] m (put2 (.str "") (R9 (.str "") (as0 true)))))]=_
    have:PM prog w [] m (put2 (.str "") (R9 (.str "") (as0 true)))=SD prog w true m:=by kernel_rfl
    rw[this]
 ·rintro d om' ⟨m,rfl⟩
  exact Zk ⟨⟨rfl,m,rfl⟩,fun b hb=>.inl hb⟩
theorem MT {prog:Program} {w:World} {F:Fn} {om:Om} {P:AV->Om->Prop} (ok:F.Ok) (hk:Zo (Zp w.params) F.G) (room:Room F.A 9) (hP:∀ x dx m,P (ZL x dx) ((dx,Zm (SD prog w true m))::om)):OpX prog w F om (.ref 242) [] P :=
 Fo ok hk (KP w.params) (HR w.params) (by kernel_rfl) hk Y0 room (Pm:=fun x dx om₂=>∃ m,om₂=[(dx,Zm (SD prog w true m))]) (fun x dx=>Jn) fun x dx om₂ ⟨m,e⟩=>by subst e;exact hP x dx m
end
section
structure IdxOk (B:List Int) (okx:Int->Bool) (idx:Int->List Nat):Prop where
 sorted:∀ x,(idx x).Pairwise (·<·)
 mem:∀ x j,j∈idx x↔okx x=true∧B[j]?=some x
noncomputable def Wd (idx:Int->List Nat):Int->Option AV:=fun x=>if idx x=[] then none else some (nl (idx x))
set_option tactic.hygienic true in
theorem Jo {idx:Int->List Nat} {x:Int}:(Wd idx x).getD (.lst [])=nl (idx x):=by
 unfold Wd
 split
 ·rename_i h;rw[h];rfl
 ·rfl
noncomputable def rowP (A B:List Int) (okx:Int->Bool) (alo blo bhi:Nat):Nat->Nat->Option Nat
 | 0,_=>none
 | i+1,j=>if 0<rl A B okx alo blo bhi i j then some (rl A B okx alo blo bhi i j) else none
theorem PN {A B:List Int} {okx:Int->Bool} {alo blo bhi:Nat}:rowP A B okx alo blo bhi (alo+0)=fun _=>none:=by
 funext j
 rw[add_zero]
 cases alo with
 | zero=>rfl
 | succ a =>
  show (if 0<rl A B okx (a+1) blo bhi a j then some (rl A B okx (a+1) blo bhi a j) else none)=none
  rw[if_neg]
  rw[TB]
  rintro ⟨h,_⟩
  lia
theorem Jp {A B:List Int} {okx:Int->Bool} {alo blo bhi i j:Nat}:pget (rowP A B okx alo blo bhi i) j=rlp A B okx alo blo bhi i j:=by
 cases j with
 | zero=>cases i<;>rfl
 | succ j =>
  cases i with
  | zero=>rfl
  | succ i =>
   show ((if 0<rl A B okx alo blo bhi i j then some (rl A B okx alo blo bhi i j) else none).getD 0:Nat)=rl A B okx alo blo bhi i j
   split
   ·rfl
   ·simp;lia
theorem Y6 {a b:Int} {n:Nat} {x:AV} (h:(ZC a b)[n]?=some x):n<(b-a).toNat∧x=.int (a+(n:Nat)):=by
 unfold ZC at h
 rw[getElem?_map,Option.map_eq_some_iff] at h
 obtain ⟨n',hn',e⟩:=h
 obtain ⟨h1,h2⟩:=List.getElem?_eq_some_iff.mp hn'
 rw[List.getElem_range] at h2
 rw[length_range] at h1
 subst h2
 exact ⟨h1,e.symm⟩
theorem QM {a b c a' b' c':Int} (h1:a=a') (h2:b=b') (h3:c=c'):AV.tup [.int a,.int b,.int c]=.tup [.int a',.int b',.int c']:=by subst h1 h2 h3;rfl
noncomputable def inr (blo bhi:Nat) (l:List Nat):List Nat:=l.filter fun j=>decide (blo≤j)&&decide (j<bhi)
theorem Ub {blo bhi j:Nat} {l:List Nat}:inr blo bhi (l++[j])=inr blo bhi l++if blo≤j∧j<bhi then [j] else []:=by
 unfold inr
 rw[List.filter_append,List.filter_cons,List.filter_nil]
 by_cases h:blo≤j∧j<bhi
 ·rw[if_pos h,if_pos (by simp[h.1,h.2])]
 ·rw[if_neg h,if_neg (by simp only[Bool.and_eq_true,decide_eq_true_eq];exact h)]
theorem Gg {blo bhi t:Nat} {l:List Nat} (hs:l.Pairwise (·<·)) {j:Nat} (hj:l[t]?=some j) (h:bhi≤j):inr blo bhi l=inr blo bhi (l.take t):=by
 have e:l=l.take t++l.drop t:=(List.take_append_drop t l).symm
 conv=>lhs;rw[e]
 unfold inr
 rw[List.filter_append]
 obtain ⟨h1,h2⟩:=List.getElem?_eq_some_iff.mp hj
 have e2:l.drop t=j::l.drop (t+1):=by rw[List.drop_eq_getElem_cons h1,h2]
 have hd:=hs.drop (i:=t)
 rw[e2] at hd
 have:(l.drop t).filter (fun j=>decide (blo≤j)&&decide (j<bhi))=[]:=by
  rw[List.filter_eq_nil_iff,e2]
  intro z hz c
  have hz:j≤z:=by
   rcases List.mem_cons.mp hz with q | q
   ·exact le_of_eq q.symm
   ·exact le_of_lt ((List.pairwise_cons.mp hd).1 z q)
  exact absurd (of_decide_eq_true (Bool.and_eq_true_iff.mp c).2) (Nat.not_lt.mpr (Nat.le_trans h hz))
 rw[this,append_nil]
noncomputable def WV (A B:List Int) (okx:Int->Bool) (alo blo bhi i:Nat) (l:List Nat):Nat->Option Nat:=fun j=>if j∈l then some (rl A B okx alo blo bhi i j) else none
theorem PO {A B:List Int} {okx:Int->Bool} {alo blo bhi i j:Nat} {l:List Nat}:H9 (WV A B okx alo blo bhi i l) j (rl A B okx alo blo bhi i j)=WV A B okx alo blo bhi i (l++[j]):=by
 funext z
 unfold H9 WV
 by_cases h:z=j
 ·subst h;simp
 ·rw[if_neg h];simp[h]
theorem MU {A B:List Int} {okx:Int->Bool} {alo blo bhi i:Nat}:WV A B okx alo blo bhi i []=fun _=>none:=by
 funext z;unfold WV;simp
theorem PQ {A B:List Int} {okx:Int->Bool} {idx:Int->List Nat} {alo blo bhi i:Nat} (hI:IdxOk B okx idx) (ha:alo≤i) (hi:i<A.length):WV A B okx alo blo bhi i (UN A idx blo bhi i)=rowP A B okx alo blo bhi (i+1):=by
 funext j
 unfold WV
 show _=if 0<rl A B okx alo blo bhi i j then some (rl A B okx alo blo bhi i j) else none
 have:j∈UN A idx blo bhi i↔0<rl A B okx alo blo bhi i j:=by
  rw[TB]
  unfold UN hit
  rw[mem_filter,hI.mem]
  have e:A[i]?=some (A.getD i 0):=by simp[List.getD,hi]
  simp only[Bool.and_eq_true,decide_eq_true_eq]
  constructor
  ·rintro ⟨⟨h1,h2⟩,h3,h4⟩
   exact ⟨ha,h3,h4,_,e,h2,h1⟩
  ·rintro ⟨_,h3,h4,x,h5,h6,h7⟩
   rw[e] at h5;cases h5
   exact ⟨⟨h7,h6⟩,h3,h4⟩
 simp only[this]
theorem Wj {d:Option AV}:∀ {sig:List (Option AV)} {k:Nat},sig[k]?=some none->Sub sig (sig.set k d)
 | [],k,h=>by simp at h
 | none::r,0,h=>Sub.refl (a:=r)
 | some e::r,0,h=>by simp at h
 | none::r,k+1,h=>Wj (sig:=r) (by simpa using h)
 | some e::r,k+1,h=>⟨rfl,Wj (sig:=r) (by simpa using h)⟩
set_option tactic.hygienic true in
theorem Sub.trans:∀ {a b c:List (Option AV)},Sub a b->Sub b c->Sub a c
 | [],_,_,_,_=>trivial
 | none::r,_::t,[],h,h'=>by
  cases r with
  | nil=>trivial
  | cons x r=>exact Sub.trans (a:=x::r) (b:=t) (c:=[]) h (by cases t with | nil=>trivial | cons y t=>rename_i o;cases o<;>simp_all [Sub])
 | none::r,o::t,p::u,h,h'=>Sub.trans (a:=r) (b:=t) (c:=u) h (by cases o with | none=>exact h' | some d=>exact h'.2)
 | none::r,[],c,h,h'=>by cases c with | nil=>exact h | cons p u=>exact Sub.trans (a:=r) (b:=[]) (c:=u) h trivial
 | some d::r,o::t,[],h,h'=>by rw[h.1] at h';exact h'.elim
 | some d::r,o::t,p::u,h,h'=>by rw[h.1] at h';exact ⟨h'.1,Sub.trans h.2 h'.2⟩
 | some d::r,[],_,h,_=>h.elim
theorem PR {a b c:Nat} (h1:a≤c) (h2:b≤c):a+(b-a)≤c:=by
 rcases Nat.le_total a b with h | h
 ·rw[add_sub_of_le h];exact h2
 ·rw[Nat.sub_eq_zero_of_le h];exact h1
theorem PS {l:List Nat} {N:Nat} (h:l.Pairwise (·<·)) (hb:∀ x∈l,x<N):l.length≤N:=by
 have key:∀ (i:Nat) (hi:i<l.length),i≤l[i]:=by
  intro i
  induction i with
  | zero=>intro _;exact zero_le _
  | succ i ih =>
   intro hi
   rw[List.pairwise_iff_getElem] at h
   have hi':=lt_of_succ_lt hi
   exact lt_of_le_of_lt (ih hi') (h i (i+1) hi' hi (lt_succ_self i))
 by_cases q:l.length=0
 ·rw[q];exact zero_le _
 ·have hl:=sub_lt (Nat.pos_of_ne_zero q) one_pos
  exact Nat.le_of_pred_lt (lt_of_le_of_lt (key _ hl) (hb _ (getElem_mem hl)))
theorem Ec {A B:List Int} {okx:Int->Bool} {alo blo bhi i j:Nat} {b:N3}:up1 A B okx alo blo bhi b (i,j)=if rl A B okx alo blo bhi i j>b.2.2 then (i+1-rl A B okx alo blo bhi i j,j+1-rl A B okx alo blo bhi i j,rl A B okx alo blo bhi i j) else b:=rfl
theorem MV {A:List Int} {idx:Int->List Nat} {alo blo bhi n:Nat} {c:Nat×Nat} (h:c∈ZZ A idx alo blo bhi n):c.1<alo+n∧c.2<bhi:=by
 unfold ZZ at h
 rw[List.mem_flatMap] at h
 obtain ⟨i,h1,h2⟩:=h
 rw[List.mem_map] at h2
 obtain ⟨j,h3,rfl⟩:=h2
 unfold UN at h3
 rw[mem_filter] at h3
 rw[List.mem_range'_1] at h1
 simp only[Bool.and_eq_true,decide_eq_true_eq] at h3
 exact ⟨h1.2,h3.2.2⟩
theorem Gh {A B:List Int} {okx:Int->Bool} {alo blo bhi:Nat} {cs:List (Nat×Nat)} {M N:Nat} (h:∀ c∈cs,c.1<M∧c.2<N) (ha:alo≤M) (hb:blo≤N):(ZD A B okx alo blo bhi cs).1≤M∧(ZD A B okx alo blo bhi cs).2.1≤N:=by
 unfold ZD
 suffices ∀ b:N3,b.1≤M->b.2.1≤N->(cs.foldl (up1 A B okx alo blo bhi) b).1≤M∧(cs.foldl (up1 A B okx alo blo bhi) b).2.1≤N from this _ ha hb
 induction cs with
 | nil=>intro b h1 h2;exact ⟨h1,h2⟩
 | cons c cs ih =>
  intro b h1 h2
  have hc:=h c mem_cons_self
  refine ih (fun c hc=>h c (mem_cons_of_mem _ hc)) _ ?_ ?_
  ·unfold up1;split
   ·exact Nat.le_trans (sub_le _ _) hc.1
   ·exact h1
  ·unfold up1;split
   ·exact Nat.le_trans (sub_le _ _) hc.2
   ·exact h2
theorem getD_some {l:List Int} {i:Nat} (h:i<l.length):l[i]?=some (l.getD i 0):=by simp[List.getD,h]
noncomputable def YB (C:Addr) (n:N3):AV:=mat C [.int (n.1:Nat),.int (n.2.1:Nat),.int (n.2.2:Nat)]
section
variable {prog:Program} {w:World} {F:Fn} {sig:List (Option AV)} {om:Om}
theorem Gi (ok:F.Ok) (hk:Zo (Zp w.params) F.G) (room:Room F.A 3) {d1 d2 d3:AV}:OpC prog w F om (.ref 135) [d1,d2,d3] (mat 135 [d1,d2,d3]) :=
 Kk ok hk (WU w.params) (QJ w.params) (F6 w.params) (HO w.params) hk Y0 room MJ.fn
theorem TM {K:Frag} {C:Addr} {o:Obj} {cd:ClassData} (hk:Zo K F.G) (ho:K.lookup C=some o) (hd:o.data=.cls cd) (hs:specialIn K (.ref C) "__call__" = some (some (.builtin "type.__call__"))):X9 prog w F (.ref C):=fun hp hG=>⟨.machine,.inr (.inl rfl),fun A Q E s k q=>by
 have X:K.In s.heap:=fun a o e=>k _ _ (hG _ _ (hk a o e))
 unfold keeperOf
 refine wpAny_bind (wpAny_load (X _ _ ho) ?_)
 rw[hd]
 refine wpAny_bind ((looks_specialIn X hs).here ?_)
 exact wpAny_pure q⟩
end
example:True:=by
 k_with "m glo" => (first
  | with_reducible exact TH (by assumption) (by assumption) (by assumption)
  | with_reducible exact XK (by assumption) (by assumption) (by assumption)
  | with_reducible exact NR (by assumption) (by assumption))
 trivial
noncomputable def YY (P:Params):FuncData:=XW (Nl P)
theorem Gj (P:Params):XE (Zp P) 196 (YY P):=Yh (Nl P) (by kernel_rfl) (by kernel_rfl) (by kernel_rfl)
theorem Gk {P:Params} {a0 a1 a2 a3 a4:AV}:YO (YY P).scope.names ["self", "alo", "ahi", "blo", "bhi"] [a0,a1,a2,a3,a4]=[some a0,some a1,some a2,some a3,some a4,none,none,none,none,none,none,none,none,none,none,none,none,none,none,none,none,none]:=by kernel_rfl
theorem Ed (P:Params):DefOk (YY P) ["self", "alo", "ahi", "blo", "bhi"]:=Yg rfl (of_decide_eq_true (by kernel_rfl)) (by kernel_rfl) (of_decide_eq_true (by kernel_rfl)) (by kernel_rfl)
noncomputable def Ee:List (Str×NameKind):=[("self",.local),("alo",.local),("ahi",.local),("blo",.local),("bhi",.local),("a",.local),("b",.local),("b2j",.local),("isbjunk",.local),("besti",.local),("bestj",.local),("bestsize",.local),("j2len",.local),("nothing",.local),("i",.local),("j2lenget",.local),("newj2len",.local),("j",.local),("k",.local),("len",.globalImplicit),("range",.globalImplicit),("Match",.globalImplicit)]
theorem MW (P:Params):(YY P).scope.names=Ee:=by kernel_rfl
noncomputable def Wy (x dx:Addr) (A B:List Int) (idx:Int->List Nat) (m alo ahi blo bhi:Nat) (prog:Program) (w:World) (b:N3) (jl:AV):List (Option AV) :=
 [some (ZL x dx),some (.int alo),some (.int ahi),some (.int blo),some (.int bhi),some (il A),some (il B),some (dct (Wd idx) m),some (bnd "set.__contains__" (Z9 prog w)),some (.int b.1),some (.int b.2.1),some (.int b.2.2),some jl,some (.lst []),none,none,none,none,none,none,none,none]
noncomputable def TN (x dx:Addr) (A B:List Int) (idx:Int->List Nat) (m alo ahi blo bhi:Nat) (prog:Program) (w:World) (b:N3) (jl:AV) (i:Nat) (D:Addr):List (Option AV) :=
 [some (ZL x dx),some (.int alo),some (.int ahi),some (.int blo),some (.int bhi),some (il A),some (il B),some (dct (Wd idx) m),some (bnd "set.__contains__" (Z9 prog w)),some (.int b.1),some (.int b.2.1),some (.int b.2.2),some jl,some (.lst []),some (.int i),some (bnd "dict.get" jl),some (.ptr D),none,none,none,none,none]
theorem Gl {x dx:Addr} {A B:List Int} {idx:Int->List Nat} {m alo ahi blo bhi:Nat} {prog:Program} {w:World} {b:N3} {jl jl' jl'':AV} {i:Nat} {D:Addr} :
  Sub (Wy x dx A B idx m alo ahi blo bhi prog w b jl) (((TN x dx A B idx m alo ahi blo bhi prog w b jl' i D).set 12 (some jl'')).set 12 (some jl)):=by
 unfold Wy TN
 exact ⟨rfl,rfl,rfl,rfl,rfl,rfl,rfl,rfl,rfl,rfl,rfl,rfl,rfl,rfl,trivial⟩
set_option maxHeartbeats 20000000 in
theorem Uc {lo b n:Nat} (h:lo<b) (h2:b≤n):b-1<n:=lt_of_lt_of_le (sub_lt (lt_of_le_of_lt (zero_le _) h) one_pos) h2
theorem Tc {l:List Int} {b lo:Nat} (q:(b:Int)>lo) (h:b≤l.length):l[((b:Int)-1).toNat]?=some (l.getD (b-1) 0):=by rw[show ((b:Int)-1).toNat=b-1 from toNat_sub b 1];exact getD_some (Uc (Int.ofNat_lt.mp q) h)
theorem RB {l:List Int} {b s hi:Nat} (q:(b:Int)+s<hi) (h:hi≤l.length):l[((b:Int)+s).toNat]?=some (l.getD (b+s) 0):=getD_some (lt_of_lt_of_le (Int.ofNat_lt.mp q) h)
theorem PT {lo b:Nat} (q:(lo:Int)<b):0<b:=lt_of_le_of_lt (zero_le _) (Int.ofNat_lt.mp q)
theorem Gm {l s n:Nat} (hn:n=l-s) (h:s<l):l-(s+1)<n:=by subst hn;exact Nat.sub_succ_lt_self l s h
theorem Gn {l f s:Nat} (h:l≤f+s):l≤f-1+(s+1):=by
 cases f with
 | zero=>exact Nat.le_trans h (Nat.le_trans (le_of_eq (zero_add s)) (Nat.le_trans (le_succ s) (Nat.le_add_left _ _)))
 | succ f=>exact Nat.le_trans h (le_of_eq (Nat.succ_add_eq_add_succ f s))
theorem Jq {a:Nat}:-(2 ^ 62)≤(a:Int):=by omega
theorem Jr {a n:Nat} (h:a≤n) (h2:n≤1000000):(a:Int)<2 ^ 62:=Int.lt_of_le_of_lt (Int.ofNat_le.mpr (Nat.le_trans h h2)) (by decide)
theorem Js {prog:Program} {w:World} {x dx:Addr} {as:List (Str×AV)} {A B:List Int} {okx:Int->Bool} {idx:Int->List Nat} {m alo ahi blo bhi:Nat} (hI:IdxOk B okx idx) (va:as.lookup (Str.ofString "a")=some (il A)) (vb:as.lookup (Str.ofString "b")=some (il B)) (vj:as.lookup (Str.ofString "b2j")=some (dct (Wd idx) m)) (vk:as.lookup (Str.ofString "bjunk")=some (Z9 prog w))
  (ha:ahi≤A.length) (hb:bhi≤B.length) (hsa:A.length≤1000000) (hsb:B.length≤1000000) (hal:alo≤A.length) (hbl:blo≤B.length) :
  VH prog w (SK w) 6 (.ref 196) [ZL x dx,.int alo,.int ahi,.int blo,.int bhi] [(dx,Zm as)] fun d om₂=>d=YB 135 (flm A B okx idx alo ahi blo bhi)∧om₂=[(dx,Zm as)]:=by
 refine Qw (K:=Zp w.params) (dd:=[]) (dv:=[]) (Ed w.params) (fun V hV=>Ye hV (Gj w.params) (VV w.params) rfl rfl) rfl (fun V=>Zn.nil) (fun h vs hX hv=>?_) (fun xAr xG xs xB room fok=>?_)
 ·obtain ⟨v0,v1,v2,v3,v4,rfl⟩:=BO hv
  exact Looks.of_peek hX (by kernel_rfl)
 rw[append_nil,Gk]
 have xg:(Zd (YY w.params) 196 xAr xG xs).env.globals=mainGlobals:=rfl
 have xb:(Zd (YY w.params) 196 xAr xG xs).env.builtins=builtinsNs:=rfl
 have hk:Zo (Zp w.params) (Zd (YY w.params) 196 xAr xG xs).G:=xB
 have xN:(Zd (YY w.params) 196 xAr xG xs).names=(YY w.params).scope.names:=rfl
 have xA:Room (Zd (YY w.params) 196 xAr xG xs).A _:=room
 have xn:(Zd (YY w.params) 196 xAr xG xs).n₀=xs.heap.objs.size:=rfl
 have xi:interactive (Zd (YY w.params) 196 xAr xG xs).env=false:=rfl
 have xS:(Zd (YY w.params) 196 xAr xG xs).env.scope=(YY w.params).scope:=rfl
 generalize Zd (YY w.params) 196 xAr xG xs=F at fok xg xb hk xN xA xn xi xS ⊢
 have xN1:=xN.trans (MW w.params)
 have xn0:At F "self" 0 .local:=Za fok xN1 0 rfl (by kernel_rfl)
 have xn1:At F "alo" 1 .local:=Za fok xN1 1 rfl (by kernel_rfl)
 have xn2:At F "ahi" 2 .local:=Za fok xN1 2 rfl (by kernel_rfl)
 have xn3:At F "blo" 3 .local:=Za fok xN1 3 rfl (by kernel_rfl)
 have xn4:At F "bhi" 4 .local:=Za fok xN1 4 rfl (by kernel_rfl)
 have xn5:At F "a" 5 .local:=Za fok xN1 5 rfl (by kernel_rfl)
 have xn6:At F "b" 6 .local:=Za fok xN1 6 rfl (by kernel_rfl)
 have xn7:At F "b2j" 7 .local:=Za fok xN1 7 rfl (by kernel_rfl)
 have xn8:At F "isbjunk" 8 .local:=Za fok xN1 8 rfl (by kernel_rfl)
 have xn9:At F "besti" 9 .local:=Za fok xN1 9 rfl (by kernel_rfl)
 have xn10:At F "bestj" 10 .local:=Za fok xN1 10 rfl (by kernel_rfl)
 have xn11:At F "bestsize" 11 .local:=Za fok xN1 11 rfl (by kernel_rfl)
 have xn12:At F "j2len" 12 .local:=Za fok xN1 12 rfl (by kernel_rfl)
 have xn13:At F "nothing" 13 .local:=Za fok xN1 13 rfl (by kernel_rfl)
 have xn14:At F "i" 14 .local:=Za fok xN1 14 rfl (by kernel_rfl)
 have xn15:At F "j2lenget" 15 .local:=Za fok xN1 15 rfl (by kernel_rfl)
 have xn16:At F "newj2len" 16 .local:=Za fok xN1 16 rfl (by kernel_rfl)
 have xn17:At F "j" 17 .local:=Za fok xN1 17 rfl (by kernel_rfl)
 have xn18:At F "k" 18 .local:=Za fok xN1 18 rfl (by kernel_rfl)
 have xn19:At F "len" 19 .globalImplicit:=Za fok xN1 19 rfl (by kernel_rfl)
 have xn20:At F "range" 20 .globalImplicit:=Za fok xN1 20 rfl (by kernel_rfl)
 have xn21:At F "Match" 21 .globalImplicit:=Za fok xN1 21 rfl (by kernel_rfl)
 refine PA (hk 242 (RN w.params) (by kernel_rfl)) fun hlow=>?_
 walk_at "m doc"
 refine Z1 (sig':=Wy x dx A B idx m alo ahi blo bhi prog w (0,0,0) .none |>.set 9 none |>.set 10 none |>.set 11 none |>.set 12 none |>.set 13 none) (om':=[(dx,Zm as)]) (UJ (Xl fok (ds:=[il A,il B,dct (Wd idx) m,bnd "set.__contains__" (Z9 prog w)]) (Ze (by walk_at "m ev") (Ze (by walk_at "m ev") (Ze (by walk_at "m ev") (Ze (UL fok (by walk_at "m ev")) Zq rfl) rfl) rfl) rfl) (show 4≤sizeLine by decide)) (XT fok (Zl (Zf fok (k:=5) (by walk_at "m st")) (Zl (Zf fok (k:=6) (by walk_at "m st")) (Zl (Zf fok (k:=7) (by walk_at "m st")) (Zl (Zf fok (k:=8) (by walk_at "m st")) Xn)))) rfl) rfl rfl) ?_
 refine Xv (Z0 (d₁:=.int ahi) (d₂:=.none) (by walk_at "m ev") (by walk_at "m ev") (To fun V v h=>by obtain ⟨t,rfl⟩:=h;rfl) rfl) (Zy ?_)
 refine Xv (Z0 (d₁:=.int bhi) (d₂:=.none) (by walk_at "m ev") (by walk_at "m ev") (To fun V v h=>by obtain ⟨t,rfl⟩:=h;rfl) rfl) (Zy ?_)
 refine VM fok (k₁:=9) (k₂:=10) (k₃:=11) (by walk_at "m st") (by walk_at "m st") (by walk_at "m st") (by walk_at "m ev") rfl ((swS xS _ _).trans (by kernel_rfl)) ?_
 refine Yy fok (k:=12) (by walk_at "m st") (VF fok (P:=fun d om'=>∃ D,F.n₀≤D∧d=.ptr D∧om'=(D,Z7 (fun _=>none) 0)::[(dx,Zm as)]) fun D hD=>⟨D,hD,rfl,rfl⟩) ?_ rfl
 rintro d om₁ ⟨D,hD,rfl,rfl⟩
 refine Yx fok .here hD (UV (lt_of_lt_of_le (lt_trans (by decide) hlow) hD)) (ZH.set (k:=12) rfl) OmCast.refl ?_
 walk_at "m assign"
 refine Zw (P₁:=fun o=>∃ m',o=.nxt (Wy x dx A B idx m alo ahi blo bhi prog w (ZD A B okx alo blo bhi (ZZ A idx alo blo bhi (ahi-alo))) (dct (natD (rowP A B okx alo blo bhi (alo+(ahi-alo)))) m')) [(dx,Zm as)])
  (YS fok (d:=.rng alo ahi) (xs:=ZC alo ahi) (by walk_at "m ev") (UU fok Jq (Jr hal hsa) Jq (Jr ha hsa))
   (fun n sig om=>∃ m',sig=Wy x dx A B idx m alo ahi blo bhi prog w (ZD A B okx alo blo bhi (ZZ A idx alo blo bhi n)) (dct (natD (rowP A B okx alo blo bhi (alo+n))) m')∧om=[(dx,Zm as)])
   ⟨_,Sub.refl,0,?_,rfl⟩ ?_ ?_ (by intro _;rfl)) ?_
 ·rw[PN,S3];rfl
 ·-- a row
  rintro n _ sig om hx ⟨m',rfl,rfl⟩
  obtain ⟨hn,rfl⟩:=Y6 hx
  have hn:n<ahi-alo:=Nat.lt_of_lt_of_eq hn (toNat_sub ahi alo)
  have hai:alo+n<A.length:=lt_of_lt_of_le (by rw[add_comm];exact Nat.add_lt_of_lt_sub hn) ha
  have hAi:A[((alo:Int)+(n:Nat)).toNat]?=some (A.getD (alo+n) 0):=by
   rw[show ((alo:Int)+(n:Nat)).toNat=alo+n by first | rfl | lia];simp[List.getD,hai]
  rw[show ((alo:Int)+(n:Nat))=((alo+n:Nat):Int) by first | rfl | lia] at hAi ⊢
  generalize hgi:alo+n=i at hai hAi
  have hali:alo≤i:=hgi▸Nat.le_add_right alo n
  generalize hL:idx (A.getD i 0)=L
  have hLs:L.Pairwise (·<·):=hL▸hI.sorted _
  have hLm:∀ j,j∈L->okx (A.getD i 0)=true∧B[j]?=some (A.getD i 0):=fun j hj=>(hI.mem _ j).mp (hL▸hj)
  have hLn:L.length≤B.length:=PS hLs fun j hj=>(List.getElem?_eq_some_iff.mp (hLm j hj).2).1
  refine ⟨_,Zf fok (k:=14) (by walk_at "m st"),?_⟩
  refine ZF fok (k:=15) (by walk_at "m st") (Ql fok (by walk_at "m ev")) rfl ?_
  refine Yy fok (k:=16) (by walk_at "m st") (VF fok (P:=fun d om'=>∃ D,F.n₀≤D∧d=.ptr D∧om'=(D,Z7 (fun _=>none) 0)::[(dx,Zm as)]) fun D hD=>⟨D,hD,rfl,rfl⟩) ?_ rfl
  rintro d om₁ ⟨D',hD',rfl,rfl⟩
  refine Zw (P₁:=fun o=>∃ mm,o=.nxt (TN x dx A B idx m alo ahi blo bhi prog w (ZD A B okx alo blo bhi (ZZ A idx alo blo bhi n++(inr blo bhi L).map fun j=>(i,j))) (dct (natD (rowP A B okx alo blo bhi i)) m') i D') [(D',Z7 (natD (WV A B okx alo blo bhi i (inr blo bhi L))) mm),(dx,Zm as)])
   (YS fok (d:=nl L) (xs:=L.map fun (j:Nat)=>AV.int (j:Int)) (Zt (GJ (Ys _ (by walk_at "m ev") (Kc PySem.F.slot_dict_get PySem.F.type_dict_get) Zs (Xo (ds:=[.int (A.getD i 0),.lst []]) (by walk_at "m evl") (LZ Pu ⟨rfl,rfl⟩)) rfl rfl)) (by rw[Jo,hL])) (YD fok)
    (fun t sig om=>∃ mm,mm≤t∧sig=TN x dx A B idx m alo ahi blo bhi prog w (ZD A B okx alo blo bhi (ZZ A idx alo blo bhi n++(inr blo bhi (L.take t)).map fun j=>(i,j))) (dct (natD (rowP A B okx alo blo bhi i)) m') i D'∧om=[(D',Z7 (natD (WV A B okx alo blo bhi i (inr blo bhi (L.take t)))) mm),(dx,Zm as)])
    ⟨_,Sub.refl,0,le_refl _,?_,?_⟩ ?_ ?_ (by intro _;rfl)) ?_
  ·rw[List.take_zero]
   show _=TN x dx A B idx m alo ahi blo bhi prog w (ZD A B okx alo blo bhi (ZZ A idx alo blo bhi n++[])) _ i D'
   rw[append_nil];rfl
  ·rw[List.take_zero]
   show _=[(D',Z7 (natD (WV A B okx alo blo bhi i [])) 0),(dx,Zm as)]
   rw[MU,S3]
  ·-- one place
   rintro t _ sig om hx ⟨mm,hmm,rfl,rfl⟩
   rw[getElem?_map,Option.map_eq_some_iff] at hx
   obtain ⟨j,hj,rfl⟩:=hx
   have hjL:j∈L:=mem_of_getElem? hj
   obtain ⟨hok,hBj⟩:=hLm j hjL
   have hjb:j<B.length:=(List.getElem?_eq_some_iff.mp hBj).1
   have ht:t<L.length:=(List.getElem?_eq_some_iff.mp hj).1
   have htk:L.take (t+1)=L.take t++[j]:=by rw[List.take_add_one,hj];rfl
   have hsl:(1000000:Nat)≤sizeLine:=by decide
   generalize hjl:dct (natD (rowP A B okx alo blo bhi i)) m'=jl
   refine ⟨_,Zf fok (k:=17) (by walk_at "m st"),?_⟩
   refine Wn (by walk_at "m tst") (fun c=>?_) (fun c=>Zy ?_)
   ·refine Rt ?_
    refine ⟨_,Wj (by rfl),mm,by lia,?_,?_⟩
    ·rw[htk,Ub,if_neg (by simp at c;lia),append_nil]
    ·rw[htk,Ub,if_neg (by simp at c;lia),append_nil]
   refine Wn (by walk_at "m tst") (fun c2=>?_) (fun c2=>Zy ?_)
   ·refine M8 ⟨_,Wj (by rfl),mm,?_⟩
    rw[Gg hLs hj (by simp at c2;lia)]
   have c1:blo≤j:=by simp at c;lia
   have c2:j<bhi:=by simp at c2;lia
   have hh:hit A B okx alo blo bhi i j:=⟨hali,c1,c2,A.getD i 0,by simp[List.getD,hai],hBj,hok⟩
   have hrl:=Ur hh
   have hrle:=K6 (A:=A) (B:=B) (ok:=okx) (alo:=alo) (blo:=blo) (bhi:=bhi) i j
   refine Z1 (sig':=_) (om':=[(D',Z7 (natD (WV A B okx alo blo bhi i (inr blo bhi (L.take t)++[j]))) (mm+1)),(dx,Zm as)]) (VD (P:=fun d om'=>d=.int ((rl A B okx alo blo bhi i j:Nat):Int)∧om'=_) (Wl (Zt (Zj (Zt (WL (id := "dict.get") (d₀:=dct (natD (rowP A B okx alo blo bhi i)) m') (ds:=[.int ((j:Int)-1),.int 0]) (by rw[hjl];walk_at "m ev") (by walk_at "m evl") Px) K8) (by walk_at "m ev") YN) (by rw[Jp,hrl];rfl)) ⟨rfl,rfl⟩)
    (fun d om' he=>by
     obtain ⟨rfl,rfl⟩:=he
     exact ⟨_,_,_,_,W8 (Zf fok (k:=18) (by walk_at "m st")),Qj (by walk_at "m ev") (by walk_at "m ev") (by lia) .here,by rw[K7,PO]⟩) rfl rfl) ?_
   have hbest:ZD A B okx alo blo bhi (ZZ A idx alo blo bhi n++(inr blo bhi (L.take (t+1))).map fun j=>(i,j))=up1 A B okx alo blo bhi (ZD A B okx alo blo bhi (ZZ A idx alo blo bhi n++(inr blo bhi (L.take t)).map fun j=>(i,j))) (i,j):=by
    rw[htk,Ub,if_pos ⟨c1,c2⟩,map_append,<-append_assoc]
    exact U6
   have hin:inr blo bhi (L.take (t+1))=inr blo bhi (L.take t)++[j]:=by rw[htk,Ub,if_pos ⟨c1,c2⟩]
   rw[hbest,hin]
   generalize ZD A B okx alo blo bhi (ZZ A idx alo blo bhi n++(inr blo bhi (L.take t)).map fun j=>(i,j))=bb
   rw[Ec]
   refine Wn (by walk_at "m tst") (fun c3=>?_) (fun c3=>Zy ?_)
   ·rw[if_pos (by simp at c3;lia)]
    refine VM fok (k₁:=9) (k₂:=10) (k₃:=11) (by walk_at "m st") (by walk_at "m st") (by walk_at "m st") (Zt (by walk_at "m ev") (QM (a':=((i+1-rl A B okx alo blo bhi i j:Nat):Int)) (b':=((j+1-rl A B okx alo blo bhi i j:Nat):Int)) (c':=((rl A B okx alo blo bhi i j:Nat):Int)) (Sm (Nat.le_trans hrle.1 (sub_le _ _))) (Sm (Nat.le_trans hrle.2 (sub_le _ _))) rfl)) rfl ((swS xS _ _).trans (by kernel_rfl)) (Zy ?_)
    exact Zk ⟨_,Sub.trans (Wj (k:=17) (by rfl)) (Wj (k:=18) (by rfl)),mm+1,by lia,rfl,rfl⟩
   ·rw[if_neg (by simp at c3;lia)]
    exact Zk ⟨_,Sub.trans (Wj (k:=17) (by rfl)) (Wj (k:=18) (by rfl)),mm+1,by lia,rfl,rfl⟩
  ·rintro sig om ⟨mm,_,rfl,rfl⟩
   refine ⟨mm,?_⟩
   rw[length_map,take_length]
  ·rintro o ⟨mm,rfl⟩
   walk_at "m assign"
   refine Yx fok .here hD' (UV (lt_of_lt_of_le (lt_trans (by decide) hlow) hD')) (ZH.set (k:=12) rfl) OmCast.refl ?_
   have e1:inr blo bhi L=UN A idx blo bhi i:=by unfold UN inr;rw[hL]
   have e2:ZZ A idx alo blo bhi (n+1)=ZZ A idx alo blo bhi n++(UN A idx blo bhi i).map fun j=>(i,j):=by rw[TC,hgi]
   have e3:alo+(n+1)=i+1:=by first | rfl | lia
   rw[e1,PQ hI hali hai,<-e2]
   refine Zk ⟨_,Gl,mm,by rw[e3],rfl⟩
 ·rintro sig om ⟨m',rfl,rfl⟩
  refine ⟨m',?_⟩
  have:(ZC alo ahi).length=ahi-alo:=by unfold ZC;rw[length_map,length_range];exact toNat_sub _ _
  rw[this]
 rintro o ⟨m',rfl⟩
 obtain ⟨hb1,hb2⟩:=Gh (A:=A) (B:=B) (okx:=okx) (alo:=alo) (blo:=blo) (bhi:=bhi) (cs:=ZZ A idx alo blo bhi (ahi-alo)) (M:=A.length) (N:=B.length) (fun c hc=>by
  have:=MV hc
  exact ⟨lt_of_lt_of_le this.1 (PR hal ha),lt_of_lt_of_le this.2 hb⟩) hal hbl
 unfold flm
 generalize ZD A B okx alo blo bhi (ZZ A idx alo blo bhi (ahi-alo))=b0 at hb1 hb2
 generalize dct (natD (rowP A B okx alo blo bhi (alo+(ahi-alo)))) m'=jl
 refine Zw (P₁:=fun o=>∃ b1:N3,b1.1≤A.length∧b1.2.1≤B.length∧Vx A B alo blo A.length b0=b1∧o=.nxt (Wy x dx A B idx m alo ahi blo bhi prog w b1 jl) [(dx,Zm as)])
  (XQ (fun n sig om=>∃ (b:N3) (f:Nat),n=b.1∧b.1≤A.length∧b.2.1≤B.length∧b.1≤f∧Vx A B alo blo A.length b0=Vx A B alo blo f b∧sig=Wy x dx A B idx m alo ahi blo bhi prog w b jl∧om=[(dx,Zm as)]) b0.1 ⟨_,Sub.refl,b0,A.length,rfl,hb1,hb2,hb1,rfl,rfl,rfl⟩ ?_) ?_
 ·rintro n _ _ ⟨⟨bi,bj,bs⟩,f,hn,h1,h2,h3,h4,rfl,rfl⟩
  dsimp only at hn h1 h2 h3 h4
  refine ⟨_,Xk (all_cons (by walk_at "m tst") fun q1=>all_cons (by walk_at "m tst") fun q2=>all_cons (Rb (ZT (WL (id := "set.__contains__") (d₀:=Z9 prog w) (ds:=[.int (B.getD (bj-1) 0)]) (by walk_at "m ev") (by
    have q2:(bj:Int)>blo:=by simpa using q2
    have g1:B[((bj:Int)-1).toNat]?=some (B.getD (bj-1) 0):=Tc q2 h2
    walk_at "m evl") Xp) X2 (by intro _;rfl))) fun _=>all_cons (Z0 (d₁:=.int (A.getD (bi-1) 0)) (d₂:=.int (B.getD (bj-1) 0)) (by
    have q1:(bi:Int)>alo:=by simpa using q1
    have g1:A[((bi:Int)-1).toNat]?=some (A.getD (bi-1) 0):=Tc q1 h1
    walk_at "m ev") (by
    have q2:(bj:Int)>blo:=by simpa using q2
    have g1:B[((bj:Int)-1).toNat]?=some (B.getD (bj-1) 0):=Tc q2 h2
    walk_at "m ev") WZ rfl) fun _=>US),fun c=>?_,fun c=>?_⟩
  ·refine ⟨(bi,bj,bs),h1,h2,?_,rfl⟩
   rw[h4]
   cases f with
   | zero=>rfl
   | succ f =>
    show (if alo<bi∧blo<bj∧A[bi-1]?=B[bj-1]? then _ else _)=_
    rw[if_neg]
    rintro ⟨z1,z2,z3⟩
    rw[getD_some (l:=A) (Uc z1 h1),getD_some (l:=B) (Uc z2 h2),Option.some.injEq] at z3
    rw[z3] at c
    simp[z1,z2] at c
  ·simp only[Bool.and_true,Bool.not_false,Bool.true_and,Bool.and_eq_true,decide_eq_true_eq,beq_iff_eq] at c
   obtain ⟨c1,c2,c3⟩:=c
   refine VM fok (k₁:=9) (k₂:=10) (k₃:=11) (by walk_at "m st") (by walk_at "m st") (by walk_at "m st") (Zt (by walk_at "m ev") (QM (a':=((bi-1:Nat):Int)) (b':=((bj-1:Nat):Int)) (c':=((bs+1:Nat):Int)) (by exact Sn (PT c1)) (by exact Sn (PT c2)) (by rfl))) rfl ((swS xS _ _).trans (by kernel_rfl)) ?_
   refine Zk ⟨bi-1,Nat.lt_of_lt_of_eq (sub_lt (PT c1) one_pos) hn.symm,_,Sub.refl,(bi-1,bj-1,bs+1),f-1,rfl,Nat.le_trans (sub_le _ _) h1,Nat.le_trans (sub_le _ _) h2,Nat.sub_le_sub_right h3 1,?_,rfl,rfl⟩
   rw[h4]
   cases f with
   | zero=>lia
   | succ f =>
    show (if alo<bi∧blo<bj∧A[bi-1]?=B[bj-1]? then _ else _)=_
    rw[if_pos ⟨Int.ofNat_lt.mp c1,Int.ofNat_lt.mp c2,by rw[getD_some (l:=A) (Uc (Int.ofNat_lt.mp c1) h1),getD_some (l:=B) (Uc (Int.ofNat_lt.mp c2) h2),c3]⟩]
    rfl
 rintro o ⟨b1,hc1,hc2,e1,rfl⟩
 rw[e1]
 refine Zw (P₁:=fun o=>∃ b2:N3,b2.1≤A.length∧b2.2.1≤B.length∧VL A B ahi bhi A.length b1=b2∧o=.nxt (Wy x dx A B idx m alo ahi blo bhi prog w b2 jl) [(dx,Zm as)])
  (XQ (fun n sig om=>∃ (b:N3) (f:Nat),n=A.length-(b.1+b.2.2)∧b.1≤A.length∧b.2.1≤B.length∧A.length≤f+(b.1+b.2.2)∧VL A B ahi bhi A.length b1=VL A B ahi bhi f b∧sig=Wy x dx A B idx m alo ahi blo bhi prog w b jl∧om=[(dx,Zm as)]) (A.length-(b1.1+b1.2.2)) ⟨_,Sub.refl,b1,A.length,rfl,hc1,hc2,by lia,rfl,rfl,rfl⟩ ?_) ?_
 ·rintro n _ _ ⟨⟨bi,bj,bs⟩,f,hn,h1,h2,h3,h4,rfl,rfl⟩
  dsimp only at hn h1 h2 h3 h4
  refine ⟨_,Xk (all_cons (by walk_at "m tst") fun q1=>all_cons (by walk_at "m tst") fun q2=>all_cons (Rb (ZT (WL (id := "set.__contains__") (d₀:=Z9 prog w) (ds:=[.int (B.getD (bj+bs) 0)]) (by walk_at "m ev") (by
    have q2:(bj:Int)+bs<bhi:=by simpa using q2
    have g1:B[((bj:Int)+bs).toNat]?=some (B.getD (bj+bs) 0):=RB q2 hb
    walk_at "m evl") Xp) X2 (by intro _;rfl))) fun _=>all_cons (Z0 (d₁:=.int (A.getD (bi+bs) 0)) (d₂:=.int (B.getD (bj+bs) 0)) (by
    have q1:(bi:Int)+bs<ahi:=by simpa using q1
    have g1:A[((bi:Int)+bs).toNat]?=some (A.getD (bi+bs) 0):=RB q1 ha
    walk_at "m ev") (by
    have q2:(bj:Int)+bs<bhi:=by simpa using q2
    have g1:B[((bj:Int)+bs).toNat]?=some (B.getD (bj+bs) 0):=RB q2 hb
    walk_at "m ev") WZ rfl) fun _=>US),fun c=>?_,fun c=>?_⟩
  ·refine ⟨(bi,bj,bs),h1,h2,?_,rfl⟩
   rw[h4]
   cases f with
   | zero=>rfl
   | succ f =>
    show (if bi+bs<ahi∧bj+bs<bhi∧A[bi+bs]?=B[bj+bs]? then _ else _)=_
    rw[if_neg]
    rintro ⟨z1,z2,z3⟩
    rw[getD_some (l:=A) (lt_of_lt_of_le z1 ha),getD_some (l:=B) (lt_of_lt_of_le z2 hb),Option.some.injEq] at z3
    have y1:(bi:Int)+bs<ahi:=Int.ofNat_lt.mpr z1
    have y2:(bj:Int)+bs<bhi:=Int.ofNat_lt.mpr z2
    rw[z3] at c
    simp[y1,y2] at c
  ·simp only[Bool.and_true,Bool.not_false,Bool.true_and,Bool.and_eq_true,decide_eq_true_eq,beq_iff_eq] at c
   obtain ⟨c1,c2,c3⟩:=c
   refine NM fok (k:=11) (a:=bs) (b:=1) (At.of fok (kind:=.local) (by rw[xN];rfl) (by kernel_rfl)) rfl (by walk_at "m st") (by walk_at "m ev") ?_
   rw[show (bs:Int)+1=((bs+1:Nat):Int) by first | rfl | lia]
   refine Zk ⟨A.length-(bi+(bs+1)),Gm hn (lt_of_lt_of_le (Int.ofNat_lt.mp c1) ha),_,Sub.refl,(bi,bj,bs+1),f-1,rfl,h1,h2,Gn h3,?_,rfl,rfl⟩
   rw[h4]
   cases f with
   | zero=>lia
   | succ f =>
    show (if bi+bs<ahi∧bj+bs<bhi∧A[bi+bs]?=B[bj+bs]? then _ else _)=_
    rw[if_pos ⟨Int.ofNat_lt.mp c1,Int.ofNat_lt.mp c2,by rw[getD_some (l:=A) (lt_of_lt_of_le (Int.ofNat_lt.mp c1) ha),getD_some (l:=B) (lt_of_lt_of_le (Int.ofNat_lt.mp c2) hb),c3]⟩]
    rfl
 rintro o ⟨⟨bi,bj,bs⟩,hd1,hd2,e2,rfl⟩
 dsimp only at hd1 hd2
 rw[e2]
 refine Z1 (sig':=(Wy x dx A B idx m alo ahi blo bhi prog w (bi,bj,bs) jl)) (om':=[(dx,Zm as)]) (XQ (fun n sig om=>n=0∧sig=Wy x dx A B idx m alo ahi blo bhi prog w (bi,bj,bs) jl∧om=[(dx,Zm as)]) 0 ⟨_,Sub.refl,rfl,rfl,rfl⟩ (by
  rintro n _ _ ⟨rfl,rfl,rfl⟩
  refine ⟨false,ZS (Xk (all_cons (by walk_at "m tst") fun q1=>all_cons (by walk_at "m tst") fun q2=>all_cons (b:=false) (ZT (WL (id := "set.__contains__") (d₀:=Z9 prog w) (ds:=[.int (B.getD (bj-1) 0)]) (by walk_at "m ev") (by
    have q2:(bj:Int)>blo:=by simpa using q2
    have g1:B[((bj:Int)-1).toNat]?=some (B.getD (bj-1) 0):=Tc q2 hd2
    walk_at "m evl") Xp) X2 (by intro _;rfl)) (fun h=>by cases h))) (by simp),fun _=>rfl,fun h=>by cases h⟩)) ?_
 refine Z1 (sig':=(Wy x dx A B idx m alo ahi blo bhi prog w (bi,bj,bs) jl)) (om':=[(dx,Zm as)]) (XQ (fun n sig om=>n=0∧sig=Wy x dx A B idx m alo ahi blo bhi prog w (bi,bj,bs) jl∧om=[(dx,Zm as)]) 0 ⟨_,Sub.refl,rfl,rfl,rfl⟩ (by
  rintro n _ _ ⟨rfl,rfl,rfl⟩
  refine ⟨false,ZS (Xk (all_cons (by walk_at "m tst") fun q1=>all_cons (by walk_at "m tst") fun q2=>all_cons (b:=false) (ZT (WL (id := "set.__contains__") (d₀:=Z9 prog w) (ds:=[.int (B.getD (bj+bs) 0)]) (by walk_at "m ev") (by
    have q2:(bj:Int)+bs<bhi:=by simpa using q2
    have g1:B[((bj:Int)+bs).toNat]?=some (B.getD (bj+bs) 0):=RB q2 hb
    walk_at "m evl") Xp) X2 (by intro _;rfl)) (fun h=>by cases h))) (by simp),fun _=>rfl,fun h=>by cases h⟩)) ?_
 refine ZU (Zv (by walk_at "m ev") (TM hk (o:=GG w.params) (by kernel_rfl) rfl (by kernel_rfl)) (by walk_at "m evl") (Gi fok hk (xA.mono (by decide))) rfl rfl) ⟨⟨rfl,rfl⟩,fun b hb=>.inl hb⟩
end
section
noncomputable abbrev Xq (q:N4):AV:=.tup [.int (q.1:Nat),.int (q.2.1:Nat),.int (q.2.2.1:Nat),.int (q.2.2.2:Nat)]
noncomputable abbrev XG (q:N3):AV:=.tup [.int (q.1:Nat),.int (q.2.1:Nat),.int (q.2.2:Nat)]
theorem NT {C:Addr} {ms:List N3}:(ms.map n3T).map (WH C)=ms.map (YB C):=by rw[map_map];rfl
noncomputable def Xs (qs:List N4):Nat:=(qs.map fun q=>2*(q.2.1-q.1)+1).sum
theorem PU {qs:List N4} {q:N4}:Xs (qs++[q])=Xs qs+(2*(q.2.1-q.1)+1):=by unfold Xs;simp
theorem Ud {qs qs':List N4}:Xs (qs++qs')=Xs qs+Xs qs':=by unfold Xs;simp
theorem QN {c:Prop} [Decidable c] {q:N4}:Xs (if c then [q] else [])=if c then 2*(q.2.1-q.1)+1 else 0:=by
 split
 ·unfold Xs;simp
 ·rfl
theorem MX {l1 l2 l3 l4:List N3} {r:N3} {t:List N3} (h:(l1++(l2++(l3++r::l4))).Perm t):((l1++[r])++(l2++l3++l4)).Perm t:=by
 refine List.Perm.trans ?_ h
 rw[List.perm_iff_count]
 intro a
 simp only[List.count_append,List.count_cons,List.count_nil]
 lia
theorem Go {c:Prop} [Decidable c] {q:N4}:(if c then [q] else []).length≤1:=by
 split
 ·exact le_refl _
 ·exact zero_le _
theorem SE {qs:List N4}:qs.length≤Xs qs:=by
 induction qs with
 | nil=>exact zero_le _
 | cons q qs ih =>
  have:Xs (q::qs)=(2*(q.2.1-q.1)+1)+Xs qs:=by unfold Xs;simp
  rw[this,length_cons];lia
theorem GQ {a b c d:Int} {a' b' c' d':Int} (h1:a=a') (h2:b=b') (h3:c=c') (h4:d=d'):AV.tup [.int a,.int b,.int c,.int d]=.tup [.int a',.int b',.int c',.int d']:=by subst h1 h2 h3 h4;rfl
set_option tactic.hygienic true in
theorem SF {x:Str} {d:AV}:∀ {as:List (Str×AV)},as.lookup x=some d->Z2 x d as=as
 | [],h=>by cases h
 | (y,e)::r,h=>by
  unfold Z2
  split
  ·rename_i q;subst q;rw[lookup_cons] at h;simp at h;rw[h]
  ·rename_i q
   rw[lookup_cons,show (x==y)=false by simpa using fun e:x=y=>q e.symm] at h
   rw[SF h]
theorem Ef (P:Params):typeIn (Zp P) (.ref 196)=some (.type "function"):=by kernel_rfl
theorem Eg (P:Params):findIn (Zp P) (.ref 242) "find_longest_match" = some (some (.ref 196)):=by kernel_rfl
example:True:=by
 k_with "m glo" => (first
  | with_reducible exact TH (by assumption) (by assumption) (by assumption)
  | with_reducible exact F5 (by assumption) (by assumption) (by assumption)
  | with_reducible exact BZ (by assumption) (by assumption) (by assumption)
  | with_reducible exact NR (by assumption) (by assumption))
 trivial
noncomputable def YZ (P:Params):FuncData:=XW (Nm P)
theorem Gp (P:Params):XE (Zp P) 203 (YZ P):=Yh (Nm P) (by kernel_rfl) (by kernel_rfl) (by kernel_rfl)
theorem Gq {P:Params} {a0:AV}:YO (YZ P).scope.names ["self"] [a0]=[some a0,none,none,none,none,none,none,none,none,none,none,none,none,none,none,none,none,none,none,none,none,none,none,none]:=by kernel_rfl
theorem Eh (P:Params):DefOk (YZ P) ["self"]:=Yg rfl (of_decide_eq_true (by kernel_rfl)) (by kernel_rfl) (of_decide_eq_true (by kernel_rfl)) (by kernel_rfl)
noncomputable def Ei:List (Str×NameKind):=[("self",.local),("la",.local),("lb",.local),("queue",.local),("matching_blocks",.local),("alo",.local),("ahi",.local),("blo",.local),("bhi",.local),("i",.local),("j",.local),("k",.local),("x",.local),("i1",.local),("j1",.local),("k1",.local),("non_adjacent",.local),("i2",.local),("j2",.local),("k2",.local),("len",.globalImplicit),("list",.globalImplicit),("map",.globalImplicit),("Match",.globalImplicit)]
theorem MY (P:Params):(YZ P).scope.names=Ei:=by kernel_rfl
noncomputable def MZ (x dx Q M:Addr) (la lb:Nat):List (Option AV):=[some (ZL x dx),some (.int la),some (.int lb),some (.ptr Q),some (.ptr M),none,none,none,none,none,none,none,none,none,none,none,none,none,none,none,none,none,none,none]
noncomputable def Gr (x dx Q N:Addr) (la lb:Nat) (L:AV) (b:N3):List (Option AV):=[some (ZL x dx),some (.int la),some (.int lb),some (.ptr Q),some L,none,none,none,none,none,none,none,none,some (.int b.1),some (.int b.2.1),some (.int b.2.2),some (.ptr N),none,none,none,none,none,none,none]
theorem Jt {l:List N3} {s:N3×List N3} {b:N3}:mrg (l++[b]) s=YA (mrg l s) b:=by unfold mrg;rw[foldl_append];rfl
theorem RC {l:List N3} {s:N3×List N3}:(mrg l s).2.length≤s.2.length+l.length:=by
 induction l generalizing s with
 | nil=>exact le_refl _
 | cons b l ih =>
  have:mrg (b::l) s=mrg l (YA s b):=rfl
  rw[this]
  have h:=ih (s:=YA s b)
  have:(YA s b).2.length≤s.2.length+1:=by
   unfold YA
   split
   ·dsimp only;lia
   ·dsimp only;split
    ·lia
    ·simp
  rw[length_cons];lia
set_option maxHeartbeats 20000000 in
theorem Ju {prog:Program} {w:World} {x dx:Addr} {as:List (Str×AV)} {A B:List Int} {okx:Int->Bool} {idx:Int->List Nat} {m:Nat} {mbv bv:AV} {f:FL} (hI:IdxOk B okx idx) (va:as.lookup (Str.ofString "a")=some (il A)) (vb:as.lookup (Str.ofString "b")=some (il B)) (vj:as.lookup (Str.ofString "b2j")=some (dct (Wd idx) m)) (vk:as.lookup (Str.ofString "bjunk")=some (Z9 prog w))
  (vm:as.lookup (Str.ofString "matching_blocks")=some mbv) (vn:as.lookup (Str.ofString "find_longest_match")=none) (hz:as.length≤900) (hsa:A.length≤1000000) (hsb:B.length≤1000000)
  (ef:f=fun alo ahi blo bhi=>flm A B okx idx alo ahi blo bhi) (hf:FlOk f) (h64:(mb f (0,A.length,0,B.length)).length<64) (hbv:bv=.lst ((blocks f A.length B.length).map (YB 135))) (hmb:mbv=.none∨mbv=bv) :
  VH prog w (SK w) 10 (.ref 203) [ZL x dx] [(dx,Zm as)] fun d om₂=>d=bv∧om₂=[(dx,Zm (Z2 "matching_blocks" bv as))]:=by
 refine Wt (dd:=[]) (dv:=[]) (Eh w.params) (fun V hV=>Ye hV (Gp w.params) (VV w.params) rfl rfl) rfl (fun V=>Zn.nil) (fun vs hv=>?_) (fun xAr xG xs xB room fok=>?_)
 ·obtain ⟨v0,rfl⟩:=RO hv
  kernel_rfl
 rw[append_nil,Gq]
 have xg:(Zd (YZ w.params) 203 xAr xG xs).env.globals=mainGlobals:=rfl
 have xb:(Zd (YZ w.params) 203 xAr xG xs).env.builtins=builtinsNs:=rfl
 have hk:Zo (Zp w.params) (Zd (YZ w.params) 203 xAr xG xs).G:=xB
 have xN:(Zd (YZ w.params) 203 xAr xG xs).names=(YZ w.params).scope.names:=rfl
 have xA:Room (Zd (YZ w.params) 203 xAr xG xs).A _:=room
 have xn:(Zd (YZ w.params) 203 xAr xG xs).n₀=xs.heap.objs.size:=rfl
 have xi:interactive (Zd (YZ w.params) 203 xAr xG xs).env=false:=rfl
 have xS:(Zd (YZ w.params) 203 xAr xG xs).env.scope=(YZ w.params).scope:=rfl
 generalize Zd (YZ w.params) 203 xAr xG xs=F at fok xg xb hk xN xA xn xi xS ⊢
 have xN1:=xN.trans (MY w.params)
 have xn0:At F "self" 0 .local:=Za fok xN1 0 rfl (by kernel_rfl)
 have xn1:At F "la" 1 .local:=Za fok xN1 1 rfl (by kernel_rfl)
 have xn2:At F "lb" 2 .local:=Za fok xN1 2 rfl (by kernel_rfl)
 have xn3:At F "queue" 3 .local:=Za fok xN1 3 rfl (by kernel_rfl)
 have xn4:At F "matching_blocks" 4 .local:=Za fok xN1 4 rfl (by kernel_rfl)
 have xn5:At F "alo" 5 .local:=Za fok xN1 5 rfl (by kernel_rfl)
 have xn6:At F "ahi" 6 .local:=Za fok xN1 6 rfl (by kernel_rfl)
 have xn7:At F "blo" 7 .local:=Za fok xN1 7 rfl (by kernel_rfl)
 have xn8:At F "bhi" 8 .local:=Za fok xN1 8 rfl (by kernel_rfl)
 have xn9:At F "i" 9 .local:=Za fok xN1 9 rfl (by kernel_rfl)
 have xn10:At F "j" 10 .local:=Za fok xN1 10 rfl (by kernel_rfl)
 have xn11:At F "k" 11 .local:=Za fok xN1 11 rfl (by kernel_rfl)
 have xn12:At F "x" 12 .local:=Za fok xN1 12 rfl (by kernel_rfl)
 have xn13:At F "i1" 13 .local:=Za fok xN1 13 rfl (by kernel_rfl)
 have xn14:At F "j1" 14 .local:=Za fok xN1 14 rfl (by kernel_rfl)
 have xn15:At F "k1" 15 .local:=Za fok xN1 15 rfl (by kernel_rfl)
 have xn16:At F "non_adjacent" 16 .local:=Za fok xN1 16 rfl (by kernel_rfl)
 have xn17:At F "i2" 17 .local:=Za fok xN1 17 rfl (by kernel_rfl)
 have xn18:At F "j2" 18 .local:=Za fok xN1 18 rfl (by kernel_rfl)
 have xn19:At F "k2" 19 .local:=Za fok xN1 19 rfl (by kernel_rfl)
 have xn20:At F "len" 20 .globalImplicit:=Za fok xN1 20 rfl (by kernel_rfl)
 have xn21:At F "list" 21 .globalImplicit:=Za fok xN1 21 rfl (by kernel_rfl)
 have xn22:At F "map" 22 .globalImplicit:=Za fok xN1 22 rfl (by kernel_rfl)
 have xn23:At F "Match" 23 .globalImplicit:=Za fok xN1 23 rfl (by kernel_rfl)
 walk_at "m doc"
 have hsl:(10000000:Nat)≤sizeLine:=by decide
 rcases hmb.symm with rfl | rfl
 ·-- it stands there
  refine Rr (Z0 (d₁:=mbv) (d₂:=.none) (by walk_at "m ev") (by walk_at "m ev") (Xx (b:=false) fun V v h=>by rw[hbv] at h;obtain ⟨_,_,_,rfl,_⟩:=h;rfl) rfl) ?_
  refine ZU (d:=mbv) (by walk_at "m ev") ?_
  exact ⟨⟨rfl,by rw[SF vm]⟩,fun b hb=>.inl hb⟩
 refine Xv (Z0 (d₁:=.none) (d₂:=.none) (by walk_at "m ev") (by walk_at "m ev") (Xx (b:=true) fun V v h=>by subst h;rfl) rfl) (Zy ?_)
 have l1:A.length<2 ^ 62:=by lia
 have l2:B.length<2 ^ 62:=by lia
 refine XX fok (k₁:=1) (k₂:=2) (by walk_at "m st") (by walk_at "m st") (by walk_at "m ev") rfl ((swS xS _ _).trans (by kernel_rfl)) ?_
 refine Yy fok (k:=3) (by walk_at "m st") (Yn fok (ds:=[Xq (0,A.length,0,B.length)]) (Ze (Zt (d:=.tup [.int 0,.int (A.length:Nat),.int 0,.int (B.length:Nat)]) (by walk_at "m ev") (GQ rfl rfl rfl rfl)) Zq rfl) (show 1≤sizeLine by decide) (P:=fun d om'=>∃ Q,F.n₀≤Q∧d=.ptr Q∧om'=(Q,Zc [Xq (0,A.length,0,B.length)])::[(dx,Zm as)]) fun Q hQ=>⟨Q,hQ,rfl,rfl⟩) ?_ rfl
 rintro d om₁ ⟨Q,hQ,rfl,rfl⟩
 refine Yy fok (k:=4) (by walk_at "m st") (Yn fok (ds:=[]) (by walk_at "m evl") (show 0≤sizeLine by decide) (P:=fun d om'=>∃ M,F.n₀≤M∧d=.ptr M∧om'=(M,Zc [])::_) fun M hM=>⟨M,hM,rfl,rfl⟩) ?_ rfl
 rintro d om₁ ⟨M,hM,rfl,rfl⟩
 refine Hq (om':=[(dx,Zm as),(Q,Zc [Xq (0,A.length,0,B.length)]),(M,Zc [])]) ?_ ?_
 ·exact (List.Perm.trans (List.Perm.swap _ _ _) (List.Perm.trans (List.Perm.cons _ (List.Perm.swap _ _ _)) (List.Perm.swap _ _ _)))
 refine Zw (P₁:=fun o=>∃ ms:List N3,ms.Perm (mb f (0,A.length,0,B.length))∧o=.nxt (MZ x dx Q M A.length B.length) [(dx,Zm as),(Q,Zc []),(M,Zc (ms.map (YB 135)))])
  (XQ (fun n sig om=>∃ (qs:List N4) (ms:List N3),n=Xs qs∧n≤2*A.length+1∧(∀ q∈qs,qOk q∧q.2.1≤A.length∧q.2.2.2≤B.length)∧(ms++qs.flatMap (mb f)).Perm (mb f (0,A.length,0,B.length))∧sig=MZ x dx Q M A.length B.length∧om=[(dx,Zm as),(Q,Zc (qs.map Xq)),(M,Zc (ms.map (YB 135)))])
   (2*A.length+1) ⟨_,Sub.refl,[(0,A.length,0,B.length)],[],by unfold Xs;simp,le_refl _,?_,by simp,rfl,rfl⟩ ?_) ?_
 ·intro q hq
  rw[mem_singleton] at hq
  subst hq
  exact ⟨⟨zero_le _,zero_le _⟩,le_refl _,le_refl _⟩
 ·rintro n _ _ ⟨qs,ms,hn,hle,hq,hp,rfl,rfl⟩
  have hml:ms.length<64:=by have:=hp.length_eq;rw[length_append] at this;lia
  have hql:=SE (qs:=qs)
  refine ⟨!(qs.map Xq).isEmpty,ZT (by walk_at "m ev") (LT (mem_cons_of_mem _ mem_cons_self) (by rw[length_map];lia)) (by intro _;rfl),fun c=>?_,fun c=>?_⟩
  ·have:qs=[]:=by simpa using c
   subst this
   exact ⟨ms,by simpa using hp,rfl⟩
  ·obtain ⟨qs',⟨alo,ahi,blo,bhi⟩,rfl⟩:∃ qs' q,qs=qs'++[q]:=⟨qs.dropLast,qs.getLast (by rintro rfl;simp at c),(List.dropLast_concat_getLast _).symm⟩
   obtain ⟨⟨hq1,hq2⟩,hq3,hq4⟩:=hq (alo,ahi,blo,bhi) (by simp)
   have hq':∀ q∈qs',qOk q∧q.2.1≤A.length∧q.2.2.2≤B.length:=fun q h=>hq q (by simp[h])
   dsimp only at hq1 hq2 hq3 hq4
   rw[PU] at hn
   dsimp only at hn
   have hql:=SE (qs:=qs')
   rw[map_append]
   refine Z1 (sig':=_) (om':=[(dx,Zm as),(Q,Zc (qs'.map Xq)),(M,Zc (ms.map (YB 135)))]) (Yp (P:=fun d om'=>d=Xq (alo,ahi,blo,bhi)∧om'=[(dx,Zm as),(Q,Zc (qs'.map Xq)),(M,Zc (ms.map (YB 135)))]) (Hm fok (by walk_at "m ev") (.there .here) (by rw[length_map];lia) ⟨rfl,rfl⟩ _) (fun d om' he=>by
    obtain ⟨rfl,rfl⟩:=he
    exact ⟨_,XT fok (Zl (Zf fok (k:=5) (by walk_at "m st")) (Zl (Zf fok (k:=6) (by walk_at "m st")) (Zl (Zf fok (k:=7) (by walk_at "m st")) (Zl (Zf fok (k:=8) (by walk_at "m st")) Xn)))) rfl,rfl⟩) rfl rfl) ?_
   have efq:flm A B okx idx alo ahi blo bhi=f alo ahi blo bhi:=by rw[ef]
   refine Z1 (sig':=_) (om':=[(dx,Zm as),(Q,Zc (qs'.map Xq)),(M,Zc (ms.map (YB 135)))]) (VD (P:=fun d om'=>d=YB 135 (f alo ahi blo bhi)∧om'=[(dx,Zm as),(Q,Zc (qs'.map Xq)),(M,Zc (ms.map (YB 135)))])
    (Ys (d₀:=ZL x dx) (f:=.ref 196) _ (by walk_at "m ev") (Xf (as:=as) hk (Z3 w.params) (Eg w.params) (Ef w.params) (by exact mem_cons_self) vn) (Yr (hk 196 (Nl w.params) (by kernel_rfl)) rfl)
     (Xo (ds:=[.int alo,.int ahi,.int blo,.int bhi]) (by walk_at "m evl") (VA fok hk Y0 (xA.mono (by decide)) (Js (alo:=alo) (ahi:=ahi) (blo:=blo) (bhi:=bhi) hI va vb vj vk hq3 hq4 hsa hsb (by lia) (by lia)).fn (rest:=[(Q,Zc (qs'.map Xq)),(M,Zc (ms.map (YB 135)))]) (List.Perm.refl _) (by
      rintro d om₂ ⟨e1,rfl⟩
      exact ⟨e1.trans (by rw[efq]),rfl⟩))) rfl rfl)
    (fun d om' he=>by
     obtain ⟨rfl,rfl⟩:=he
     exact ⟨_,_,_,_,W8 (P1 fok hk (WU w.params) (R5 w.params) (Zl (Zf fok (k:=9) (by walk_at "m st")) (Zl (Zf fok (k:=10) (by walk_at "m st")) (Zl (Zf fok (k:=11) (by walk_at "m st")) Xn))) rfl),W8 (Zf fok (k:=12) (by walk_at "m st")),rfl⟩) rfl rfl) ?_
   have hin:=hf.inside alo ahi blo bhi hq1 hq2
   have hz0:=@HA f alo ahi blo bhi
   have hst:=@NN f hf alo ahi blo bhi ⟨hq1,hq2⟩
   generalize f alo ahi blo bhi=r at hin hz0 hst
   obtain ⟨i,j,k⟩:=r
   dsimp only at hin hz0 hst
   have hpp:(ms++(qs'.flatMap (mb f)++mb f (alo,ahi,blo,bhi))).Perm (mb f (0,A.length,0,B.length)):=by
    rw[flatMap_append] at hp
    simpa using hp
   refine Wn (by walk_at "m tst") (fun c1=>?_) (fun c1=>Zy ?_)
   ·have hk0:¬ k=0:=by simpa using c1
    obtain ⟨a1,a2,a3,a4⟩:=hin (by lia)
    rw[hst hk0] at hpp
    refine Zu xi (ZE fok (by walk_at "m ev") (by walk_at "m ev") (P:=fun _ om'=>om'=[(dx,Zm as),(Q,Zc (qs'.map Xq)),(M,Zc ((ms++[(i,j,k)]).map (YB 135)))]) (by rw[map_append];exact .there (.there .here)) (by rw[length_map];lia) rfl _) ?_ rfl
    rintro d om' rfl
    refine Us [(dx,Zm as),(Q,Zc ((qs'++if alo<i∧blo<j then [(alo,i,blo,j)] else []).map Xq)),(M,Zc ((ms++[(i,j,k)]).map (YB 135)))] (by walk_at "m tst") (fun c=>?_) (fun c=>?_) ?_
    ·have c':alo<i∧blo<j:=by simpa using c
     rw[if_pos c']
     refine Zu xi (ZE fok (by walk_at "m ev") (by walk_at "m ev") (P:=fun _ om'=>om'=[(dx,Zm as),(Q,Zc (qs'.map Xq++[Xq (alo,i,blo,j)])),(M,Zc ((ms++[(i,j,k)]).map (YB 135)))]) (.there .here) (by rw[length_map];lia) rfl _) ?_ rfl
     rintro d om' rfl
     exact Zk (by rw[map_append (l₁:=qs')];rfl)
    ·have c':¬ (alo<i∧blo<j):=by simpa using c
     rw[if_neg c',append_nil]
     exact Zk rfl
    have hq5:qs'.length≤2000001:=by lia
    have hl2:(qs'++if alo<i∧blo<j then [(alo,i,blo,j)] else []).length≤2000010:=by
     rw[length_append]
     exact Nat.le_trans (add_le_add hq5 Go) (by decide)
    generalize hqs:(qs'++if alo<i∧blo<j then [(alo,i,blo,j)] else [])=qs1 at hl2
    refine Us [(dx,Zm as),(Q,Zc ((qs1++if i+k<ahi∧j+k<bhi then [(i+k,ahi,j+k,bhi)] else []).map Xq)),(M,Zc ((ms++[(i,j,k)]).map (YB 135)))] (by walk_at "m tst") (fun c=>?_) (fun c=>?_) ?_
    ·have c':i+k<ahi∧j+k<bhi:=by simp at c;lia
     rw[if_pos c']
     refine Zu xi (ZE fok (by walk_at "m ev") (Zt (d:=.tup [.int ((i:Int)+k),.int (ahi:Nat),.int ((j:Int)+k),.int (bhi:Nat)]) (d':=Xq (i+k,ahi,j+k,bhi)) (by walk_at "m ev") (GQ (by first | lia | (dsimp only;lia)) rfl (by first | lia | (dsimp only;lia)) rfl)) (P:=fun _ om'=>om'=[(dx,Zm as),(Q,Zc (qs1.map Xq++[Xq (i+k,ahi,j+k,bhi)])),(M,Zc ((ms++[(i,j,k)]).map (YB 135)))]) (.there .here) (by rw[length_map];lia) rfl _) ?_ rfl
     rintro d om' rfl
     exact Zk (by rw[map_append (l₁:=qs1)];rfl)
    ·have c':¬ (i+k<ahi∧j+k<bhi):=by simp at c;lia
     rw[if_neg c',append_nil]
     exact Zk rfl
    subst hqs
    have hm:Xs ((qs'++if alo<i∧blo<j then [(alo,i,blo,j)] else [])++if i+k<ahi∧j+k<bhi then [(i+k,ahi,j+k,bhi)] else [])<n:=by
     rw[Ud,Ud,QN,QN]
     dsimp only
     exact Mh hn LH LH (LG a1 hk0 a2)
    refine Zy (Zk ⟨_,hm,MZ x dx Q M A.length B.length,?_,_,ms++[(i,j,k)],rfl,Nat.le_trans (le_of_lt hm) hle,?_,?_,rfl,rfl⟩)
    ·unfold MZ
     exact ⟨rfl,rfl,rfl,rfl,rfl,trivial⟩
    ·intro q hq
     rcases List.mem_append.mp hq with hq | hq
     ·rcases List.mem_append.mp hq with hq | hq
      ·exact hq' q hq
      ·split at hq
       ·rw[mem_singleton] at hq;subst hq
        exact ⟨⟨a1,a3⟩,Nat.le_trans (Nat.le_trans (Nat.le_add_right i k) a2) hq3,Nat.le_trans (Nat.le_trans (Nat.le_add_right j k) a4) hq4⟩
       ·cases hq
     ·split at hq
      ·rw[mem_singleton] at hq;subst hq
       exact ⟨⟨a2,a4⟩,hq3,hq4⟩
      ·cases hq
    ·have e1:((qs'++if alo<i∧blo<j then [(alo,i,blo,j)] else [])++if i+k<ahi∧j+k<bhi then [(i+k,ahi,j+k,bhi)] else []).flatMap (mb f)=qs'.flatMap (mb f)++(if alo<i∧blo<j then mb f (alo,i,blo,j) else [])++(if i+k<ahi∧j+k<bhi then mb f (i+k,ahi,j+k,bhi) else []):=by
      rw[flatMap_append,flatMap_append]
      congr 1
      ·congr 1;split<;>simp
      ·split<;>simp
     rw[e1]
     exact MX hpp
   ·have hk0:k=0:=by simpa using c1
    rw[hz0 hk0,append_nil] at hpp
    have hlt:Xs qs'<n:=Nat.lt_of_lt_of_eq (lt_add_of_pos_right (succ_pos _)) hn.symm
    refine Zk ⟨Xs qs',hlt,MZ x dx Q M A.length B.length,?_,qs',ms,rfl,Nat.le_trans (le_of_lt hlt) hle,hq',hpp,rfl,rfl⟩
    unfold MZ
    exact ⟨rfl,rfl,rfl,rfl,rfl,trivial⟩
 rintro o ⟨ms,hms,rfl⟩
 have hm64:ms.length<64:=by have:=hms.length_eq;lia
 generalize hL:mb f (0,A.length,0,B.length)=L at hms h64
 have hsrt:(L.map n3T).Pairwise fun a b=>ltT a b=true:=hL▸M9 hf ⟨zero_le _,zero_le _⟩
 refine Zu xi (Ys (d₀:=.ptr M) (f:=.builtin "list.sort") (P:=fun d om'=>om'=[(dx,Zm as),(Q,Zc []),(M,Zc (L.map (YB 135)))]) _ (by walk_at "m ev") (T8 (l:=ms.map (YB 135)) (by simp)) Zs
  (XU (Ft fok (C:=135) (ts:=ms.map n3T) (ts':=L.map n3T) hk (WU w.params) (Ab w.params) (hms.symm.map n3T) hsrt (by rw[length_map];exact hm64) (by rw[NT,NT];exact .there (.there .here)) rfl)) rfl rfl) ?_ rfl
 rintro d om' rfl
 refine Z1 (sig':=_) (om':=[(dx,Zm as),(Q,Zc []),(M,Zc (L.map (YB 135)))]) (Mu (P:=fun d om'=>d=.int 0∧om'=_) (Wl (by walk_at "m ev") ⟨rfl,rfl⟩) (fun d om' he=>by
  obtain ⟨rfl,rfl⟩:=he
  exact ⟨_,_,_,_,_,_,W8 (Zf fok (k:=13) (by walk_at "m st")),W8 (Zf fok (k:=14) (by walk_at "m st")),W8 (Zf fok (k:=15) (by walk_at "m st")),rfl⟩) rfl rfl) ?_
 refine Yy fok (k:=16) (by walk_at "m st") (Yn fok (ds:=[]) (by walk_at "m evl") (show 0≤sizeLine by decide) (P:=fun d om'=>∃ N,F.n₀≤N∧d=.ptr N∧om'=(N,Zc [])::_) fun N hN=>⟨N,hN,rfl,rfl⟩) ?_ rfl
 rintro d om₁ ⟨N,hN,rfl,rfl⟩
 refine Yx fok (.there (.there (.there .here))) hM YK (ZH.set (k:=4) rfl) OmCast.refl ?_
 refine NE fok (.there (.there .here)) ?_
 refine Z1 (sig':=(Gr x dx Q N A.length B.length (.lst (L.map (YB 135))) (mrg L ((0,0,0),[])).1)) (om':=[(N,Zc ((mrg L ((0,0,0),[])).2.map XG)),(dx,Zm as)])
  (YS fok (d:=.lst (L.map (YB 135))) (xs:=L.map (YB 135)) (by walk_at "m ev") (YD fok)
   (fun t sig om=>sig=Gr x dx Q N A.length B.length (.lst (L.map (YB 135))) (mrg (L.take t) ((0,0,0),[])).1∧om=[(N,Zc ((mrg (L.take t) ((0,0,0),[])).2.map XG)),(dx,Zm as)])
   ⟨_,Sub.refl,rfl,rfl⟩ ?_ ?_ (by intro _;rfl)) ?_
 ·rintro t _ sig om hx ⟨rfl,rfl⟩
  rw[getElem?_map,Option.map_eq_some_iff] at hx
  obtain ⟨⟨bi,bj,bk⟩,hb,rfl⟩:=hx
  have ht:t<L.length:=(List.getElem?_eq_some_iff.mp hb).1
  have htk:L.take (t+1)=L.take t++[(bi,bj,bk)]:=by rw[List.take_add_one,hb];rfl
  have hln:=RC (l:=L.take t) (s:=((0,0,0),[]))
  rw[length_take,min_eq_left (by lia)] at hln
  rw[htk,Jt]
  generalize mrg (L.take t) ((0,0,0),[])=s at hln
  obtain ⟨⟨i1,j1,k1⟩,out⟩:=s
  dsimp only[List.length_nil] at hln
  refine ⟨_,P1 fok hk (WU w.params) (R5 w.params) (Zl (Zf fok (k:=17) (by walk_at "m st")) (Zl (Zf fok (k:=18) (by walk_at "m st")) (Zl (Zf fok (k:=19) (by walk_at "m st")) Xn))) rfl,?_⟩
  refine Wn (by walk_at "m tst") (fun c=>?_) (fun c=>?_)
  ·have c':i1+k1=bi∧j1+k1=bj:=by simp at c;lia
   have em:YA ((i1,j1,k1),out) (bi,bj,bk)=((i1,j1,k1+bk),out):=by unfold YA;rw[if_pos c']
   rw[em]
   refine NM fok (k:=15) (a:=(k1:Nat)) (b:=(bk:Nat)) (At.of fok (kind:=.local) (by rw[xN];rfl) (by kernel_rfl)) rfl (by walk_at "m st") (by walk_at "m ev") ?_
   rw[show ((k1:Nat):Int)+(bk:Nat)=((k1+bk:Nat):Int) by first | rfl | lia]
   refine Zy (Zk ⟨_,?_,rfl,rfl⟩)
   unfold Gr
   exact ⟨rfl,rfl,rfl,rfl,rfl,rfl,rfl,rfl,rfl,trivial⟩
  ·have c':¬ (i1+k1=bi∧j1+k1=bj):=by simp at c;lia
   have em:YA ((i1,j1,k1),out) (bi,bj,bk)=((bi,bj,bk),if k1=0 then out else out++[(i1,j1,k1)]):=by unfold YA;rw[if_neg c']
   rw[em]
   refine Us [(N,Zc ((if k1=0 then out else out++[(i1,j1,k1)]).map XG)),(dx,Zm as)] (by walk_at "m tst") (fun c2=>?_) (fun c2=>?_) ?_
   ·have c2':¬ k1=0:=by simpa using c2
    rw[if_neg c2']
    refine Zu xi (ZE fok (by walk_at "m ev") (by walk_at "m ev") (P:=fun _ om'=>om'=[(N,Zc (out.map XG++[XG (i1,j1,k1)])),(dx,Zm as)]) .here (by rw[length_map];dsimp only;lia) rfl _) ?_ rfl
    rintro d om' rfl
    exact Zk (by rw[map_append];rfl)
   ·have c2':k1=0:=by simpa using c2
    rw[if_pos c2']
    exact Zk rfl
   refine VM fok (k₁:=13) (k₂:=14) (k₃:=15) (by walk_at "m st") (by walk_at "m st") (by walk_at "m st") (by walk_at "m ev") rfl ((swS xS _ _).trans (by kernel_rfl)) ?_
   refine Zy (Zk ⟨_,?_,rfl,rfl⟩)
   unfold Gr
   exact ⟨rfl,rfl,rfl,rfl,rfl,rfl,rfl,rfl,rfl,trivial⟩
 ·rintro sig om ⟨rfl,rfl⟩
  rw[length_map,take_length]
 have hbl:blocks f A.length B.length=(if (mrg L ((0,0,0),[])).1.2.2=0 then (mrg L ((0,0,0),[])).2 else (mrg L ((0,0,0),[])).2++[(mrg L ((0,0,0),[])).1])++[(A.length,B.length,0)]:=by unfold blocks;rw[hL]
 have hln:=RC (l:=L) (s:=((0,0,0),[]))
 generalize mrg L ((0,0,0),[])=s at hln hbl
 obtain ⟨⟨i1,j1,k1⟩,out⟩:=s
 dsimp only[List.length_nil] at hln hbl
 refine Us [(N,Zc ((if k1=0 then out else out++[(i1,j1,k1)]).map XG)),(dx,Zm as)] (by walk_at "m tst") (fun c2=>?_) (fun c2=>?_) ?_
 ·have c2':¬ k1=0:=by simpa using c2
  rw[if_neg c2']
  refine Zu xi (ZE fok (by walk_at "m ev") (by walk_at "m ev") (P:=fun _ om'=>om'=[(N,Zc (out.map XG++[XG (i1,j1,k1)])),(dx,Zm as)]) .here (by rw[length_map];dsimp only;lia) rfl _) ?_ rfl
  rintro d om' rfl
  exact Zk (by rw[map_append];rfl)
 ·have c2':k1=0:=by simpa using c2
  rw[if_pos c2']
  exact Zk rfl
 have hl3:(if k1=0 then out else out++[(i1,j1,k1)]).length≤200:=by
  split
  ·lia
  ·rw[length_append,length_singleton];lia
 generalize (if k1=0 then out else out++[(i1,j1,k1)])=ou at hl3 hbl
 refine Zu xi (ZE fok (by walk_at "m ev") (Zt (d:=.tup [.int (A.length:Nat),.int (B.length:Nat),.int 0]) (d':=XG (A.length,B.length,0)) (by walk_at "m ev") rfl) (P:=fun _ om'=>om'=[(N,Zc (ou.map XG++[XG (A.length,B.length,0)])),(dx,Zm as)]) .here (by rw[length_map];lia) rfl _) ?_ rfl
 rintro d om' rfl
 have hbt:ou.map XG++[XG (A.length,B.length,0)]=(blocks f A.length B.length).map XG:=by rw[hbl,map_append];rfl
 have hbn:(blocks f A.length B.length).length≤1000:=by rw[hbl,length_append,length_singleton];lia
 rw[hbt]
 generalize blocks f A.length B.length=bl at hbn hbv
 subst hbv
 refine Yx fok .here hN YK (ZH.set (k:=16) rfl) OmCast.refl ?_
 refine Wv (a:=x) hk (Z3 w.params) R6 (d:=.lst (bl.map (YB 135))) (GJ (VC (by walk_at "m ev") Zx (Yo (P₁:=fun d om'=>∃ it la,F.n₀≤it∧d=Qs (Qt 89 135) (bl.map XG) it la∧om'=(it,itO la 0)::[(dx,Zm as)]) (VC (by walk_at "m ev") Zx (Xo (ds:=[Qt 89 135,.lst (bl.map XG)]) (Ze (P5 fok hk (by walk_at "m ev") (QJ w.params) (HP w.params) (HQ w.params)) (by walk_at "m evl") rfl) (BR fok fun it la h=>⟨it,la,h,rfl,rfl⟩)) rfl rfl) (by
   rintro d om' ⟨it,la,hit,rfl,rfl⟩
   refine XU (P4 (n:=2) fok hk (by rw[length_map,length_map]) (by rw[length_map];lia) (xA.mono (by decide)) (fun V fv hV hr=>?_) .here ⟨rfl,rfl⟩)
   unfold Qt at hr
   obtain ⟨a,rfl,ha⟩:=hr V (PH.le.refl _)
   refine ⟨fun V=>SK w V∧V a=some (methodObj (.ref 89) (.ref 135)),⟨hV,ha⟩,fun i d d' h1 h2=>?_⟩
   rw[getElem?_map,Option.map_eq_some_iff] at h1 h2
   obtain ⟨b,hb,rfl⟩:=h1
   obtain ⟨b',hb',rfl⟩:=h2
   rw[hb] at hb';cases hb'
   exact Qu PL) rfl) rfl rfl)) (by walk_at "m ev") Vv (by lia) rfl .here ?_ rfl rfl rfl
 have vg:(Z2 "matching_blocks" (.lst (bl.map (YB 135))) as).lookup (Str.ofString "matching_blocks")=some (.lst (bl.map (YB 135))):=R8
 refine ZU (d:=.lst (bl.map (YB 135))) (by walk_at "m ev") ⟨⟨rfl,rfl⟩,fun b hb=>.inl hb⟩
end
section
theorem Ej (P:Params):typeIn (Zp P) (.ref 203)=some (.type "function"):=by kernel_rfl
theorem Ek (P:Params):findIn (Zp P) (.ref 242) "get_matching_blocks" = some (some (.ref 203)):=by kernel_rfl
theorem Gs {prog:Program} {w:World} {F:Fn} {om:Om} {x:Str} (hx:(x.length:Int)<2 ^ 62):Tru prog w F om (.str x) ((x.length:Int) != 0):=fun R sig tau v₁ s Q E st h=>by
 have h1:=st.top
 obtain ⟨t,rfl⟩:=h1
 exact P.truthy_str (by lia) (h _ st.pop.tok2)
set_option tactic.hygienic true in
theorem Ux {i ai j bj:Nat}:((Yk i ai j bj).length:Int)<2 ^ 62∧(((Yk i ai j bj).length:Int) != 0)=decide (i<ai∨j<bj):=by
 unfold Yk
 split
 ·rename_i h;rw[decide_eq_true (.inl h.1)];decide +kernel
 ·split
  ·rename_i h;rw[decide_eq_true (.inl h)];decide +kernel
  ·split
   ·rename_i h;rw[decide_eq_true (.inr h)];decide +kernel
   ·rename_i h1 h2 h3;rw[decide_eq_false (by lia)];decide +kernel
noncomputable def Xa (P:Params):FuncData:=XW (Nn P)
theorem Gu (P:Params):XE (Zp P) 210 (Xa P):=Yh (Nn P) (by kernel_rfl) (by kernel_rfl) (by kernel_rfl)
theorem Gv {P:Params} {a0:AV}:YO (Xa P).scope.names ["self"] [a0]=[some a0,none,none,none,none,none,none,none]:=by kernel_rfl
theorem El (P:Params):DefOk (Xa P) ["self"]:=Yg rfl (of_decide_eq_true (by kernel_rfl)) (by kernel_rfl) (of_decide_eq_true (by kernel_rfl)) (by kernel_rfl)
noncomputable def Em:List (Str×NameKind):=[("self",.local),("i",.local),("j",.local),("answer",.local),("ai",.local),("bj",.local),("size",.local),("tag",.local)]
theorem La (P:Params):(Xa P).scope.names=Em:=by kernel_rfl
noncomputable def Jv (x dx D:Addr) (i j:Nat):List (Option AV):=[some (ZL x dx),some (.int i),some (.int j),some (.ptr D),none,none,none,none]
noncomputable def Ad (x dx D:Addr) (i j ai bj size:Nat) (tag:Str):List (Option AV):=[some (ZL x dx),some (.int i),some (.int j),some (.ptr D),some (.int ai),some (.int bj),some (.int size),some (.str tag)]
theorem PV {s:(Nat×Nat)×List OpN} {b:N3}:(ZO s b).2.length≤s.2.length+2:=by
 unfold ZO
 dsimp only
 split<;>split<;>simp
theorem Gw {l:List N3} {s:(Nat×Nat)×List OpN}:(l.foldl ZO s).2.length≤s.2.length+2*l.length:=by
 induction l generalizing s with
 | nil=>exact le_refl _
 | cons b l ih =>
  rw[foldl_cons]
  have:=ih (s:=ZO s b)
  have:=PV (s:=s) (b:=b)
  rw[length_cons];lia
theorem PW {f:FL} {la lb:Nat} (h:(mb f (0,la,0,lb)).length<64):(blocks f la lb).length≤70:=by
 unfold blocks
 have:=RC (l:=mb f (0,la,0,lb)) (s:=((0,0,0),[]))
 dsimp only at this ⊢
 rw[length_append,length_singleton]
 split
 ·simp at this;lia
 ·rw[length_append];simp at this ⊢;lia
set_option maxHeartbeats 20000000 in
theorem Jw {prog:Program} {w:World} {x dx:Addr} {aj:Bool} {A B:List Int} {okx:Int->Bool} {idx:Int->List Nat} {m:Nat} {mbv bv opv fb bp:AV} {f:FL} (hI:IdxOk B okx idx) (hsa:A.length≤1000000) (hsb:B.length≤1000000)
  (ef:f=fun alo ahi blo bhi=>flm A B okx idx alo ahi blo bhi) (hf:FlOk f) (h64:(mb f (0,A.length,0,B.length)).length<64) (hbv:bv=.lst ((blocks f A.length B.length).map (YB 135))) (hmb:mbv=.none∨mbv=bv) (hop:opv=.none∨opv=Vl (opcodes f A.length B.length)) :
  VH prog w (SK w) 12 (.ref 210) [ZL x dx] [(dx,Zm (Yl aj (il A) (il B) mbv opv fb (dct (Wd idx) m) (Z9 prog w) bp))]
   fun d om₂=>d=Vl (opcodes f A.length B.length)∧∃ mbv',(mbv'=.none∨mbv'=bv)∧om₂=[(dx,Zm (Yl aj (il A) (il B) mbv' (Vl (opcodes f A.length B.length)) fb (dct (Wd idx) m) (Z9 prog w) bp))]:=by
 refine Wt (dd:=[]) (dv:=[]) (El w.params) (fun V hV=>Ye hV (Gu w.params) (VV w.params) rfl rfl) rfl (fun V=>Zn.nil) (fun vs hv=>?_) (fun xAr xG xs xB room fok=>?_)
 ·obtain ⟨v0,rfl⟩:=RO hv
  kernel_rfl
 rw[append_nil,Gv]
 have xg:(Zd (Xa w.params) 210 xAr xG xs).env.globals=mainGlobals:=rfl
 have xb:(Zd (Xa w.params) 210 xAr xG xs).env.builtins=builtinsNs:=rfl
 have hk:Zo (Zp w.params) (Zd (Xa w.params) 210 xAr xG xs).G:=xB
 have xN:(Zd (Xa w.params) 210 xAr xG xs).names=(Xa w.params).scope.names:=rfl
 have xA:Room (Zd (Xa w.params) 210 xAr xG xs).A _:=room
 have xn:(Zd (Xa w.params) 210 xAr xG xs).n₀=xs.heap.objs.size:=rfl
 have xi:interactive (Zd (Xa w.params) 210 xAr xG xs).env=false:=rfl
 have xS:(Zd (Xa w.params) 210 xAr xG xs).env.scope=(Xa w.params).scope:=rfl
 generalize Zd (Xa w.params) 210 xAr xG xs=F at fok xg xb hk xN xA xn xi xS ⊢
 have xN1:=xN.trans (La w.params)
 have xn0:At F "self" 0 .local:=Za fok xN1 0 rfl (by kernel_rfl)
 have xn1:At F "i" 1 .local:=Za fok xN1 1 rfl (by kernel_rfl)
 have xn2:At F "j" 2 .local:=Za fok xN1 2 rfl (by kernel_rfl)
 have xn3:At F "answer" 3 .local:=Za fok xN1 3 rfl (by kernel_rfl)
 have xn4:At F "ai" 4 .local:=Za fok xN1 4 rfl (by kernel_rfl)
 have xn5:At F "bj" 5 .local:=Za fok xN1 5 rfl (by kernel_rfl)
 have xn6:At F "size" 6 .local:=Za fok xN1 6 rfl (by kernel_rfl)
 have xn7:At F "tag" 7 .local:=Za fok xN1 7 rfl (by kernel_rfl)
 walk_at "m doc"
 have hsl:(10000000:Nat)≤sizeLine:=by decide
 have vo:(Yl aj (il A) (il B) mbv opv fb (dct (Wd idx) m) (Z9 prog w) bp).lookup (Str.ofString "opcodes")=some opv:=F9
 rcases hop.symm with rfl | rfl
 ·refine Rr (Z0 (d₁:=Vl (opcodes f A.length B.length)) (d₂:=.none) (by walk_at "m ev") (by walk_at "m ev") (Xx (b:=false) fun V v h=>by obtain ⟨_,_,_,rfl,_⟩:=h;rfl) rfl) ?_
  refine ZU (d:=Vl (opcodes f A.length B.length)) (by walk_at "m ev") ?_
  exact ⟨⟨rfl,mbv,hmb,rfl⟩,fun b hb=>.inl hb⟩
 refine Xv (Z0 (d₁:=.none) (d₂:=.none) (by walk_at "m ev") (by walk_at "m ev") (Xx (b:=true) fun V v h=>by subst h;rfl) rfl) (Zy ?_)
 refine Z1 (sig':=_) (om':=[(dx,Zm (Yl aj (il A) (il B) mbv .none fb (dct (Wd idx) m) (Z9 prog w) bp))]) (VD (P:=fun d om'=>d=.int 0∧om'=_) (Wl (by walk_at "m ev") ⟨rfl,rfl⟩) (fun d om' he=>by
  obtain ⟨rfl,rfl⟩:=he
  exact ⟨_,_,_,_,W8 (Zf fok (k:=1) (by walk_at "m st")),W8 (Zf fok (k:=2) (by walk_at "m st")),rfl⟩) rfl rfl) ?_
 refine VK fok (C:=242) (a:=x) (dx:=dx) (k:=3) hk (Z3 w.params) R7 (by walk_at "m st") (Yn fok (ds:=[]) (by walk_at "m evl") (show 0≤sizeLine by decide) (P:=fun d om'=>∃ D,F.n₀≤D∧d=.ptr D∧om'=(D,Zc [])::_) fun D hD=>⟨D,hD,rfl,rfl⟩) ?_ rfl rfl
 rintro d om₁ ⟨D,hD,rfl,rfl⟩
 refine ⟨Tx,_,_,_,by walk_at "m ev",KU,FF,.there .here,?_⟩
 have hbl:=PW h64
 have hoc:opcodes f A.length B.length=((blocks f A.length B.length).foldl ZO ((0,0),[])).2:=rfl
 refine Zw (P₁:=fun o=>∃ sig' i j,Sub (Jv x dx D i j) sig'∧o=.nxt sig' [(dx,Zm (Yl aj (il A) (il B) bv (.ptr D) fb (dct (Wd idx) m) (Z9 prog w) bp)),(D,Zc ((opcodes f A.length B.length).map opN))])
  (H6 fok (PE:=fun d om'=>d=bv∧om'=[(dx,Zm (Yl aj (il A) (il B) bv (.ptr D) fb (dct (Wd idx) m) (Z9 prog w) bp)),(D,Zc [])])
   (Ys (d₀:=ZL x dx) (f:=.ref 203) _ (by walk_at "m ev") (Xf (as:=Yl aj (il A) (il B) mbv (.ptr D) fb (dct (Wd idx) m) (Z9 prog w) bp) hk (Z3 w.params) (Ek w.params) (Ej w.params) (by simp) FB) (Yr (hk 203 (Nm w.params) (by kernel_rfl)) rfl)
    (XU (VA fok hk Y0 (xA.mono (by decide)) (Ju (bv:=bv) (mbv:=mbv) hI KV KW HV MM F8 FA (show 10≤900 by decide) hsa hsb ef hf h64 hbv hmb).fn (rest:=[(D,Zc [])]) (List.Perm.swap _ _ _) (by
     rintro d om₂ ⟨e1,rfl⟩
     exact ⟨e1,by rw[FE];rfl⟩))) rfl rfl) (by
   rintro d om₀ ⟨rfl,rfl⟩
   generalize hblk:blocks f A.length B.length=bl at hbl hbv hoc
   subst hbv
   refine ⟨bl.map (YB 135),fun t sig om=>Sub (Jv x dx D ((bl.take t).foldl ZO ((0,0),[])).1.1 ((bl.take t).foldl ZO ((0,0),[])).1.2) sig∧om=[(dx,Zm (Yl aj (il A) (il B) (.lst (bl.map (YB 135))) (.ptr D) fb (dct (Wd idx) m) (Z9 prog w) bp)),(D,Zc (((bl.take t).foldl ZO ((0,0),[])).2.map opN))],YD fok,⟨?_,rfl⟩,?_,?_⟩
   ·unfold Jv;exact ⟨rfl,rfl,rfl,rfl,trivial⟩
   ·rintro t _ sig om hx ⟨hsub,rfl⟩
    rw[getElem?_map,Option.map_eq_some_iff] at hx
    obtain ⟨⟨ai,bj,size⟩,hb,rfl⟩:=hx
    have ht:t<bl.length:=(List.getElem?_eq_some_iff.mp hb).1
    have htk:bl.take (t+1)=bl.take t++[(ai,bj,size)]:=by rw[List.take_add_one,hb];rfl
    have hln:=Gw (l:=bl.take t) (s:=((0,0),[]))
    rw[length_take,min_eq_left (by lia)] at hln
    have hstep:(bl.take (t+1)).foldl ZO ((0,0),[])=ZO ((bl.take t).foldl ZO ((0,0),[])) (ai,bj,size):=by rw[htk,foldl_append];rfl
    generalize (bl.take t).foldl ZO ((0,0),[])=s at hln hsub hstep
    obtain ⟨⟨i,j⟩,out⟩:=s
    dsimp only[List.length_nil] at hln hsub
    refine ⟨_,P8 hsub (P1 fok hk (WU w.params) (R5 w.params) (Zl (Zf fok (k:=4) (by walk_at "m st")) (Zl (Zf fok (k:=5) (by walk_at "m st")) (Zl (Zf fok (k:=6) (by walk_at "m st")) Xn))) rfl),?_⟩
    walk_at "m assign"
    refine Z1 (sig':=(Ad x dx D i j ai bj size (Yk i ai j bj))) (om':=[(dx,Zm (Yl aj (il A) (il B) (.lst (bl.map (YB 135))) (.ptr D) fb (dct (Wd idx) m) (Z9 prog w) bp)),(D,Zc (out.map opN))]) (V8 (by walk_at "m tst") (fun c=>?_) (fun c=>?_)) ?_
    ·have c':i<ai∧j<bj:=by simpa using c
     walk_at "m assign"
     exact Zk (by unfold Yk;rw[if_pos c'];rfl)
    ·have c':¬ (i<ai∧j<bj):=by simpa using c
     refine Wn (by walk_at "m tst") (fun c2=>?_) (fun c2=>?_)
     ·have c2':i<ai:=by simpa using c2
      walk_at "m assign"
      exact Zy (Zk (by unfold Yk;rw[if_neg c',if_pos c2'];rfl))
     ·have c2':¬ i<ai:=by simpa using c2
      refine Wn (by walk_at "m tst") (fun c3=>?_) (fun c3=>?_)
      ·have c3':j<bj:=by simpa using c3
       walk_at "m assign"
       exact Zy (Zy (Zk (by unfold Yk;rw[if_neg c',if_neg c2',if_pos c3'];rfl)))
      ·have c3':¬ j<bj:=by simpa using c3
       exact Zy (Zy (Zk (by unfold Yk;rw[if_neg c',if_neg c2',if_neg c3'];rfl)))
    refine Us [(dx,Zm (Yl aj (il A) (il B) (.lst (bl.map (YB 135))) (.ptr D) fb (dct (Wd idx) m) (Z9 prog w) bp)),(D,Zc ((if i<ai∨j<bj then out++[(Yk i ai j bj,i,ai,j,bj)] else out).map opN))] (ZT (by walk_at "m ev") (Gs Ux.1) (by intro _;rfl)) (fun c=>?_) (fun c=>?_) ?_
    ·rw[Ux.2,decide_eq_true_eq] at c
     rw[if_pos c]
     refine Zu xi (ZE fok (by walk_at "m ev") (by walk_at "m ev") (P:=fun _ om'=>om'=[(dx,Zm (Yl aj (il A) (il B) (.lst (bl.map (YB 135))) (.ptr D) fb (dct (Wd idx) m) (Z9 prog w) bp)),(D,Zc (out.map opN++[opN (Yk i ai j bj,i,ai,j,bj)]))]) (.there .here) (by rw[length_map];lia) rfl _) ?_ rfl
     rintro d om' rfl
     exact Zk (by rw[map_append];rfl)
    ·rw[Ux.2,decide_eq_false_iff_not] at c
     rw[if_neg c]
     exact Zk rfl
    have hl3:(if i<ai∨j<bj then out++[(Yk i ai j bj,i,ai,j,bj)] else out).length≤1000:=by
     split
     ·rw[length_append,length_singleton];lia
     ·lia
    have eo:ZO ((i,j),out) (ai,bj,size)=((ai+size,bj+size),if size=0 then (if i<ai∨j<bj then out++[(Yk i ai j bj,i,ai,j,bj)] else out) else (if i<ai∨j<bj then out++[(Yk i ai j bj,i,ai,j,bj)] else out)++[((("equal" : Str),ai,ai+size,bj,bj+size):OpN)]):=rfl
    rw[eo] at hstep
    generalize (if i<ai∨j<bj then out++[(Yk i ai j bj,i,ai,j,bj)] else out)=ou at hl3 hstep
    refine XX fok (k₁:=1) (k₂:=2) (by walk_at "m st") (by walk_at "m st") (by walk_at "m ev") rfl ((swS xS _ _).trans (by kernel_rfl)) ?_
    rw[show ((ai:Nat):Int)+(size:Nat)=((ai+size:Nat):Int) by first | rfl | lia,show ((bj:Nat):Int)+(size:Nat)=((bj+size:Nat):Int) by first | rfl | lia]
    refine Us [(dx,Zm (Yl aj (il A) (il B) (.lst (bl.map (YB 135))) (.ptr D) fb (dct (Wd idx) m) (Z9 prog w) bp)),(D,Zc ((if size=0 then ou else ou++[((("equal" : Str),ai,ai+size,bj,bj+size):OpN)]).map opN))] (by walk_at "m tst") (fun c=>?_) (fun c=>?_) ?_
    ·have c':¬ size=0:=by simpa using c
     rw[if_neg c']
     refine Zu xi (ZE fok (by walk_at "m ev") (by walk_at "m ev") (P:=fun _ om'=>om'=[(dx,Zm (Yl aj (il A) (il B) (.lst (bl.map (YB 135))) (.ptr D) fb (dct (Wd idx) m) (Z9 prog w) bp)),(D,Zc (ou.map opN++[opN ("equal",ai,ai+size,bj,bj+size)]))]) (.there .here) (by rw[length_map];lia) rfl _) ?_ rfl
     rintro d om' rfl
     exact Zk (by rw[map_append];rfl)
    ·have c':size=0:=by simpa using c
     rw[if_pos c']
     exact Zk rfl
    refine Zk ?_
    show Sub (Jv x dx D ((bl.take (t+1)).foldl ZO ((0,0),[])).1.1 ((bl.take (t+1)).foldl ZO ((0,0),[])).1.2) _∧_=[_,(D,Zc (((bl.take (t+1)).foldl ZO ((0,0),[])).2.map opN))]
    rw[hstep]
    refine ⟨?_,rfl⟩
    unfold Jv Ad
    exact ⟨rfl,rfl,rfl,rfl,trivial⟩
   ·rintro sig om ⟨hsub,rfl⟩
    rw[length_map,take_length,<-hoc]
    rw[length_map,take_length] at hsub
    exact ⟨sig,_,_,hsub,rfl⟩) (by intro _;rfl)) ?_
 rintro o ⟨sig',i,j,hsub,rfl⟩
 refine Fu hsub ?_
 refine Yx fok (.there .here) hD YK (ZH.set (k:=3) rfl) (.cons (Zm.weak (as':=Yl aj (il A) (il B) bv (Vl (opcodes f A.length B.length)) fb (dct (Wd idx) m) (Z9 prog w) bp) ?_) .nil) ?_
 ·unfold Yl
  exact .same (.same (.same (.same (.same (.cast (.same (.same (.same (.same .nil)))))))))
 refine ZU (d:=Vl (opcodes f A.length B.length)) (by walk_at "m ev") ⟨⟨rfl,bv,.inr rfl,rfl⟩,fun b hb=>.inl hb⟩
end
section
theorem Jx (B:List Int):VZ B=Wd (XC B):=by
 funext x
 unfold VZ Wd
 by_cases h:x∈B
 ·have:XC B x≠[]:=fun e=>by
   obtain ⟨i,hi,ei⟩:=getElem_of_mem h
   have:i∈XC B x:=VO.mpr (by simp[hi,ei])
   rw[e] at this;cases this
  rw[if_pos h,if_neg this,F0]
  show some (AV.lst (((XC B x).map fun (n:Nat)=>(n:Int)).map .int))=_
  rw[map_map];rfl
 ·have:XC B x=[]:=by
   cases q:XC B x with
   | nil=>rfl
   | cons i r=>exact absurd (mem_of_getElem? (VO.mp (show i∈XC B x by rw[q];exact mem_cons_self))) h
  rw[if_neg h,if_pos this]
theorem UE:∀ {X Y:List Int},X.map AV.int=Y.map AV.int->X=Y
 | [],[],_=>rfl
 | [],_::_,h=>by cases h
 | _::_,[],h=>by cases h
 | a::X,b::Y,h=>by
  simp only[map_cons,List.cons.injEq,AV.int.injEq] at h
  rw[h.1,UE h.2]
theorem Gx (B:List Int):IdxOk B (fun _=>true) (XC B):=⟨U7 B,fun x j=>by rw[VO];simp⟩
noncomputable abbrev Ae (A B:List Int):AV:=.lst ((BW A B).map (YB 135))
noncomputable def MSL (prog:Program) (w:World) (aj:Bool) (dx:Addr) (A B:List Int) (mo:Om):Prop:=∃ mbv opv m bp,(mbv=.none∨mbv=Ae A B)∧(opv=.none∨opv=Vl (opsAB A B))∧mo=[(dx,Zm (Yl aj (il A) (il B) mbv opv .none (dct (VZ B) m) (Z9 prog w) bp))]
noncomputable def MSt (prog:Program) (w:World) (aj:Bool) (dx:Addr) (mo:Om):Prop:=(∃ m,mo=[(dx,Zm (SD prog w aj m))])∨∃ A B,MSL prog w aj dx A B mo
section
variable {prog:Program} {w:World} {F:Fn} {sig:List (Option AV)} {om mo rest:Om} {aj:Bool} {x dx:Addr} {A B:List Int}
theorem PX {a' a b mb op fb bj bjunk bp:AV}:R9 a' (Yl aj a b mb op fb bj bjunk bp)=Yl aj a' b .none .none fb bj bjunk bp:=by kernel_rfl
theorem RD {b' a b mb op fb bj bjunk bp:AV} {m:Nat}:PM prog w B m (put2 b' (Yl aj a b mb op fb bj bjunk bp))=Yl aj a b' .none .none .none (dct (VZ B) m) (Z9 prog w) (Z9 prog w):=by kernel_rfl
theorem Af (ok:F.Ok) (hk:Zo (Zp w.params) F.G) (room:Room F.A 6) (hm:MSt prog w aj dx mo) (hsb:B.length≤1000000) (hpop:aj=false∨B.length<200) {P:AV->Om->Prop} (hP:∀ mo',MSL prog w aj dx A B mo'->P .none (mo'++rest)):OpX prog w F (mo++rest) (.ref 167) [ZL x dx,il A,il B] P:=by
 rcases hm with ⟨m,rfl⟩ | ⟨A₀,B₀,mbv,opv,m,bp,h1,h2,rfl⟩
 ·refine VA ok hk Y0 room (TL (a:=.str "") (b:=.str "") (aj:=aj) Jd Jd (GP hsb) KV KW TI VX KZ KX KY hpop (show 10≤700 by decide)).fn (List.Perm.refl _) ?_
  rintro d om₂ ⟨rfl,as₁,q1,q2⟩
  rcases q1 with ⟨q1,_⟩ | rfl
  ·cases q1
  ·rcases q2 with ⟨q2,_⟩ | ⟨m',rfl⟩
   ·cases q2
   ·exact hP _ ⟨.none,.none,m',_,.inl rfl,.inl rfl,by rw[PX,RD]⟩
 ·refine VA ok hk Y0 room (TL (a:=il A₀) (b:=il B₀) (aj:=aj) Jc Jc (GP hsb) KV KW TI VX KZ KX KY hpop (show 10≤700 by decide)).fn (List.Perm.refl _) ?_
  have inj:∀ {X Y:List Int},il X=il Y->X=Y:=fun {X Y} e=>by
   exact UE (AV.lst.inj e)
  rintro d om₂ ⟨rfl,as₁,q1,q2⟩
  rcases q1 with ⟨q1,rfl⟩ | rfl
  ·have eA:=inj q1
   subst eA
   rcases q2 with ⟨q2,rfl⟩ | ⟨m',rfl⟩
   ·have eB:=inj q2
    subst eB
    exact hP _ ⟨mbv,opv,m,bp,h1,h2,rfl⟩
   ·exact hP _ ⟨.none,.none,m',_,.inl rfl,.inl rfl,by rw[RD]⟩
  ·rcases q2 with ⟨q2,rfl⟩ | ⟨m',rfl⟩
   ·have eB:=inj q2
    subst eB
    exact hP _ ⟨.none,.none,m,bp,.inl rfl,.inl rfl,by rw[PX]⟩
   ·exact hP _ ⟨.none,.none,m',_,.inl rfl,.inl rfl,by rw[PX,RD]⟩
theorem En (P:Params):typeIn (Zp P) (.ref 210)=some (.type "function"):=by kernel_rfl
theorem Eo (P:Params):findIn (Zp P) (.ref 242) "get_opcodes" = some (some (.ref 210)):=by kernel_rfl
theorem Ag (ok:F.Ok) (hk:Zo (Zp w.params) F.G) (room:Room F.A 12) (hm:MSL prog w aj dx A B mo) (hsa:A.length≤1000000) (hsb:B.length≤1000000) (h64:(MA A B).length<64) {P:AV->Om->Prop} (hP:∀ mo',MSL prog w aj dx A B mo'->P (Vl (opsAB A B)) (mo'++rest)):OpX prog w F (mo++rest) (.ref 210) [ZL x dx] P:=by
 obtain ⟨mbv,opv,m,bp,h1,h2,rfl⟩:=hm
 rw[Jx]
 refine VA ok hk Y0 room (Jw (bv:=Ae A B) (f:=flF A B) (Gx B) hsa hsb rfl (KB A B) h64 rfl h1 h2).fn (List.Perm.refl _) ?_
 rintro d om₂ ⟨rfl,mbv',q1,rfl⟩
 exact hP _ ⟨mbv',_,m,bp,q1,.inr rfl,by rw[Jx]⟩
theorem MSt.gets (h:MSt prog w aj dx mo) {name:Str} {f:Addr} (hk:Zo (Zp w.params) F.G) (hf:findIn (Zp w.params) (.ref 242) name=some (some (.ref f))) (ht:typeIn (Zp w.params) (.ref f)=some (.type "function")) (hn:∀ {aj:Bool} {a b mb op fb bj bjunk bp:AV},(Yl aj a b mb op fb bj bjunk bp).lookup name=none):Qi prog w F (mo++rest) (ZL x dx) name (.ref f):=by
 rcases h with ⟨m,rfl⟩ | ⟨A,B,_,_,_,_,_,_,rfl⟩
 ·exact Xf hk (Z3 w.params) hf ht (by simp;exact .inl rfl) hn
 ·exact Xf hk (Z3 w.params) hf ht (by simp;exact .inl rfl) hn
theorem Ep (ok:F.Ok) (hk:Zo (Zp w.params) F.G) (room:Room F.A 6) (hm:MSt prog w aj dx mo) (hsb:B.length≤1000000) (hpop:aj=false∨B.length<200) {P:AV->Om->Prop} (hP:∀ mo',MSL prog w aj dx A B mo'->P .none mo'):OpX prog w F mo (.ref 167) [ZL x dx,il A,il B] P:=by
 have:=Af (x:=x) (rest:=[]) ok hk room hm hsb hpop (P:=P) (A:=A) (fun mo' h=>by rw[append_nil];exact hP mo' h)
 rwa [append_nil] at this
theorem Er (ok:F.Ok) (hk:Zo (Zp w.params) F.G) (room:Room F.A 12) (hm:MSL prog w aj dx A B mo) (hsa:A.length≤1000000) (hsb:B.length≤1000000) (h64:(MA A B).length<64) {P:AV->Om->Prop} (hP:∀ mo',MSL prog w aj dx A B mo'->P (Vl (opsAB A B)) mo'):OpX prog w F mo (.ref 210) [ZL x dx] P:=by
 have:=Ag (x:=x) (rest:=[]) ok hk room hm hsa hsb h64 (P:=P) (fun mo' h=>by rw[append_nil];exact hP mo' h)
 rwa [append_nil] at this
theorem MSt.gets0 (h:MSt prog w aj dx mo) {name:Str} {f:Addr} (hk:Zo (Zp w.params) F.G) (hf:findIn (Zp w.params) (.ref 242) name=some (some (.ref f))) (ht:typeIn (Zp w.params) (.ref f)=some (.type "function")) (hn:∀ {aj:Bool} {a b mb op fb bj bjunk bp:AV},(Yl aj a b mb op fb bj bjunk bp).lookup name=none):Qi prog w F mo (ZL x dx) name (.ref f):=by
 have:=MSt.gets (F:=F) (x:=x) (rest:=[]) h hk hf ht hn
 rwa [append_nil] at this
end
end
section
example:True:=by
 k_with "m glo" => (first
  | with_reducible exact TH (by assumption) (by assumption) (by assumption)
  | with_reducible exact XK (by assumption) (by assumption) (by assumption))
 trivial
noncomputable def X6 (P:Params):FuncData:=XW (Nq P)
theorem Es (P:Params):XE (Zp P) 261 (X6 P):=Yh (Nq P) (by kernel_rfl) (by kernel_rfl) (by kernel_rfl)
theorem Et {P:Params} {a0 a1 a2 a3 a4:AV}:YO (X6 P).scope.names ["codes", "old", "new", "notes", "now"] [a0,a1,a2,a3,a4]=[some a0,some a1,some a2,some a3,some a4,none,none,none,none,none,none,none,none,none,none,none,none]:=by kernel_rfl
theorem Ah (P:Params):DefOk (X6 P) ["codes", "old", "new", "notes", "now"]:=Yg rfl (of_decide_eq_true (by kernel_rfl)) (by kernel_rfl) (of_decide_eq_true (by kernel_rfl)) (by kernel_rfl)
noncomputable def Ai:List (Str×NameKind):=[("codes",.local),("old",.local),("new",.local),("notes",.local),("now",.cell),("told",.local),("gone",.local),("last",.local),("at",.local),("tag",.local),("i1",.local),("i2",.local),("j1",.local),("j2",.local),("word",.local),("range",.globalImplicit),("len",.globalImplicit)]
theorem Jy (P:Params):(X6 P).scope.names=Ai:=by kernel_rfl
theorem YF {f:Nat->AV} {n:Nat}:sel (fun _=>true) f n=(List.range n).map f:=by unfold sel;rw[List.filter_eq_self.mpr (fun _ _=>rfl)]
theorem SG {k:Nat} {x:Str} {d₀:AV}:∀ j d,([none,none,some d₀]:List (Option AV))[j]?=some (some d)->∃ e∈[(⟨2,k,x,d₀⟩:CapE)],e.j=j∧e.d=d:=UZ ⟨⟨_,mem_cons_self,rfl,rfl⟩,trivial⟩
noncomputable def TO (codes:List OpN) (old new notes:List Int) (now:Int) (T G:Addr) (last:Str) (i j:Nat):List (Option AV):=[some (Vl codes),some (il old),some (il new),some (il notes),some (.int now),some (.ptr T),some (.ptr G),some (.str last),some (.tup [.int i,.int j]),none,none,none,none,none,none,none,none]
noncomputable def Jz (codes:List OpN) (old new notes:List Int) (now:Int) (T G:Addr) (last:Str) (i j:Nat) (tag:Str) (i1 i2 j1 j2:Nat) (wd:Option AV):List (Option AV):=[some (Vl codes),some (il old),some (il new),some (il notes),some (.int now),some (.ptr T),some (.ptr G),some (.str last),some (.tup [.int i,.int j]),some (.str tag),some (.int i1),some (.int i2),some (.int j1),some (.int j2),wd,none,none]
theorem Gy {prog:Program} {w:World} {codes:List OpN} {old new notes:List Int} {now:Int} (S:Nat->RdS) (hS0:S 0=rd0) (hS:∀ t c,codes[t]?=some c->Rd old new notes now (S t) c (S (t+1))) (hSi:(S codes.length).i=old.length) (hSj:(S codes.length).j=new.length)
  (l1:old.length≤1000) (l2:new.length≤1000) (l3:notes.length=old.length) (hti:∀ t,t≤codes.length->(S t).told.length≤1000∧(S t).gone.length≤1000∧(S t).i≤old.length∧(S t).j≤new.length) :
  WK prog w (SK w) 3 (.ref 261) [Vl codes,il old,il new,il notes,.int now] (.tup [il (S codes.length).told,il (S codes.length).gone]):=by
 refine XM (Ah w.params) (fun V hV=>Ye hV (Es w.params) (VV w.params) rfl rfl) rfl (fun vs hv=>?_) (fun xAr xG xs xB room fok=>?_)
 ·obtain ⟨v0,v1,v2,v3,v4,rfl⟩:=BO hv
  kernel_rfl
 rw[Et]
 have xg:(Zd (X6 w.params) 261 xAr xG xs).env.globals=mainGlobals:=rfl
 have xb:(Zd (X6 w.params) 261 xAr xG xs).env.builtins=builtinsNs:=rfl
 have hk:Zo (Zp w.params) (Zd (X6 w.params) 261 xAr xG xs).G:=xB
 have xN:(Zd (X6 w.params) 261 xAr xG xs).names=(X6 w.params).scope.names:=rfl
 have xA:Room (Zd (X6 w.params) 261 xAr xG xs).A _:=room
 have xn:(Zd (X6 w.params) 261 xAr xG xs).n₀=xs.heap.objs.size:=rfl
 have xi:interactive (Zd (X6 w.params) 261 xAr xG xs).env=false:=rfl
 have xS:(Zd (X6 w.params) 261 xAr xG xs).env.scope=(X6 w.params).scope:=rfl
 have xc_now:∃ c,(Zd (X6 w.params) 261 xAr xG xs).env.cells.lookup (Str.ofString "now")=some c∧c∈(Zd (X6 w.params) 261 xAr xG xs).cs:=⟨xs.heap.objs.size+1,by kernel_rfl,List.mem_map.mpr ⟨(Str.ofString "now",xs.heap.objs.size+1),mem_of_lookup (by kernel_rfl),rfl⟩⟩
 generalize Zd (X6 w.params) 261 xAr xG xs=F at fok xg xb hk xN xA xn xi xS xc_now ⊢
 have xN1:=xN.trans (Jy w.params)
 have xn0:At F "codes" 0 .local:=Za fok xN1 0 rfl (by kernel_rfl)
 have xn1:At F "old" 1 .local:=Za fok xN1 1 rfl (by kernel_rfl)
 have xn2:At F "new" 2 .local:=Za fok xN1 2 rfl (by kernel_rfl)
 have xn3:At F "notes" 3 .local:=Za fok xN1 3 rfl (by kernel_rfl)
 have xn4:At F "now" 4 .cell:=Za fok xN1 4 rfl (by kernel_rfl)
 have xn5:At F "told" 5 .local:=Za fok xN1 5 rfl (by kernel_rfl)
 have xn6:At F "gone" 6 .local:=Za fok xN1 6 rfl (by kernel_rfl)
 have xn7:At F "last" 7 .local:=Za fok xN1 7 rfl (by kernel_rfl)
 have xn8:At F "at" 8 .local:=Za fok xN1 8 rfl (by kernel_rfl)
 have xn9:At F "tag" 9 .local:=Za fok xN1 9 rfl (by kernel_rfl)
 have xn10:At F "i1" 10 .local:=Za fok xN1 10 rfl (by kernel_rfl)
 have xn11:At F "i2" 11 .local:=Za fok xN1 11 rfl (by kernel_rfl)
 have xn12:At F "j1" 12 .local:=Za fok xN1 12 rfl (by kernel_rfl)
 have xn13:At F "j2" 13 .local:=Za fok xN1 13 rfl (by kernel_rfl)
 have xn14:At F "word" 14 .local:=Za fok xN1 14 rfl (by kernel_rfl)
 have xn15:At F "range" 15 .globalImplicit:=Za fok xN1 15 rfl (by kernel_rfl)
 have xn16:At F "len" 16 .globalImplicit:=Za fok xN1 16 rfl (by kernel_rfl)
 have hsl:(1000000:Nat)≤sizeLine:=by decide
 refine Zw (P₁:=fun o=>∃ T G,F.n₀≤T∧F.n₀≤G∧o=.nxt (TO codes old new notes now T G "" 0 0) [(G,Zc []),(T,Zc [])]) ?_ ?_
 ·with_reducible refine' Yp (P:=fun d om'=>∃ T G,F.n₀≤T∧F.n₀≤G∧d=.tup [.ptr T,.ptr G,.str "",.tup [.int 0,.int 0]]∧om'=[(G,Zc []),(T,Zc [])]) ?_ ?_ ?_ ?_
  ·with_reducible refine' Ul fok ?_
   with_reducible refine' Yo (P₁:=fun d om'=>∃ T,F.n₀≤T∧d=.ptr T∧om'=[(T,Zc [])]) ?_ ?_ ?_
   ·exact Yn fok Zq (show 0≤sizeLine by decide) fun T hT=>⟨T,hT,rfl,rfl⟩
   ·rintro d om' ⟨T,hT,rfl,rfl⟩
    with_reducible refine' Yo (P₁:=fun d om'=>∃ G,F.n₀≤G∧d=.ptr G∧om'=[(G,Zc []),(T,Zc [])]) ?_ ?_ ?_
    ·exact Yn fok Zq (show 0≤sizeLine by decide) fun G hG=>⟨G,hG,rfl,rfl⟩
    ·rintro d om' ⟨G,hG,rfl,rfl⟩
     exact Xo (ds:=[.str "",.tup [.int 0,.int 0]]) (by walk_at "m evl") ⟨show 4≤sizeLine by decide,T,G,hT,hG,rfl,rfl⟩
    ·rfl
   ·rfl
  ·rintro d om' ⟨T,G,hT,hG,rfl,rfl⟩
   exact ⟨_,XT fok (Zl (Zf fok (k:=5) (by walk_at "m st")) (Zl (Zf fok (k:=6) (by walk_at "m st")) (Zl (Zf fok (k:=7) (by walk_at "m st")) (Zl (Zf fok (k:=8) (by walk_at "m st")) Xn)))) rfl,T,G,hT,hG,rfl⟩
  ·rfl
  ·exact (swS xS _ _).trans (by kernel_rfl)
 rintro o ⟨T,G,hT,hG,rfl⟩
 refine Z1 (sig':=(TO codes old new notes now T G (S codes.length).last (S codes.length).i (S codes.length).j)) (om':=[(G,Zc ((S codes.length).gone.map .int)),(T,Zc ((S codes.length).told.map .int))])
  (YS fok (d:=Vl codes) (xs:=codes.map opN) (by walk_at "m ev") (YD fok)
   (fun t sig om=>sig=TO codes old new notes now T G (S t).last (S t).i (S t).j∧om=[(G,Zc ((S t).gone.map .int)),(T,Zc ((S t).told.map .int))])
   ⟨_,Sub.refl,by rw[hS0];rfl,by rw[hS0];rfl⟩ ?_ ?_ (by intro _;rfl)) ?_
 ·rintro t _ sig om hx ⟨rfl,rfl⟩
  rw[getElem?_map,Option.map_eq_some_iff] at hx
  obtain ⟨c,hc,rfl⟩:=hx
  have htl:t<codes.length:=(List.getElem?_eq_some_iff.mp hc).1
  have hb0:=hti t (le_of_lt htl)
  have hb1:=hti (t+1) htl
  have hst:=hS t c hc
  generalize S t=s0 at hst hb0
  generalize S (t+1)=s1 at hst hb1
  obtain ⟨tag,i1,i2,j1,j2⟩:=c
  refine ⟨Jz codes old new notes now T G s0.last s0.i s0.j tag i1 i2 j1 j2 none,XT fok (Zl (Zf fok (k:=9) (by walk_at "m st")) (Zl (Zf fok (k:=10) (by walk_at "m st")) (Zl (Zf fok (k:=11) (by walk_at "m st")) (Zl (Zf fok (k:=12) (by walk_at "m st")) (Zl (Zf fok (k:=13) (by walk_at "m st")) Xn))))) rfl,?_⟩
  refine Zw (P₁:=(·=.nxt (Jz codes old new notes now T G s0.last s0.i s0.j tag i1 i2 j1 j2 (some (.str (WC i1 i2 j1 j2)))) [(G,Zc (s0.gone.map .int)),(T,Zc (s0.told.map .int))])) (V8 (b:=decide (i1<i2)) (ZS (by walk_at "m tst") (by simp)) (fun c=>?_) (fun c=>?_)) ?_
  ·have c':i1<i2:=of_decide_eq_true c
   refine Z1 (Xd fok (k:=14) (d:=.str (WC i1 i2 j1 j2)) (by walk_at "m st") (Zt (N0 (c:=decide (j1<j2)) (ZS (by walk_at "m tst") (by simp)) (fun _=>Uk) (fun _=>Uk)) ?_) ((swW xS _ _ _).trans (by kernel_rfl))) (Zk rfl)
   unfold WC
   rw[if_pos c']
   by_cases q:j1<j2<;>simp[q]
  ·have c':¬ i1<i2:=of_decide_eq_false c
   refine Z1 (Xd fok (k:=14) (d:=.str (WC i1 i2 j1 j2)) (by walk_at "m st") (Zt (N0 (c:=decide (j1<j2)) (ZS (by walk_at "m tst") (by simp)) (fun _=>Uk) (fun _=>Uk)) ?_) ((swW xS _ _ _).trans (by kernel_rfl))) (Zk rfl)
   unfold WC
   rw[if_neg c']
   by_cases q:j1<j2<;>simp[q]
  rintro o rfl
  with_reducible refine' Xv (ZS (Xk (any_cons (Z0 (d₁:=.tup [.int i1,.int j1]) (d₂:=.tup [.int s0.i,.int s0.j]) (by walk_at "m ev") (by walk_at "m ev") (RQ fok (n:=1) (Cmp.tup (CmpL.cons (Cmp.int _ _) (CmpL.cons (Cmp.int _ _) CmpL.nil)))) rfl) (fun _=>any_cons (Xk (all_cons (by walk_at "m tst") (fun _=>all_cons (Z0 (d₁:=.bool _) (d₂:=.bool _) (by walk_at "m ev") (by walk_at "m ev") (BP fok (n:=0) (Cmp.bool _ _)) rfl) (fun _=>US)))) (fun _=>Rc)))) hst.t1) (Zy ?_)
  have hi1:i1≤old.length:=Nat.le_trans (le_of_eq hst.1.1) hb0.2.2.1
  have hj1:j1≤new.length:=Nat.le_trans (le_of_eq hst.1.2) hb0.2.2.2
  rcases hst.2 with ⟨ht,h1,h2,h3,h4,e⟩ | ⟨h1,h2,e⟩
  all_goals dsimp only at h1 h2 e
  ·dsimp only at ht h3
   rw[e] at hb1
   dsimp only at hb1
   have hw:WC i1 i2 j1 j2 = "replace" := by unfold WC;rw[if_pos h1,if_pos h2]
   rw[hw]
   have hsi:=hb1.2.2.1
   have hsj:=hb1.2.2.2
   have ho:old.length≤sizeLine:=by lia
   have hn:new.length≤sizeLine:=by lia
   have hno:notes.length≤sizeLine:=by lia
   with_reducible refine' Rr (ZS (by walk_at "m tst") (by rw[ht];decide)) ?_
   with_reducible refine' Xv (ZS (Xk (any_cons (by walk_at "m tst") fun _=>any_cons (Z0 (d₁:=il (Y9 old i1 i2)) (d₂:=il (Y9 new j1 j2)) (Zt (by walk_at "m ev") (by walk_at "m r")) (Zt (by walk_at "m ev") (by walk_at "m r")) (Qy fok) rfl) fun _=>Rc)) (by rw[h3];simp)) (Zy ?_)
   refine Zu xi (Yj fok (l':=(Y9 notes i1 i2).map .int) (by walk_at "m ev") (Zt (by walk_at "m ev") (by rfl)) (P:=fun _ om'=>om'=[(G,Zc (s0.gone.map .int)),(T,Zc (s0.told.map .int++(Y9 notes i1 i2).map .int))]) (.there .here) (by
    have:=hb1.1
    rw[length_append] at this
    rw[length_map,length_map];lia) rfl _) ?_ rfl
   rintro d om' rfl
   refine Zy ?_
   refine XX fok (k₁:=7) (k₂:=8) (d₁:=.str tag) (d₂:=.tup [.int i2,.int j2]) (by walk_at "m st") (by walk_at "m st") (by walk_at "m ev") rfl ((swS xS _ _).trans (by kernel_rfl)) ?_
   refine Zk ⟨TO codes old new notes now T G tag i2 j2,?_,by rw[e,ht],?_⟩
   ·unfold TO
    exact ⟨rfl,rfl,rfl,rfl,rfl,rfl,rfl,rfl,rfl,trivial⟩
   ·rw[e,map_append]
  ·rw[e] at hb1
   dsimp only at hb1
   have hw:WC i1 i2 j1 j2=tag:=by
    unfold WC
    rcases h1 with ⟨rfl,a,b⟩ | ⟨rfl,a,b⟩ | ⟨rfl,a,b⟩
    ·rw[if_pos a,if_pos b]
    ·rw[if_pos a,if_neg b]
    ·rw[if_neg a,if_pos b]
   have hte:(tag.cps.toList==("equal" : Str).cps.toList)=false:=PD (Ut h1)
   rw[hw]
   have hsi:=hb1.2.2.1
   have hsj:=hb1.2.2.2
   obtain ⟨c,hc,hcs⟩:=xc_now
   with_reducible refine' Xv (ZS (by walk_at "m tst") hte) ?_
   with_reducible refine' Xv (ZS (by walk_at "m tst") (by simp)) (Zy ?_)
   have q1:s0.told.length+(j2-j1)≤1000:=by
    have:=hb1.1
    rwa [length_append,length_replicate] at this
   have q2:s0.gone.length+(i2-i1)≤1000:=by
    have:=hb1.2.1
    rwa [length_append,length_map,List.length_range'] at this
   have n1:(ZC (j1:Int) (j2:Int)).length=j2-j1:=TD
   have n2:(ZC (i1:Int) (i2:Int)).length=i2-i1:=TD
   refine Zu xi (Yj fok (l':=(List.replicate (j2-j1) now).map .int) (by walk_at "m ev") (Zt (ZV (cl:=[(Str.ofString "now",c)]) (res:=sel (fun _=>true) (fun i=>.int now) (ZC (j1:Int) (j2:Int)).length) ⟨(Zr (fun _=>c) (by
     intro y hy
     have e:y∈[Str.ofString "now"]:=hy
     rw[mem_singleton] at e
     rw[e];exact hc)).trans rfl,by decide,rfl,of_decide_eq_true (by kernel_rfl)⟩ (fun ck=>YE fok (cap:=[none,none,some (.int now)]) (k:=1) (fun _=>true) (fun i=>.int now) ck
    (Yt [⟨2,4, "now",.int now⟩] SG (by
     intro e he
     rw[mem_singleton] at he
     subst he
     exact ⟨rfl,.inl (by rw[xN];rfl),rfl,by rw[hc];exact (by kernel_rfl:([(Str.ofString "now",c)]:List (Str×Addr)).lookup (Str.ofString "now")=some c)⟩)) rfl (by kernel_rfl) (by walk_at "m ev") (TE fok (Nat.le_trans hj1 l2) (Nat.le_trans hsj l2)) (by rw[n1];exact Q7 (Nat.le_trans hsj l2))
    (fun V' n l ok' hV hn i xv hxv=>⟨Yd,fun _=>Yi ok' 2 rfl (by kernel_rfl) rfl⟩)) (fun _=>rfl)) (by rw[n1,YF,List.map_const',length_range,List.map_replicate])) (P:=fun _ om'=>om'=[(G,Zc (s0.gone.map .int)),(T,Zc (s0.told.map .int++(List.replicate (j2-j1) now).map .int))]) (.there .here) (by
    rw[length_map,length_map,length_replicate];lia) rfl _) ?_ rfl
   rintro d om' rfl
   have e0:(sel (fun _=>true) (fun i=>.int ((i1:Int)+(i:Nat))) (ZC (i1:Int) (i2:Int)).length)=((List.range' i1 (i2-i1)).map (fun (n:Nat)=>(n:Int))).map .int:=by
    rw[n2,YF,List.range'_eq_map_range,map_map,map_map]
    refine map_congr_left fun a _=>?_
    simp
   refine Zu xi (Yj fok (l':=((List.range' i1 (i2-i1)).map (fun (n:Nat)=>(n:Int))).map .int) (by walk_at "m ev") (Zt (ZV (cl:=[]) (res:=sel (fun _=>true) (fun i=>.int ((i1:Int)+(i:Nat))) (ZC (i1:Int) (i2:Int)).length) ⟨(Zr (fun _=>0) (by intro y hy;cases hy)).trans rfl,by decide,rfl,of_decide_eq_true (by kernel_rfl)⟩
    (fun ck=>YE fok (cap:=[none,none]) (k:=1) (fun _=>true) (fun i=>.int ((i1:Int)+(i:Nat))) ck
     (Yt [] (fun j d h=>by rcases j with _ | _ | j<;>simp at h) (fun e he=>by cases he)) rfl (by kernel_rfl) (by walk_at "m ev") (TE fok (Nat.le_trans hi1 l1) (Nat.le_trans hsi l1)) (by rw[n2];exact Q7 (Nat.le_trans hsi l1))
     (fun V' n l ok' hV hn i xv hxv=>by
      obtain ⟨hi',rfl⟩:=Y6 hxv
      exact ⟨Yd,fun _=>ZI ok' 1 rfl (by kernel_rfl) rfl⟩)) (fun _=>rfl)) (congrArg AV.lst e0)) (P:=fun _ om'=>om'=[(G,Zc (s0.gone.map .int++((List.range' i1 (i2-i1)).map (fun (n:Nat)=>(n:Int))).map .int)),(T,Zc (s0.told.map .int++(List.replicate (j2-j1) now).map .int))]) .here (by
    rw[length_map,length_map,length_map,List.length_range'];lia) rfl _) ?_ rfl
   rintro d om' rfl
   refine Zy ?_
   refine XX fok (k₁:=7) (k₂:=8) (d₁:=.str tag) (d₂:=.tup [.int i2,.int j2]) (by walk_at "m st") (by walk_at "m st") (by walk_at "m ev") rfl ((swS xS _ _).trans (by kernel_rfl)) ?_
   refine Zk ⟨TO codes old new notes now T G tag i2 j2,?_,by rw[e],?_⟩
   ·unfold TO
    exact ⟨rfl,rfl,rfl,rfl,rfl,rfl,rfl,rfl,rfl,trivial⟩
   ·rw[e,map_append,map_append]
 ·rintro sig om ⟨rfl,rfl⟩
  rw[length_map]
 rw[hSi,hSj]
 with_reducible refine' Xv (ZS (Z0 (d₁:=.tup [.int old.length,.int new.length]) (d₂:=.tup [.int old.length,.int new.length]) (by walk_at "m ev") (by walk_at "m ev") (RQ fok (n:=1) (Cmp.tup (CmpL.cons (Cmp.int _ _) (CmpL.cons (Cmp.int _ _) CmpL.nil)))) rfl) (by simp)) (Zy ?_)
 refine Yx fok .here hG YK (ZH.set (k:=6) rfl) OmCast.refl ?_
 refine Yx fok .here hT YK (ZH.set (k:=5) rfl) OmCast.refl ?_
 refine ZU (d:=.tup [il (S codes.length).told,il (S codes.length).gone]) (by walk_at "m ev") rfl
end
section
noncomputable def Zb (l:List Nat):List Int:=l.map fun (n:Nat)=>(n:Int)
noncomputable def Vm (size:Nat):List Int:=Zb (List.range size)
noncomputable def stz (sizes:List Nat) (t:Nat):List Int:=(List.range (sizes.getD t 0)).map fun k=>3+4*(t:Int)+(k:Nat)
noncomputable def UQ (counts:List Nat) (size t:Nat):List Int:=if t<6 then rep (Vm size) (counts.getD t 0) else []
noncomputable def ZB (counts sizes:List Nat) (size n:Nat):List Int:=(List.range n).flatMap fun t=>stz sizes t++UQ counts size t
theorem YG {counts sizes:List Nat} {size n:Nat}:ZB counts sizes size (n+1)=ZB counts sizes size n++(stz sizes n++UQ counts size n):=by
 unfold ZB
 rw[range_succ,flatMap_append,List.flatMap_singleton]
theorem ZQ {o:List Nat} (h:∀ g∈o,g≤4) (i:Nat):o.getD i 0≤4:=by
 rw[getD_eq_getElem?_getD]
 cases e:o[i]? with
 | none=>exact zero_le _
 | some g=>exact h g (mem_of_getElem? e)
theorem WD {sizes:List Nat} {t:Nat}:(stz sizes t).length=sizes.getD t 0:=by
 unfold stz
 rw[length_map,length_range]
theorem We {size:Nat}:(Vm size).length=size:=by
 unfold Vm Zb
 rw[length_map,length_range]
theorem QO {counts:List Nat} {size t:Nat} (h:∀ g∈counts,g≤4) (hs:size≤3):(UQ counts size t).length≤12:=by
 unfold UQ
 split
 ·rw[Ta,We];exact mul_le_mul (ZQ h t) hs
 ·exact zero_le _
theorem Vh {counts sizes:List Nat} {size:Nat} (h:∀ g∈counts,g≤4) (h2:∀ g∈sizes,g≤4) (hs:size≤3):∀ n,(ZB counts sizes size n).length≤n*16
 | 0=>zero_le _
 | n+1=>by
  rw[YG,length_append,length_append,succ_mul,WD]
  exact add_le_add (Vh h h2 hs n) (add_le_add (ZQ h2 n) (QO h hs))
theorem ZY {o:List Nat} {i:Nat} (h:i<o.length):(Zb o)[((i:Nat):Int).toNat]?=some ((o.getD i 0:Nat):Int):=by
 rw[toNat_natCast]
 unfold Zb
 rw[getElem?_map,getElem?_eq_getElem h,getD_eq_getElem?_getD,getElem?_eq_getElem h];rfl
theorem Eu {sizes:List Nat} {t n:Nat} (h:n=sizes.getD t 0):sel (fun _=>true) (fun i=>AV.int (3+4*(t:Int)+(0+(i:Nat)))) n=(stz sizes t).map .int:=by
 unfold stz
 rw[YF,map_map,h]
 refine map_congr_left fun a _=>?_
 simp
theorem Lc {n size:Nat} {ys:Nat->List AV} (h:∀ i,(ys i).length=size):X5 n ys (fun _ j=>AV.int (j:Nat))=(rep (Vm size) n).map .int:=by
 induction n with
 | zero=>rfl
 | succ n ih =>
  rw[WB,ih,HI,map_append,h]
  unfold rep Vm Zb
  simp
theorem J0 {k:Nat} {x:Str} {d₀:AV}:∀ j d,([none,none,none,none,some d₀]:List (Option AV))[j]?=some (some d)->∃ e∈[(⟨4,k,x,d₀⟩:CapE)],e.j=j∧e.d=d:=UZ ⟨⟨_,mem_cons_self,rfl,rfl⟩,trivial⟩
example:True:=by
 k_with "m glo" => (first
  | with_reducible exact XK (by assumption) (by assumption) (by assumption))
 trivial
noncomputable def Y1 (P:Params):FuncData:=XW (No P)
theorem Gz (P:Params):XE (Zp P) 251 (Y1 P):=Yh (No P) (by kernel_rfl) (by kernel_rfl) (by kernel_rfl)
theorem G0 {P:Params} {a0 a1 a2:AV}:YO (Y1 P).scope.names ["counts", "sizes", "size"] [a0,a1,a2]=[some a0,some a1,some a2,none,none,none]:=by kernel_rfl
theorem Ew (P:Params):DefOk (Y1 P) ["counts", "sizes", "size"]:=Yg rfl (of_decide_eq_true (by kernel_rfl)) (by kernel_rfl) (of_decide_eq_true (by kernel_rfl)) (by kernel_rfl)
noncomputable def Ey:List (Str×NameKind):=[("counts",.local),("sizes",.local),("size",.cell),("text",.local),("t",.cell),("range",.globalImplicit)]
theorem Ld (P:Params):(Y1 P).scope.names=Ey:=by kernel_rfl
noncomputable def J1 (counts sizes:List Nat) (size:Nat) (T:Addr):List (Option AV):=[some (il (Zb counts)),some (il (Zb sizes)),some (.int size),some (.ptr T),none,none]
theorem QP {prog:Program} {w:World} {counts sizes:List Nat} {size:Nat} (hc:counts.length=6) (hs:sizes.length=7) (h4:∀ g∈counts,g≤4) (h4s:∀ g∈sizes,g≤4) (h3:size≤3):WK prog w (SK w) 3 (.ref 251) [il (Zb counts),il (Zb sizes),.int size] (il (ZB counts sizes size 7)):=by
 refine XM (Ew w.params) (fun V hV=>Ye hV (Gz w.params) (VV w.params) rfl rfl) rfl (fun vs hv=>?_) (fun xAr xG xs xB room fok=>?_)
 ·obtain ⟨v0,v1,v2,rfl⟩:=Mj hv
  kernel_rfl
 rw[G0]
 have xg:(Zd (Y1 w.params) 251 xAr xG xs).env.globals=mainGlobals:=rfl
 have xb:(Zd (Y1 w.params) 251 xAr xG xs).env.builtins=builtinsNs:=rfl
 have hk:Zo (Zp w.params) (Zd (Y1 w.params) 251 xAr xG xs).G:=xB
 have xN:(Zd (Y1 w.params) 251 xAr xG xs).names=(Y1 w.params).scope.names:=rfl
 have xA:Room (Zd (Y1 w.params) 251 xAr xG xs).A _:=room
 have xn:(Zd (Y1 w.params) 251 xAr xG xs).n₀=xs.heap.objs.size:=rfl
 have xi:interactive (Zd (Y1 w.params) 251 xAr xG xs).env=false:=rfl
 have xS:(Zd (Y1 w.params) 251 xAr xG xs).env.scope=(Y1 w.params).scope:=rfl
 have xc_size:∃ c,(Zd (Y1 w.params) 251 xAr xG xs).env.cells.lookup (Str.ofString "size")=some c∧c∈(Zd (Y1 w.params) 251 xAr xG xs).cs:=⟨xs.heap.objs.size+1,by kernel_rfl,List.mem_map.mpr ⟨(Str.ofString "size",xs.heap.objs.size+1),mem_of_lookup (by kernel_rfl),rfl⟩⟩
 have xc_t:∃ c,(Zd (Y1 w.params) 251 xAr xG xs).env.cells.lookup (Str.ofString "t")=some c∧c∈(Zd (Y1 w.params) 251 xAr xG xs).cs:=⟨xs.heap.objs.size+2,by kernel_rfl,List.mem_map.mpr ⟨(Str.ofString "t",xs.heap.objs.size+2),mem_of_lookup (by kernel_rfl),rfl⟩⟩
 generalize Zd (Y1 w.params) 251 xAr xG xs=F at fok xg xb hk xN xA xn xi xS xc_size xc_t ⊢
 have xN1:=xN.trans (Ld w.params)
 have xn0:At F "counts" 0 .local:=Za fok xN1 0 rfl (by kernel_rfl)
 have xn1:At F "sizes" 1 .local:=Za fok xN1 1 rfl (by kernel_rfl)
 have xn2:At F "size" 2 .cell:=Za fok xN1 2 rfl (by kernel_rfl)
 have xn3:At F "text" 3 .local:=Za fok xN1 3 rfl (by kernel_rfl)
 have xn4:At F "t" 4 .cell:=Za fok xN1 4 rfl (by kernel_rfl)
 have xn5:At F "range" 5 .globalImplicit:=Za fok xN1 5 rfl (by kernel_rfl)
 obtain ⟨cz,hcz,hczs⟩:=id xc_size
 obtain ⟨ct,hct,hcts⟩:=id xc_t
 refine Yy fok (k:=3) (by walk_at "m st") (Yn fok Zq (zero_le _) (P:=fun d om'=>∃ T,F.n₀≤T∧d=.ptr T∧om'=[(T,Zc [])]) fun T hT=>⟨T,hT,rfl,rfl⟩) ?_ rfl
 rintro d om₁ ⟨T,hT,rfl,rfl⟩
 refine Z1 (sig':=(J1 counts sizes size T)) (om':=[(T,Zc ((ZB counts sizes size 7).map .int))])
  (YS fok (d:=.rng 0 7) (xs:=ZC 0 7) (by walk_at "m ev") (ZW fok (b:=7) (by decide)) (fun t sig om=>sig=J1 counts sizes size T∧om=[(T,Zc ((ZB counts sizes size t).map .int))]) ⟨_,?_,rfl,rfl⟩ ?_ ?_ (by intro _;rfl)) ?_
 ·exact ⟨rfl,rfl,rfl,rfl,trivial⟩
 ·rintro t _ sig om hx ⟨rfl,rfl⟩
  obtain ⟨ht,rfl⟩:=Y6 hx
  have ht:t<7:=VP (b:=7) ht
  have hl:=Vh h4 h4s h3 t (counts:=counts) (sizes:=sizes) (size:=size)
  have hl2:(ZB counts sizes size t).length≤112:=Nat.le_trans hl (Nat.mul_le_mul_right 16 (le_of_lt ht))
  rw[Int.zero_add]
  refine ⟨_,Zf fok (k:=4) (by walk_at "m st"),?_⟩
  have hst:(stz sizes t).length≤4:=by rw[WD];exact ZQ h4s t
  have h7t:=ZQ h4s t
  have nn:(ZC 0 ((sizes.getD t 0:Nat):Int)).length=sizes.getD t 0:=YL
  have hget:=ZY (o:=sizes) (i:=t) (by rw[hs];exact ht)
  have h63:((t:Nat):Int)<2 ^ 63:=Vp (Nat.le_trans (le_of_lt ht) (by decide))
  refine Zu xi (Yj fok (l':=(stz sizes t).map .int) (by walk_at "m ev") (Zt (ZV (cl:=[(Str.ofString "t",ct)]) (res:=sel (fun _=>true) (fun i=>.int (3+4*(t:Int)+(0+(i:Nat)))) (ZC 0 ((sizes.getD t 0:Nat):Int)).length) ⟨(Zr (fun _=>ct) (by
     intro y hy
     have e:y∈[Str.ofString "t"]:=hy
     rw[mem_singleton] at e
     rw[e];exact hct)).trans rfl,by decide,rfl,of_decide_eq_true (by kernel_rfl)⟩
    (fun ck=>YE fok (cap:=[none,none,some (.int t)]) (k:=1) (fun _=>true) (fun i=>.int (3+4*(t:Int)+(0+(i:Nat)))) ck
     (Yt [⟨2,4, "t",.int t⟩] SG (by
       intro e he
       rw[mem_singleton] at he
       subst he
       exact ⟨rfl,.inl (by rw[xN];rfl),rfl,by rw[hct];exact (by kernel_rfl:([(Str.ofString "t",ct)]:List (Str×Addr)).lookup (Str.ofString "t")=some ct)⟩)) rfl (by kernel_rfl)
     (Zv (d:=.rng 0 (sizes.getD t 0:Nat)) (by walk_at "m ev") Zx (Ze (Zz (d₁:=il (Zb sizes)) (d₂:=.int ((t:Nat):Int)) (by walk_at "m ev") (by walk_at "m ev") (ZA (fun _ _=>rfl) YR h63 hget)) Zq rfl) (YC fok) rfl rfl)
     (ZW fok (Nat.le_trans h7t (by decide))) (by rw[nn];exact Nat.le_trans h7t (by decide))
     (fun V' n l ok' hV hn i xv hxv=>by
      obtain ⟨hi',rfl⟩:=Y6 hxv
      exact ⟨Yd,fun _=>Zj (Zj Z4 (Zj Z4 (Yi ok' 2 rfl (by kernel_rfl) rfl) (Vs (IntMulOk.of_left (by decide)))) YN) (ZI ok' 1 rfl (by kernel_rfl) rfl) YN⟩)) (fun _=>rfl)) (congrArg AV.lst (Eu nn))) (P:=fun _ om'=>om'=[(T,Zc ((ZB counts sizes size t).map .int++(stz sizes t).map .int))]) .here (by
    rw[length_map,length_map];exact Nat.le_trans (add_le_add hl2 hst) (by decide)) rfl _) ?_ rfl
  rintro d om' rfl
  rw[<-map_append]
  refine Zw (P₁:=(·=.nxt ((J1 counts sizes size T).set 4 (some (.int t))) [(T,Zc ((ZB counts sizes size (t+1)).map .int))]))
   (V8 (b:=decide (t<6)) (ZS (Z0 (d₁:=.int (t:Nat)) (by walk_at "m ev") Z4 Vb rfl) (decide_eq_decide.mpr Int.ofNat_lt)) (fun c=>?_) (fun c=>?_)) ?_
  ·have c6:t<6:=of_decide_eq_true c
   have h7c:=ZQ h4 t
   have hg:UQ counts size t=rep (Vm size) (counts.getD t 0):=by unfold UQ;rw[if_pos c6]
   have hlg:=QO (t:=t) h4 h3
   rw[YG,<-append_assoc]
   rw[hg] at hlg ⊢
   have mm:(ZC 0 ((counts.getD t 0:Nat):Int)).length=counts.getD t 0:=YL
   have mget:=ZY (o:=counts) (i:=t) (by rw[hc];exact c6)
   have hf:∀ i:Nat,X5 i (fun _=>ZC 0 (size:Int)) (fun _ j=>AV.int (j:Nat))=(rep (Vm size) i).map .int:=fun i=>Lc fun _=>YL
   refine Zu xi (Yj fok (l':=(rep (Vm size) (counts.getD t 0)).map .int) (by walk_at "m ev") (Zt (ZV (cl:=[(Str.ofString "size",cz)]) (res:=X5 (ZC 0 ((counts.getD t 0:Nat):Int)).length (fun _=>ZC 0 (size:Int)) (fun _ j=>AV.int (j:Nat))) ⟨(Zr (fun _=>cz) (by
     intro y hy
     have e:y∈[Str.ofString "size"]:=hy
     rw[mem_singleton] at e
     rw[e];exact hcz)).trans rfl,by decide,rfl,of_decide_eq_true (by kernel_rfl)⟩
    (fun ck=>KC fok (cap:=[none,none,none,none,some (.int size)]) (k:=1) (k':=2) (fun _=>ZC 0 (size:Int)) (fun _=>.rng 0 size) (fun _ j=>AV.int (j:Nat)) ck
     (Yt [⟨4,2, "size",.int size⟩] J0 (by
       intro e he
       rw[mem_singleton] at he
       subst he
       exact ⟨rfl,.inl (by rw[xN];rfl),rfl,by rw[hcz];exact (by kernel_rfl:([(Str.ofString "size",cz)]:List (Str×Addr)).lookup (Str.ofString "size")=some cz)⟩)) rfl rfl (by kernel_rfl) (by kernel_rfl) (by decide)
     (Zv (d:=.rng 0 (counts.getD t 0:Nat)) (by walk_at "m ev") Zx (Ze (Zz (d₁:=il (Zb counts)) (d₂:=.int ((t:Nat):Int)) (by walk_at "m ev") (by walk_at "m ev") (ZA (fun _ _=>rfl) YR h63 mget)) Zq rfl) (YC fok) rfl rfl)
     (ZW fok (Nat.le_trans h7c (by decide))) (fun i hi=>by
      rw[hf,length_map,Ta,We]
      rw[mm] at hi
      exact Nat.le_trans (mul_le_mul (Nat.le_trans hi h7c) h3) (by decide)) (fun _ _=>rfl)
     (fun V' n l ok' hV hn i xv hxv=>⟨Zv (cnm_glo ok' 3 rfl (by kernel_rfl) (XK (hk.mono hV) xg xb)) Zx (Ze (Yi ok' 4 rfl (by kernel_rfl) rfl) Zq rfl) (YC ok') rfl rfl,ZW ok' (Nat.le_trans h3 (by decide)),fun j yv hy=>by
      obtain ⟨hi',rfl⟩:=Y6 hy
      refine Zt (ZI ok' 2 rfl (by kernel_rfl) rfl) ?_
      rw[Int.zero_add]⟩)) (fun _=>rfl)) (congrArg AV.lst (by rw[mm];exact hf _))) (P:=fun _ om'=>om'=[(T,Zc ((ZB counts sizes size t++stz sizes t).map .int++(rep (Vm size) (counts.getD t 0)).map .int))]) .here (by
    rw[length_map,length_map,length_append];exact Nat.le_trans (add_le_add (add_le_add hl2 hst) hlg) (by decide)) rfl _) ?_ rfl
   rintro d om' rfl
   refine Zk ?_
   rw[<-map_append]
  ·have hg:UQ counts size t=[]:=by unfold UQ;rw[if_neg (of_decide_eq_false c)]
   rw[YG,hg,append_nil]
   exact Zk rfl
  rintro o' rfl
  refine Zk ⟨_,?_,rfl,rfl⟩
  exact ⟨rfl,rfl,rfl,rfl,trivial⟩
 ·rintro sig om ⟨rfl,rfl⟩
  rfl
 refine Yx fok .here hT YK (ZH.set (k:=3) rfl) OmCast.refl ?_
 exact ZU (by walk_at "m ev") rfl
end
section
theorem XR {i:Nat}:AV.int ((0:Int)+(i:Nat))=.int (i:Nat):=by rw[Int.zero_add]
theorem Aj {k₁ k₂:Nat} {x₁ x₂:Str} {d₁ d₂:AV}:∀ j d,([none,none,some d₁,some d₂]:List (Option AV))[j]?=some (some d)->∃ e∈[(⟨2,k₁,x₁,d₁⟩:CapE),⟨3,k₂,x₂,d₂⟩],e.j=j∧e.d=d:=UZ ⟨⟨_,mem_cons_self,rfl,rfl⟩,⟨_,mem_cons_of_mem _ mem_cons_self,rfl,rfl⟩,trivial⟩
theorem J2 {k₁ k₂:Nat} {x₁ x₂:Str} {d₁ d₂:AV}:∀ j d,([none,none,none,some d₁,some d₂]:List (Option AV))[j]?=some (some d)->∃ e∈[(⟨3,k₁,x₁,d₁⟩:CapE),⟨4,k₂,x₂,d₂⟩],e.j=j∧e.d=d:=UZ ⟨⟨_,mem_cons_self,rfl,rfl⟩,⟨_,mem_cons_of_mem _ mem_cons_self,rfl,rfl⟩,trivial⟩
theorem J3 {o n:List Nat}:sel (fun i=>decide (o.getD i 0≠n.getD i 0)) (fun i=>.int ((0:Int)+(i:Nat))) 6=(Zb (Zg o n)).map .int:=by
 unfold sel Zb Zg
 rw[map_map]
 exact map_congr_left fun a _=>XR
theorem Ue {o n:List Nat} {t:Nat} (h:t∈Zg o n):t<6:=List.mem_range.mp (List.mem_filter.mp h).1
theorem SH {o n:List Nat}:(Zg o n).length≤6:=Nat.le_trans (List.length_filter_le _ _) (by rw[length_range];exact le_refl _)
noncomputable def Wz (o n:List Nat):List Int:=[-1]++Zb (Zg o n)++[6]
theorem J4 {o n:List Nat}:Wz o n=(eN o n).map fun (e:Nat)=>(e:Int)-1:=by
 unfold Wz eN Zb
 rw[map_append,map_cons,map_map]
 show -1::(List.map _ _++[6])=(((0:Nat):Int)-1)::(List.map _ _++[((7:Nat):Int)-1])
 congr 2
 exact map_congr_left fun a _=>by simp
theorem PY {o n:List Nat}:(eN o n).length=(Zg o n).length+2:=by
 unfold eN
 rw[length_append,length_cons,length_map];rfl
theorem Uy {o n:List Nat} {i:Nat} (h:i<(Zg o n).length+2):(Wz o n)[i]?=some (((eN o n).getD i 0:Nat)-1:Int):=by
 rw[J4,getElem?_map,getElem?_eq_getElem (by rw[PY];exact h),getD_eq_getElem?_getD,getElem?_eq_getElem (by rw[PY];exact h)];rfl
theorem GR {o n:List Nat} (i:Nat):(eN o n).getD i 0≤7:=by
 rw[getD_eq_getElem?_getD]
 cases e:(eN o n)[i]? with
 | none=>exact zero_le _
 | some x =>
  have hm:=mem_of_getElem? e
  unfold eN at hm
  rcases List.mem_append.mp hm with hm | hm
  ·rcases List.mem_cons.mp hm with rfl | hm
   ·exact zero_le _
   ·obtain ⟨t,ht,rfl⟩:=List.mem_map.mp hm
    exact le_of_lt (succ_lt_succ (Ue ht))
  ·rw[List.mem_singleton.mp hm];exact le_refl _
theorem Ez {o n:List Nat} {i:Nat} (h:i<(Zg o n).length+1):1≤(eN o n).getD (i+1) 0:=by
 rw[getD_eq_getElem?_getD]
 have hm:(eN o n)[i+1]?=((Zg o n).map (·+1)++[7])[i]?:=by unfold eN;rw[cons_append,List.getElem?_cons_succ]
 rw[hm]
 have hl:i<((Zg o n).map (·+1)++[7]).length:=by rw[length_append,length_map];exact h
 rw[getElem?_eq_getElem hl]
 have hm:=getElem_mem hl
 rcases List.mem_append.mp hm with hm | hm
 ·obtain ⟨t,ht,e⟩:=List.mem_map.mp hm
  show 1≤_
  rw[Option.getD_some,<-e];exact succ_le_succ (zero_le _)
 ·rw[Option.getD_some,List.mem_singleton.mp hm];decide
theorem G1 {o n:List Nat}:(stN o n).length=(Zg o n).length+2:=by
 unfold stN
 rw[length_append,length_cons,length_map];rfl
noncomputable def J5 (o n:List Nat):List Int:=[0]++Zb ((Zg o n).map fun t=>min (o.getD t 0) (n.getD t 0))++[0]
theorem J6 {o n:List Nat}:J5 o n=Zb (stN o n):=by
 unfold J5 stN Zb
 rw[map_append,map_cons];rfl
theorem QQ {a b:Nat}:min (a:Int) (b:Int)=((min a b:Nat):Int):=by
 rcases Nat.le_total a b with h | h
 ·rw[min_eq_left h,Int.min_eq_left (Int.ofNat_le.mpr h)]
 ·rw[Nat.min_eq_right h,Int.min_eq_right (Int.ofNat_le.mpr h)]
theorem SI {a b:Nat}:min (a:Int) (b:Int)=((min a b:Nat):Int):=QQ
theorem J7 {o n:List Nat}:sel (fun _=>true) (fun i=>.int (min (o.getD ((Zg o n).getD i 0) 0:Int) (n.getD ((Zg o n).getD i 0) 0:Nat))) (Zg o n).length=(Zb ((Zg o n).map fun t=>min (o.getD t 0) (n.getD t 0))).map .int:=by
 rw[YF]
 unfold Zb
 generalize Zg o n=l
 refine List.ext_getElem (by simp) fun i h1 h2=>?_
 have hi:i<l.length:=by simpa using h1
 simp only[getElem_map,List.getElem_range,getD_eq_getElem?_getD,getElem?_eq_getElem hi,Option.getD_some]
 exact congrArg AV.int SI
theorem YH {l:List Nat}:(Zb l).length=l.length:=length_map _
theorem SJ {l:List Nat} {k:Nat}:(Zb l).take k=Zb (l.take k):=by unfold Zb;rw[List.map_take]
theorem SL {l:List Nat} {k:Nat}:(Zb l).drop k=Zb (l.drop k):=by unfold Zb;rw[List.map_drop]
theorem TP:∀ {l:List Nat},(Zb l).sum=((l.sum:Nat):Int)
 | []=>rfl
 | a::l=>by
  have:Zb (a::l)=(a:Int)::Zb l:=rfl
  rw[this,List.sum_cons,List.sum_cons,TP,natCast_add]
theorem J8 {s:Nat} {b:Int} (h:s≤3):IntMulOk (s:Int) b:=IntMulOk.of_left (by
 have:∀ s:Fin 4,Builtin.Int.intBits ((s:Nat):Int)≤64:=by decide +kernel
 exact this ⟨s,lt_succ_of_le h⟩)
theorem Le {o n:List Nat}:(eN o n).Pairwise (·<·):=by
 unfold eN
 rw[cons_append,List.pairwise_cons,List.pairwise_append]
 have hp:(Zg o n).Pairwise (·<·):=List.Pairwise.filter _ List.pairwise_lt_range
 refine ⟨fun x hx=>?_,hp.map _ fun a b h=>succ_lt_succ h,List.pairwise_singleton _ _,fun a ha b hb=>?_⟩
 ·rcases List.mem_append.mp hx with hx | hx
  ·obtain ⟨t,ht,rfl⟩:=List.mem_map.mp hx
   exact succ_pos _
  ·rw[List.mem_singleton.mp hx];decide
 ·obtain ⟨t,ht,rfl⟩:=List.mem_map.mp ha
  rw[List.mem_singleton.mp hb]
  exact succ_lt_succ (Ue ht)
theorem NU {o n:List Nat} {i j:Nat} (h:i<j) (hj:j<(Zg o n).length+2):(eN o n).getD i 0<(eN o n).getD j 0:=by
 have h2:j<(eN o n).length:=by rw[PY];exact hj
 have h1:i<(eN o n).length:=lt_trans h h2
 rw[getD_eq_getElem?_getD,getD_eq_getElem?_getD,getElem?_eq_getElem h1,getElem?_eq_getElem h2]
 exact List.pairwise_iff_getElem.mp Le i j h1 h2 h
theorem J9:∀ {l:List Nat},l≠[]->(∀ g∈l,1≤g)->0<l.sum
 | [],h,_=>absurd rfl h
 | a::l,_,h=>by
  rw[List.sum_cons]
  exact lt_of_lt_of_le (h a mem_cons_self) (Nat.le_add_right _ _)
theorem Uf {o n sizes:List Nat} {size u:Nat} {own:Own} (hs:sizes.length=7) (h1:∀ g∈sizes,1≤g) (hu:u<(Zg o n).length+1):0<XZ o n sizes size own u:=by
 have hl:=NU (o:=o) (n:=n) (lt_succ_self u) (succ_lt_succ hu)
 have he:=GR (o:=o) (n:=n) (u+1)
 have hp:0<((sizes.take ((eN o n).getD (u+1) 0)).drop ((eN o n).getD u 0)).sum:=by
  refine J9 (fun e=>?_) fun g hg=>h1 g (List.mem_of_mem_take (List.mem_of_mem_drop hg))
  have:=congrArg List.length e
  rw[List.length_drop,length_take,hs,min_eq_left he] at this
  exact absurd this (Nat.sub_ne_zero_of_lt hl)
 unfold XZ baseW
 exact lt_of_lt_of_le hp (Nat.le_trans (Nat.le_add_right _ _) (Nat.le_trans (Nat.le_add_right _ _) (Nat.le_add_right _ _)))
noncomputable def sideL (b:Nat) (f:Nat->Nat) (u:Nat):Nat->Nat
 | 0=>b
 | i+1=>sideL b f u i+f (u+i)
theorem G2 {b:Nat} {f:Nat->Nat} {u i:Nat}:sideL b f u (i+1)=sideL b f u i+f (u+i):=rfl
noncomputable def claimL (own:Own) (b:Nat):Nat->Own
 | 0=>own
 | i+1=>claim (claimL own b i) (b+i) b
theorem JA {own:Own} {b i:Nat}:claimL own b (i+1)=claim (claimL own b i) (b+i) b:=rfl
theorem JB {l:List Nat} {b:Nat}:sel (fun i=>decide (l.getD i 0≠b)) (fun i=>.int (l.getD i 0:Nat)) l.length=(Zb (l.filter fun u=>decide (u≠b))).map .int:=by
 unfold sel Zb
 rw[map_map]
 induction l with
 | nil=>rfl
 | cons a l ih =>
  rw[length_cons,List.range_succ_eq_map,List.filter_cons,List.filter_cons]
  rw[List.filter_map]
  have ih':List.map ((fun i=>AV.int (((a::l).getD i 0:Nat):Int))∘Nat.succ) (List.filter ((fun i=>decide ((a::l).getD i 0≠b))∘Nat.succ) (List.range l.length))=List.map (AV.int∘fun (n:Nat)=>(n:Int)) (List.filter (fun u=>decide (u≠b)) l):=ih
  have h0:(a::l).getD 0 0=a:=rfl
  rw[h0]
  split
  ·rw[map_cons,map_cons,map_map,ih'];rfl
  ·rw[map_map,ih']
theorem Lf {o n sizes:List Nat} {size k:Nat} {own:Own}:Wb o n sizes size k own []=own:=by
 cases k with
 | zero=>rfl
 | succ k=>unfold Wb;rw[if_pos rfl]
theorem Wf {own:Own} {s b:Nat} {k:Int} (h:(own k).isSome=true):(claim own s b k).isSome=true:=by
 unfold claim
 split
 ·show (if k=(s:Int) then some b else own k).isSome=true
  split
  ·rfl
  ·exact h
 ·exact h
set_option tactic.hygienic true in
theorem TQ {own:Own} {s b:Nat}:(claim own s b (s:Nat)).isSome=true:=by
 unfold claim
 split
 ·show (if (s:Int)=(s:Int) then some b else own s).isSome=true
  rw[if_pos rfl];rfl
 ·rename_i h
  cases e:own (s:Nat) with
  | none=>rw[e] at h;exact absurd rfl h
  | some x=>rfl
theorem TR {o n sizes:List Nat} {size m:Nat} (hw:∀ own u,u<m->0<XZ o n sizes size own u):∀ (k:Nat) (own:Own) (left:List Nat),left.length≤k->(∀ u∈left,u<m)->(∀ u:Nat,u<m->u∉left->(own (u:Nat)).isSome=true∧(own ((u+1:Nat):Int)).isSome=true) ->
  ∀ u:Nat,u<m->(Wb o n sizes size k own left (u:Nat)).isSome=true∧(Wb o n sizes size k own left ((u+1:Nat):Int)).isSome=true
 | 0,own,left,hl,hm,h=>fun u hu=>h u hu (by rw[List.eq_nil_of_length_eq_zero (Nat.le_zero.mp hl)];exact not_mem_nil)
 | k+1,own,left,hl,hm,h=>by
  unfold Wb
  by_cases e:left=[]
  ·rw[if_pos e]
   exact fun u hu=>h u hu (by rw[e];exact not_mem_nil)
  ·rw[if_neg e]
   obtain ⟨hb1,_,_⟩:=VS e fun u hu=>hw own u (hm u hu)
   generalize Wa (XZ o n sizes size own) left=b at hb1 ⊢
   have hfl:(left.filter fun u=>decide (u≠b)).length<left.length:=List.length_filter_lt_length_iff_exists.mpr ⟨b,hb1,by simp⟩
   refine TR hw k _ _ (le_of_lt_succ (lt_of_lt_of_le hfl hl)) (fun u hu=>hm u (List.mem_filter.mp hu).1) fun u hu hn=>?_
   unfold XJ
   by_cases q:u=b
   ·subst q
    exact ⟨Wf TQ,TQ⟩
   ·have:u∉left:=fun hu'=>hn (List.mem_filter.mpr ⟨hu',by simpa using q⟩)
    exact ⟨Wf (Wf (h u hu this).1),Wf (Wf (h u hu this).2)⟩
theorem Vi {o n sizes:List Nat} {size s:Nat} (hs:sizes.length=7) (h1:∀ g∈sizes,1≤g) (h:s<(Zg o n).length+2):(UO o n sizes size (s:Nat)).isSome=true:=by
 have:=TR (o:=o) (n:=n) (sizes:=sizes) (size:=size) (m:=(Zg o n).length+1) (fun own u hu=>Uf hs h1 hu) ((Zg o n).length+1) (fun _=>none) (List.range ((Zg o n).length+1)) (by rw[length_range];exact le_refl _) (fun u hu=>List.mem_range.mp hu) fun u hu hn=>absurd (List.mem_range.mpr hu) hn
 cases s with
 | zero=>exact (this 0 (succ_pos _)).1
 | succ s=>exact (this s (Nat.lt_of_succ_lt_succ h)).2
theorem WW {l:List Nat} {t:Nat} {x:AV} (h:((Zb l).map AV.int)[t]?=some x):∃ u,l[t]?=some u∧x=.int (u:Nat):=by
 unfold Zb at h
 rw[map_map,getElem?_map,Option.map_eq_some_iff] at h
 obtain ⟨u,hu,e⟩:=h
 exact ⟨u,hu,e.symm⟩
theorem TS {α β:Type} {f:β->α->β} {s:β} {l:List α} {t:Nat} {u:α} (h:l[t]?=some u):(l.take (t+1)).foldl f s=f ((l.take t).foldl f s) u:=by
 rw[List.take_add_one,h,foldl_append];rfl
theorem Lg {sizes o:List Nat} {size e1 e2:Nat} (h:1≤e2):(((Zb sizes).take (((e2-1:Nat):Int)+1).toNat).drop ((e1:Nat):Int).toNat).sum+(size:Int)*(((Zb o).take ((e2-1:Nat):Int).toNat).drop ((e1:Nat):Int).toNat).sum=((((sizes.take e2).drop e1).sum+size*((o.take (e2-1)).drop e1).sum:Nat):Int):=by
 have e:(((e2-1:Nat):Int)+1).toNat=e2:=by
  have:((e2-1:Nat):Int)+1=((e2-1+1:Nat):Int):=rfl
  rw[this,toNat_natCast,sub_add_cancel h]
 rw[e,toNat_natCast,toNat_natCast,SJ,SL,TP,SJ,SL,TP,natCast_add,Int.natCast_mul]
theorem QR {u:Nat} {i:Nat} {x:AV} (h:[AV.int (u:Nat),.int ((u:Nat)+1)][i]?=some x):i<2∧x=.int ((u+i:Nat):Int):=by
 match i,h with
 | 0,h=>cases h;exact ⟨by decide,rfl⟩
 | 1,h=>cases h;exact ⟨by decide,rfl⟩
 | i+2,h=>cases h
theorem SM {own:Own} {k:Int}:(!(Wc own k).isSome)=(own k).isNone:=by
 unfold Wc
 cases own k<;>rfl
theorem Lh {own:Own} {m s b:Nat} (hs:s<m) (h:(own (s:Nat)).isNone=true):cnt (claim own s b) m=cnt own m+1:=by
 unfold claim
 rw[if_pos h]
 exact HJ hs (Option.isNone_iff_eq_none.mp h)
section
variable {prog:Program} {w:World} {F:Fn} {sig:List (Option AV)} {om:Om}
theorem NV (okF:F.Ok) {x y:Str} {p q tp pos:Pos} {kk k₁ k₂:Nat} {e:Expr} {d₁ d₂:AV} {rest:List Stmt} {P:Out->Prop} (s₁:Xc F x k₁) (s₂:Xc F y k₂) (h:Ev prog w F sig om e (.tup [d₁,d₂]))
  (hs:swapsWithSole [.Tuple [.Name x p,.Name y q] kk tp] e pos.line F.env=pure false) (hw:swappedStores [.Tuple [.Name x p,.Name y q] kk tp] e F.env=pure none)
  (hr:Ex prog w F ((sig.set k₁ (some d₁)).set k₂ (some d₂)) om rest P):Ex prog w F sig om (.Assign [.Tuple [.Name x p,.Name y q] kk tp] e pos::rest) P :=
 Zw (P₁:=(·=.nxt ((sig.set k₁ (some d₁)).set k₂ (some d₂)) om)) (Yp (P:=fun d om'=>d=.tup [d₁,d₂]∧om'=om) (Wl h ⟨rfl,rfl⟩) (fun d om' ⟨e1,e2⟩=>by subst e1 e2;exact ⟨_,XT okF (Zl (Zf okF s₁) (Zl (Zf okF s₂) Xn)) rfl,rfl⟩) hs hw) fun o ho=>by subst ho;exact hr
end
theorem GS {F:Fn} {P:Params} (hk:Zo (Zp P) F.G) (hg:F.env.globals=mainGlobals) (hb:F.env.builtins=builtinsNs):Glo F "sum" (.builtin "sum"):=Xz hk hg hb (nsg P) (nsb P) (by kernel_rfl) (by kernel_rfl)
example:True:=by
 k_with "m glo" => (first
  | with_reducible exact XK (by assumption) (by assumption) (by assumption)
  | with_reducible exact TH (by assumption) (by assumption) (by assumption)
  | with_reducible exact GS (by assumption) (by assumption) (by assumption))
 trivial
noncomputable def ZP (P:Params):FuncData:=XW (Np P)
theorem G3 (P:Params):XE (Zp P) 256 (ZP P):=Yh (Np P) (by kernel_rfl) (by kernel_rfl) (by kernel_rfl)
theorem G4 {P:Params} {a0 a1 a2 a3:AV}:YO (ZP P).scope.names ["old", "new", "sizes", "size"] [a0,a1,a2,a3]=[some a0,some a1,some a2,some a3,none,none,none,none,none,none,none,none,none,none,none,none,none,none,none]:=by kernel_rfl
theorem E0 (P:Params):DefOk (ZP P) ["old", "new", "sizes", "size"]:=Yg rfl (of_decide_eq_true (by kernel_rfl)) (by kernel_rfl) (of_decide_eq_true (by kernel_rfl)) (by kernel_rfl)
noncomputable def E1:List (Str×NameKind):=[("old",.cell),("new",.cell),("sizes",.local),("size",.local),("cuts",.local),("ends",.cell),("stay",.local),("u",.local),("owners",.cell),("left",.local),("best",.cell),("most",.local),("first",.local),("last",.local),("lines",.local),("side",.local),("range",.globalImplicit),("len",.globalImplicit),("sum",.globalImplicit)]
theorem Li (P:Params):(ZP P).scope.names=E1:=by kernel_rfl
noncomputable def Yv (o n:List Nat):List Int:=Zb (List.range ((Zg o n).length+2))
noncomputable def kfO (o n:List Nat) (k:Int):Int:=((eN o n).getD k.toNat 0:Nat)-1
noncomputable def vfO (o n sizes:List Nat) (size:Nat) (k:Int):Bool:=(((UO o n sizes size k).getD 0:Nat):Int)==k-1
noncomputable def TT (o n sizes:List Nat) (size:Nat) (D:Addr) (left:List Nat):List (Option AV):=(some (il (Zb o))::some (il (Zb n))::some (il (Zb sizes))::some (.int size)::some (il (Zb (Zg o n)))::some (il (Wz o n))::some (il (Zb (stN o n)))::none::some (.ptr D)::some (il (Zb left))::none::none::none::none::none::none::none::none::none::[])
noncomputable def PZ (o n sizes:List Nat) (size:Nat) (D:Addr) (left:List Nat) (s:Int×Nat):List (Option AV):=(some (il (Zb o))::some (il (Zb n))::some (il (Zb sizes))::some (.int size)::some (il (Zb (Zg o n)))::some (il (Wz o n))::some (il (Zb (stN o n)))::none::some (.ptr D)::some (il (Zb left))::some (.int s.1)::some (.int (s.2:Nat))::none::none::none::none::none::none::none::[])
noncomputable def RE (o n sizes:List Nat) (size:Nat) (D:Addr) (left:List Nat) (s:Int×Nat) (u f l li:Nat):List (Option AV):=(some (il (Zb o))::some (il (Zb n))::some (il (Zb sizes))::some (.int size)::some (il (Zb (Zg o n)))::some (il (Wz o n))::some (il (Zb (stN o n)))::some (.int u)::some (.ptr D)::some (il (Zb left))::some (.int s.1)::some (.int (s.2:Nat))::some (.int f)::some (.int l)::some (.int li)::none::none::none::none::[])
theorem W0 {o n:List Nat} {k:Int} (h:k∈Yv o n):∃ s:Nat,k=(s:Int)∧s<(Zg o n).length+2:=by
 unfold Yv Zb at h
 obtain ⟨s,hs,rfl⟩:=List.mem_map.mp h
 exact ⟨s,rfl,List.mem_range.mp hs⟩
theorem NW {o n:List Nat} {a b:Nat} (ha:a<(Zg o n).length+2) (hb:b<(Zg o n).length+2) (e:kfO o n (a:Nat)=kfO o n (b:Nat)):a=b:=by
 unfold kfO at e
 rw[toNat_natCast,toNat_natCast] at e
 have e:(eN o n).getD a 0=(eN o n).getD b 0:=Int.ofNat_inj.mp (Int.sub_left_inj _ |>.mp e)
 rcases Nat.lt_trichotomy a b with q | q | q
 ·exact absurd e (ne_of_lt (NU q hb))
 ·exact q
 ·exact absurd e.symm (ne_of_lt (NU q ha))
theorem JC {prog:Program} {w:World} {o n sizes:List Nat} {size:Nat} (hco:o.length=6) (hcn:n.length=6) (hs:sizes.length=7) (h4:∀ g∈o,g≤4) (h4n:∀ g∈n,g≤4) (h4s:∀ g∈sizes,1≤g∧g≤4) (h3:size≤3) (h1:1≤size) :
  WK prog w (SK w) 3 (.ref 256) [il (Zb o),il (Zb n),il (Zb sizes),.int size] (dct (dcF (kfO o n) (vfO o n sizes size) (Yv o n)) (Yv o n).length):=by
 refine XM (E0 w.params) (fun V hV=>Ye hV (G3 w.params) (VV w.params) rfl rfl) rfl (fun vs hv=>?_) (fun xAr xG xs xB room fok=>?_)
 ·obtain ⟨v0,v1,v2,v3,rfl⟩:=Ff hv
  kernel_rfl
 rw[G4]
 have xg:(Zd (ZP w.params) 256 xAr xG xs).env.globals=mainGlobals:=rfl
 have xb:(Zd (ZP w.params) 256 xAr xG xs).env.builtins=builtinsNs:=rfl
 have hk:Zo (Zp w.params) (Zd (ZP w.params) 256 xAr xG xs).G:=xB
 have xN:(Zd (ZP w.params) 256 xAr xG xs).names=(ZP w.params).scope.names:=rfl
 have xA:Room (Zd (ZP w.params) 256 xAr xG xs).A _:=room
 have xn:(Zd (ZP w.params) 256 xAr xG xs).n₀=xs.heap.objs.size:=rfl
 have xi:interactive (Zd (ZP w.params) 256 xAr xG xs).env=false:=rfl
 have xS:(Zd (ZP w.params) 256 xAr xG xs).env.scope=(ZP w.params).scope:=rfl
 have xc_old:∃ c,(Zd (ZP w.params) 256 xAr xG xs).env.cells.lookup (Str.ofString "old")=some c∧c∈(Zd (ZP w.params) 256 xAr xG xs).cs:=⟨xs.heap.objs.size+1,by kernel_rfl,List.mem_map.mpr ⟨(Str.ofString "old",xs.heap.objs.size+1),mem_of_lookup (by kernel_rfl),rfl⟩⟩
 have xc_new:∃ c,(Zd (ZP w.params) 256 xAr xG xs).env.cells.lookup (Str.ofString "new")=some c∧c∈(Zd (ZP w.params) 256 xAr xG xs).cs:=⟨xs.heap.objs.size+2,by kernel_rfl,List.mem_map.mpr ⟨(Str.ofString "new",xs.heap.objs.size+2),mem_of_lookup (by kernel_rfl),rfl⟩⟩
 have xc_ends:∃ c,(Zd (ZP w.params) 256 xAr xG xs).env.cells.lookup (Str.ofString "ends")=some c∧c∈(Zd (ZP w.params) 256 xAr xG xs).cs:=⟨xs.heap.objs.size+3,by kernel_rfl,List.mem_map.mpr ⟨(Str.ofString "ends",xs.heap.objs.size+3),mem_of_lookup (by kernel_rfl),rfl⟩⟩
 have xc_owners:∃ c,(Zd (ZP w.params) 256 xAr xG xs).env.cells.lookup (Str.ofString "owners")=some c∧c∈(Zd (ZP w.params) 256 xAr xG xs).cs:=⟨xs.heap.objs.size+4,by kernel_rfl,List.mem_map.mpr ⟨(Str.ofString "owners",xs.heap.objs.size+4),mem_of_lookup (by kernel_rfl),rfl⟩⟩
 have xc_best:∃ c,(Zd (ZP w.params) 256 xAr xG xs).env.cells.lookup (Str.ofString "best")=some c∧c∈(Zd (ZP w.params) 256 xAr xG xs).cs:=⟨xs.heap.objs.size+5,by kernel_rfl,List.mem_map.mpr ⟨(Str.ofString "best",xs.heap.objs.size+5),mem_of_lookup (by kernel_rfl),rfl⟩⟩
 generalize Zd (ZP w.params) 256 xAr xG xs=F at fok xg xb hk xN xA xn xi xS xc_old xc_new xc_ends xc_owners xc_best ⊢
 have xN1:=xN.trans (Li w.params)
 have xn0:At F "old" 0 .cell:=Za fok xN1 0 rfl (by kernel_rfl)
 have xn1:At F "new" 1 .cell:=Za fok xN1 1 rfl (by kernel_rfl)
 have xn2:At F "sizes" 2 .local:=Za fok xN1 2 rfl (by kernel_rfl)
 have xn3:At F "size" 3 .local:=Za fok xN1 3 rfl (by kernel_rfl)
 have xn4:At F "cuts" 4 .local:=Za fok xN1 4 rfl (by kernel_rfl)
 have xn5:At F "ends" 5 .cell:=Za fok xN1 5 rfl (by kernel_rfl)
 have xn6:At F "stay" 6 .local:=Za fok xN1 6 rfl (by kernel_rfl)
 have xn7:At F "u" 7 .local:=Za fok xN1 7 rfl (by kernel_rfl)
 have xn8:At F "owners" 8 .cell:=Za fok xN1 8 rfl (by kernel_rfl)
 have xn9:At F "left" 9 .local:=Za fok xN1 9 rfl (by kernel_rfl)
 have xn10:At F "best" 10 .cell:=Za fok xN1 10 rfl (by kernel_rfl)
 have xn11:At F "most" 11 .local:=Za fok xN1 11 rfl (by kernel_rfl)
 have xn12:At F "first" 12 .local:=Za fok xN1 12 rfl (by kernel_rfl)
 have xn13:At F "last" 13 .local:=Za fok xN1 13 rfl (by kernel_rfl)
 have xn14:At F "lines" 14 .local:=Za fok xN1 14 rfl (by kernel_rfl)
 have xn15:At F "side" 15 .local:=Za fok xN1 15 rfl (by kernel_rfl)
 have xn16:At F "range" 16 .globalImplicit:=Za fok xN1 16 rfl (by kernel_rfl)
 have xn17:At F "len" 17 .globalImplicit:=Za fok xN1 17 rfl (by kernel_rfl)
 have xn18:At F "sum" 18 .globalImplicit:=Za fok xN1 18 rfl (by kernel_rfl)
 obtain ⟨co,hcO,_⟩:=id xc_old
 obtain ⟨cn,hcN,_⟩:=id xc_new
 obtain ⟨g,g1,g2⟩:∃ g:Str->Addr,g (Str.ofString "new")=cn∧g (Str.ofString "old")=co :=
  ⟨fun x=>if x=Str.ofString "new" then cn else co,by dsimp only;rw[if_pos rfl],by dsimp only;rw[if_neg (by decide +kernel)]⟩
 have hfr:∀ y∈[Str.ofString "new",Str.ofString "old"],F.env.cells.lookup y=some (g y):=fun y e=>by
  rcases List.mem_cons.mp e with rfl | e
  ·exact hcN.trans (congrArg some g1.symm)
  ·rw[List.mem_singleton.mp e];exact hcO.trans (congrArg some g2.symm)
 have hgl:[(Str.ofString "old",g (Str.ofString "old")),(Str.ofString "new",g (Str.ofString "new"))]=[(Str.ofString "old",co),(Str.ofString "new",cn)]:=by rw[g1,g2]
 have lo1:([(Str.ofString "old",co),(Str.ofString "new",cn)]:List (Str×Addr)).lookup (Str.ofString "old")=some co:=by kernel_rfl
 have ln1:([(Str.ofString "old",co),(Str.ofString "new",cn)]:List (Str×Addr)).lookup (Str.ofString "new")=some cn:=by kernel_rfl
 refine Z1 (Y4 fok (k:=4) (cl:=[(Str.ofString "old",co),(Str.ofString "new",cn)]) (res:=sel (fun i=>decide (o.getD i 0≠n.getD i 0)) (fun i=>.int ((0:Int)+(i:Nat))) (ZC 0 6).length)
   ⟨(Zr g (by intro y hy;have e:y∈[Str.ofString "new",Str.ofString "old"]:=hy;exact hfr y e)).trans (congrArg pure hgl),by decide,rfl,of_decide_eq_true (by kernel_rfl)⟩ (by walk_at "m st")
   (fun ck=>YE fok (cap:=[none,none,some (il (Zb n)),some (il (Zb o))]) (k:=1) (fun i=>decide (o.getD i 0≠n.getD i 0)) (fun i=>.int ((0:Int)+(i:Nat)))
    ck
    (Yt [⟨2,1, "new",il (Zb n)⟩,⟨3,0, "old",il (Zb o)⟩] Aj (by
     intro e he
     rcases List.mem_cons.mp he with rfl | he
     ·exact ⟨rfl,.inl (by rw[xN];rfl),rfl,by rw[hcN];exact ln1⟩
     ·rw[mem_singleton] at he
      subst he
      exact ⟨rfl,.inl (by rw[xN];rfl),rfl,by rw[hcO];exact lo1⟩)) rfl (by kernel_rfl) (Zt (d:=.rng 0 6) (by walk_at "m ev") rfl) (ZW fok (b:=6) (by decide)) (by decide)
    (fun V' n' l ok' hV hn i xv hxv=>by
     obtain ⟨hi',rfl⟩:=Y6 hxv
     have hi:i<6:=VP (b:=6) hi'
     have hx:=ZY (o:=o) (i:=i) (by rw[hco];exact hi)
     have hy:=ZY (o:=n) (i:=i) (by rw[hcn];exact hi)
     have i63:((i:Nat):Int)<2 ^ 63:=Vp (Nat.le_trans (le_of_lt hi) (by decide))
     rw[XR]
     exact ⟨N8 (ZS (Z0 (Zz (Yi ok' 3 rfl (by kernel_rfl) rfl) (ZI ok' 1 rfl (by kernel_rfl) rfl) (ZA (by with_unfolding_all exact fun _ _=>rfl) YR i63 hx)) (Zz (Yi ok' 2 rfl (by kernel_rfl) rfl) (ZI ok' 1 rfl (by kernel_rfl) rfl) (ZA (by with_unfolding_all exact fun _ _=>rfl) YR i63 hy)) Va rfl) (by
      rw[Bool.eq_iff_iff];simp;exact not_congr Int.ofNat_inj)),fun _=>ZI ok' 1 rfl (by kernel_rfl) rfl⟩))
   ((swW xS _ _ _).trans (by kernel_rfl))) ?_
 rw[show (ZC 0 6).length=6 from rfl,J3]
 have hcl:=@SH o n
 have hcz:(Zb (Zg o n)).length≤6:=by unfold Zb;rw[length_map];exact hcl
 have z1:∀ {a:Int},(List.map AV.int [a]).length≤sizeLine:=fun {a}=>(by show 1≤sizeLine;decide)
 with_reducible refine' ZF (k:=5) (d:=il (Wz o n)) fok (by walk_at "m st") (Zj (d₁:=il ([-1]++Zb (Zg o n))) (d₂:=il [6]) (Zj (d₁:=il [-1]) (d₂:=il (Zb (Zg o n))) (V6 fok (Ze (V5 Z4 Tk) Zq rfl) z1) (by walk_at "m ev") (Xh fok (Nat.le_trans (add_le_add_left hcz 1) (by decide)))) (V6 fok (Ze Z4 Zq rfl) z1) (Xh fok (by rw[length_append];exact Nat.le_trans (add_le_add_right (add_le_add_left hcz 1) 1) (by decide)))) (by walk_at "m r") ?_
 have hsy:(Zb ((Zg o n).map fun t=>min (o.getD t 0) (n.getD t 0))).length≤6:=by unfold Zb;rw[length_map,length_map];exact hcl
 have hcc:((Zb (Zg o n)).map AV.int).length=(Zg o n).length:=by unfold Zb;rw[length_map,length_map]
 refine Z1 (sig':=_) (Xd fok (k:=6) (by walk_at "m st") (Zt (d:=il (J5 o n)) (Zj (d₁:=il ([0]++Zb ((Zg o n).map fun t=>min (o.getD t 0) (n.getD t 0)))) (d₂:=il [0]) (Zj (d₁:=il [0]) (d₂:=il (Zb ((Zg o n).map fun t=>min (o.getD t 0) (n.getD t 0)))) (V6 fok (Ze Z4 Zq rfl) z1)
   (Zt (ZV (cl:=[(Str.ofString "old",co),(Str.ofString "new",cn)]) (res:=sel (fun _=>true) (fun i=>.int (min (o.getD ((Zg o n).getD i 0) 0:Int) (n.getD ((Zg o n).getD i 0) 0:Nat))) ((Zb (Zg o n)).map AV.int).length)
    ⟨(Zr g (by intro y hy;have e:y∈[Str.ofString "new",Str.ofString "old"]:=hy;exact hfr y e)).trans (congrArg pure hgl),by decide,rfl,of_decide_eq_true (by kernel_rfl)⟩
    (fun ck=>YE fok (cap:=[none,none,none,some (il (Zb n)),some (il (Zb o))]) (k:=1) (fun _=>true) (fun i=>.int (min (o.getD ((Zg o n).getD i 0) 0:Int) (n.getD ((Zg o n).getD i 0) 0:Nat)))
     ck
     (Yt [⟨3,1, "new",il (Zb n)⟩,⟨4,0, "old",il (Zb o)⟩] J2 (by
      intro e he
      rcases List.mem_cons.mp he with rfl | he
      ·exact ⟨rfl,.inl (by rw[xN];rfl),rfl,by rw[hcN];exact ln1⟩
      ·rw[mem_singleton] at he
       subst he
       exact ⟨rfl,.inl (by rw[xN];rfl),rfl,by rw[hcO];exact lo1⟩)) rfl (by kernel_rfl) (by walk_at "m ev") (YD fok) (by rw[hcc];exact Nat.le_trans hcl (by decide))
     (fun V' n' l ok' hV hn i xv hxv=>by
      rw[getElem?_map,Option.map_eq_some_iff] at hxv
      obtain ⟨x,hxv,rfl⟩:=hxv
      have hil:i<(Zg o n).length:=by
       have:=(List.getElem?_eq_some_iff.mp hxv).1
       unfold Zb at this
       rwa [length_map] at this
      have hxe:=ZY (o:=Zg o n) hil
      rw[toNat_natCast,hxv] at hxe
      cases hxe
      have ht:(Zg o n).getD i 0<6:=Ue (by rw[getD_eq_getElem?_getD,getElem?_eq_getElem hil];exact getElem_mem hil)
      generalize (Zg o n).getD i 0=t at ht
      have hx:=ZY (o:=o) (i:=t) (by rw[hco];exact ht)
      have hy:=ZY (o:=n) (i:=t) (by rw[hcn];exact ht)
      have i63:((t:Nat):Int)<2 ^ 63:=Vp (Nat.le_trans (le_of_lt ht) (by decide))
      exact ⟨Yd,fun _=>Zv (cnm_glo ok' 2 rfl (by kernel_rfl) (KO (hk.mono hV) xg xb)) Zs (Ze (Zz (Yi ok' 4 rfl (by kernel_rfl) rfl) (ZI ok' 1 rfl (by kernel_rfl) rfl) (ZA (by with_unfolding_all exact fun _ _=>rfl) YR i63 hx)) (Ze (Zz (Yi ok' 3 rfl (by kernel_rfl) rfl) (ZI ok' 1 rfl (by kernel_rfl) rfl) (ZA (by with_unfolding_all exact fun _ _=>rfl) YR i63 hy)) Zq rfl) rfl) (N1 ok') rfl rfl⟩)) (fun _=>rfl)) (congrArg AV.lst (by rw[hcc];exact J7)))
    (Xh fok (Nat.le_trans (add_le_add_left hsy 1) (by decide)))) (V6 fok (Ze Z4 Zq rfl) z1) (Xh fok (by rw[length_append];exact Nat.le_trans (add_le_add_right (add_le_add_left hsy 1) 1) (by decide)))) rfl) rfl) ?_
 rw[J6]
 refine PA (hk 242 (RN w.params) (by kernel_rfl)) fun hlow=>?_
 have hm1:((Zb (Zg o n)).length:Int)+1=(((Zg o n).length+1:Nat):Int):=by rw[YH];rfl
 have hrl:(ZC 0 (((Zg o n).length+1:Nat):Int)).length=(Zg o n).length+1:=YL
 have hsr:sel (fun _=>true) (fun i=>.int ((0:Int)+(i:Nat))) (ZC 0 (((Zg o n).length+1:Nat):Int)).length=(Zb (List.range ((Zg o n).length+1))).map .int:=by
  rw[hrl,YF]
  unfold Zb
  rw[map_map]
  exact map_congr_left fun a _=>XR
 refine Zw (P₁:=fun out=>∃ D,F.n₀≤D∧out=.nxt (TT o n sizes size D (List.range ((Zg o n).length+1))) [(D,Z7 (Wc fun _=>none) 0)]) ?_ ?_
 ·with_reducible refine' Yp (P:=fun d om'=>∃ D,F.n₀≤D∧d=.tup [.ptr D,il (Zb (List.range ((Zg o n).length+1)))]∧om'=[(D,Z7 (Wc fun _=>none) 0)]) ?_ ?_ ?_ ?_
  ·with_reducible refine' Ul fok ?_
   with_reducible refine' Yo (P₁:=fun d om'=>∃ D,F.n₀≤D∧d=.ptr D∧om'=[(D,Z7 (Wc fun _=>none) 0)]) ?_ ?_ ?_
   ·exact VF fok fun D hD=>⟨D,hD,rfl,rfl⟩
   ·rintro d om' ⟨D,hD,rfl,rfl⟩
    exact Xo (ds:=[il (Zb (List.range ((Zg o n).length+1)))]) (Ze (Zt (ZV (cl:=[]) (res:=sel (fun _=>true) (fun i=>.int ((0:Int)+(i:Nat))) (ZC 0 (((Zg o n).length+1:Nat):Int)).length) ⟨(Zr (fun _=>0) (by intro y hy;cases hy)).trans rfl,by decide,rfl,of_decide_eq_true (by kernel_rfl)⟩
      (fun ck=>YE fok (cap:=[none,none]) (k:=1) (fun _=>true) (fun i=>.int ((0:Int)+(i:Nat))) ck
       (Yt [] (fun j d h=>by rcases j with _ | _ | j<;>simp at h) (fun e he=>by cases he)) rfl (by kernel_rfl) (Zv (d:=.rng 0 ((Zg o n).length+1:Nat)) (by walk_at "m ev") Zx (Ze (Zt (by walk_at "m ev") (congrArg AV.int hm1)) Zq rfl) (YC fok) rfl rfl) (ZW fok (Nat.le_trans (succ_le_succ hcl) (by decide))) (by rw[hrl];exact Nat.le_trans (succ_le_succ hcl) (by decide))
       (fun V' n' l ok' hV hn i xv hxv=>by
        obtain ⟨hi',rfl⟩:=Y6 hxv
        exact ⟨Yd,fun _=>ZI ok' 1 rfl (by kernel_rfl) rfl⟩)) (fun _=>rfl)) (congrArg AV.lst hsr)) Zq rfl) ⟨TF,D,hD,rfl,rfl⟩
   ·rfl
  ·rintro d om' ⟨D,hD,rfl,rfl⟩
   exact ⟨_,XT fok (Zl (Zf fok (k:=8) (by walk_at "m st")) (Zl (Zf fok (k:=9) (by walk_at "m st")) Xn)) rfl,D,hD,rfl⟩
  ·rfl
  ·exact (swS xS _ _).trans (by kernel_rfl)
 rintro out ⟨D,hD,rfl⟩
 have hsm:sysModules<D:=lt_trans (by decide:sysModules<242) (lt_of_lt_of_le hlow hD)
 have hDs:(D==sysModules)=false:=by simpa using (ne_of_lt hsm).symm
 refine Z1 (sig':=(TT o n sizes size D [])) (om':=[(D,Z7 (Wc (UO o n sizes size)) (cnt (UO o n sizes size) ((Zg o n).length+2)))])
  (XQ (fun k sig om=>∃ (own:Own) (left:List Nat),left.length≤k∧left.length≤7∧Wb o n sizes size k own left=UO o n sizes size∧(∀ u∈left,u<(Zg o n).length+1) ∧
    sig=TT o n sizes size D left∧om=[(D,Z7 (Wc own) (cnt own ((Zg o n).length+2)))]) ((Zg o n).length+1)
   ⟨_,Sub.refl,fun _=>none,List.range ((Zg o n).length+1),by rw[length_range];exact le_refl _,by rw[length_range];exact succ_le_succ hcl,rfl,fun u hu=>List.mem_range.mp hu,rfl,?_⟩ ?_) ?_
 ·rw[show cnt (fun _=>none) ((Zg o n).length+2)=0 from by unfold cnt;rw[List.filter_eq_nil_iff.mpr (fun x _=>by simp)];rfl]
 ·rintro k _ _ ⟨own,left,hlk,hl7,hgo,hlt,rfl,rfl⟩
  refine ⟨decide (left≠[]),ZS (Z0 (d₁:=il (Zb left)) (d₂:=.lst []) (by walk_at "m ev") (by walk_at "m ev") (S0 fok) rfl) ?_,fun c=>?_,fun c=>?_⟩
  ·cases left<;>rfl
  ·have hl0:left=[]:=by simpa using c
   subst hl0
   rw[Lf] at hgo
   rw[hgo]
  have hl0:left≠[]:=of_decide_eq_true c
  cases k with
  | zero=>exact absurd (List.eq_nil_of_length_eq_zero (Nat.le_zero.mp hlk)) hl0
  | succ k =>
  unfold Wb at hgo
  rw[if_neg hl0] at hgo
  have hw:∀ u∈left,0<XZ o n sizes size own u:=fun u hu=>Uf hs (fun g hg=>(h4s g hg).1) (hlt u hu)
  obtain ⟨hb1,hb2,hb3⟩:=VS hl0 hw
  refine NV fok (k₁:=10) (k₂:=11) (d₁:=.int (-1)) (d₂:=.int 0) (by walk_at "m st") (by walk_at "m st") (Xl fok (Ze (V5 Z4 Tk) (Ze Z4 Zq rfl) rfl) TF) rfl ((swS xS _ _).trans (by kernel_rfl)) ?_
  refine Z1 (sig':=(PZ o n sizes size D left (left.foldl (ZK (XZ o n sizes size own)) (-1,0)))) (om':=[(D,Z7 (Wc own) (cnt own ((Zg o n).length+2)))])
   (YS fok (d:=il (Zb left)) (xs:=(Zb left).map .int) (by walk_at "m ev") (YD fok) (fun t sig om=>sig=PZ o n sizes size D left ((left.take t).foldl (ZK (XZ o n sizes size own)) (-1,0))∧om=[(D,Z7 (Wc own) (cnt own ((Zg o n).length+2)))]) ⟨_,Sub.refl,rfl,rfl⟩ ?_ ?_ (by intro _;rfl)) ?_
  ·rintro t _ sig om hx ⟨rfl,rfl⟩
   obtain ⟨u,hu,rfl⟩:=WW hx
   have hul:u<(Zg o n).length+1:=hlt u (mem_of_getElem? hu)
   rw[TS hu]
   generalize (left.take t).foldl (ZK (XZ o n sizes size own)) (-1,0)=bs
   rw[show ZK (XZ o n sizes size own) bs u=ZK (fun _=>XZ o n sizes size own u) bs u from rfl]
   refine ⟨_,Zf fok (k:=7) (by walk_at "m st"),?_⟩
   have hu7:u≤1000:=Nat.le_trans (le_of_lt hul) (Nat.le_trans (succ_le_succ hcl) (by decide))
   have u63:((u:Nat):Int)<2 ^ 63:=Vp hu7
   have u63':((u+1:Nat):Int)<2 ^ 63:=Vp (Nat.le_trans (succ_le_succ (Nat.le_trans (le_of_lt hul) (succ_le_succ hcl))) (by decide))
   have ge1:(Wz o n)[((u:Nat):Int).toNat]?=some (((eN o n).getD u 0:Nat)-1:Int):=by rw[toNat_natCast];exact Uy (lt_succ_of_lt hul)
   have ge2:(Wz o n)[((u+1:Nat):Int).toNat]?=some (((eN o n).getD (u+1) 0:Nat)-1:Int):=by rw[toNat_natCast];exact Uy (succ_lt_succ hul)
   have hep:=Ez (o:=o) (n:=n) hul
   refine XX fok (k₁:=12) (k₂:=13) (d₁:=.int ((eN o n).getD u 0:Nat)) (d₂:=.int (((eN o n).getD (u+1) 0-1:Nat):Int)) (by walk_at "m st") (by walk_at "m st")
    (Xl fok (Ze (Zt (Zj (d₂:=.int 1) (Zz (d₁:=il (Wz o n)) (d₂:=.int (u:Nat)) (by walk_at "m ev") (by walk_at "m ev") (ZA (fun _ _=>rfl) YR u63 ge1)) Z4 YN) (congrArg AV.int (Int.sub_add_cancel _ _)))
     (Ze (Zt (Zz (d₁:=il (Wz o n)) (d₂:=.int ((u+1:Nat):Int)) (by walk_at "m ev") (Zt (Zj (d₁:=.int (u:Nat)) (d₂:=.int 1) (by walk_at "m ev") Z4 YN) rfl) (ZA (fun _ _=>rfl) YR u63' ge2)) (congrArg AV.int (Int.ofNat_sub hep).symm)) Zq rfl) rfl) TF) rfl ((swS xS _ _).trans (by kernel_rfl)) ?_
   have hz7:(Zb sizes).length≤sizeLine:=by rw[YH,hs];decide
   have hz6:(Zb o).length≤sizeLine:=by rw[YH,hco];decide
   refine Z1 (sig':=(RE o n sizes size D left bs u ((eN o n).getD u 0) ((eN o n).getD (u+1) 0-1) (baseW o n sizes size u))) (om':=_) (Xd fok (k:=14) (by walk_at "m st") (Zt (Zj
     (Zv (by walk_at "m ev") Zs (Ze (Zz (d₁:=il (Zb sizes)) (d₂:=Xm (some ((eN o n).getD u 0:Nat)) (some ((((eN o n).getD (u+1) 0-1:Nat):Int)+1)) none) (by walk_at "m ev") (V7 fok (Wu (by walk_at "m ev")) (Wu (by walk_at "m ev")) WP) (sl_between fok (by with_unfolding_all exact fun _ _=>⟨_,rfl⟩) YR (Int.le_add_one YR) hz7)) Zq rfl) (KG fok) rfl rfl)
     (Zj (d₁:=.int size) (by walk_at "m ev") (Zv (by walk_at "m ev") Zs (Ze (Zz (d₁:=il (Zb o)) (d₂:=Xm (some ((eN o n).getD u 0:Nat)) (some (((eN o n).getD (u+1) 0-1:Nat):Int)) none) (by walk_at "m ev") (V7 fok (Wu (by walk_at "m ev")) (Wu (by walk_at "m ev")) WP) (sl_between fok (by with_unfolding_all exact fun _ _=>⟨_,rfl⟩) YR YR hz6)) Zq rfl) (KG fok) rfl rfl) (Vs (J8 h3))) YN) (congrArg AV.int (Lg hep))) rfl) ?_
   refine Z1 (sig':=(RE o n sizes size D left bs u ((eN o n).getD u 0) ((eN o n).getD (u+1) 0-1) (XZ o n sizes size own u))) (om':=[(D,Z7 (Wc own) (cnt own ((Zg o n).length+2)))])
    (YS fok (d:=.tup [.int (u:Nat),.int ((u:Nat)+1)]) (xs:=[.int (u:Nat),.int ((u:Nat)+1)]) (by walk_at "m ev") (V9 fok) (fun i sig om=>sig=RE o n sizes size D left bs u ((eN o n).getD u 0) ((eN o n).getD (u+1) 0-1) (sideL (baseW o n sizes size u) (Y5 o n size own) u i)∧om=[(D,Z7 (Wc own) (cnt own ((Zg o n).length+2)))]) ⟨_,Sub.refl,rfl,rfl⟩ ?_ ?_ (by intro _;rfl)) ?_
   ·rintro i _ sig om hx ⟨rfl,rfl⟩
    obtain ⟨hi2,rfl⟩:=QR hx
    rw[G2]
    generalize sideL (baseW o n sizes size u) (Y5 o n size own) u i=li
    refine ⟨_,Zf fok (k:=15) (by walk_at "m st"),?_⟩
    refine Zw (P₁:=fun out=>∃ sg,out=.nxt sg [(D,Z7 (Wc own) (cnt own ((Zg o n).length+2)))]∧Sub (RE o n sizes size D left bs u ((eN o n).getD u 0) ((eN o n).getD (u+1) 0-1) (li+Y5 o n size own (u+i))) sg)
     (V8 (b:=(own ((u+i:Nat):Int)).isNone) (ZS (Z0 (by walk_at "m ev") (by walk_at "m ev") (Vq hDs (.head _)) rfl) SM) (fun c=>?_) (fun c=>?_)) ?_
    ·have hsl:u+i<(stN o n).length:=by rw[G1];exact Nat.add_lt_add_of_le_of_lt (le_of_lt_succ hul) hi2
     have hget:=ZY hsl
     have s63:((u+i:Nat):Int)<2 ^ 63:=Vp (Nat.le_trans (add_le_add (Nat.le_trans (le_of_lt hul) (succ_le_succ hcl)) (le_of_lt hi2)) (by decide))
     have hsw:Y5 o n size own (u+i)=size*(stN o n).getD (u+i) 0:=by unfold Y5;rw[if_pos c]
     refine Z1 (sig':=_) (Xd fok (k:=14) (by walk_at "m st") (Zt (Zj (d₁:=.int (li:Nat)) (by walk_at "m ev") (Zj (d₁:=.int size) (by walk_at "m ev") (Zz (d₁:=il (Zb (stN o n))) (d₂:=.int ((u+i:Nat):Int)) (by walk_at "m ev") (by walk_at "m ev") (ZA (fun _ _=>rfl) YR s63 hget)) (Vs (J8 h3))) YN) (congrArg AV.int (show (li:Int)+(size:Int)*((stN o n).getD (u+i) 0:Nat)=((li+Y5 o n size own (u+i):Nat):Int) by rw[hsw,natCast_add,Int.natCast_mul]))) rfl) ?_
     refine Zk ⟨_,rfl,?_⟩
     exact ⟨rfl,rfl,rfl,rfl,rfl,rfl,rfl,rfl,rfl,rfl,rfl,rfl,rfl,rfl,rfl,trivial⟩
    ·have hsw:Y5 o n size own (u+i)=0:=by unfold Y5;rw[if_neg (by rw[c];decide)]
     rw[hsw]
     refine Zk ⟨_,rfl,?_⟩
     exact ⟨rfl,rfl,rfl,rfl,rfl,rfl,rfl,rfl,rfl,rfl,rfl,rfl,rfl,rfl,rfl,trivial⟩
    rintro out ⟨sg,rfl,hsub⟩
    exact Zk ⟨_,hsub,rfl,rfl⟩
   ·rintro sig om ⟨rfl,rfl⟩
    rfl
   generalize XZ o n sizes size own u=rw0
   refine Zw (P₁:=fun out=>∃ sg,out=.nxt sg [(D,Z7 (Wc own) (cnt own ((Zg o n).length+2)))]∧Sub (PZ o n sizes size D left (ZK (fun _=>rw0) bs u)) sg)
    (V8 (b:=decide (bs.2<rw0)) (ZS (Z0 (d₁:=.int (rw0:Nat)) (d₂:=.int (bs.2:Nat)) (by walk_at "m ev") (by walk_at "m ev") So rfl) (decide_eq_decide.mpr Int.ofNat_lt)) (fun c=>?_) (fun c=>?_)) ?_
   ·refine NV fok (k₁:=10) (k₂:=11) (d₁:=.int (u:Nat)) (d₂:=.int (rw0:Nat)) (by walk_at "m st") (by walk_at "m st") (by walk_at "m ev") rfl ((swS xS _ _).trans (by kernel_rfl)) ?_
    refine Zk ⟨_,rfl,?_⟩
    unfold ZK
    rw[if_pos (of_decide_eq_true c)]
    exact ⟨rfl,rfl,rfl,rfl,rfl,rfl,rfl,rfl,rfl,rfl,rfl,trivial⟩
   ·refine Zk ⟨_,rfl,?_⟩
    unfold ZK
    rw[if_neg (of_decide_eq_false c)]
    exact ⟨rfl,rfl,rfl,rfl,rfl,rfl,rfl,rfl,rfl,rfl,rfl,trivial⟩
   rintro out ⟨sg,rfl,hsub⟩
   exact Zk ⟨_,hsub,rfl,rfl⟩
  ·rintro sig om ⟨rfl,rfl⟩
   rw[length_map,YH,take_length]
  rw[hb2]
  have hsr2:(XJ own (Wa (XZ o n sizes size own) left))=claimL own (Wa (XZ o n sizes size own) left) 2:=rfl
  rw[hsr2] at hgo
  generalize hbe:Wa (XZ o n sizes size own) left=b at hgo hb1 hb2 hb3 ⊢
  clear hb2 hb3 hsr2
  generalize XZ o n sizes size own b=wb
  have hbl:b<(Zg o n).length+1:=hlt b hb1
  obtain ⟨cb,hcB,_⟩:=id xc_best
  have hll:((Zb left).map AV.int).length=left.length:=by rw[length_map,YH]
  refine Z1 (Y4 fok (k:=9) (cl:=[(Str.ofString "best",cb)]) (res:=sel (fun i=>decide (left.getD i 0≠b)) (fun i=>.int (left.getD i 0:Nat)) ((Zb left).map AV.int).length)
   ⟨(Zr (fun _=>cb) (by
     intro y hy
     have e:y∈[Str.ofString "best"]:=hy
     rw[mem_singleton] at e
     rw[e];exact hcB)).trans rfl,by decide,rfl,of_decide_eq_true (by kernel_rfl)⟩ (by walk_at "m st")
   (fun ck=>YE fok (cap:=[none,none,some (.int (b:Nat))]) (k:=1) (fun i=>decide (left.getD i 0≠b)) (fun i=>.int (left.getD i 0:Nat))
    ck
    (Yt [⟨2,10, "best",.int (b:Nat)⟩] SG (by
     intro e he
     rw[mem_singleton] at he
     subst he
     exact ⟨rfl,.inl (by rw[xN];rfl),rfl,by rw[hcB];exact (by kernel_rfl:([(Str.ofString "best",cb)]:List (Str×Addr)).lookup (Str.ofString "best")=some cb)⟩)) rfl (by kernel_rfl) (by walk_at "m ev") (YD fok) (by rw[hll];exact Nat.le_trans hl7 (by decide))
    (fun V' n' l ok' hV hn i xv hxv=>by
     obtain ⟨u,hu,rfl⟩:=WW hxv
     have hud:left.getD i 0=u:=by rw[getD_eq_getElem?_getD,hu];rfl
     rw[hud]
     exact ⟨N8 (ZS (Z0 (ZI ok' 1 rfl (by kernel_rfl) rfl) (Yi ok' 2 rfl (by kernel_rfl) rfl) Va rfl) (by
      rw[Bool.eq_iff_iff];simp;exact not_congr Int.ofNat_inj)),fun _=>ZI ok' 1 rfl (by kernel_rfl) rfl⟩))
   ((swW xS _ _ _).trans (by kernel_rfl))) ?_
  rw[hll,JB]
  have hfl:(left.filter fun u=>decide (u≠b)).length<left.length:=List.length_filter_lt_length_iff_exists.mpr ⟨b,hb1,by simp⟩
  have hfm:∀ u∈left.filter fun u=>decide (u≠b),u<(Zg o n).length+1:=fun u hu=>hlt u (List.mem_filter.mp hu).1
  generalize (left.filter fun u=>decide (u≠b))=left' at hgo hfl hfm ⊢
  refine Z1 (sig':=(TT o n sizes size D left').set 10 (some (.int (b:Nat)))) (om':=[(D,Z7 (Wc (claimL own b 2)) (cnt (claimL own b 2) ((Zg o n).length+2)))])
   (YS fok (d:=.tup [.int (b:Nat),.int ((b:Nat)+1)]) (xs:=[.int (b:Nat),.int ((b:Nat)+1)]) (by walk_at "m ev") (V9 fok) (fun i sig om=>sig=(TT o n sizes size D left').set 10 (some (.int (b:Nat)))∧om=[(D,Z7 (Wc (claimL own b i)) (cnt (claimL own b i) ((Zg o n).length+2)))]) ⟨_,?_,rfl,rfl⟩ ?_ ?_ (by intro _;rfl)) ?_
  ·exact ⟨rfl,rfl,rfl,rfl,rfl,rfl,rfl,rfl,rfl,rfl,trivial⟩
  ·rintro i _ sig om hx ⟨rfl,rfl⟩
   obtain ⟨hi2,rfl⟩:=QR hx
   rw[JA]
   generalize claimL own b i=ow
   have hbi:b+i<(Zg o n).length+2:=Nat.add_lt_add_of_le_of_lt (le_of_lt_succ hbl) hi2
   refine ⟨_,Zf fok (k:=15) (by walk_at "m st"),?_⟩
   refine Zw (P₁:=fun out=>out=.nxt (((TT o n sizes size D left').set 10 (some (.int (b:Nat)))).set 15 (some (.int ((b+i:Nat):Int)))) [(D,Z7 (Wc (claim ow (b+i) b)) (cnt (claim ow (b+i) b) ((Zg o n).length+2)))])
    (V8 (b:=(ow ((b+i:Nat):Int)).isNone) (ZS (Z0 (by walk_at "m ev") (by walk_at "m ev") (Vq hDs (.head _)) rfl) SM) (fun c=>?_) (fun c=>?_)) ?_
   ·have hcn:cnt ow ((Zg o n).length+2)≤sizeLine:=Nat.le_trans KL (Nat.le_trans (add_le_add_right hcl 2) (by decide))
    refine Z1 (sig':=_) (om':=[(D,Z7 (upd (Wc ow) ((b+i:Nat):Int) (.int (b:Nat))) (cnt ow ((Zg o n).length+2)+1))]) (ND (P:=fun d om'=>d=.int (b:Nat)∧om'=_) (Wl (by walk_at "m ev") ⟨rfl,rfl⟩)
     (fun d om' he=>by
      obtain ⟨rfl,rfl⟩:=he
      exact ⟨_,_,Qj (by walk_at "m ev") (by walk_at "m ev") hcn .here,rfl⟩) rfl rfl) ?_
    refine Zk ?_
    rw[KK,Lh hbi c]
    unfold claim
    rw[if_pos c]
   ·refine Zk ?_
    unfold claim
    rw[if_neg (by rw[c];decide)]
   rintro out rfl
   refine Zk ⟨_,?_,rfl,rfl⟩
   exact ⟨rfl,rfl,rfl,rfl,rfl,rfl,rfl,rfl,rfl,rfl,trivial⟩
  ·rintro sig om ⟨rfl,rfl⟩
   rfl
  refine Zk ⟨k,lt_succ_self _,TT o n sizes size D left',?_,_,left',le_of_lt_succ (lt_of_lt_of_le hfl hlk),le_of_lt (lt_of_lt_of_le hfl hl7),hgo,hfm,rfl,rfl⟩
  exact ⟨rfl,rfl,rfl,rfl,rfl,rfl,rfl,rfl,rfl,trivial⟩
 obtain ⟨ce,hcE,_⟩:=id xc_ends
 obtain ⟨cw,hcW,_⟩:=id xc_owners
 obtain ⟨g',g1',g2'⟩:∃ g:Str->Addr,g (Str.ofString "ends")=ce∧g (Str.ofString "owners")=cw :=
  ⟨fun x=>if x=Str.ofString "ends" then ce else cw,by dsimp only;rw[if_pos rfl],by dsimp only;rw[if_neg (by decide +kernel)]⟩
 have hfr':∀ y∈[Str.ofString "ends",Str.ofString "owners"],F.env.cells.lookup y=some (g' y):=fun y e=>by
  rcases List.mem_cons.mp e with rfl | e
  ·exact hcE.trans (congrArg some g1'.symm)
  ·rw[List.mem_singleton.mp e];exact hcW.trans (congrArg some g2'.symm)
 have hgl':[(Str.ofString "owners",g' (Str.ofString "owners")),(Str.ofString "ends",g' (Str.ofString "ends"))]=[(Str.ofString "owners",cw),(Str.ofString "ends",ce)]:=by rw[g1',g2']
 have hlS:(Yv o n).length=(Zg o n).length+2:=by unfold Yv;rw[YH,length_range]
 refine ZU (d:=dct (dcF (kfO o n) (vfO o n sizes size) (Yv o n)) (Yv o n).length) (Q8 fok (cl:=[(Str.ofString "owners",cw),(Str.ofString "ends",ce)]) (D:=D) (f:=Wc (UO o n sizes size)) (m:=cnt (UO o n sizes size) ((Zg o n).length+2)) (l:=Yv o n) (kf:=kfO o n) (vf:=vfO o n sizes size)
  ⟨(Zr g' (by intro y hy;have e:y∈[Str.ofString "ends",Str.ofString "owners"]:=hy;exact hfr' y e)).trans (congrArg pure hgl'),by decide,rfl,of_decide_eq_true (by kernel_rfl)⟩
  (by kernel_rfl) ?_ (by walk_at "m ev") (.head _) hsm ?_ (by rw[hlS];exact KL) (by rw[hlS];exact Nat.le_trans (add_le_add_right hcl 2) (by decide)) ?_ ?_ ?_ (fun _=>rfl)) rfl
 ·intro y hy e
  obtain ⟨k,hk⟩:=List.mem_iff_getElem?.mp hy
  exact Y8 (of_decide_eq_true (by kernel_rfl)) (k:=k) (by rw[hk,<-e])
 ·unfold Yv Zb
  exact List.Pairwise.map _ (fun a b (h:a≠b) e=>h (Int.ofNat_inj.mp e)) List.nodup_range
 ·intro k hk'
  obtain ⟨s,rfl,hs'⟩:=W0 hk'
  obtain ⟨b,hb⟩:=Option.isSome_iff_exists.mp (Vi (o:=o) (n:=n) (size:=size) hs (fun g hg=>(h4s g hg).1) hs')
  exact ⟨.int (b:Nat),by unfold Wc;rw[hb];rfl⟩
 ·intro a ha b hb e
  obtain ⟨s,rfl,hs1⟩:=W0 ha
  obtain ⟨s',rfl,hs2⟩:=W0 hb
  rw[NW hs1 hs2 e]
 ·intro R tau st hst C k hk'
  obtain ⟨s,rfl,hs'⟩:=W0 hk'
  obtain ⟨b,hb⟩:=Option.isSome_iff_exists.mp (Vi (o:=o) (n:=n) (size:=size) hs (fun g hg=>(h4s g hg).1) hs')
  have hkf:(Wz o n)[s]?=some (kfO o n (s:Nat)):=by
   rw[Uy hs']
   unfold kfO
   rw[toNat_natCast]
  have hvf:vfO o n sizes size (s:Nat)=(((b:Nat):Int)==(s:Nat)-1):=by
   unfold vfO
   rw[hb];rfl
  rw[hvf]
  exact MB (kE:=5) (kO:=8) (E:=Wz o n) fok hst xn5 rfl xn8 rfl (.head _) rfl (by kernel_rfl) (by kernel_rfl) (by kernel_rfl) (by rw[hcE];kernel_rfl) (by rw[hcW];kernel_rfl) (by unfold Wc;rw[hb];rfl) (Nat.le_trans (le_of_lt hs') (Nat.le_trans (add_le_add_right hcl 2) (by decide))) hkf
end
section
noncomputable abbrev ilc (l:List Nat):AV:=il (Zb l)
noncomputable def Zh (script:List Int):Nat:=1+script.length%3
noncomputable def RF (script:List Int):Int:=4657+script.sum
noncomputable def TU:List Int:=[1,4,16,64,256,1024,4096]
noncomputable def TV:List Int:=[1,3,9,27,81,243]
noncomputable def Zi (whole:Int):List Nat:=TU.map fun p=>(1+(whole.fdiv p).fmod 4).toNat
noncomputable def XD (x:Int):List Nat:=TV.map fun p=>(((x.fdiv 2).fdiv p).fmod 3).toNat
noncomputable def XH (s:List Nat) (x:Int):List Nat:=(List.range 6).map fun t=>if x.fmod 2=0 then min 4 (s.getD t 0+(XD x).getD t 0) else s.getD t 0-(XD x).getD t 0
noncomputable def songs0:List (List Nat):=[[1,1,2,1,1,1]]
noncomputable def Y7 (ss:List (List Nat)) (x:Int):List (List Nat):=ss++[XH (ss.getLastD []) x]
noncomputable def drawn (script:List Int):List Int:=[488,729,874]++script
noncomputable def WE (script:List Int):List (List Nat):=(drawn script).foldl Y7 songs0
structure SongOk (s:List Nat):Prop where
 len:s.length=6
 le:∀ g∈s,g≤4
theorem UF {s:List Nat} (h:SongOk s) (x:Int):SongOk (XH s x):=⟨by unfold XH;rw[length_map,length_range],fun g hg=>by
 unfold XH at hg
 obtain ⟨t,ht,rfl⟩:=List.mem_map.mp hg
 split
 ·exact min_le_left _ _
 ·exact Nat.le_trans (sub_le _ _) (ZQ h.le t)⟩
theorem Ug {l:List (List Nat)} (h:l≠[]) {d:List Nat}:l.getLastD d∈l:=by
 rw[List.getLastD_eq_getLast?,List.getLast?_eq_some_getLast h]
 exact List.getLast_mem h
structure CI (c:List (List Nat)):Prop where
 ne:c≠[]
 ok:∀ s∈c,SongOk s
theorem CI.zero:CI songs0:=⟨by unfold songs0;simp,fun s hs=>by
 rw[List.mem_singleton.mp hs]
 exact ⟨rfl,by decide⟩⟩
theorem CI.step {c:List (List Nat)} (h:CI c) (x:Int):CI (Y7 c x):=⟨by unfold Y7;simp,fun s hs=>by
 rcases List.mem_append.mp hs with q | q
 ·exact h.ok s q
 ·rw[List.mem_singleton.mp q];exact UF (h.ok _ (Ug h.ne)) x⟩
theorem CI.fold:∀ (l:List Int) {c:List (List Nat)},CI c->CI (l.foldl Y7 c)
 | [],_,h=>h
 | x::l,_,h=>CI.fold l (h.step x)
theorem JD:∀ (l:List Int) (s:List (List Nat)),(l.foldl Y7 s).length=s.length+l.length
 | [],s=>rfl
 | x::l,s=>by
  rw[foldl_cons,JD l]
  unfold Y7
  rw[length_append,length_singleton,length_cons,add_assoc,add_comm 1]
theorem RG {x m:Int} (h:0<m):0≤x.fmod m∧x.fmod m<m:=⟨Int.fmod_nonneg_of_pos _ h,Int.fmod_lt_of_pos _ h⟩
theorem Lj {script:List Int}:(1:Int)+((script.length:Nat):Int).fmod 3=((Zh script:Nat):Int):=by
 unfold Zh
 rw[Int.fmod_eq_emod_of_nonneg _ (by decide)];rfl
theorem QS {script:List Int}:1≤Zh script∧Zh script≤3:=⟨Nat.le_add_right _ _,add_le_add_left (le_of_lt_succ (Nat.mod_lt _ (by decide))) 1⟩
theorem QT {whole:Int}:TU.map (fun p=>1+(whole.fdiv p).fmod 4)=Zb (Zi whole):=by
 unfold Zb Zi
 rw[map_map]
 refine map_congr_left fun p _=>?_
 have h:=(RG (x:=whole.fdiv p) (m:=4) (by decide)).1
 exact (Int.toNat_of_nonneg (Int.add_nonneg (by decide) h)).symm
theorem SN {whole:Int}:(Zi whole).length=7∧∀ g∈Zi whole,1≤g∧g≤4:=⟨rfl,fun g hg=>by
 unfold Zi at hg
 obtain ⟨p,_,rfl⟩:=List.mem_map.mp hg
 have h:=RG (x:=whole.fdiv p) (m:=4) (by decide)
 omega⟩
theorem QU {x:Int}:TV.map (fun p=>((x.fdiv 2).fdiv p).fmod 3)=Zb (XD x):=by
 unfold Zb XD
 rw[map_map]
 refine map_congr_left fun p _=>?_
 exact (Int.toNat_of_nonneg (RG (by decide)).1).symm
noncomputable def byL (o n sizes:List Nat) (size t:Nat):Bool:=match (Yv o n).find? fun k=>kfO o n k==(t:Int) with
 | none=>true
 | some k=>vfO o n sizes size k
noncomputable def Yb (o n:List Nat) (t:Nat):Nat:=min (o.getD t 0) (n.getD t 0)
noncomputable def Wo (o n sizes:List Nat) (size:Nat) (notes:List (List Int)) (v:Int) (t:Nat):List Int :=
 if byL o n sizes size t then (notes.getD t []).take (Yb o n t)++List.replicate (n.getD t 0-Yb o n t) v else List.replicate (n.getD t 0-Yb o n t) v++(notes.getD t []).drop (o.getD t 0-Yb o n t)
noncomputable def Wp (o n sizes:List Nat) (size:Nat) (notes:List (List Int)) (v:Int) (m:Nat):List (List Int):=(List.range m).map (Wo o n sizes size notes v)
noncomputable def UG (sizes:List Nat) (size:Nat) (notes:List (List Int)) (t:Nat):List Int:=List.replicate (sizes.getD t 0) 0++if t<6 then (notes.getD t []).flatMap fun who=>List.replicate size who else []
noncomputable def Yc (sizes:List Nat) (size:Nat) (notes:List (List Int)) (m:Nat):List Int:=(List.range m).flatMap (UG sizes size notes)
noncomputable def atP (o sizes:List Nat) (size:Nat):Nat->Nat
 | 0=>0
 | t+1=>atP o sizes size t+sizes.getD t 0+if t<6 then size*o.getD t 0 else 0
theorem TW {o sizes:List Nat} {size t:Nat}:atP o sizes size (t+1)=atP o sizes size t+sizes.getD t 0+if t<6 then size*o.getD t 0 else 0:=rfl
noncomputable def UH (o n sizes:List Nat) (size t:Nat):List Nat:=if t<6 then List.range' (atP o sizes size t+sizes.getD t 0+if byL o n sizes size t then size*Yb o n t else 0) (size*(o.getD t 0-Yb o n t)) else []
noncomputable def XI (o n sizes:List Nat) (size m:Nat):List Nat:=(List.range m).flatMap (UH o n sizes size)
structure NotesOk (o:List Nat) (notes:List (List Int)):Prop where
 len:notes.length=6
 each:∀ t,t<6->(notes.getD t []).length=o.getD t 0
noncomputable def G5 (codes:List OpN) (old new notes:List Int) (now:Int) (told gone:List Int):Prop:=∃ S:Nat->RdS,S 0=rd0∧(∀ t c,codes[t]?=some c->Rd old new notes now (S t) c (S (t+1)))∧(S codes.length).i=old.length∧(S codes.length).j=new.length∧(∀ t,t≤codes.length->(S t).told.length≤1000∧(S t).gone.length≤1000∧(S t).i≤old.length∧(S t).j≤new.length)∧(S codes.length).told=told∧(S codes.length).gone=gone
noncomputable def GT (sizes:List Nat) (size:Nat) (o n:List Nat):Prop:=(MA (ZB o sizes size 7) (ZB n sizes size 7)).length<64 ∧
 ∀ (notes:List (List Int)) (v:Int),NotesOk o notes->G5 (opsAB (ZB o sizes size 7) (ZB n sizes size 7)) (ZB o sizes size 7) (ZB n sizes size 7) (Yc sizes size notes 7) v (Yc sizes size (Wp o n sizes size notes v 6) 7) (Zb (XI o n sizes size 7))
end
section
theorem QV {p:Int} (h:p∈TU):p≠0∧p.natAbs<1073741824:=by
 have:∀ p∈TU,p≠0∧p.natAbs<1073741824:=by decide
 exact this p h
theorem QW {p:Int} (h:p∈TV):p≠0∧p.natAbs<1073741824:=by
 have:∀ p∈TV,p≠0∧p.natAbs<1073741824:=by decide
 exact this p h
theorem NX {l:List Int} {f:Int->Int}:sel (fun _=>true) (fun i=>.int (f (l.getD i 0))) (l.map AV.int).length=(l.map f).map .int:=by
 rw[YF,length_map,map_map]
 refine List.ext_getElem (by simp) fun i h1 h2=>?_
 have hi:i<l.length:=by simpa using h1
 simp only[getElem_map,List.getElem_range,getD_eq_getElem?_getD,getElem?_eq_getElem hi,Option.getD_some,Function.comp]
theorem Td {l:List Int} {i:Nat} {xv:AV} (h:(l.map AV.int)[i]?=some xv):xv=.int (l.getD i 0)∧l.getD i 0∈l:=by
 rw[getElem?_map,Option.map_eq_some_iff] at h
 obtain ⟨x,hx,rfl⟩:=h
 rw[getD_eq_getElem?_getD,hx]
 exact ⟨rfl,mem_of_getElem? hx⟩
theorem Vj {n:Nat} {x:Int}:sel (fun _=>true) (fun _=>.int x) n=(List.replicate n x).map .int:=by rw[YF,List.map_const',length_range,List.map_replicate]
theorem G6 {t:Nat}:((1:Int)+(t:Nat)).toNat=t+1:=(congrArg Int.toNat (Int.add_comm 1 t)).trans rfl
theorem JE {t:Nat}:((1:Int)+(t:Nat)-1).toNat=t:=by rw[Int.add_comm,Int.add_sub_cancel];rfl
theorem E2 {t:Nat} (h:t≤1000):(1:Int)+(t:Nat)<2 ^ 63∧(0:Int)≤(1:Int)+(t:Nat)∧(0:Int)≤(1:Int)+(t:Nat)-1∧(1:Int)+(t:Nat)-1<2 ^ 63:=by
 have e:(1:Int)+(t:Nat)=((t+1:Nat):Int):=Int.add_comm 1 t
 have e2:((t+1:Nat):Int)-1=(t:Nat):=Int.add_sub_cancel (t:Int) 1
 have b:∀ k:Nat,k≤1001->(k:Int)<2 ^ 63:=fun k h=>Int.lt_of_le_of_lt (Int.ofNat_le.mpr h) (by decide)
 rw[e,e2]
 exact ⟨b _ (succ_le_succ h),natCast_nonneg _,natCast_nonneg _,b _ (le_succ_of_le h)⟩
theorem WX {size:Nat}:∀ {l:List Int},(l.flatMap fun who=>List.replicate size who).length=l.length*size
 | []=>by rw[List.flatMap_nil,List.length_nil,Nat.zero_mul]
 | a::l=>by rw[List.flatMap_cons,length_append,length_replicate,WX,length_cons,succ_mul,add_comm]
theorem X1 {o n:List Nat} {t:Nat}:Yb o n t≤o.getD t 0∧Yb o n t≤n.getD t 0:=⟨min_le_left _ _,Nat.min_le_right _ _⟩
theorem QX {o n sizes:List Nat} {size t:Nat} {notes:List (List Int)} {v:Int} (h:NotesOk o notes) (ht:t<6):(Wo o n sizes size notes v t).length=n.getD t 0:=by
 have h1:=h.each t ht
 have h2:=@X1 o n t
 unfold Wo
 split
 ·rw[length_append,length_take,length_replicate,h1,min_eq_left h2.1,add_sub_of_le h2.2]
 ·rw[length_append,length_replicate,List.length_drop,h1,Nat.sub_sub_self h2.1,sub_add_cancel h2.2]
theorem Wg {o n sizes:List Nat} {size t m:Nat} {notes:List (List Int)} {v:Int} (ht:t<m):(Wp o n sizes size notes v m).getD t []=Wo o n sizes size notes v t:=by
 unfold Wp
 rw[getD_eq_getElem?_getD,getElem?_map,List.getElem?_range ht];rfl
theorem Te {o n sizes:List Nat} {size:Nat} {notes:List (List Int)} {v:Int} (h:NotesOk o notes):NotesOk n (Wp o n sizes size notes v 6):=⟨by unfold Wp;rw[length_map,length_range],fun t ht=>by rw[Wg ht];exact QX h ht⟩
theorem Lk {o n sizes:List Nat} {size m:Nat} {notes:List (List Int)} {v:Int}:Wp o n sizes size notes v (m+1)=Wp o n sizes size notes v m++[Wo o n sizes size notes v m]:=by
 unfold Wp
 rw[range_succ,map_append];rfl
theorem YI {sizes:List Nat} {size m:Nat} {notes:List (List Int)}:Yc sizes size notes (m+1)=Yc sizes size notes m++UG sizes size notes m:=by
 unfold Yc
 rw[range_succ,flatMap_append,List.flatMap_singleton]
theorem Wh {o n sizes:List Nat} {size m:Nat}:XI o n sizes size (m+1)=XI o n sizes size m++UH o n sizes size m:=by
 unfold XI
 rw[range_succ,flatMap_append,List.flatMap_singleton]
set_option tactic.hygienic true in
theorem Ll {o sizes:List Nat} {size t:Nat} {notes:List (List Int)} (h:NotesOk o notes) (ho:∀ g∈o,g≤4) (hs:∀ g∈sizes,1≤g∧g≤4) (h3:size≤3):(UG sizes size notes t).length≤16:=by
 unfold UG
 rw[length_append,length_replicate]
 refine add_le_add (b:=4) (d:=12) (ZQ (fun g hg=>(hs g hg).2) t) ?_
 split
 ·rename_i ht
  rw[WX,h.each t ht]
  exact mul_le_mul (ZQ ho t) h3
 ·exact zero_le _
theorem WF {o sizes:List Nat} {size:Nat} {notes:List (List Int)} (h:NotesOk o notes) (ho:∀ g∈o,g≤4) (hs:∀ g∈sizes,1≤g∧g≤4) (h3:size≤3):∀ m,(Yc sizes size notes m).length≤m*16
 | 0=>zero_le _
 | m+1=>by
  rw[YI,length_append,succ_mul]
  exact add_le_add (WF h ho hs h3 m) (Ll h ho hs h3)
theorem Uz {o n sizes:List Nat} {size:Nat} (ho:∀ g∈o,g≤4) (h3:size≤3):∀ m,(XI o n sizes size m).length≤m*12
 | 0=>zero_le _
 | m+1=>by
  rw[Wh,length_append,succ_mul]
  refine add_le_add (Uz ho h3 m) ?_
  unfold UH
  split
  ·rw[List.length_range']
   exact mul_le_mul h3 (Nat.le_trans (sub_le _ _) (ZQ ho m))
  ·exact zero_le _
theorem JF {o sizes:List Nat} {size:Nat} (ho:∀ g∈o,g≤4) (hs:∀ g∈sizes,1≤g∧g≤4) (h3:size≤3):∀ m,atP o sizes size m≤m*16
 | 0=>zero_le _
 | m+1=>by
  rw[TW,succ_mul]
  rw[add_assoc]
  refine add_le_add (JF ho hs h3 m) (add_le_add (b:=4) (d:=12) (ZQ (fun g hg=>(hs g hg).2) m) ?_)
  split
  ·exact mul_le_mul h3 (ZQ ho m)
  ·exact zero_le _
noncomputable def G7 (o n sizes:List Nat) (size:Nat):AV:=dct (dcF (kfO o n) (vfO o n sizes size) (Yv o n)) (Yv o n).length
theorem JG {o n sizes:List Nat} {size t:Nat} (h:dcF (kfO o n) (vfO o n sizes size) (Yv o n) (t:Nat)=none):byL o n sizes size t=true:=by
 unfold dcF at h
 unfold byL
 rw[Option.map_eq_none_iff.mp h]
theorem JH {o n sizes:List Nat} {size t:Nat} (h:(dcF (kfO o n) (vfO o n sizes size) (Yv o n) (t:Nat)).isSome=true):dcF (kfO o n) (vfO o n sizes size) (Yv o n) (t:Nat)=some (.bool (byL o n sizes size t)):=by
 unfold dcF at h ⊢
 unfold byL
 cases e:(Yv o n).find? fun k=>kfO o n k==(t:Int) with
 | none=>rw[e] at h;cases h
 | some k=>rfl
theorem TX {size i:Nat} {f:Nat->Nat->AV}:(X5 i (fun _=>ZC 0 (size:Int)) f).length=i*size:=by
 induction i with
 | zero=>rw[Nat.zero_mul];rfl
 | succ i ih=>rw[WB,length_append,ih,length_map,length_range,YL,succ_mul]
theorem SO {size:Nat} {l:List Int}:X5 (l.map AV.int).length (fun _=>ZC 0 (size:Int)) (fun i _=>.int (l.getD i 0))=(l.flatMap fun who=>List.replicate size who).map .int:=by
 unfold X5
 rw[length_map,List.map_flatMap]
 induction l with
 | nil=>rfl
 | cons c cs ih =>
  rw[length_cons,List.range_succ_eq_map,List.flatMap_cons,List.flatMap_cons,List.flatMap_map]
  refine congr (congrArg HAppend.hAppend ?_) ih
  rw[YL,List.map_const',length_range,List.map_replicate];rfl
theorem JI {a len:Nat}:sel (fun _=>true) (fun i=>.int ((a:Int)+(i:Nat))) len=(Zb (List.range' a len)).map .int:=by
 rw[YF]
 unfold Zb
 rw[List.range'_eq_map_range,map_map,map_map]
 refine map_congr_left fun b _=>?_
 simp
set_option tactic.hygienic true in
theorem WG {o sizes:List Nat} {size:Nat} {notes:List (List Int)} (h:NotesOk o notes):∀ m,(Yc sizes size notes m).length=(ZB o sizes size m).length
 | 0=>rfl
 | m+1=>by
  rw[YI,YG,length_append,length_append,WG h m,length_append,WD]
  unfold UG UQ
  rw[length_append,length_replicate]
  split
  ·rename_i hm
   rw[WX,h.each m hm,Ta,We]
  ·rfl
theorem QY {a b:Nat} (h:b≤a):(a:Int)-(b:Nat)=((a-b:Nat):Int):=(Int.ofNat_sub h).symm
noncomputable def U0 (r:List Nat):List (List Int):=r.map fun m=>List.replicate m 0
theorem Lm {r:List Nat} (h:r.length=6):NotesOk r (U0 r):=⟨by unfold U0;rw[length_map];exact h,fun t ht=>by
 unfold U0
 rw[getD_eq_getElem?_getD,getElem?_map,getD_eq_getElem?_getD,getElem?_eq_getElem (by rw[h];exact ht)]
 exact length_replicate⟩
theorem Na {r:List Nat}:sel (fun _=>true) (fun i=>il (List.replicate (r.getD i 0) 0)) ((Zb r).map AV.int).length=(U0 r).map il:=by
 unfold U0
 rw[YF,length_map,YH,map_map]
 refine List.ext_getElem (by simp) fun i h1 h2=>?_
 have hi:i<r.length:=by simpa using h1
 simp only[getElem_map,List.getElem_range,getD_eq_getElem?_getD,getElem?_eq_getElem hi,Option.getD_some,Function.comp]
theorem Ln {a b:Nat}:min 4 ((a:Int)+(b:Nat))=((min 4 (a+b):Nat):Int):=QQ (a:=4) (b:=a+b)
theorem Lo {a b:Nat}:max 0 ((a:Int)-(b:Nat))=((a-b:Nat):Int):=by
 rw[<-toNat_sub a b,Int.ofNat_toNat,Int.max_comm]
theorem Nb {s:List Nat} {x:Int} (h:x.fmod 2=0):sel (fun _=>true) (fun i=>.int ((min 4 (s.getD i 0+(XD x).getD i 0):Nat):Int)) 6=(Zb (XH s x)).map .int:=by
 unfold XH Zb
 rw[YF,map_map,map_map]
 refine map_congr_left fun t _=>?_
 show _=AV.int ((if x.fmod 2=0 then _ else _:Nat):Int)
 rw[if_pos h]
theorem Lp {s:List Nat} {x:Int} (h:¬ x.fmod 2=0):sel (fun _=>true) (fun i=>.int ((s.getD i 0-(XD x).getD i 0:Nat):Int)) 6=(Zb (XH s x)).map .int:=by
 unfold XH Zb
 rw[YF,map_map,map_map]
 refine map_congr_left fun t _=>?_
 show _=AV.int ((if x.fmod 2=0 then _ else _:Nat):Int)
 rw[if_neg h]
theorem Sk {F:Fn} {P:Params} (hk:Zo (Zp P) F.G) (hg:F.env.globals=mainGlobals):Glo F "_law_owners" (.ref 256):=VJ hk hg (nsg P) (by kernel_rfl)
theorem QZ {F:Fn} {P:Params} (hk:Zo (Zp P) F.G) (hg:F.env.globals=mainGlobals):Glo F "_law_text" (.ref 251):=VJ hk hg (nsg P) (by kernel_rfl)
theorem Pa {F:Fn} {P:Params} (hk:Zo (Zp P) F.G) (hg:F.env.globals=mainGlobals):Glo F "_law_read" (.ref 261):=VJ hk hg (nsg P) (by kernel_rfl)
example:True:=by
 k_with "m glo" => (first
  | with_reducible exact TH (by assumption) (by assumption) (by assumption)
  | with_reducible exact XK (by assumption) (by assumption) (by assumption)
  | with_reducible exact GS (by assumption) (by assumption) (by assumption)
  | with_reducible exact KO (by assumption) (by assumption) (by assumption)
  | with_reducible exact VW (by assumption) (by assumption)
  | with_reducible exact QZ (by assumption) (by assumption)
  | with_reducible exact Sk (by assumption) (by assumption)
  | with_reducible exact Pa (by assumption) (by assumption))
 trivial
noncomputable def ZG (P:Params):FuncData:=XW (LE P)
theorem G8 (P:Params):XE (Zp P) 266 (ZG P):=Yh (LE P) (by kernel_rfl) (by kernel_rfl) (by kernel_rfl)
theorem G9 {P:Params} {a0:AV}:YO (ZG P).scope.names ["script"] [a0]=(some a0::none::none::none::none::none::none::none::none::none::none::none::none::none::none::none::none::none::none::none::none::none::none::none::none::none::none::none::none::none::none::none::none::none::[]):=by kernel_rfl
theorem E3 (P:Params):DefOk (ZG P) ["script"]:=Yg rfl (of_decide_eq_true (by kernel_rfl)) (by kernel_rfl) (of_decide_eq_true (by kernel_rfl)) (by kernel_rfl)
noncomputable def E4:List (Str×NameKind):=("script",.local)::("size",.cell)::("whole",.cell)::("sizes",.local)::("songs",.cell)::("x",.cell)::("moves",.cell)::("t",.local)::("matcher",.local)::("row",.local)::("notes",.local)::("v",.cell)::("old",.local)::("new",.local)::("owners",.local)::("due",.local)::("before",.local)::("after",.local)::("gone",.local)::("at",.local)::("stay",.local)::("come",.local)::("by_left",.local)::("first",.local)::("text",.local)::("other",.local)::("len",.globalImplicit)::("sum",.globalImplicit)::("range",.globalImplicit)::("SequenceMatcher",.globalImplicit)::("_law_owners",.globalImplicit)::("min",.globalImplicit)::("_law_text",.globalImplicit)::("_law_read",.globalImplicit)::[]
theorem Lq (P:Params):(ZG P).scope.names=E4:=by kernel_rfl
noncomputable def JJ (script:List Int) (whole:Int) (V:Addr):List (Option AV):=(some (il script)::some (.int (Zh script:Nat))::some (.int whole)::some (ilc (Zi whole))::some (.ptr V)::none::none::none::none::none::none::none::none::none::none::none::none::none::none::none::none::none::none::none::none::none::none::none::none::none::none::none::none::none::[])
noncomputable def Ak (script:List Int) (whole:Int) (ss:List (List Nat)) (x dx:Addr):List (Option AV):=(some (il script)::some (.int (Zh script:Nat))::some (.int whole)::some (ilc (Zi whole))::some (.lst (ss.map ilc))::none::none::none::some (ZL x dx)::none::none::none::none::none::none::none::none::none::none::none::none::none::none::none::none::none::none::none::none::none::none::none::none::none::[])
noncomputable def JK (script:List Int) (whole:Int) (ss:List (List Nat)) (x dx:Addr) (row:List (List Nat)) (notes:List (List Int)):List (Option AV):=(some (il script)::some (.int (Zh script:Nat))::some (.int whole)::some (ilc (Zi whole))::some (.lst (ss.map ilc))::none::none::none::some (ZL x dx)::some (.lst (row.map ilc))::some (.lst (notes.map il))::none::none::none::none::none::none::none::none::none::none::none::none::none::none::none::none::none::none::none::none::none::none::none::[])
noncomputable def JL (script:List Int) (whole:Int) (ss:List (List Nat)) (x dx:Addr) (row:List (List Nat)) (notes:List (List Int)) (v:Int) (o n:List Nat) (U B A G:Addr) (a:Nat):List (Option AV):=(some (il script)::some (.int (Zh script:Nat))::some (.int whole)::some (ilc (Zi whole))::some (.lst (ss.map ilc))::none::none::none::some (ZL x dx)::some (.lst (row.map ilc))::some (.lst (notes.map il))::some (.int v)::some (ilc o)::some (ilc n)::some (G7 o n (Zi whole) (Zh script))::some (.ptr U)::some (.ptr B)::some (.ptr A)::some (.ptr G)::some (.int (a:Nat))::none::none::none::none::none::none::none::none::none::none::none::none::none::none::[])
set_option maxHeartbeats 20000000 in
theorem JM {prog:Program} {w:World} {script:List Int} (h63:script.length≤63)
  (hG:∀ row,(row=WE script∨row=(WE script).reverse)->∀ (t:Nat) o n,row[t]?=some o->row[t+1]?=some n->GT (Zi (RF script)) (Zh script) o n) :
  WK prog w (SK w) 20 (.ref 266) [il script] (.bool true):=by
 refine XM (E3 w.params) (fun V hV=>Ye hV (G8 w.params) (VV w.params) rfl rfl) rfl (fun vs hv=>?_) (fun xAr xG xs xB room fok=>?_)
 ·obtain ⟨v0,rfl⟩:=RO hv
  kernel_rfl
 rw[G9]
 have xg:(Zd (ZG w.params) 266 xAr xG xs).env.globals=mainGlobals:=rfl
 have xb:(Zd (ZG w.params) 266 xAr xG xs).env.builtins=builtinsNs:=rfl
 have hk:Zo (Zp w.params) (Zd (ZG w.params) 266 xAr xG xs).G:=xB
 have xN:(Zd (ZG w.params) 266 xAr xG xs).names=(ZG w.params).scope.names:=rfl
 have xA:Room (Zd (ZG w.params) 266 xAr xG xs).A _:=room
 have xn:(Zd (ZG w.params) 266 xAr xG xs).n₀=xs.heap.objs.size:=rfl
 have xi:interactive (Zd (ZG w.params) 266 xAr xG xs).env=false:=rfl
 have xS:(Zd (ZG w.params) 266 xAr xG xs).env.scope=(ZG w.params).scope:=rfl
 have xc_size:∃ c,(Zd (ZG w.params) 266 xAr xG xs).env.cells.lookup (Str.ofString "size")=some c∧c∈(Zd (ZG w.params) 266 xAr xG xs).cs:=⟨xs.heap.objs.size+1,by kernel_rfl,List.mem_map.mpr ⟨(Str.ofString "size",xs.heap.objs.size+1),mem_of_lookup (by kernel_rfl),rfl⟩⟩
 have xc_whole:∃ c,(Zd (ZG w.params) 266 xAr xG xs).env.cells.lookup (Str.ofString "whole")=some c∧c∈(Zd (ZG w.params) 266 xAr xG xs).cs:=⟨xs.heap.objs.size+2,by kernel_rfl,List.mem_map.mpr ⟨(Str.ofString "whole",xs.heap.objs.size+2),mem_of_lookup (by kernel_rfl),rfl⟩⟩
 have xc_songs:∃ c,(Zd (ZG w.params) 266 xAr xG xs).env.cells.lookup (Str.ofString "songs")=some c∧c∈(Zd (ZG w.params) 266 xAr xG xs).cs:=⟨xs.heap.objs.size+3,by kernel_rfl,List.mem_map.mpr ⟨(Str.ofString "songs",xs.heap.objs.size+3),mem_of_lookup (by kernel_rfl),rfl⟩⟩
 have xc_x:∃ c,(Zd (ZG w.params) 266 xAr xG xs).env.cells.lookup (Str.ofString "x")=some c∧c∈(Zd (ZG w.params) 266 xAr xG xs).cs:=⟨xs.heap.objs.size+4,by kernel_rfl,List.mem_map.mpr ⟨(Str.ofString "x",xs.heap.objs.size+4),mem_of_lookup (by kernel_rfl),rfl⟩⟩
 have xc_moves:∃ c,(Zd (ZG w.params) 266 xAr xG xs).env.cells.lookup (Str.ofString "moves")=some c∧c∈(Zd (ZG w.params) 266 xAr xG xs).cs:=⟨xs.heap.objs.size+5,by kernel_rfl,List.mem_map.mpr ⟨(Str.ofString "moves",xs.heap.objs.size+5),mem_of_lookup (by kernel_rfl),rfl⟩⟩
 have xc_v:∃ c,(Zd (ZG w.params) 266 xAr xG xs).env.cells.lookup (Str.ofString "v")=some c∧c∈(Zd (ZG w.params) 266 xAr xG xs).cs:=⟨xs.heap.objs.size+6,by kernel_rfl,List.mem_map.mpr ⟨(Str.ofString "v",xs.heap.objs.size+6),mem_of_lookup (by kernel_rfl),rfl⟩⟩
 generalize Zd (ZG w.params) 266 xAr xG xs=F at fok xg xb hk xN xA xn xi xS xc_size xc_whole xc_songs xc_x xc_moves xc_v ⊢
 have xN1:=xN.trans (Lq w.params)
 have xn0:At F "script" 0 .local:=Za fok xN1 0 rfl (by kernel_rfl)
 have xn1:At F "size" 1 .cell:=Za fok xN1 1 rfl (by kernel_rfl)
 have xn2:At F "whole" 2 .cell:=Za fok xN1 2 rfl (by kernel_rfl)
 have xn3:At F "sizes" 3 .local:=Za fok xN1 3 rfl (by kernel_rfl)
 have xn4:At F "songs" 4 .cell:=Za fok xN1 4 rfl (by kernel_rfl)
 have xn5:At F "x" 5 .cell:=Za fok xN1 5 rfl (by kernel_rfl)
 have xn6:At F "moves" 6 .cell:=Za fok xN1 6 rfl (by kernel_rfl)
 have xn7:At F "t" 7 .local:=Za fok xN1 7 rfl (by kernel_rfl)
 have xn8:At F "matcher" 8 .local:=Za fok xN1 8 rfl (by kernel_rfl)
 have xn9:At F "row" 9 .local:=Za fok xN1 9 rfl (by kernel_rfl)
 have xn10:At F "notes" 10 .local:=Za fok xN1 10 rfl (by kernel_rfl)
 have xn11:At F "v" 11 .cell:=Za fok xN1 11 rfl (by kernel_rfl)
 have xn12:At F "old" 12 .local:=Za fok xN1 12 rfl (by kernel_rfl)
 have xn13:At F "new" 13 .local:=Za fok xN1 13 rfl (by kernel_rfl)
 have xn14:At F "owners" 14 .local:=Za fok xN1 14 rfl (by kernel_rfl)
 have xn15:At F "due" 15 .local:=Za fok xN1 15 rfl (by kernel_rfl)
 have xn16:At F "before" 16 .local:=Za fok xN1 16 rfl (by kernel_rfl)
 have xn17:At F "after" 17 .local:=Za fok xN1 17 rfl (by kernel_rfl)
 have xn18:At F "gone" 18 .local:=Za fok xN1 18 rfl (by kernel_rfl)
 have xn19:At F "at" 19 .local:=Za fok xN1 19 rfl (by kernel_rfl)
 have xn20:At F "stay" 20 .local:=Za fok xN1 20 rfl (by kernel_rfl)
 have xn21:At F "come" 21 .local:=Za fok xN1 21 rfl (by kernel_rfl)
 have xn22:At F "by_left" 22 .local:=Za fok xN1 22 rfl (by kernel_rfl)
 have xn23:At F "first" 23 .local:=Za fok xN1 23 rfl (by kernel_rfl)
 have xn24:At F "text" 24 .local:=Za fok xN1 24 rfl (by kernel_rfl)
 have xn25:At F "other" 25 .local:=Za fok xN1 25 rfl (by kernel_rfl)
 have xn26:At F "len" 26 .globalImplicit:=Za fok xN1 26 rfl (by kernel_rfl)
 have xn27:At F "sum" 27 .globalImplicit:=Za fok xN1 27 rfl (by kernel_rfl)
 have xn28:At F "range" 28 .globalImplicit:=Za fok xN1 28 rfl (by kernel_rfl)
 have xn29:At F "SequenceMatcher" 29 .globalImplicit:=Za fok xN1 29 rfl (by kernel_rfl)
 have xn30:At F "_law_owners" 30 .globalImplicit:=Za fok xN1 30 rfl (by kernel_rfl)
 have xn31:At F "min" 31 .globalImplicit:=Za fok xN1 31 rfl (by kernel_rfl)
 have xn32:At F "_law_text" 32 .globalImplicit:=Za fok xN1 32 rfl (by kernel_rfl)
 have xn33:At F "_law_read" 33 .globalImplicit:=Za fok xN1 33 rfl (by kernel_rfl)
 have hsl:(1000000:Nat)≤sizeLine:=by decide
 obtain ⟨cw,hcW,_⟩:=id xc_whole
 obtain ⟨cz,hcZ,_⟩:=id xc_size
 obtain ⟨cv,hcV,_⟩:=id xc_v
 obtain ⟨cx,hcX,_⟩:=id xc_x
 obtain ⟨cm,hcM,_⟩:=id xc_moves
 obtain ⟨cs,hcS,_⟩:=id xc_songs
 have hs62:script.length<2 ^ 62:=GO (Nat.le_trans h63 (by decide))
 have hsc:script.length≤sizeLine:=Nat.le_trans h63 (by decide)
 with_reducible refine' ZF (k:=1) (d:=.int (Zh script:Nat)) fok (by walk_at "m st") (Zt (Zj Z4 (Zj (by walk_at "m ev") Z4 (Tj (by decide))) YN) (congrArg AV.int Lj)) (by walk_at "m r") ?_
 with_reducible refine' ZF (k:=2) (d:=.int (RF script)) fok (by walk_at "m st") (Zt (Zj Z4 (Zv (by walk_at "m ev") Zs (by walk_at "m evl") (KG fok) (by walk_at "m r") (by walk_at "m r")) YN) (by with_unfolding_all rfl)) (by walk_at "m r") ?_
 generalize hwh:RF script=whole at hG ⊢
 refine Z1 (Y4 fok (k:=3) (cl:=[(Str.ofString "whole",cw)]) (res:=sel (fun _=>true) (fun i=>.int (1+(whole.fdiv (TU.getD i 0)).fmod 4)) (TU.map AV.int).length)
   ⟨(Zr (fun _=>cw) (by
     intro y hy
     have e:y∈[Str.ofString "whole"]:=hy
     rw[mem_singleton] at e
     rw[e];exact hcW)).trans rfl,by decide,rfl,of_decide_eq_true (by kernel_rfl)⟩ (by walk_at "m st")
   (fun ck=>YE fok (cap:=[none,none,some (.int whole)]) (k:=1) (fun _=>true) (fun i=>.int (1+(whole.fdiv (TU.getD i 0)).fmod 4))
    ck
    (Yt [⟨2,2, "whole",.int whole⟩] SG (by
     intro e he
     rw[mem_singleton] at he
     subst he
     exact ⟨rfl,.inl (by rw[xN];rfl),rfl,by rw[hcW];exact (by kernel_rfl:([(Str.ofString "whole",cw)]:List (Str×Addr)).lookup (Str.ofString "whole")=some cw)⟩)) rfl (by kernel_rfl) (Zt (d:=.tup [.int 1,.int 4,.int 16,.int 64,.int 256,.int 1024,.int 4096]) (Xl fok (by walk_at "m evl") (show 7≤sizeLine by decide)) rfl) (V9 fok) (by decide)
    (fun V' n' l ok' hV hn i xv hxv=>by
     obtain ⟨rfl,hp⟩:=Td hxv
     exact ⟨Yd,fun _=>Zj Z4 (Zj (Zj (Yi ok' 2 rfl (by kernel_rfl) rfl) (ZI ok' 1 rfl (by kernel_rfl) rfl) (UT (QV hp).1 (QV hp).2)) Z4 (Tj (by decide))) YN⟩))
   ((swW xS _ _ _).trans (by kernel_rfl))) ?_
 rw[NX (f:=fun p=>1+(whole.fdiv p).fmod 4),QT]
 refine Yy fok (k:=4) (by walk_at "m st") (Yn fok (ds:=[ilc [1,1,2,1,1,1]]) (Ze (Zt (by walk_at "m ev") (by rfl)) Zq rfl) (show 1≤sizeLine by decide) (P:=fun d om'=>∃ V,F.n₀≤V∧d=.ptr V∧om'=(V,Zc [ilc [1,1,2,1,1,1]])::[]) fun V hV=>⟨V,hV,rfl,rfl⟩) ?_ rfl
 rintro d om₁ ⟨V,hV,rfl,rfl⟩
 have s1:([488,729,874]:List Int).length+script.length≤sizeLine:=Nat.le_trans (add_le_add_left h63 3) (by decide)
 obtain ⟨g,g1,g2⟩:∃ g:Str->Addr,g (Str.ofString "moves")=cm∧g (Str.ofString "songs")=cs :=
  ⟨fun x=>if x=Str.ofString "moves" then cm else cs,by dsimp only;rw[if_pos rfl],by dsimp only;rw[if_neg (by decide +kernel)]⟩
 have hfr:∀ y∈[Str.ofString "moves",Str.ofString "songs"],F.env.cells.lookup y=some (g y):=fun y e=>by
  rcases List.mem_cons.mp e with rfl | e
  ·exact hcM.trans (congrArg some g1.symm)
  ·rw[List.mem_singleton.mp e];exact hcS.trans (congrArg some g2.symm)
 have hgl:[(Str.ofString "songs",g (Str.ofString "songs")),(Str.ofString "moves",g (Str.ofString "moves"))]=[(Str.ofString "songs",cs),(Str.ofString "moves",cm)]:=by rw[g1,g2]
 have ls1:([(Str.ofString "songs",cs),(Str.ofString "moves",cm)]:List (Str×Addr)).lookup (Str.ofString "songs")=some cs:=by kernel_rfl
 have lm1:([(Str.ofString "songs",cs),(Str.ofString "moves",cm)]:List (Str×Addr)).lookup (Str.ofString "moves")=some cm:=by kernel_rfl
 refine Z1 (sig':=(JJ script whole V)) (om':=[(V,Zc ((WE script).map ilc))])
  (YS fok (d:=il (drawn script)) (xs:=(drawn script).map .int) (Zj (d₁:=il [488,729,874]) (Zt (by walk_at "m ev") (by rfl)) (by walk_at "m ev") (Xh fok s1)) (YD fok)
   (fun t sig om=>t≤3+script.length∧sig=JJ script whole V∧om=[(V,Zc ((((drawn script).take t).foldl Y7 songs0).map ilc))])
   ⟨_,Sub.refl,zero_le _,rfl,rfl⟩ ?_ ?_ (by intro _;rfl)) ?_
 ·rintro t _ sig om hx ⟨ht6,rfl,rfl⟩
  rw[getElem?_map,Option.map_eq_some_iff] at hx
  obtain ⟨x,hx,rfl⟩:=hx
  have ht:t<3+script.length:=by
   have:=(List.getElem?_eq_some_iff.mp hx).1
   unfold drawn at this
   rw[length_append] at this
   exact this
  have hci:=CI.fold ((drawn script).take t) CI.zero
  have hln:=JD ((drawn script).take t) songs0
  have htk:((drawn script).take t).length≤66:=by rw[length_take];exact Nat.le_trans (min_le_left _ _) (Nat.le_trans ht6 (add_le_add_left h63 3))
  have hs0:songs0.length=1:=rfl
  rw[TS hx]
  generalize ((drawn script).take t).foldl Y7 songs0=vs at hci hln ⊢
  have hne:=hci.ne
  have hvl:vs.length≤67:=by rw[hln];exact add_le_add_left htk 1
  have hm:=hci.ok _ (Ug hne (d:=[]))
  have hlast:(vs.map ilc)[((-1:Int)+((vs.map ilc).length:Nat)).toNat]?=some (ilc (vs.getLastD [])):=by
   rw[length_map,KD,getElem?_map,<-List.getLast?_eq_getElem?,List.getLastD_eq_getLast?,List.getLast?_eq_some_getLast hne];rfl
  have hgo:Y7 vs x=vs++[XH (vs.getLastD []) x]:=rfl
  rw[hgo]
  clear hgo hln htk
  generalize vs.getLastD []=last at hm hlast ⊢
  have hlm:(vs.map ilc).length=vs.length:=length_map _
  have hv0:0<vs.length:=List.length_pos_iff.mpr hne
  refine ⟨_,Zf fok (k:=5) (by walk_at "m st"),?_⟩
  refine Z1 (Xd fok (k:=6) (by walk_at "m st") (ZV (cl:=[(Str.ofString "x",cx)]) (res:=sel (fun _=>true) (fun i=>.int (((x.fdiv 2).fdiv (TV.getD i 0)).fmod 3)) (TV.map AV.int).length)
   ⟨(Zr (fun _=>cx) (by
     intro y hy
     have e:y∈[Str.ofString "x"]:=hy
     rw[mem_singleton] at e
     rw[e];exact hcX)).trans rfl,by decide,rfl,of_decide_eq_true (by kernel_rfl)⟩
   (fun ck=>YE fok (cap:=[none,none,some (.int x)]) (k:=1) (fun _=>true) (fun i=>.int (((x.fdiv 2).fdiv (TV.getD i 0)).fmod 3))
    ck
    (Yt [⟨2,5, "x",.int x⟩] SG (by
     intro e he
     rw[mem_singleton] at he
     subst he
     exact ⟨rfl,.inl (by rw[xN];rfl),rfl,by rw[hcX];exact (by kernel_rfl:([(Str.ofString "x",cx)]:List (Str×Addr)).lookup (Str.ofString "x")=some cx)⟩)) rfl (by kernel_rfl) (Zt (d:=.tup [.int 1,.int 3,.int 9,.int 27,.int 81,.int 243]) (Xl fok (by walk_at "m evl") (show 6≤sizeLine by decide)) rfl) (V9 fok) (by decide)
    (fun V' n' l ok' hV hn i xv hxv=>by
     obtain ⟨rfl,hp⟩:=Td hxv
     exact ⟨Yd,fun _=>Zj (Zj (Zj (Yi ok' 2 rfl (by kernel_rfl) rfl) Z4 (UT (by decide) (by decide))) (ZI ok' 1 rfl (by kernel_rfl) rfl) (UT (QW hp).1 (QW hp).2)) Z4 (Tj (by decide))⟩))
   (fun _=>rfl)) ((swW xS _ _ _).trans (by kernel_rfl))) ?_
  rw[NX (f:=fun p=>((x.fdiv 2).fdiv p).fmod 3),QU]
  have hmvl:(XD x).length=6:=rfl
  have r6:(ZC 0 6).length=6:=rfl
  have sNe:x.fmod 2=0->sel (fun _=>true) (fun i=>.int ((min 4 (last.getD i 0+(XD x).getD i 0):Nat):Int)) (ZC 0 6).length=(Zb (XH last x)).map .int:=fun h=>by rw[r6];exact Nb h
  have sNo:¬ x.fmod 2=0->sel (fun _=>true) (fun i=>.int ((last.getD i 0-(XD x).getD i 0:Nat):Int)) (ZC 0 6).length=(Zb (XH last x)).map .int:=fun h=>by rw[r6];exact Lp h
  generalize XD x=mv at hmvl sNe sNo ⊢
  generalize XH last x=nx at sNe sNo ⊢
  refine Zw (P₁:=fun out=>∃ sg,out=.nxt sg [(V,Zc (vs.map ilc++[ilc nx]))]∧Sub (JJ script whole V) sg)
   (V8 (b:=decide (x.fmod 2=0)) (ZS (Z0 (Zj (by walk_at "m ev") Z4 (Tj (by decide))) Z4 WZ rfl) (by rw[Bool.eq_iff_iff];simp)) (fun c=>?_) (fun c=>?_)) ?_
  ·have c:=of_decide_eq_true c
   refine Zu xi (ZE fok (d:=ilc nx) (by walk_at "m ev") (Zt (ZV (cl:=[(Str.ofString "songs",cs),(Str.ofString "moves",cm)]) (res:=sel (fun _=>true) (fun i=>.int ((min 4 (last.getD i 0+mv.getD i 0):Nat):Int)) (ZC 0 6).length)
     ⟨(Zr g (by intro y hy;have e:y∈[Str.ofString "moves",Str.ofString "songs"]:=hy;exact hfr y e)).trans (congrArg pure hgl),by decide,rfl,of_decide_eq_true (by kernel_rfl)⟩
     (fun ck=>YE fok (cap:=[none,none,none,some (ilc mv),some (.ptr V)]) (k:=1) (fun _=>true) (fun i=>.int ((min 4 (last.getD i 0+mv.getD i 0):Nat):Int))
      ck
      (Yt [⟨3,6, "moves",ilc mv⟩,⟨4,4, "songs",.ptr V⟩] J2 (by
       intro e he
       rcases List.mem_cons.mp he with rfl | he
       ·exact ⟨rfl,.inl (by rw[xN];rfl),rfl,by rw[hcM];exact lm1⟩
       ·rw[mem_singleton] at he
        subst he
        exact ⟨rfl,.inl (by rw[xN];rfl),rfl,by rw[hcS];exact ls1⟩)) rfl (by kernel_rfl) (Zt (d:=.rng 0 6) (by walk_at "m ev") rfl) (ZW fok (b:=6) (by decide)) (by decide)
      (fun V' n' l ok' hV' hn i xv hxv=>by
       obtain ⟨hi',rfl⟩:=Y6 hxv
       have hi:i<6:=VP (b:=6) hi'
       have hx1:=ZY (o:=last) (i:=i) (by rw[hm.len];exact hi)
       have hx2:=ZY (o:=mv) (i:=i) (by rw[hmvl];exact hi)
       have i63:((i:Nat):Int)<2 ^ 63:=Vp (Nat.le_trans (le_of_lt hi) (by decide))
       rw[XR]
       exact ⟨Yd,fun _=>Zt (Zv (cnm_glo ok' 2 rfl (by kernel_rfl) (KO (hk.mono hV') xg xb)) Zs (Ze Z4 (Ze (Zj (Zz (d₁:=ilc last) (Zz (Yi ok' 4 rfl (by kernel_rfl) rfl) (V5 Z4 Tk) (Vn (l:=vs.map ilc) (.tail _ (.head _)) (by with_unfolding_all exact fun _ _=>rfl) (by decide) (by rw[hlm];exact Int.neg_le_neg (Int.ofNat_le.mpr hv0)) (by decide) hlast)) (ZI ok' 1 rfl (by kernel_rfl) rfl) (ZA (by with_unfolding_all exact fun _ _=>rfl) YR i63 hx1)) (Zz (Yi ok' 3 rfl (by kernel_rfl) rfl) (ZI ok' 1 rfl (by kernel_rfl) rfl) (ZA (by with_unfolding_all exact fun _ _=>rfl) YR i63 hx2)) YN) Zq rfl) rfl) (N1 ok') rfl rfl) (congrArg AV.int Ln)⟩)) (fun _=>rfl)) (congrArg AV.lst (sNe c)))
    (P:=fun _ om'=>om'=[(V,Zc (vs.map ilc++[ilc nx]))]) .here (by rw[hlm];exact Nat.le_trans hvl (by decide)) rfl _) ?_ rfl
   rintro d om' rfl
   exact Zk ⟨_,rfl,rfl,rfl,rfl,rfl,rfl,trivial⟩
  ·have c:=of_decide_eq_false c
   refine Zu xi (ZE fok (d:=ilc nx) (by walk_at "m ev") (Zt (ZV (cl:=[(Str.ofString "songs",cs),(Str.ofString "moves",cm)]) (res:=sel (fun _=>true) (fun i=>.int ((last.getD i 0-mv.getD i 0:Nat):Int)) (ZC 0 6).length)
     ⟨(Zr g (by intro y hy;have e:y∈[Str.ofString "moves",Str.ofString "songs"]:=hy;exact hfr y e)).trans (congrArg pure hgl),by decide,rfl,of_decide_eq_true (by kernel_rfl)⟩
     (fun ck=>YE fok (cap:=[none,none,none,some (ilc mv),some (.ptr V)]) (k:=1) (fun _=>true) (fun i=>.int ((last.getD i 0-mv.getD i 0:Nat):Int))
      ck
      (Yt [⟨3,6, "moves",ilc mv⟩,⟨4,4, "songs",.ptr V⟩] J2 (by
       intro e he
       rcases List.mem_cons.mp he with rfl | he
       ·exact ⟨rfl,.inl (by rw[xN];rfl),rfl,by rw[hcM];exact lm1⟩
       ·rw[mem_singleton] at he
        subst he
        exact ⟨rfl,.inl (by rw[xN];rfl),rfl,by rw[hcS];exact ls1⟩)) rfl (by kernel_rfl) (Zt (d:=.rng 0 6) (by walk_at "m ev") rfl) (ZW fok (b:=6) (by decide)) (by decide)
      (fun V' n' l ok' hV' hn i xv hxv=>by
       obtain ⟨hi',rfl⟩:=Y6 hxv
       have hi:i<6:=VP (b:=6) hi'
       have hx1:=ZY (o:=last) (i:=i) (by rw[hm.len];exact hi)
       have hx2:=ZY (o:=mv) (i:=i) (by rw[hmvl];exact hi)
       have i63:((i:Nat):Int)<2 ^ 63:=Vp (Nat.le_trans (le_of_lt hi) (by decide))
       rw[XR]
       exact ⟨Yd,fun _=>Zt (Zv (cnm_glo ok' 2 rfl (by kernel_rfl) (Aa (hk.mono hV') xg xb)) Zs (Ze Z4 (Ze (Zj (Zz (d₁:=ilc last) (Zz (Yi ok' 4 rfl (by kernel_rfl) rfl) (V5 Z4 Tk) (Vn (l:=vs.map ilc) (.tail _ (.head _)) (by with_unfolding_all exact fun _ _=>rfl) (by decide) (by rw[hlm];exact Int.neg_le_neg (Int.ofNat_le.mpr hv0)) (by decide) hlast)) (ZI ok' 1 rfl (by kernel_rfl) rfl) (ZA (by with_unfolding_all exact fun _ _=>rfl) YR i63 hx1)) (Zz (Yi ok' 3 rfl (by kernel_rfl) rfl) (ZI ok' 1 rfl (by kernel_rfl) rfl) (ZA (by with_unfolding_all exact fun _ _=>rfl) YR i63 hx2)) Ti) Zq rfl) rfl) (GH ok') rfl rfl) (congrArg AV.int Lo)⟩)) (fun _=>rfl)) (congrArg AV.lst (sNo c)))
    (P:=fun _ om'=>om'=[(V,Zc (vs.map ilc++[ilc nx]))]) .here (by rw[hlm];exact Nat.le_trans hvl (by decide)) rfl _) ?_ rfl
   rintro d om' rfl
   exact Zk ⟨_,rfl,rfl,rfl,rfl,rfl,rfl,trivial⟩
  rintro out ⟨sg,rfl,hsub⟩
  refine Zk ⟨_,hsub,ht,rfl,?_⟩
  rw[map_append];rfl
 ·rintro sig om ⟨_,rfl,rfl⟩
  rw[length_map,take_length]
  rfl
 refine Yx fok .here hV YK (ZH.set (k:=4) rfl) OmCast.refl ?_
 have hcl:(WE script).length=1+(3+script.length):=by unfold WE;rw[JD];unfold drawn;rw[length_append];rfl
 have hci:CI (WE script):=CI.fold _ CI.zero
 generalize WE script=ss at hcl hci hG ⊢
 have cown:X9 prog w F (.ref 256):=Yr (hk 256 (Np w.params) (by kernel_rfl)) rfl
 have ctxt:X9 prog w F (.ref 251):=Yr (hk 251 (No w.params) (by kernel_rfl)) rfl
 have crd:X9 prog w F (.ref 261):=Yr (hk 261 (Nq w.params) (by kernel_rfl)) rfl
 refine Yy fok (k:=8) (by walk_at "m st") (VC (P:=fun d om'=>∃ x dx mo,MSt prog w true dx mo∧d=ZL x dx∧om'=mo) (by walk_at "m ev") (TM hk (o:=RN w.params) (by kernel_rfl) rfl (by kernel_rfl)) (XU (MT fok hk (xA.mono (by decide)) fun x dx m=>⟨x,dx,_,.inl ⟨m,rfl⟩,rfl,rfl⟩)) rfl rfl) ?_ rfl
 rintro d om₁ ⟨x,dx,mo,hm,rfl,rfl⟩
 have hln67:ss.length≤67:=by rw[hcl];exact add_le_add_left (add_le_add_left h63 3) 1
 have hrl:(ss.map ilc).length≤sizeLine:=by rw[length_map];exact Nat.le_trans hln67 (by decide)
 have hrv:(ss.map ilc).reverse=ss.reverse.map ilc:=(List.map_reverse).symm
 refine Zw (P₁:=fun o=>∃ sig om,o=.nxt sig om)
  (YS fok (d:=.tup [.lst (ss.map ilc),.lst (ss.map ilc).reverse]) (xs:=[.lst (ss.map ilc),.lst (ss.map ilc).reverse]) (by walk_at "m ev") (V9 fok)
   (fun t sig om=>sig=Ak script whole ss x dx∧MSt prog w true dx om) ⟨_,?_,rfl,hm⟩ ?_ (fun sig om _=>⟨sig,om,rfl⟩) (by intro _;rfl)) ?_
 ·exact ⟨rfl,rfl,rfl,rfl,rfl,rfl,trivial⟩
 ·rintro t rv sig om hx ⟨rfl,hm⟩
  have hrow:∃ row:List (List Nat),(row=ss∨row=ss.reverse)∧row.length=ss.length∧(∀ s∈row,SongOk s)∧rv=AV.lst (row.map ilc):=by
   rcases t with _ | _ | t
   ·cases hx;exact ⟨ss,.inl rfl,rfl,hci.ok,rfl⟩
   ·cases hx;exact ⟨ss.reverse,.inr rfl,List.length_reverse,fun s hs=>hci.ok s (List.mem_reverse.mp hs),congrArg AV.lst hrv⟩
   ·simp at hx
  obtain ⟨row,hrr,hrn,hrs,rfl⟩:=hrow
  have hg:=hG row hrr
  clear hG hx
  have hrl1:row.length≤1000:=by rw[hrn];exact Nat.le_trans hln67 (by decide)
  have hr00:0<row.length:=by rw[hrn,hcl,add_comm];exact succ_pos _
  obtain ⟨r0,hr0e⟩:∃ r,row[0]?=some r:=⟨row[0],by simp⟩
  have hr0:=hrs r0 (mem_of_getElem? hr0e)
  have hi0:(row.map ilc)[(0:Int).toNat]?=some (ilc r0):=by rw[getElem?_map];show (row[0]?).map ilc=_;rw[hr0e];rfl
  have hrne:(row.map ilc).length=row.length:=length_map _
  have hrml:(row.map ilc).length<2 ^ 62:=by rw[hrne];exact GO hrl1
  refine ⟨_,Zf fok (k:=9) (by walk_at "m st"),?_⟩
  refine Z1 (Y4 fok (k:=10) (cl:=[]) (res:=sel (fun _=>true) (fun i=>il (List.replicate (r0.getD i 0) 0)) ((Zb r0).map AV.int).length) ⟨(Zr (fun _=>0) (by intro y hy;cases hy)).trans rfl,by decide,rfl,of_decide_eq_true (by kernel_rfl)⟩ (by walk_at "m st")
   (fun ck=>YE fok (cap:=[none,none,none]) (k:=1) (fun _=>true) (fun i=>il (List.replicate (r0.getD i 0) 0)) ck
     (Yt [] (fun j d h=>by rcases j with _ | _ | _ | j<;>simp at h) (fun e he=>by cases he)) rfl (by kernel_rfl) (Zz (d₁:=.lst (row.map ilc)) (d₂:=.int 0) (by walk_at "m ev") Z4 (Xb (by with_unfolding_all exact fun _ _=>rfl) (by decide) (by decide) hi0)) (YD fok) (by rw[length_map,YH,hr0.len];decide)
     (fun V' n' l ok' hV hn i xv hxv=>by
      obtain ⟨m,hm',rfl⟩:=WW hxv
      have hmd:r0.getD i 0=m:=by rw[getD_eq_getElem?_getD,hm'];rfl
      have hm4:m≤4:=hr0.le m (mem_of_getElem? hm')
      have hrm:(ZC 0 (m:Int)).length=m:=YL
      rw[hmd]
      exact ⟨Yd,fun _=>Zt (ZV (cl:=[]) (res:=sel (fun _=>true) (fun _=>.int 0) (ZC 0 (m:Int)).length) ⟨(Zr (fun _=>0) (by intro y hy;cases hy)).trans rfl,by decide,rfl,of_decide_eq_true (by kernel_rfl)⟩
       (fun ck2=>YE ok' (cap:=[none,none]) (k:=1) (fun _=>true) (fun _=>.int 0) ck2
        (Yt [] (fun j d h=>by rcases j with _ | _ | j<;>simp at h) (fun e he=>by cases he)) rfl (by kernel_rfl) (Zv (cnm_glo ok' 2 rfl (by kernel_rfl) (XK (hk.mono hV) xg xb)) Zx (Ze (ZI ok' 1 rfl (by kernel_rfl) rfl) Zq rfl) (YC ok') rfl rfl) (ZW ok' (Nat.le_trans hm4 (by decide))) (by rw[hrm];exact Nat.le_trans hm4 (by decide))
        (fun V2 n2 l2 ok2 hV2 hn2 j yv hyv=>⟨Yd,fun _=>Z4⟩)) (fun _=>rfl)) (congrArg AV.lst (by rw[hrm];exact Vj))⟩)) ((swW xS _ _ _).trans (by kernel_rfl))) ?_
  rw[Na]
  refine Zw (P₁:=fun o=>∃ notes om',MSt prog w true dx om'∧o=.nxt (JK script whole ss x dx row notes) om')
   (YS fok (d:=.rng 1 (row.length:Nat)) (xs:=ZC 1 (row.length:Nat)) (Zt (by walk_at "m ev") (by rw[hrne])) (KF fok hrl1)
    (fun t sig om=>∃ notes o,row[t]?=some o∧NotesOk o notes∧sig=JK script whole ss x dx row notes∧MSt prog w true dx om)
    ⟨_,?_,U0 r0,r0,hr0e,Lm hr0.len,rfl,hm⟩ ?_ (fun sig om h=>by obtain ⟨notes,o,_,_,rfl,hm⟩:=h;exact ⟨notes,om,hm,rfl⟩) (by intro _;rfl)) ?_
  ·exact ⟨rfl,rfl,rfl,rfl,rfl,rfl,rfl,rfl,trivial⟩
  ·clear hm hr0e hr0 hi0
   rintro t _ sig om hx ⟨notes,o,ho,hno,rfl,hm⟩
   obtain ⟨ht,rfl⟩:=Y6 hx
   have ht1:t+1<row.length:=HC ht
   obtain ⟨n,hn⟩:∃ r,row[t+1]?=some r:=⟨row[t+1],by simp[ht1]⟩
   have hst:=hg t o n ho hn
   have hro:=hrs o (mem_of_getElem? ho)
   have hrn':=hrs n (mem_of_getElem? hn)
   have hvb:=E2 (t:=t) (Nat.le_trans (le_of_lt (lt_of_succ_lt ht1)) hrl1)
   have io:(row.map ilc)[((1:Int)+(t:Nat)-1).toNat]?=some (ilc o):=by rw[JE,getElem?_map,ho];rfl
   have inw:(row.map ilc)[((1:Int)+(t:Nat)).toNat]?=some (ilc n):=by rw[G6,getElem?_map,hn];rfl
   generalize hv:(1:Int)+(t:Nat)=v at io inw hvb ⊢
   obtain ⟨hv63,hv0,hv1,hv64⟩:=hvb
   obtain ⟨hsz1,hsz3⟩:=@QS script
   obtain ⟨hz7,hzs⟩:=@SN whole
   refine ⟨_,Zf fok (k:=11) (by walk_at "m st"),?_⟩
   refine XX fok (k₁:=12) (k₂:=13) (d₁:=ilc o) (d₂:=ilc n) (by walk_at "m st") (by walk_at "m st") (Xl fok (Ze (Zz (d₁:=.lst (row.map ilc)) (d₂:=.int (v-1)) (by walk_at "m ev") (by walk_at "m ev") (Xb (by with_unfolding_all exact fun _ _=>rfl) hv1 hv64 io)) (Ze (Zz (d₁:=.lst (row.map ilc)) (d₂:=.int v) (by walk_at "m ev") (by walk_at "m ev") (Xb (by with_unfolding_all exact fun _ _=>rfl) hv0 hv63 inw)) Zq rfl) rfl) TF) rfl ((swS xS _ _).trans (by kernel_rfl)) ?_
   with_reducible refine' ZF (k:=14) (d:=G7 o n (Zi whole) (Zh script)) fok (by walk_at "m st") (Zv (by walk_at "m ev") cown (by walk_at "m evl") (Rf fok hk Y0 (xA.mono (by decide)) (JC hro.len hrn'.len hz7 hro.le hrn'.le hzs hsz3 hsz1).fn) (by walk_at "m r") (by walk_at "m r")) (by walk_at "m r") ?_
   refine Zw (P₁:=fun out=>∃ U B A G,F.n₀≤U∧F.n₀≤B∧F.n₀≤A∧F.n₀≤G∧out=.nxt (JL script whole ss x dx row notes v o n U B A G 0) ((G,Zc [])::(A,Zc [])::(B,Zc [])::(U,Zc [])::om)) ?_ ?_
   ·with_reducible refine' Yp (P:=fun d om'=>∃ U B A G,F.n₀≤U∧F.n₀≤B∧F.n₀≤A∧F.n₀≤G∧d=.tup [.ptr U,.ptr B,.ptr A,.ptr G,.int 0]∧om'=(G,Zc [])::(A,Zc [])::(B,Zc [])::(U,Zc [])::om) ?_ ?_ ?_ ?_
    ·with_reducible refine' Ul fok ?_
     with_reducible refine' Yo (P₁:=fun d om'=>∃ U,F.n₀≤U∧d=.ptr U∧om'=(U,Zc [])::om) ?_ ?_ ?_
     ·exact Yn fok Zq (show 0≤sizeLine by decide) fun U hU=>⟨U,hU,rfl,rfl⟩
     ·rintro d om' ⟨U,hU,rfl,rfl⟩
      with_reducible refine' Yo (P₁:=fun d om'=>∃ B,F.n₀≤B∧d=.ptr B∧om'=(B,Zc [])::(U,Zc [])::om) ?_ ?_ ?_
      ·exact Yn fok Zq (show 0≤sizeLine by decide) fun B hB=>⟨B,hB,rfl,rfl⟩
      ·rintro d om' ⟨B,hB,rfl,rfl⟩
       with_reducible refine' Yo (P₁:=fun d om'=>∃ A,F.n₀≤A∧d=.ptr A∧om'=(A,Zc [])::(B,Zc [])::(U,Zc [])::om) ?_ ?_ ?_
       ·exact Yn fok Zq (show 0≤sizeLine by decide) fun A hA=>⟨A,hA,rfl,rfl⟩
       ·rintro d om' ⟨A,hA,rfl,rfl⟩
        with_reducible refine' Yo (P₁:=fun d om'=>∃ G,F.n₀≤G∧d=.ptr G∧om'=(G,Zc [])::(A,Zc [])::(B,Zc [])::(U,Zc [])::om) ?_ ?_ ?_
        ·exact Yn fok Zq (show 0≤sizeLine by decide) fun G hG=>⟨G,hG,rfl,rfl⟩
        ·rintro d om' ⟨G,hG,rfl,rfl⟩
         exact Xo (ds:=[.int 0]) (by walk_at "m evl") ⟨show 5≤sizeLine by decide,U,B,A,G,hU,hB,hA,hG,rfl,rfl⟩
        ·rfl
       ·rfl
      ·rfl
     ·rfl
    ·rintro d om' ⟨U,B,A,G,hU,hB,hA,hG,rfl,rfl⟩
     exact ⟨_,XT fok (Zl (Zf fok (k:=15) (by walk_at "m st")) (Zl (Zf fok (k:=16) (by walk_at "m st")) (Zl (Zf fok (k:=17) (by walk_at "m st")) (Zl (Zf fok (k:=18) (by walk_at "m st")) (Zl (Zf fok (k:=19) (by walk_at "m st")) Xn))))) rfl,U,B,A,G,hU,hB,hA,hG,rfl⟩
    ·rfl
    ·exact (swS xS _ _).trans (by kernel_rfl)
   rintro out ⟨U,B,A,G,hU,hB,hA,hG,rfl⟩
   refine Z1 (sig':=(JL script whole ss x dx row notes v o n U B A G (atP o (Zi whole) (Zh script) 7))) (om':=(G,Zc ((Zb (XI o n (Zi whole) (Zh script) 7)).map .int))::(A,Zc ((Yc (Zi whole) (Zh script) (Wp o n (Zi whole) (Zh script) notes v 6) 7).map .int))::(B,Zc ((Yc (Zi whole) (Zh script) notes 7).map .int))::(U,Zc ((Wp o n (Zi whole) (Zh script) notes v 6).map il))::om)
    (YS fok (d:=.rng 0 7) (xs:=ZC 0 7) (by walk_at "m ev") (ZW fok (b:=7) (by decide)) (fun k sig om'=>sig=JL script whole ss x dx row notes v o n U B A G (atP o (Zi whole) (Zh script) k) ∧
     om'=(G,Zc ((Zb (XI o n (Zi whole) (Zh script) k)).map .int))::(A,Zc ((Yc (Zi whole) (Zh script) (Wp o n (Zi whole) (Zh script) notes v 6) k).map .int))::(B,Zc ((Yc (Zi whole) (Zh script) notes k).map .int))::(U,Zc ((Wp o n (Zi whole) (Zh script) notes v (min k 6)).map il))::om)
     ⟨_,Sub.refl,rfl,rfl⟩ ?_ ?_ (by intro _;rfl)) ?_
   ·rintro j _ sig om' hx ⟨rfl,rfl⟩
    obtain ⟨hj',rfl⟩:=Y6 hx
    have hj7:j<7:=VP (b:=7) hj'
    rw[XR]
    have hle4:=hro.le
    have hle4':=hrn'.le
    have hdok:=Te (n:=n) (sizes:=Zi whole) (size:=Zh script) (v:=v) hno
    have bLB:=Nat.le_trans (WF hno hro.le hzs hsz3 j) (Nat.mul_le_mul_right 16 (le_of_lt hj7))
    have bLA:=Nat.le_trans (WF hdok hrn'.le hzs hsz3 j) (Nat.mul_le_mul_right 16 (le_of_lt hj7))
    have bGN:=Nat.le_trans (Uz (n:=n) (sizes:=Zi whole) hro.le hsz3 j) (Nat.mul_le_mul_right 12 (le_of_lt hj7))
    have bAT:=Nat.le_trans (JF hro.le hzs hsz3 j) (Nat.mul_le_mul_right 16 (le_of_lt hj7))
    have z4:=ZQ (fun g hg=>(hzs g hg).2) j
    have hgz:=ZY (o:=Zi whole) (i:=j) (by rw[hz7];exact hj7)
    have j63:((j:Nat):Int)<2 ^ 63:=Vp (Nat.le_trans (le_of_lt hj7) (by decide))
    rw[Wh,YI,YI,TW]
    unfold UG
    unfold UH
    generalize XI o n (Zi whole) (Zh script) j=gj at bGN ⊢
    generalize Yc (Zi whole) (Zh script) (Wp o n (Zi whole) (Zh script) notes v 6) j=aj at bLA ⊢
    generalize Yc (Zi whole) (Zh script) notes j=bj at bLB ⊢
    generalize atP o (Zi whole) (Zh script) j=pj at bAT ⊢
    generalize (Zi whole).getD j 0=z at z4 hgz ⊢
    have nz:(ZC 0 (z:Int)).length=z:=YL
    refine ⟨_,Zf fok (k:=7) (by walk_at "m st"),?_⟩
    refine Zu xi (Yj fok (l':=(List.replicate z 0).map .int) (by walk_at "m ev") (Zt (ZV (cl:=[]) (res:=sel (fun _=>true) (fun _=>.int 0) (ZC 0 (z:Int)).length) ⟨(Zr (fun _=>0) (by intro y hy;cases hy)).trans rfl,by decide,rfl,of_decide_eq_true (by kernel_rfl)⟩
     (fun ck=>YE fok (cap:=[none,none]) (k:=1) (fun _=>true) (fun _=>.int 0) ck (Yt [] (fun j d h=>by rcases j with _ | _ | j<;>simp at h) (fun e he=>by cases he)) rfl (by kernel_rfl) (Zv (d:=.rng 0 (z:Nat)) (by walk_at "m ev") Zx (Ze (Zz (d₁:=ilc (Zi whole)) (d₂:=.int (j:Nat)) (by walk_at "m ev") (by walk_at "m ev") (ZA (by with_unfolding_all exact fun _ _=>rfl) YR j63 hgz)) Zq rfl) (YC fok) rfl rfl) (ZW fok (Nat.le_trans z4 (by decide))) (by rw[nz];exact Nat.le_trans z4 (by decide))
      (fun V' n' l ok' hV hn i xv hxv=>⟨Yd,fun _=>Z4⟩)) (fun _=>rfl)) (congrArg AV.lst (by rw[nz];exact Vj))) (P:=fun _ om'=>om'=_) (.there (.there .here)) (by rw[length_map,length_map,length_replicate];exact Nat.le_trans (add_le_add bLB z4) (by decide)) rfl _) ?_ rfl
    rintro d om' rfl
    refine Zu xi (Yj fok (l':=(List.replicate z 0).map .int) (by walk_at "m ev") (Zt (ZV (cl:=[]) (res:=sel (fun _=>true) (fun _=>.int 0) (ZC 0 (z:Int)).length) ⟨(Zr (fun _=>0) (by intro y hy;cases hy)).trans rfl,by decide,rfl,of_decide_eq_true (by kernel_rfl)⟩
     (fun ck=>YE fok (cap:=[none,none]) (k:=1) (fun _=>true) (fun _=>.int 0) ck (Yt [] (fun j d h=>by rcases j with _ | _ | j<;>simp at h) (fun e he=>by cases he)) rfl (by kernel_rfl) (Zv (d:=.rng 0 (z:Nat)) (by walk_at "m ev") Zx (Ze (Zz (d₁:=ilc (Zi whole)) (d₂:=.int (j:Nat)) (by walk_at "m ev") (by walk_at "m ev") (ZA (by with_unfolding_all exact fun _ _=>rfl) YR j63 hgz)) Zq rfl) (YC fok) rfl rfl) (ZW fok (Nat.le_trans z4 (by decide))) (by rw[nz];exact Nat.le_trans z4 (by decide))
      (fun V' n' l ok' hV hn i xv hxv=>⟨Yd,fun _=>Z4⟩)) (fun _=>rfl)) (congrArg AV.lst (by rw[nz];exact Vj))) (P:=fun _ om'=>om'=_) (.there .here) (by rw[length_map,length_map,length_replicate];exact Nat.le_trans (add_le_add bLA z4) (by decide)) rfl _) ?_ rfl
    rintro d om' rfl
    refine ZF (k:=19) (d:=.int ((pj+z:Nat):Int)) fok (by walk_at "m st") (Zt (Zj (d₁:=.int (pj:Nat)) (by walk_at "m ev") (Zz (d₁:=ilc (Zi whole)) (d₂:=.int (j:Nat)) (by walk_at "m ev") (by walk_at "m ev") (ZA (by with_unfolding_all exact fun _ _=>rfl) YR j63 hgz)) YN) (congrArg AV.int (natCast_add _ _).symm)) rfl ?_
    by_cases hj6:j<6
    ·refine Rr (ZS (Z0 (d₁:=.int (j:Nat)) (by walk_at "m ev") Z4 Vb rfl) (decide_eq_true (Int.ofNat_lt.mpr hj6))) ?_
     have hst:=@X1 o n j
     have ho4:=ZQ hle4 j
     have hn4:=ZQ hle4' j
     have hgo:=ZY (o:=o) (i:=j) (by rw[hro.len];exact hj6)
     have hgn:=ZY (o:=n) (i:=j) (by rw[hrn'.len];exact hj6)
     have hnot:=hno.each j hj6
     have hdl:=QX (n:=n) (sizes:=Zi whole) (size:=Zh script) (v:=v) hno hj6
     have hmin1:min j 6=j:=min_eq_left (le_of_lt hj6)
     have hmin2:min (j+1) 6=j+1:=min_eq_left hj6
     have hdT:Wo o n (Zi whole) (Zh script) notes v j=if byL o n (Zi whole) (Zh script) j then (notes.getD j []).take (Yb o n j)++List.replicate (n.getD j 0-Yb o n j) v else List.replicate (n.getD j 0-Yb o n j) v++(notes.getD j []).drop (o.getD j 0-Yb o n j):=rfl
     have hnj:(notes.map il)[((j:Nat):Int).toNat]?=some (il (notes.getD j [])):=by
      rw[toNat_natCast,getElem?_map,getD_eq_getElem?_getD,getElem?_eq_getElem (by rw[hno.len];exact hj6)];rfl
     have hbn:=JG (o:=o) (n:=n) (sizes:=Zi whole) (size:=Zh script) (t:=j)
     have hbs:=JH (o:=o) (n:=n) (sizes:=Zi whole) (size:=Zh script) (t:=j)
     have hdul:(Wp o n (Zi whole) (Zh script) notes v j).length=j:=by unfold Wp;rw[length_map,length_range]
     have hdj:((Wp o n (Zi whole) (Zh script) notes v j).map il++[il (Wo o n (Zi whole) (Zh script) notes v j)])[((j:Nat):Int).toNat]?=some (il (Wo o n (Zi whole) (Zh script) notes v j)):=by
      rw[toNat_natCast,getElem?_append_right (by rw[length_map,hdul];exact le_refl _),length_map,hdul,sub_self];rfl
     rw[if_pos hj6,if_pos hj6,if_pos hj6,if_pos hj6,Wg hj6,hmin1,hmin2,Lk,map_append (l₂:=[Wo o n (Zi whole) (Zh script) notes v j])]
     have hdTl:(Wo o n (Zi whole) (Zh script) notes v j).length≤4:=by rw[hdl];exact hn4
     have hnl:(notes.getD j []).length≤4:=by rw[hnot];exact ho4
     generalize Wo o n (Zi whole) (Zh script) notes v j=dt at hdT hdj hdTl ⊢
     generalize byL o n (Zi whole) (Zh script) j=bl at hdT hbn hbs ⊢
     have hmn:AV.int (min ((o.getD j 0:Nat):Int) ((n.getD j 0:Nat):Int))=.int (Yb o n j:Nat):=congrArg AV.int SI
     generalize Yb o n j=st at hst hdT hmn ⊢
     refine ZF (k:=20) (d:=.int (st:Nat)) fok (by walk_at "m st") (Zt (Zv (by walk_at "m ev") Zs (Ze (Zz (d₁:=ilc o) (d₂:=.int (j:Nat)) (by walk_at "m ev") (by walk_at "m ev") (ZA (by with_unfolding_all exact fun _ _=>rfl) YR j63 hgo)) (Ze (Zz (d₁:=ilc n) (d₂:=.int (j:Nat)) (by walk_at "m ev") (by walk_at "m ev") (ZA (by with_unfolding_all exact fun _ _=>rfl) YR j63 hgn)) Zq rfl) rfl) (N1 fok) rfl rfl) hmn) rfl ?_
     have hns:(n.getD j 0:Int)-(st:Nat)=((n.getD j 0-st:Nat):Int):=QY hst.2
     have hos:(o.getD j 0:Int)-(st:Nat)=((o.getD j 0-st:Nat):Int):=QY hst.1
     generalize n.getD j 0=nj at hn4 hgn hst hns hdT ⊢
     generalize o.getD j 0=oj at ho4 hgo hst hos hdT ⊢
     have nns:(ZC 0 ((nj-st:Nat):Int)).length=nj-st:=YL
     have ns4:nj-st≤4:=Nat.le_trans (sub_le _ _) hn4
     have os4:oj-st≤4:=Nat.le_trans (sub_le _ _) ho4
     refine Z1 (Y4 fok (k:=21) (cl:=[(Str.ofString "v",cv)]) (res:=sel (fun _=>true) (fun _=>.int v) (ZC 0 ((nj-st:Nat):Int)).length) ⟨(Zr (fun _=>cv) (by
       intro y hy
       have e:y∈[Str.ofString "v"]:=hy
       rw[mem_singleton] at e
       rw[e];exact hcV)).trans rfl,by decide,rfl,of_decide_eq_true (by kernel_rfl)⟩ (by walk_at "m st")
      (fun ck=>YE fok (cap:=[none,none,some (.int v)]) (k:=1) (fun _=>true) (fun _=>.int v) ck
       (Yt [⟨2,11, "v",.int v⟩] SG (by
        intro e he
        rw[mem_singleton] at he
        subst he
        exact ⟨rfl,.inl (by rw[xN];rfl),rfl,by rw[hcV];exact (by kernel_rfl:([(Str.ofString "v",cv)]:List (Str×Addr)).lookup (Str.ofString "v")=some cv)⟩)) rfl (by kernel_rfl)
       (Zv (by walk_at "m ev") Zx (Ze (Zt (Zj (Zz (d₁:=ilc n) (d₂:=.int (j:Nat)) (by walk_at "m ev") (by walk_at "m ev") (ZA (by with_unfolding_all exact fun _ _=>rfl) YR j63 hgn)) (by walk_at "m ev") Ti) (congrArg AV.int hns)) Zq rfl) (YC fok) rfl rfl) (ZW fok (Nat.le_trans ns4 (by decide))) (by rw[nns];exact Nat.le_trans ns4 (by decide))
       (fun V' n' l ok' hV hn i xv hxv=>⟨Yd,fun _=>Yi ok' 2 rfl (by kernel_rfl) rfl⟩)) ((swW xS _ _ _).trans (by kernel_rfl))) ?_
     rw[nns,Vj]
     refine Z1 (Xd fok (k:=22) (by walk_at "m st") (F4 (c:=!((dcF (kfO o n) (vfO o n (Zi whole) (Zh script)) (Yv o n)) (j:Nat)).isSome) (d:=.bool bl) (NL (d₁:=.int (j:Nat)) (d₂:=G7 o n (Zi whole) (Zh script)) (by walk_at "m ev") (by walk_at "m ev") Ry rfl)
      (fun c=>Zz (d₁:=G7 o n (Zi whole) (Zh script)) (d₂:=.int (j:Nat)) (by walk_at "m ev") (by walk_at "m ev") (KH (by with_unfolding_all exact fun _ _=>rfl) (hbs (by simpa using c)))) (fun c=>by rw[hbn (by simpa using c)])) rfl) ?_
     have lnz:(notes.getD j []).length≤sizeLine:=Nat.le_trans hnl (by decide)
     refine Zu xi (ZE fok (d:=il dt) (by walk_at "m ev") (Zt (N0 (c:=bl) (d₁:=il ((notes.getD j []).take st++List.replicate (nj-st) v)) (d₂:=il (List.replicate (nj-st) v++(notes.getD j []).drop (oj-st))) (ZT (by walk_at "m ev") X2 (by intro _;rfl))
      (fun _=>Zj (d₁:=il ((notes.getD j []).take st)) (d₂:=il (List.replicate (nj-st) v)) (Zt (Zz (d₁:=il (notes.getD j [])) (Zz (d₁:=.lst (notes.map il)) (d₂:=.int (j:Nat)) (by walk_at "m ev") (by walk_at "m ev") (Xb (by with_unfolding_all exact fun _ _=>rfl) YR j63 hnj)) (by walk_at "m ev") (sl_upto fok (by with_unfolding_all exact fun _ _=>⟨_,rfl⟩) YR lnz)) (congrArg (fun k=>il ((notes.getD j []).take k)) (toNat_natCast st))) (by walk_at "m ev") (Xh fok (by rw[length_take,length_replicate];exact Nat.le_trans (add_le_add (Nat.le_trans (Nat.min_le_right _ _) hnl) ns4) (by decide))))
      (fun _=>Zj (d₁:=il (List.replicate (nj-st) v)) (d₂:=il ((notes.getD j []).drop (oj-st))) (by walk_at "m ev") (Zt (Zz (d₁:=il (notes.getD j [])) (d₂:=Xm (some ((oj-st:Nat):Int)) none none) (Zz (d₁:=.lst (notes.map il)) (d₂:=.int (j:Nat)) (by walk_at "m ev") (by walk_at "m ev") (Xb (by with_unfolding_all exact fun _ _=>rfl) YR j63 hnj)) (V7 fok (Wu (Zt (Zj (Zz (d₁:=ilc o) (d₂:=.int (j:Nat)) (by walk_at "m ev") (by walk_at "m ev") (ZA (by with_unfolding_all exact fun _ _=>rfl) YR j63 hgo)) (by walk_at "m ev") Ti) (congrArg AV.int hos))) WP WP) (sl_from fok (by with_unfolding_all exact fun _ _=>⟨_,rfl⟩) YR lnz)) (congrArg (fun k=>il ((notes.getD j []).drop k)) (toNat_natCast (oj-st)))) (Xh fok (by rw[List.length_drop,length_replicate];exact Nat.le_trans (add_le_add ns4 (Nat.le_trans (sub_le _ _) hnl)) (by decide))))) (by rw[hdT];cases bl<;>rfl))
      (P:=fun _ om'=>om'=_) (.there (.there (.there .here))) (by rw[length_map,hdul];exact Nat.le_trans (le_of_lt hj7) (by decide)) rfl _) ?_ rfl
     rintro d om' rfl
     have hfe:(if bl then AV.int (((Zh script:Nat):Int)*(st:Nat)) else AV.int 0)=.int ((if bl then Zh script*st else 0:Nat):Int):=by cases bl<;>rfl
     refine ZF (k:=23) (d:=.int ((pj+z+if bl then Zh script*st else 0:Nat):Int)) fok (by walk_at "m st") (Zt (Zj (d₁:=.int ((pj+z:Nat):Int)) (by walk_at "m ev") (Zt (N0 (c:=bl) (ZT (by walk_at "m ev") X2 (by intro _;rfl)) (fun _=>Zj (d₁:=.int (Zh script:Nat)) (d₂:=.int (st:Nat)) (by walk_at "m ev") (by walk_at "m ev") (Vs (J8 hsz3))) (fun _=>Z4)) hfe) YN) (congrArg AV.int (natCast_add _ _).symm)) rfl ?_
     have hf12:(if bl then Zh script*st else 0)≤12:=by
      split
      ·exact mul_le_mul hsz3 (Nat.le_trans hst.1 ho4)
      ·exact zero_le _
     have hfi:pj+z+(if bl then Zh script*st else 0)≤128:=add_le_add (add_le_add bAT z4) hf12
     generalize (pj+z+if bl then Zh script*st else 0)=fi at hfi ⊢
     have hL:Zh script*(oj-st)≤12:=mul_le_mul hsz3 os4
     have hge:(fi:Int)+((Zh script:Nat):Int)*((oj-st:Nat):Int)=((fi+Zh script*(oj-st):Nat):Int):=by rw[natCast_add,Int.natCast_mul]
     have hgl2:(ZC (fi:Int) ((fi+Zh script*(oj-st):Nat):Int)).length=Zh script*(oj-st):=by rw[TD];exact add_sub_cancel_left _ _
     refine Zu xi (Yj fok (l':=(Zb (List.range' fi (Zh script*(oj-st)))).map .int) (by walk_at "m ev") (Zt (ZV (cl:=[]) (res:=sel (fun _=>true) (fun i=>.int ((fi:Int)+(i:Nat))) (ZC (fi:Int) ((fi+Zh script*(oj-st):Nat):Int)).length) ⟨(Zr (fun _=>0) (by intro y hy;cases hy)).trans rfl,by decide,rfl,of_decide_eq_true (by kernel_rfl)⟩
      (fun ck=>YE fok (cap:=[none,none]) (k:=1) (fun _=>true) (fun i=>.int ((fi:Int)+(i:Nat))) ck (Yt [] (fun j d h=>by rcases j with _ | _ | j<;>simp at h) (fun e he=>by cases he)) rfl (by kernel_rfl)
       (Zv (by walk_at "m ev") Zx (Ze (by walk_at "m ev") (Ze (Zt (Zj (by walk_at "m ev") (Zj (d₁:=.int (Zh script:Nat)) (by walk_at "m ev") (Zt (Zj (Zz (d₁:=ilc o) (d₂:=.int (j:Nat)) (by walk_at "m ev") (by walk_at "m ev") (ZA (by with_unfolding_all exact fun _ _=>rfl) YR j63 hgo)) (by walk_at "m ev") Ti) (congrArg AV.int hos)) (Vs (J8 hsz3))) YN) (congrArg AV.int hge)) Zq rfl) rfl) (RS fok) rfl rfl) (TE fok (Nat.le_trans hfi (by decide)) (Nat.le_trans (add_le_add hfi hL) (by decide))) (by rw[hgl2];exact Nat.le_trans hL (by decide))
       (fun V' n' l ok' hV hn i xv hxv=>by
        obtain ⟨hi',rfl⟩:=Y6 hxv
        exact ⟨Yd,fun _=>ZI ok' 1 rfl (by kernel_rfl) rfl⟩)) (fun _=>rfl)) (congrArg AV.lst (by rw[hgl2];exact JI)))
      (P:=fun _ om'=>om'=_) .here (by rw[length_map,length_map,YH,YH,List.length_range'];exact Nat.le_trans (add_le_add bGN hL) (by decide)) rfl _) ?_ rfl
     rintro d om' rfl
     refine Zu xi (Yj fok (l':=((notes.getD j []).flatMap fun who=>List.replicate (Zh script) who).map .int) (by walk_at "m ev") (Zt (ZV (cl:=[(Str.ofString "size",cz)]) (res:=X5 ((notes.getD j []).map AV.int).length (fun _=>ZC 0 ((Zh script:Nat):Int)) (fun i _=>.int ((notes.getD j []).getD i 0))) ⟨(Zr (fun _=>cz) (by
       intro y hy
       have e:y∈[Str.ofString "size"]:=hy
       rw[mem_singleton] at e
       rw[e];exact hcZ)).trans rfl,by decide,rfl,of_decide_eq_true (by kernel_rfl)⟩
      (fun ck=>KC fok (cap:=[none,none,none,none,some (.int (Zh script:Nat))]) (k:=1) (k':=2) (fun _=>ZC 0 ((Zh script:Nat):Int)) (fun _=>.rng 0 (Zh script:Nat)) (fun i _=>.int ((notes.getD j []).getD i 0)) ck
       (Yt [⟨4,1, "size",.int (Zh script:Nat)⟩] J0 (by
        intro e he
        rw[mem_singleton] at he
        subst he
        exact ⟨rfl,.inl (by rw[xN];rfl),rfl,by rw[hcZ];exact (by kernel_rfl:([(Str.ofString "size",cz)]:List (Str×Addr)).lookup (Str.ofString "size")=some cz)⟩)) rfl rfl (by kernel_rfl) (by kernel_rfl) (by decide)
       (Zz (d₁:=.lst (notes.map il)) (d₂:=.int (j:Nat)) (by walk_at "m ev") (by walk_at "m ev") (Xb (by with_unfolding_all exact fun _ _=>rfl) YR j63 hnj)) (YD fok) (fun i hi=>by
        rw[TX]
        rw[length_map] at hi
        exact Nat.le_trans (mul_le_mul (Nat.le_trans hi hnl) hsz3) (by decide)) (fun _ _=>rfl)
       (fun V' n' l ok' hV hn i xv hxv=>by
        obtain ⟨rfl,_⟩:=Td hxv
        exact ⟨Zv (cnm_glo ok' 3 rfl (by kernel_rfl) (XK (hk.mono hV) xg xb)) Zx (Ze (Yi ok' 4 rfl (by kernel_rfl) rfl) Zq rfl) (YC ok') rfl rfl,ZW ok' (Nat.le_trans hsz3 (by decide)),fun q yv hy=>ZI ok' 1 rfl (by kernel_rfl) rfl⟩)) (fun _=>rfl)) (congrArg AV.lst SO))
      (P:=fun _ om'=>om'=_) (.there (.there .here)) (by rw[length_append,length_map,length_map,length_map,length_replicate,WX];exact Nat.le_trans (add_le_add (add_le_add bLB z4) (mul_le_mul hnl hsz3)) (by decide)) rfl _) ?_ rfl
     rintro d om' rfl
     refine Zu xi (Yj fok (l':=(dt.flatMap fun who=>List.replicate (Zh script) who).map .int) (by walk_at "m ev") (Zt (ZV (cl:=[(Str.ofString "size",cz)]) (res:=X5 (dt.map AV.int).length (fun _=>ZC 0 ((Zh script:Nat):Int)) (fun i _=>.int (dt.getD i 0))) ⟨(Zr (fun _=>cz) (by
       intro y hy
       have e:y∈[Str.ofString "size"]:=hy
       rw[mem_singleton] at e
       rw[e];exact hcZ)).trans rfl,by decide,rfl,of_decide_eq_true (by kernel_rfl)⟩
      (fun ck=>KC fok (cap:=[none,none,none,none,some (.int (Zh script:Nat))]) (k:=1) (k':=2) (fun _=>ZC 0 ((Zh script:Nat):Int)) (fun _=>.rng 0 (Zh script:Nat)) (fun i _=>.int (dt.getD i 0)) ck
       (Yt [⟨4,1, "size",.int (Zh script:Nat)⟩] J0 (by
        intro e he
        rw[mem_singleton] at he
        subst he
        exact ⟨rfl,.inl (by rw[xN];rfl),rfl,by rw[hcZ];exact (by kernel_rfl:([(Str.ofString "size",cz)]:List (Str×Addr)).lookup (Str.ofString "size")=some cz)⟩)) rfl rfl (by kernel_rfl) (by kernel_rfl) (by decide)
       (Zz (d₁:=.ptr U) (d₂:=.int (j:Nat)) (by walk_at "m ev") (by walk_at "m ev") (Mr (l:=(Wp o n (Zi whole) (Zh script) notes v j).map il++[il dt]) (.tail _ (.tail _ (.tail _ (.head _)))) (by with_unfolding_all exact fun _ _=>rfl) YR j63 hdj)) (YD fok) (fun i hi=>by
        rw[TX]
        rw[length_map] at hi
        exact Nat.le_trans (mul_le_mul (Nat.le_trans hi hdTl) hsz3) (by decide)) (fun _ _=>rfl)
       (fun V' n' l ok' hV hn i xv hxv=>by
        obtain ⟨rfl,_⟩:=Td hxv
        exact ⟨Zv (cnm_glo ok' 3 rfl (by kernel_rfl) (XK (hk.mono hV) xg xb)) Zx (Ze (Yi ok' 4 rfl (by kernel_rfl) rfl) Zq rfl) (YC ok') rfl rfl,ZW ok' (Nat.le_trans hsz3 (by decide)),fun q yv hy=>ZI ok' 1 rfl (by kernel_rfl) rfl⟩)) (fun _=>rfl)) (congrArg AV.lst SO))
      (P:=fun _ om'=>om'=_) (.there .here) (by rw[length_append,length_map,length_map,length_map,length_replicate,WX];exact Nat.le_trans (add_le_add (add_le_add bLA z4) (mul_le_mul hdTl hsz3)) (by decide)) rfl _) ?_ rfl
     rintro d om' rfl
     refine ZF (k:=19) (d:=.int ((pj+z+Zh script*oj:Nat):Int)) fok (by walk_at "m st") (Zt (Zj (d₁:=.int ((pj+z:Nat):Int)) (by walk_at "m ev") (Zj (d₁:=.int (Zh script:Nat)) (by walk_at "m ev") (Zz (d₁:=ilc o) (d₂:=.int (j:Nat)) (by walk_at "m ev") (by walk_at "m ev") (ZA (by with_unfolding_all exact fun _ _=>rfl) YR j63 hgo)) (Vs (J8 hsz3))) YN) (congrArg AV.int (by rw[<-Int.natCast_mul];exact (natCast_add _ _).symm))) rfl ?_
     have hca:(Zb (gj++List.range' fi (Zh script*(oj-st)))).map AV.int=(Zb gj).map .int++(Zb (List.range' fi (Zh script*(oj-st)))).map .int:=by unfold Zb;rw[map_append,map_append]
     refine Zy (Zk ⟨_,?_,rfl,?_⟩)
     ·exact ⟨rfl,rfl,rfl,rfl,rfl,rfl,rfl,rfl,rfl,rfl,rfl,rfl,rfl,rfl,rfl,rfl,rfl,trivial⟩
     ·rw[hca,map_append,map_append,map_append,map_append,append_assoc,append_assoc];rfl
    ·skip
     refine Xv (ZS (Z0 (d₁:=.int (j:Nat)) (by walk_at "m ev") Z4 Vb rfl) (decide_eq_false (fun h=>hj6 (Int.ofNat_lt.mp h)))) (Zy ?_)
     have e6:j=6:=le_antisymm (le_of_lt_succ hj7) (le_of_not_lt hj6)
     rw[if_neg hj6,if_neg hj6,if_neg hj6,if_neg hj6,append_nil,append_nil,map_append,map_append,add_zero]
     subst e6
     refine Zk ⟨_,?_,rfl,rfl⟩
     exact ⟨rfl,rfl,rfl,rfl,rfl,rfl,rfl,rfl,rfl,rfl,rfl,rfl,rfl,rfl,rfl,rfl,rfl,trivial⟩
   ·rintro sig om' ⟨rfl,rfl⟩
    rfl
   refine Yx fok .here hG YK (ZH.set (k:=18) rfl) OmCast.refl ?_
   refine Yx fok .here hA YK (ZH.set (k:=17) rfl) OmCast.refl ?_
   refine Yx fok .here hB YK (ZH.set (k:=16) rfl) OmCast.refl ?_
   refine Yx fok .here hU YK (ZH.set (k:=15) rfl) OmCast.refl ?_
   obtain ⟨h64,zr⟩:=hst
   have zr:=zr notes v hno
   have lO:=Vh hro.le (fun g hg=>(hzs g hg).2) hsz3 7
   have lT:=Vh hrn'.le (fun g hg=>(hzs g hg).2) hsz3 7
   have c1:OpC prog w F om (.ref 251) [ilc o,ilc (Zi whole),.int (Zh script:Nat)] (il (ZB o (Zi whole) (Zh script) 7)):=Rf fok hk Y0 (xA.mono (by decide)) (QP hro.len hz7 hro.le (fun g hg=>(hzs g hg).2) hsz3).fn
   have c2:OpC prog w F om (.ref 251) [ilc n,ilc (Zi whole),.int (Zh script:Nat)] (il (ZB n (Zi whole) (Zh script) 7)):=Rf fok hk Y0 (xA.mono (by decide)) (QP hrn'.len hz7 hrn'.le (fun g hg=>(hzs g hg).2) hsz3).fn
   refine XX fok (k₁:=24) (k₂:=25) (d₁:=il (ZB o (Zi whole) (Zh script) 7)) (d₂:=il (ZB n (Zi whole) (Zh script) 7)) (by walk_at "m st") (by walk_at "m st") (Xl fok (Ze (Zv (by walk_at "m ev") ctxt (by walk_at "m evl") c1 rfl rfl) (Ze (Zv (by walk_at "m ev") ctxt (by walk_at "m evl") c2 rfl rfl) Zq rfl) rfl) TF) rfl ((swS xS _ _).trans (by kernel_rfl)) ?_
   have hll:=WG (o:=o) (sizes:=Zi whole) (size:=Zh script) hno 7
   have hdk:=Te (n:=n) (sizes:=Zi whole) (size:=Zh script) (v:=v) hno
   generalize ZB o (Zi whole) (Zh script) 7=O at h64 zr lO hll ⊢
   generalize ZB n (Zi whole) (Zh script) 7=T at h64 zr lT ⊢
   generalize Yc (Zi whole) (Zh script) notes 7=LB at zr hll ⊢
   generalize Wp o n (Zi whole) (Zh script) notes v 6=due at hdk zr ⊢
   generalize Yc (Zi whole) (Zh script) due 7=LA at zr ⊢
   generalize Zb (XI o n (Zi whole) (Zh script) 7)=GN at zr ⊢
   have ol6:O.length≤1000000:=Nat.le_trans lO (by decide)
   have tl6:T.length≤1000000:=Nat.le_trans lT (by decide)
   have rdfn:WJ prog w (SK w) 3 (.ref 261) [Vl (opsAB O T),il O,il T,il LB,.int v] (.tup [il LA,il GN]):=by
    obtain ⟨S,a1,a2,a3,a4,a5,a6,a7⟩:=zr
    rw[<-a6,<-a7]
    exact (Gy S a1 a2 a3 a4 (Nat.le_trans lO (by decide)) (Nat.le_trans lT (by decide)) hll a5).fn
   clear zr
   refine Zu xi (Ys (d₀:=ZL x dx) (f:=.ref 167) (P:=fun d om'=>MSL prog w true dx O T om') _ (by walk_at "m ev") (hm.gets0 hk (Jk w.params) (Jj w.params) FD) (Yr (hk 167 (RM w.params) (by kernel_rfl)) rfl)
    (Xo (ds:=[il O,il T]) (by walk_at "m evl") (Ep fok hk (xA.mono (by decide)) hm tl6 (.inr (lt_of_le_of_lt lT (by decide))) fun mo' h=>h)) rfl rfl) ?_ rfl
   rintro d om₁ hm₁
   refine PC (PE:=fun d om'=>d=.tup [il LA,il GN]∧MSL prog w true dx O T om') (VC (by walk_at "m ev") crd (Yo (P₁:=fun d om'=>d=Vl (opsAB O T)∧MSL prog w true dx O T om') (Ys (d₀:=ZL x dx) (f:=.ref 210) _ (by walk_at "m ev") (MSt.gets0 (.inr ⟨_,_,hm₁⟩) hk (Eo w.params) (En w.params) FC) (Yr (hk 210 (Nn w.params) (by kernel_rfl)) rfl)
     (XU (Er fok hk (xA.mono (by decide)) hm₁ ol6 tl6 h64 fun mo' h=>⟨rfl,h⟩)) rfl rfl) ?_ rfl) rfl rfl) ?_ rfl
   ·rintro d om₂ ⟨rfl,hm₂⟩
    exact Xo (ds:=[il O,il T,il LB,.int v]) (by walk_at "m evl") (LZ (Rf fok hk Y0 (xA.mono (by decide)) rdfn) ⟨rfl,hm₂⟩)
   rintro d₁ om₂ ⟨rfl,hm₂⟩
   have hne:Op2 prog w F om₂ (compareOp .NotEq) (.tup [il LA,il GN]) (.tup [il LA,il GN]) (.bool false):=by
    have:=RQ (prog:=prog) (w:=w) (om:=om₂) fok (n:=2) (Cmp.tup (CmpL.cons (Ro (a:=LA) (b:=LA)) (CmpL.cons (Ro (a:=GN) (b:=GN)) CmpL.nil)))
    simpa using this
   refine ⟨.tup [il LA,il GN],false,Xl fok (by walk_at "m evl") TF,hne,fun c=>(nomatch c),fun _=>Zy ?_⟩
   refine ZF (k:=10) (d:=.lst (due.map il)) fok (by walk_at "m st") (by walk_at "m ev") rfl ?_
   refine Zk ⟨JK script whole ss x dx row due,?_,due,n,hn,hdk,rfl,.inr ⟨_,_,hm₂⟩⟩
   exact ⟨rfl,rfl,rfl,rfl,rfl,rfl,rfl,rfl,trivial⟩
  rintro o ⟨notes,om',hm',rfl⟩
  refine Zk ⟨_,?_,rfl,hm'⟩
  exact ⟨rfl,rfl,rfl,rfl,rfl,rfl,trivial⟩
 rintro o ⟨sig,om,rfl⟩
 refine ZU (d:=.bool true) Nx rfl
end
section
section
variable {o sizes:List Nat} {size:Nat}
theorem X7:∀ n,(ZB o sizes size n).length=atP o sizes size n
 | 0=>rfl
 | n+1=>by
  rw[YG,length_append,length_append,WD,X7 n,TW,add_assoc]
  unfold UQ
  split
  ·rw[Ta,We,Nat.mul_comm]
  ·rfl
theorem JN {e:Nat} (h:e<size):(Vm size)[e]?=some ((e:Nat):Int):=by
 unfold Vm Zb
 rw[getElem?_map,List.getElem?_range h];rfl
theorem NY:∀ (a:Nat) {e:Nat},e<a*size->(rep (Vm size) a)[e]?=some ((e%size:Nat):Int)
 | 0,e,h=>by rw[Nat.zero_mul] at h;exact absurd h (not_lt_zero _)
 | a+1,e,h=>by
  have hr:rep (Vm size) (a+1)=Vm size++rep (Vm size) a:=by unfold rep;rw[List.replicate_succ,List.flatten_cons]
  rw[hr]
  by_cases q:e<size
  ·rw[getElem?_append_left (by rw[We];exact q),JN q,Nat.mod_eq_of_lt q]
  ·have q:=le_of_not_lt q
   rw[getElem?_append_right (by rw[We];exact q),We,NY a (by rw[succ_mul] at h;exact Nat.sub_lt_right_of_lt_add q h),Nat.mod_eq_sub_mod q]
theorem GA {t d:Nat} (h:d<sizes.getD t 0):(stz sizes t)[d]?=some (3+4*(t:Int)+(d:Nat)):=by
 unfold stz
 rw[getElem?_map,List.getElem?_range h];rfl
theorem SP {n i:Nat} {x:Int} (h:(ZB o sizes size n)[i]?=some x):(ZB o sizes size (n+1))[i]?=some x:=by
 rw[YG,getElem?_append_left (List.getElem?_eq_some_iff.mp h).1]
 exact h
theorem Xi {t d:Nat} (h:d<sizes.getD t 0):∀ {n:Nat},t<n->(ZB o sizes size n)[atP o sizes size t+d]?=some (3+4*(t:Int)+(d:Nat))
 | 0,q=>absurd q (not_lt_zero _)
 | n+1,q=>by
  by_cases e:t<n
  ·exact SP (Xi h e)
  ·have e:=le_antisymm (le_of_lt_succ q) (le_of_not_lt e)
   subst e
   rw[YG,getElem?_append_right (by rw[X7];exact Nat.le_add_right _ _),X7,add_sub_cancel_left,getElem?_append_left (by rw[WD];exact h)]
   exact GA h
theorem Xw {t e:Nat} (h6:t<6) (h:e<size*o.getD t 0):∀ {n:Nat},t<n->(ZB o sizes size n)[atP o sizes size t+sizes.getD t 0+e]?=some ((e%size:Nat):Int)
 | 0,q=>absurd q (not_lt_zero _)
 | n+1,q=>by
  by_cases k:t<n
  ·exact SP (Xw h6 h k)
  ·have k:=le_antisymm (le_of_lt_succ q) (le_of_not_lt k)
   subst k
   have hg:UQ o size t=rep (Vm size) (o.getD t 0):=by unfold UQ;rw[if_pos h6]
   rw[YG,getElem?_append_right (by rw[X7,add_assoc];exact Nat.le_add_right _ _),X7,add_assoc,add_sub_cancel_left,getElem?_append_right (by rw[WD];exact Nat.le_add_right _ _),WD,add_sub_cancel_left,hg]
   exact NY _ (by rw[Nat.mul_comm];exact h)
theorem WY {t:Nat} (h:t<6):atP o sizes size (t+1)=atP o sizes size t+sizes.getD t 0+size*o.getD t 0:=by
 rw[TW,if_pos h]
theorem X8 {i:Nat}:∀ {n:Nat},n≤7->i<atP o sizes size n->(∃ t d,t<n∧d<sizes.getD t 0∧i=atP o sizes size t+d)∨(∃ t e,t<n∧t<6∧e<size*o.getD t 0∧i=atP o sizes size t+sizes.getD t 0+e)
 | 0,_,h=>absurd h (not_lt_zero _)
 | n+1,hn,h=>by
  by_cases q:i<atP o sizes size n
  ·rcases X8 (le_of_succ_le hn) q with ⟨t,d,h1,h2,h3⟩ | ⟨t,e,h1,h2,h3,h4⟩
   ·exact .inl ⟨t,d,lt_succ_of_lt h1,h2,h3⟩
   ·exact .inr ⟨t,e,lt_succ_of_lt h1,h2,h3,h4⟩
  ·have q:=le_of_not_lt q
   by_cases q2:i<atP o sizes size n+sizes.getD n 0
   ·exact .inl ⟨n,i-atP o sizes size n,lt_succ_self n,Nat.sub_lt_left_of_lt_add q q2,(add_sub_of_le q).symm⟩
   ·have q2:=le_of_not_lt q2
    rw[TW] at h
    by_cases h6:n<6
    ·rw[if_pos h6] at h
     exact .inr ⟨n,i-(atP o sizes size n+sizes.getD n 0),lt_succ_self n,h6,Nat.sub_lt_left_of_lt_add q2 h,(add_sub_of_le q2).symm⟩
    ·rw[if_neg h6] at h
     exact absurd h (Nat.not_lt.mpr q2)
end
section
variable {o n sizes:List Nat} {size:Nat}
theorem Nc {own:Own}:Y5 o n size own 0=0:=by
 unfold Y5
 have:(stN o n).getD 0 0=0:=rfl
 rw[this,Nat.mul_zero]
 split<;>rfl
theorem Lr {own:Own}:Y5 o n size own ((Zg o n).length+1)=0:=by
 unfold Y5
 have:(stN o n).getD ((Zg o n).length+1) 0=0:=by
  unfold stN
  rw[getD_eq_getElem?_getD,getElem?_append_right (by rw[length_cons,length_map];exact le_refl _),length_cons,length_map,sub_self];rfl
 rw[this,Nat.mul_zero]
 split<;>rfl
theorem Iv.start (hs:sizes.length=7) (h1:∀ g∈sizes,1≤g):Iv o n sizes size (UO o n sizes size) ((Zg o n).length+1) 0 (Zg o n).length (fun _=>none) (List.range ((Zg o n).length+1)) :=
 ⟨by rw[length_range];exact le_refl _,rfl,List.pairwise_lt_range,fun own' u hu=>Uf hs h1 (List.mem_range.mp hu),fun u _ h=>List.mem_range.mpr (lt_succ_of_le h),Nc,Lr,fun s _ _=>rfl⟩
end
end
section
section
variable {o n sizes:List Nat} {size:Nat}
theorem GB {t t' d d':Nat} (h1:d<4) (h2:d'<4) (e:3+4*(t:Int)+(d:Nat)=3+4*(t':Int)+(d':Nat)):t=t'∧d=d':=by
 have e:4*t+d=4*t'+d':=by
  rw[Int.add_assoc,Int.add_assoc] at e
  exact Int.ofNat_inj.mp (Int.add_left_cancel e)
 have a:=congrArg (·%4) e
 have b:=congrArg (·/4) e
 simp only[Nat.mul_add_mod,Nat.mod_eq_of_lt h1,Nat.mod_eq_of_lt h2] at a
 exact ⟨by rw[a] at e;exact Nat.eq_of_mul_eq_mul_left (by decide) (Nat.add_right_cancel e),a⟩
theorem NZ {t d e size:Nat} (h:0<size) (h3:size≤3) (q:3+4*(t:Int)+(d:Nat)=((e%size:Nat):Int)):False:=by
 have:=Nat.mod_lt e h
 omega
theorem Ls (hs4:∀ t,sizes.getD t 0≤4) (h0:0<size) (h3:size≤3) {i j:Nat} {x:Int} (hi:(ZB o sizes size 7)[i]?=some x) (hj:(ZB n sizes size 7)[j]?=some x) :
  (∃ t d,t<7∧d<sizes.getD t 0∧i=atP o sizes size t+d∧j=atP n sizes size t+d) ∨
  (∃ t e t' e',t<6∧t'<6∧e<size*o.getD t 0∧e'<size*n.getD t' 0∧i=atP o sizes size t+sizes.getD t 0+e∧j=atP n sizes size t'+sizes.getD t' 0+e'):=by
 have li:=(List.getElem?_eq_some_iff.mp hi).1
 have lj:=(List.getElem?_eq_some_iff.mp hj).1
 rw[X7] at li lj
 rcases X8 (le_refl 7) li with ⟨t,d,a1,a2,a3⟩ | ⟨t,e,a1,a2,a3,a4⟩
 ·subst a3
  rw[Xi a2 a1] at hi
  rcases X8 (le_refl 7) lj with ⟨t',d',b1,b2,b3⟩ | ⟨t',e',b1,b2,b3,b4⟩
  ·subst b3
   rw[Xi b2 b1,<-hi] at hj
   obtain ⟨e1,e2⟩:=GB (lt_of_lt_of_le b2 (hs4 _)) (lt_of_lt_of_le a2 (hs4 _)) (Option.some.inj hj)
   subst e1 e2
   exact .inl ⟨t',d',a1,a2,rfl,rfl⟩
  ·subst b4
   rw[Xw b2 b3 b1,<-hi] at hj
   exact (NZ h0 h3 (Option.some.inj hj).symm).elim
 ·subst a4
  rw[Xw a2 a3 a1] at hi
  rcases X8 (le_refl 7) lj with ⟨t',d',b1,b2,b3⟩ | ⟨t',e',b1,b2,b3,b4⟩
  ·subst b3
   rw[Xi b2 b1,<-hi] at hj
   exact (NZ h0 h3 (Option.some.inj hj)).elim
  ·exact .inr ⟨t,e,t',e',a2,b2,a3,b3,rfl,b4⟩
end
end
section
section
variable {o n sizes:List Nat} {size:Nat}
noncomputable abbrev Y2 (o n:List Nat):Nat:=(Zg o n).length
noncomputable abbrev eA (o n:List Nat) (u:Nat):Nat:=(eN o n).getD u 0
noncomputable abbrev cA (o n:List Nat) (u:Nat):Nat:=eA o n (u+1)-1
theorem RH:eA o n (Y2 o n+1)=7:=by
 unfold eA eN Y2
 rw[getD_eq_getElem?_getD,getElem?_append_right (by rw[length_cons,length_map];exact le_refl _),length_cons,length_map,sub_self];rfl
theorem JO {s:Nat} (h:s<Y2 o n):∃ c,c∈Zg o n∧(Zg o n)[s]?=some c∧eA o n (s+1)=c+1:=by
 refine ⟨(Zg o n)[s],getElem_mem h,getElem?_eq_getElem h,?_⟩
 unfold eA eN
 rw[getD_eq_getElem?_getD,cons_append,List.getElem?_cons_succ,getElem?_append_left (by rw[length_map];exact h),getElem?_map,getElem?_eq_getElem h];rfl
theorem Xr {s:Nat} (h:s<Y2 o n):cA o n s<6∧o.getD (cA o n s) 0≠n.getD (cA o n s) 0∧eA o n (s+1)=cA o n s+1∧(stN o n).getD (s+1) 0=Yb o n (cA o n s):=by
 obtain ⟨c,h1,h2,h3⟩:=JO h
 have e:cA o n s=c:=by unfold cA;rw[h3,add_sub_cancel]
 rw[e]
 refine ⟨Ue h1,of_decide_eq_true (List.mem_filter.mp h1).2,h3,?_⟩
 unfold stN
 have hl:s<((Zg o n).map fun t=>min (o.getD t 0) (n.getD t 0)).length:=by rw[length_map];exact h
 rw[getD_eq_getElem?_getD,cons_append,List.getElem?_cons_succ,getElem?_append_left hl,getElem?_map,h2];rfl
theorem JP {u v:Nat} (h:u<v) (hv:v≤Y2 o n+1):eA o n u<eA o n v:=NU h (lt_succ_of_le hv)
theorem TY (u:Nat):eA o n u≤7:=GR u
theorem UI {u:Nat} (h:u≤Y2 o n):eA o n u≤cA o n u∧eA o n (u+1)=cA o n u+1:=by
 have:=JP (o:=o) (n:=n) (lt_succ_self u) (succ_le_succ h)
 exact ⟨Nat.le_sub_one_of_lt this,(sub_add_cancel (lt_of_le_of_lt (zero_le _) this)).symm⟩
theorem E5 {u t:Nat} (h:u≤Y2 o n) (h1:eA o n u≤t) (h2:t<cA o n u):t<6∧o.getD t 0=n.getD t 0:=by
 have h3:=(UI h).2
 have h7:=TY (o:=o) (n:=n) (u+1)
 rw[h3] at h7
 have h6:t<6:=lt_of_lt_of_le h2 (Nat.le_of_succ_le_succ h7)
 refine ⟨h6,?_⟩
 apply Decidable.byContradiction
 intro c
 have hm:t∈Zg o n:=List.mem_filter.mpr ⟨List.mem_range.mpr h6,decide_eq_true c⟩
 obtain ⟨s,hs,e⟩:=getElem_of_mem hm
 obtain ⟨c',_,e2,e3⟩:=JO (o:=o) (n:=n) (s:=s) hs
 rw[getElem?_eq_getElem hs,e] at e2
 cases e2
 rcases Nat.lt_trichotomy (s+1) u with q | q | q
 ·have:=JP (o:=o) (n:=n) q (le_succ_of_le h)
  rw[e3] at this
  exact lt_irrefl _ (lt_of_le_of_lt h1 (lt_of_succ_lt this))
 ·rw[q] at e3
  rw[e3] at h1
  exact lt_irrefl _ h1
 ·rcases Nat.lt_or_eq_of_le (Nat.succ_le_of_lt q) with q | q
  ·have:eA o n (u+1)<eA o n (s+1):=JP (o:=o) (n:=n) q (Nat.succ_le_of_lt (lt_succ_of_lt hs))
   rw[h3,e3] at this
   exact Nat.lt_asymm h2 (Nat.lt_of_succ_lt_succ this)
  ·have e3:eA o n (u+1)=t+1:=by rw[<-e3];exact congrArg (eA o n) q
   rw[h3] at e3
   exact ne_of_gt h2 (Nat.succ.inj e3)
theorem JQ {t:Nat}:∀ {v:Nat},v≤Y2 o n+1->t<eA o n v->∃ u,u<v∧eA o n u≤t∧t<eA o n (u+1)
 | 0,_,h=>absurd h (not_lt_zero _)
 | v+1,hv,h=>by
  by_cases q:t<eA o n v
  ·obtain ⟨u,a,b⟩:=JQ (le_of_succ_le hv) q
   exact ⟨u,lt_succ_of_lt a,b⟩
  ·exact ⟨v,lt_succ_self _,le_of_not_lt q,h⟩
noncomputable abbrev pN (s o n sizes:List Nat) (size u:Nat):Nat:=atP s sizes size (eA o n u)
theorem E6:∀ {l:List Nat} {a b:Nat},a≤b->b<l.length->((l.take (b+1)).drop a).sum=((l.take b).drop a).sum+l.getD b 0
 | l,a,b,h1,h2=>by
  have e:l.take (b+1)=l.take b++[l.getD b 0]:=by
   rw[List.take_add_one,getD_eq_getElem?_getD,getElem?_eq_getElem h2];rfl
  rw[e,List.drop_append_of_le_length (by rw[length_take,min_eq_left (le_of_lt h2)];exact h1),List.sum_append,List.sum_singleton]
theorem E7 {p a b c d:Nat}:p+(a+b)+c+d=p+(a+d+(b+c)):=by rw[add_assoc p,add_assoc p,add_assoc a,add_right_comm a]
theorem JR {a b s p q w:Nat} (h1:b+s=p+w) (h2:a+p=b+q):a+s=q+w:=by
 have e:a+s+p=q+w+p:=by rw[add_right_comm,h2,add_right_comm,h1,add_comm q,add_right_comm,add_right_comm,add_comm p,add_right_comm,add_comm w]
 exact Nat.add_right_cancel e
theorem A7 {a b s g p q:Nat} (h:a+p=b+q):a+s+g+p=b+s+g+q:=by
 rw[add_right_comm (a+s),add_right_comm a,h,add_right_comm b,add_right_comm (b+s)]
theorem seg (ho:o.length=6) (hs:sizes.length=7):∀ (k a:Nat),a+k≤6->atP o sizes size (a+k)+sizes.getD (a+k) 0=atP o sizes size a+(((sizes.take (a+k+1)).drop a).sum+size*((o.take (a+k)).drop a).sum)
 | 0,a,h=>by
  rw[add_zero,E6 (le_refl a) (by rw[hs];exact lt_succ_of_le h),List.drop_of_length_le (by rw[length_take];exact min_le_left _ _),List.drop_of_length_le (by rw[length_take];exact min_le_left _ _),List.sum_nil,zero_add,Nat.mul_zero,add_zero]
 | k+1,a,h=>by
  have h6:a+k<6:=h
  have ih:=seg ho hs k a (le_of_lt h6)
  rw[<-add_assoc a k 1,WY h6,ih,E6 (l:=o) (Nat.le_add_right a k) (by rw[ho];exact h6),E6 (l:=sizes) (b:=a+k+1) (le_succ_of_le (Nat.le_add_right a k)) (by rw[hs];exact succ_lt_succ h6),Nat.mul_add]
  exact E7
noncomputable def Pb (s o n sizes:List Nat) (size:Nat):Prop:=∀ u,u≤Y2 o n->atP s sizes size (cA o n u)+sizes.getD (cA o n u) 0=pN s o n sizes size u+baseW o n sizes size u
theorem Uh (ho:o.length=6) (hs:sizes.length=7):Pb o o n sizes size:=fun u hu=>by
 obtain ⟨h1,h2⟩:=UI hu
 obtain ⟨k,hk⟩:=exists_eq_add_of_le h1
 have h7:=TY (o:=o) (n:=n) (u+1)
 rw[h2] at h7
 have:=seg (size:=size) ho hs k (eA o n u) (by rw[<-hk];exact Nat.le_of_succ_le_succ h7)
 rw[<-hk,<-h2] at this
 exact this
theorem Pc {u:Nat} (hu:u≤Y2 o n):∀ {t:Nat},eA o n u≤t->t≤cA o n u->atP n sizes size t+pN o o n sizes size u=atP o sizes size t+pN n o n sizes size u
 | 0,h1,_=>by
  have e:eA o n u=0:=Nat.le_zero.mp h1
  unfold pN
  rw[e,add_comm]
 | t+1,h1,h2=>by
  by_cases q:eA o n u≤t
  ·obtain ⟨h6,e⟩:=E5 hu q h2
   have ih:=Pc hu q (le_of_succ_le h2)
   rw[WY h6,WY h6,e]
   exact A7 ih
  ·have e:eA o n u=t+1:=le_antisymm h1 (lt_of_not_le q)
   unfold pN
   rw[e,add_comm]
theorem Pd (ho:o.length=6) (hs:sizes.length=7):Pb n o n sizes size:=fun u hu=>by
 have h1:=Uh (size:=size) (n:=n) ho hs u hu
 have h2:=Pc (sizes:=sizes) (size:=size) hu (UI hu).1 (le_refl _)
 exact JR h1 h2
theorem Ma {s:List Nat}:∀ {t v:Nat},t≤v->atP s sizes size t≤atP s sizes size v
 | t,0,h=>by rw[Nat.le_zero.mp h];exact le_refl _
 | t,v+1,h=>by
  by_cases q:t≤v
  ·refine Nat.le_trans (Ma q) ?_
   rw[TW]
   exact Nat.le_trans (Nat.le_add_right _ _) (Nat.le_add_right _ _)
  ·rw[le_antisymm h (lt_of_not_le q)];exact le_refl _
theorem Mb {s:List Nat} {t v:Nat} (h:t<v):atP s sizes size t+sizes.getD t 0≤atP s sizes size v:=by
 refine Nat.le_trans ?_ (Ma h)
 rw[TW]
 exact Nat.le_add_right _ _
theorem E8 {s:List Nat} {t v:Nat} (h6:t<6) (h:t<v):atP s sizes size t+sizes.getD t 0+size*s.getD t 0≤atP s sizes size v:=by
 refine Nat.le_trans ?_ (Ma h)
 rw[WY h6]
 exact le_refl _
theorem JS {s:List Nat} {t v:Nat} (h:t≤v):atP s sizes size t+sizes.getD t 0≤atP s sizes size v+sizes.getD v 0:=by
 by_cases q:t<v
 ·exact Nat.le_trans (Mb q) (Nat.le_add_right _ _)
 ·rw[le_antisymm h (le_of_not_lt q)];exact le_refl _
theorem SQ (ho:o.length=6) (hs:sizes.length=7) {u d:Nat} (hu:u≤Y2 o n) (hd:d<baseW o n sizes size u) :
  (∃ t d',t<7∧d'<sizes.getD t 0∧pN o o n sizes size u+d=atP o sizes size t+d'∧pN n o n sizes size u+d=atP n sizes size t+d') ∨
  (∃ t e,t<6∧e<size*o.getD t 0∧o.getD t 0=n.getD t 0∧pN o o n sizes size u+d=atP o sizes size t+sizes.getD t 0+e∧pN n o n sizes size u+d=atP n sizes size t+sizes.getD t 0+e):=by
 have hl:=Uh (size:=size) (n:=n) ho hs u hu
 obtain ⟨c1,c2⟩:=UI hu
 have c7:=TY (o:=o) (n:=n) (u+1)
 rw[c2] at c7
 have hdw:=Nat.lt_of_lt_of_eq (add_lt_add_left hd (pN o o n sizes size u)) hl.symm
 rcases X8 (le_refl 7) (lt_of_lt_of_le hdw (Mb (Nat.lt_of_succ_le c7))) with ⟨t,d',a1,a2,a3⟩ | ⟨t,e,a1,a2,a3,a4⟩
 ·have b1:eA o n u≤t:=by
   apply le_of_not_lt;intro q
   exact lt_irrefl _ (lt_of_lt_of_le (add_lt_add_left a2 _) (Nat.le_trans (Mb q) (Nat.le_trans (Nat.le_add_right _ d) (le_of_eq a3))))
  have b2:t≤cA o n u:=by
   apply le_of_not_lt;intro q
   exact lt_irrefl _ (lt_of_lt_of_le hdw (Nat.le_trans (Mb q) (Nat.le_trans (Nat.le_add_right _ d') (le_of_eq a3.symm))))
  exact .inl ⟨t,d',a1,a2,a3,(JR a3.symm (Pc hu b1 b2)).symm⟩
 ·have b1:eA o n u≤t:=by
   apply le_of_not_lt;intro q
   exact lt_irrefl _ (lt_of_lt_of_le (add_lt_add_left a3 _) (Nat.le_trans (E8 a2 q) (Nat.le_trans (Nat.le_add_right _ d) (le_of_eq a4))))
  have b2:t<cA o n u:=by
   apply lt_of_not_le;intro q
   exact lt_irrefl _ (lt_of_lt_of_le hdw (Nat.le_trans (JS q) (Nat.le_trans (Nat.le_add_right _ e) (le_of_eq a4.symm))))
  refine .inr ⟨t,e,a2,a3,(E5 hu b1 b2).2,a4,?_⟩
  rw[add_assoc] at a4 ⊢
  exact (JR a4.symm (Pc hu b1 (le_of_lt b2))).symm
end
end
section
section
variable {o n s sizes:List Nat} {size:Nat}
noncomputable abbrev wN (o n sizes:List Nat) (size:Nat):Nat->Nat:=baseW o n sizes size
noncomputable abbrev xN (s o n:List Nat) (size u:Nat):Nat:=size*s.getD (eA o n u-1) 0
noncomputable abbrev sN (o n:List Nat) (size u:Nat):Nat:=size*(stN o n).getD u 0
theorem JT (hs:sizes.length=7) (h1:∀ g∈sizes,1≤g∧g≤4) {u:Nat} (hu:u≤Y2 o n):0<wN o n sizes size u:=by
 have:=Uf (o:=o) (n:=n) (size:=size) (own:=fun _=>some 0) hs (fun g hg=>(h1 g hg).1) (lt_succ_of_le hu)
 exact this
theorem Pe (hs:sizes.length=7) (h1:∀ g∈sizes,1≤g∧g≤4) {t:Nat} (ht:t<7):0<sizes.getD t 0:=by
 have hl:t<sizes.length:=by rw[hs];exact ht
 rw[getD_eq_getElem?_getD,getElem?_eq_getElem hl]
 exact (h1 _ (getElem_mem hl)).1
theorem RI (hl:Pb s o n sizes size) {u:Nat} (hu:u<Y2 o n):pN s o n sizes size (u+1)=pN s o n sizes size u+wN o n sizes size u+xN s o n size (u+1):=by
 obtain ⟨h6,_,h3,_⟩:=Xr hu
 have e:pN s o n sizes size (u+1)=atP s sizes size (cA o n u+1):=congrArg (atP s sizes size) h3
 rw[e,WY h6,hl u (le_of_lt hu)]
theorem JU (hl:Pb s o n sizes size):(ZB s sizes size 7).length=pN s o n sizes size (Y2 o n)+wN o n sizes size (Y2 o n):=by
 have h:=hl (Y2 o n) (le_refl _)
 have e:cA o n (Y2 o n)=6:=congrArg (·-1) RH
 rw[e] at h
 rw[X7,<-h];rfl
theorem JV:(stN o n).getD (Y2 o n+1) 0=0:=by
 unfold stN
 rw[getD_eq_getElem?_getD,getElem?_append_right (by rw[length_cons,length_map];exact le_refl _),length_cons,length_map,sub_self];rfl
theorem JW {u:Nat} (hu:u<Y2 o n):sN o n size (u+1)≤xN o o n size (u+1):=by
 unfold sN
 rw[(Xr hu).2.2.2]
 exact mul_le_mul_left size (min_le_left _ _)
theorem JX {u:Nat} (hu:u<Y2 o n):sN o n size (u+1)≤xN n o n size (u+1):=by
 unfold sN
 rw[(Xr hu).2.2.2]
 exact mul_le_mul_left size (Nat.min_le_right _ _)
theorem lt7 {u:Nat} (hu:u≤Y2 o n):cA o n u<7∧eA o n u<7:=by
 obtain ⟨a,b⟩:=UI hu
 have c:=TY (o:=o) (n:=n) (u+1)
 rw[b] at c
 exact ⟨c,lt_of_le_of_lt a c⟩
theorem Mc (hs:sizes.length=7) (h1:∀ g∈sizes,1≤g∧g≤4) {u:Nat} (hu:u≤Y2 o n):∃ v,(ZB s sizes size 7)[pN s o n sizes size u]?=some v∧3≤v:=by
 have h7:=(lt7 hu).2
 have:=Xi (o:=s) (size:=size) (Pe hs h1 h7) h7
 exact ⟨_,this,by omega⟩
theorem Md (hl:Pb s o n sizes size) (hs:sizes.length=7) (h1:∀ g∈sizes,1≤g∧g≤4) {u:Nat} (hu:u≤Y2 o n):∃ v,(ZB s sizes size 7)[pN s o n sizes size u+(wN o n sizes size u-1)]?=some v∧3≤v:=by
 have h7:=(lt7 hu).1
 have hp:=Pe hs h1 h7
 have e:pN s o n sizes size u+(wN o n sizes size u-1)=atP s sizes size (cA o n u)+(sizes.getD (cA o n u) 0-1):=by
  rw[<-Nat.add_sub_assoc hp,hl u hu,Nat.add_sub_assoc (JT hs h1 hu)]
 rw[e]
 have:=Xi (o:=s) (size:=size) (sub_lt hp one_pos) h7
 exact ⟨_,this,by omega⟩
theorem TZ (hl:Pb s o n sizes size) {u e:Nat} (hu:u<Y2 o n) (he:e<xN s o n size (u+1)):(ZB s sizes size 7)[pN s o n sizes size u+wN o n sizes size u+e]?=some ((e%size:Nat):Int):=by
 have h6:=(Xr hu).1
 rw[<-hl u (le_of_lt hu)]
 exact Xw h6 he (lt_succ_of_lt h6)
theorem Pf (hl:Pb s o n sizes size) {u e st:Nat} (hu:u<Y2 o n) (hst:st≤s.getD (cA o n u) 0) (he:e<size*st):(ZB s sizes size 7)[pN s o n sizes size (u+1)-size*st+e]?=some ((e%size:Nat):Int):=by
 have hx:size*st≤xN s o n size (u+1):=mul_le_mul_left size hst
 have e1:pN s o n sizes size (u+1)-size*st+e=pN s o n sizes size u+wN o n sizes size u+(size*(s.getD (cA o n u) 0-st)+e):=by
  rw[RI hl hu,Nat.mul_sub,Nat.add_sub_assoc hx,add_assoc]
 rw[e1,TZ hl hu,Nat.mul_add_mod]
 exact lt_of_lt_of_le (add_lt_add_left he _) (le_of_eq (by rw[<-Nat.mul_add,sub_add_cancel hst]))
theorem E9 {e size:Nat} (h0:0<size) (h3:size≤3):((e%size:Nat):Int)<3:=by
 have:=Nat.mod_lt e h0
 omega
theorem GC (ho:o.length=6) (hs:sizes.length=7) (h1:∀ g∈sizes,1≤g∧g≤4) (h0:0<size) (h3:size≤3) :
  Fm (ZB o sizes size 7) (ZB n sizes size 7) (Y2 o n) (pN o o n sizes size) (pN n o n sizes size) (wN o n sizes size) (xN o o n size) (xN n o n size) (sN o n size):=by
 have lo:=Uh (n:=n) (size:=size) ho hs
 have ln:=Pd (n:=n) (size:=size) ho hs
 refine ⟨fun u hu=>RI lo hu,fun u hu=>RI ln hu,fun u hu=>JW hu,fun u hu=>JX hu,fun u hu=>JT hs h1 hu,rfl,rfl,rfl,?_,JU lo,JU ln,fun u d hu hd=>?_,fun u e hu he=>?_,fun u e hu he=>?_,fun i j v hi hj hv=>?_,
  fun u hu=>Mc hs h1 hu,fun u hu=>Mc hs h1 hu,fun u hu=>Md lo hs h1 hu,fun u hu=>Md ln hs h1 hu,fun u e hu he=>⟨_,TZ lo hu he,E9 h0 h3⟩,fun u e hu he=>⟨_,TZ ln hu he,E9 h0 h3⟩⟩
 ·show size*(stN o n).getD (Y2 o n+1) 0=0
  rw[JV,Nat.mul_zero]
 ·rcases SQ ho hs hu hd with ⟨t,d',a1,a2,a3,a4⟩ | ⟨t,e,a1,a2,a3,a4,a5⟩
  ·rw[a3,a4]
   exact ⟨_,Xi a2 a1,Xi a2 a1⟩
  ·rw[a4,a5]
   exact ⟨_,Xw a1 a2 (lt_succ_of_lt a1),Xw a1 (a3▸a2) (lt_succ_of_lt a1)⟩
 ·exact ⟨_,TZ lo hu (lt_of_lt_of_le he (JW hu)),TZ ln hu (lt_of_lt_of_le he (JX hu))⟩
 ·unfold sN at he ⊢
  have e:=(Xr hu).2.2.2
  rw[e] at he ⊢
  exact ⟨_,Pf lo hu (min_le_left _ _) he,Pf ln hu (Nat.min_le_right _ _) he⟩
 ·rcases Ls (fun t=>ZQ (fun g hg=>(h1 g hg).2) t) h0 h3 hi hj with ⟨t,d,a1,a2,a3,a4⟩ | ⟨t,e,t',e',a1,a2,a3,a4,a5,a6⟩
  ·obtain ⟨u,b1,b2,b3⟩:=JQ (o:=o) (n:=n) (le_refl _) (by rw[RH];exact a1)
   have hu:=le_of_lt_succ b1
   have c2:=(UI hu).2
   have c3:t≤cA o n u:=le_of_lt_succ (Nat.lt_of_lt_of_eq b3 c2)
   have e1:=Pc (sizes:=sizes) (size:=size) hu b2 c3
   have e2:=JS (s:=o) (sizes:=sizes) (size:=size) c3
   obtain ⟨r,hr⟩:=exists_eq_add_of_le (Ma (s:=o) (sizes:=sizes) (size:=size) b2)
   rw[lo u hu] at e2
   rw[hr,add_assoc] at a3
   refine ⟨u,r+d,hu,Nat.lt_of_add_lt_add_left (n:=pN o o n sizes size u) (lt_of_lt_of_le ?_ e2),a3,?_⟩
   ·rw[hr,<-add_assoc]
    exact add_lt_add_left a2 _
   ·rw[a4,<-add_assoc]
    refine congrArg (·+d) (Nat.add_right_cancel (m:=pN o o n sizes size u) ?_)
    rw[e1,hr,add_comm,add_assoc,add_comm (pN o o n sizes size u)]
  ·rw[a5,Xw a1 a3 (lt_succ_of_lt a1)] at hi
   cases hi
   exact absurd hv (Int.not_le.mpr (E9 h0 h3))
theorem Lu (h0:0<size) (h:∀ t,o.getD t 0≤n.getD t 0):UP (Y2 o n) (xN o o n size) (xN n o n size) (sN o n size):=fun u hu=>by
 obtain ⟨_,c2,_,c4⟩:=Xr hu
 have hc:=h (cA o n u)
 unfold sN
 rw[c4]
 exact ⟨congrArg (size*·) (min_eq_left hc),Nat.mul_lt_mul_of_pos_left (lt_of_le_of_ne hc c2) h0⟩
theorem Lv (h0:0<size) (h:∀ t,n.getD t 0≤o.getD t 0):UP (Y2 o n) (xN n o n size) (xN o o n size) (sN o n size):=fun u hu=>by
 obtain ⟨_,c2,_,c4⟩:=Xr hu
 have hc:=h (cA o n u)
 unfold sN
 rw[c4]
 exact ⟨congrArg (size*·) (Nat.min_eq_right hc),Nat.mul_lt_mul_of_pos_left (lt_of_le_of_ne hc c2.symm) h0⟩
noncomputable abbrev glN (o n sizes:List Nat) (size:Nat) (u:Nat):Bool:=decide (UO o n sizes size (u:Nat)=some u)
noncomputable abbrev grN (o n sizes:List Nat) (size:Nat) (u:Nat):Bool:=decide (UO o n sizes size ((u+1:Nat):Int)=some u)
noncomputable def IvP (o n sizes:List Nat) (size lo hi:Nat):Prop:=∃ k own left,Iv o n sizes size (UO o n sizes size) k lo hi own left
theorem Lw {lo hi:Nat} (hlh:lo≤hi) (p:IvP o n sizes size lo hi):∃ b,Pick (wN o n sizes size) (sN o n size) (glN o n sizes size) (grN o n sizes size) (IvP o n sizes size) lo hi b:=by
 obtain ⟨k,own,left,iv⟩:=p
 obtain ⟨b,h1,h2,h3,h4,h5,h6,h7,h8⟩:=iv.pick hlh
 refine ⟨b,h1,h2,h3,h4,fun c=>⟨decide_eq_true (h5 c),decide_eq_false fun e=>?_,h7 c⟩,fun c=>⟨decide_eq_true (h6 c),decide_eq_false fun e=>?_,h8 c⟩⟩
 ·rw[sub_add_cancel (lt_of_le_of_lt (zero_le _) c),h5 c] at e
  have:=Option.some.inj e
  omega
 ·rw[h6 c] at e
  exact absurd (Option.some.inj e) (ne_of_lt (lt_succ_self b))
noncomputable def JY (own:Own):Prop:=∀ s x:Nat,own (s:Nat)=some x->x=s∨x+1=s
theorem SR {own:Own} {s b x:Nat} {k:Int} (h:claim own s b k=some x):own k=some x∨(k=(s:Int)∧x=b):=by
 unfold claim at h
 split at h
 ·by_cases q:k=(s:Int)
  ·have h:(if k=(s:Int) then some b else own k)=some x:=h
   rw[if_pos q] at h
   exact .inr ⟨q,(Option.some.inj h).symm⟩
  ·have h:(if k=(s:Int) then some b else own k)=some x:=h
   rw[if_neg q] at h
   exact .inl h
 ·exact .inl h
theorem Lx {own:Own} {b:Nat} (h:JY own):JY (XJ own b):=fun s x e=>by
 rcases SR e with e | ⟨e1,e2⟩
 ·rcases SR e with e | ⟨e1,e2⟩
  ·exact h s x e
  ·exact .inl (e2.trans (Int.ofNat_inj.mp e1).symm)
 ·exact .inr ((congrArg (·+1) e2).trans (Int.ofNat_inj.mp e1).symm)
theorem Me:∀ (k:Nat) {own:Own} {left:List Nat},JY own->JY (Wb o n sizes size k own left)
 | 0,_,_,h=>h
 | k+1,own,left,h=>by
  unfold Wb
  split
  ·exact h
  ·exact Me k (Lx h)
theorem Pg (hs:sizes.length=7) (h1:∀ g∈sizes,1≤g∧g≤4):Tb (Y2 o n) (glN o n sizes size) (grN o n sizes size):=fun u hu=>by
 have hx:=Vi (o:=o) (n:=n) (size:=size) (s:=u+1) hs (fun g hg=>(h1 g hg).1) (succ_lt_succ (lt_succ_of_lt hu))
 obtain ⟨x,e⟩:=Option.isSome_iff_exists.mp hx
 have nr:JY (UO o n sizes size):=Me _ fun s x e=>by cases e
 rcases nr (u+1) x e with q | q
 ·rw[q] at e
  exact .inr ⟨decide_eq_false fun c=>absurd (Option.some.inj (e.symm.trans c)) (Nat.succ_ne_self u),decide_eq_true e⟩
 ·rw[Nat.succ.inj q] at e
  exact .inl ⟨decide_eq_true e,decide_eq_false fun c=>absurd (Option.some.inj (e.symm.trans c)) (ne_of_lt (lt_succ_self u))⟩
end
end
section
section
variable {o n sizes:List Nat} {size:Nat} {notes:List (List Int)} {v:Int}
theorem Ph (h0:0<size):∀ (l:List Int) (e:Nat),(l.flatMap fun who=>List.replicate size who)[e]?=l[e/size]?
 | [],e=>rfl
 | a::l,e=>by
  rw[List.flatMap_cons]
  by_cases q:e<size
  ·rw[getElem?_append_left (by rw[length_replicate];exact q),List.getElem?_replicate,if_pos q,Nat.div_eq_of_lt q];rfl
  ·have q:=le_of_not_lt q
   obtain ⟨d,rfl⟩:=exists_eq_add_of_le q
   rw[getElem?_append_right (by rw[length_replicate];exact q),length_replicate,add_sub_cancel_left,Ph h0 l d,Nat.add_div_left d h0,List.getElem?_cons_succ]
theorem SS {k i:Nat} {x:Int} (h:(Yc sizes size notes k)[i]?=some x):(Yc sizes size notes (k+1))[i]?=some x:=by
 rw[YI,getElem?_append_left (List.getElem?_eq_some_iff.mp h).1]
 exact h
theorem Ui (hn:NotesOk o notes) (k:Nat):(Yc sizes size notes k).length=atP o sizes size k:=(WG hn k).trans (X7 k)
theorem U1 (hn:NotesOk o notes) {t d:Nat} (h:d<sizes.getD t 0):∀ {k:Nat},t<k->(Yc sizes size notes k)[atP o sizes size t+d]?=some 0
 | 0,q=>absurd q (not_lt_zero _)
 | k+1,q=>by
  by_cases e:t<k
  ·exact SS (U1 hn h e)
  ·have e:=le_antisymm (le_of_lt_succ q) (le_of_not_lt e)
   subst e
   rw[YI,getElem?_append_right (by rw[Ui hn];exact Nat.le_add_right _ _),Ui hn,add_sub_cancel_left]
   unfold UG
   rw[getElem?_append_left (by rw[length_replicate];exact h),List.getElem?_replicate,if_pos h]
theorem YM (hn:NotesOk o notes) (h0:0<size) {t e:Nat} (h6:t<6) (h:e<size*o.getD t 0):∀ {k:Nat},t<k->(Yc sizes size notes k)[atP o sizes size t+sizes.getD t 0+e]?=(notes.getD t [])[e/size]?
 | 0,q=>absurd q (not_lt_zero _)
 | k+1,q=>by
  have hl:e/size<(notes.getD t []).length:=by rw[hn.each t h6];exact Nat.div_lt_of_lt_mul h
  by_cases c:t<k
  ·have ih:=YM hn h0 h6 h c
   rw[getElem?_eq_getElem hl] at ih ⊢
   exact SS ih
  ·have c:=le_antisymm (le_of_lt_succ q) (le_of_not_lt c)
   subst c
   rw[YI,getElem?_append_right (by rw[Ui hn,add_assoc];exact Nat.le_add_right _ _),Ui hn,add_assoc,add_sub_cancel_left]
   unfold UG
   rw[getElem?_append_right (by rw[length_replicate];exact Nat.le_add_right _ _),length_replicate,add_sub_cancel_left,if_pos h6]
   exact Ph h0 _ _
theorem JZ (hn:NotesOk o notes) {t:Nat} (h6:t<6) (e:o.getD t 0=n.getD t 0):Wo o n sizes size notes v t=notes.getD t []:=by
 have e1:Yb o n t=o.getD t 0:=by unfold Yb;rw[<-e,Nat.min_self]
 unfold Wo
 rw[e1,<-e,sub_self]
 split
 ·rw[List.take_of_length_le (le_of_eq (hn.each t h6)),List.replicate_zero,append_nil]
 ·rw[List.replicate_zero,List.drop_zero,nil_append]
theorem Ly {t:Nat} (e:o.getD t 0=n.getD t 0):UH o n sizes size t=[]:=by
 have e1:Yb o n t=o.getD t 0:=by unfold Yb;rw[<-e,Nat.min_self]
 unfold UH
 rw[e1,sub_self,Nat.mul_zero,List.range'_zero,ite_self]
theorem Sa {u:Nat} (hu:u≤Y2 o n):∀ {t:Nat},eA o n u≤t->t≤cA o n u->XI o n sizes size t=XI o n sizes size (eA o n u)
 | 0,h1,_=>by rw[Nat.le_zero.mp h1]
 | t+1,h1,h2=>by
  by_cases q:eA o n u≤t
  ·rw[Wh,Sa hu q (le_of_succ_le h2),Ly (E5 hu q h2).2,append_nil]
  ·rw[le_antisymm h1 (lt_of_not_le q)]
theorem RJ (hs:sizes.length=7) (h1:∀ g∈sizes,1≤g∧g≤4) {u:Nat} (hu:u<Y2 o n):byL o n sizes size (cA o n u)=grN o n sizes size u:=by
 have hc:=(Xr hu).2.2.1
 have hk:kfO o n ((u+1:Nat):Int)=(cA o n u:Nat):=by
  unfold kfO
  rw[toNat_natCast,show (eN o n).getD (u+1) 0=cA o n u+1 from hc]
  omega
 have hm:((u+1:Nat):Int)∈Yv o n:=List.mem_map.mpr ⟨u+1,List.mem_range.mpr (succ_lt_succ (lt_succ_of_lt hu)),rfl⟩
 unfold byL
 cases e:(Yv o n).find? fun k=>kfO o n k==((cA o n u:Nat):Int) with
 | none =>
  have:=List.find?_eq_none.mp e _ hm
  rw[hk,beq_self_eq_true] at this
  exact absurd rfl this
 | some k =>
  obtain ⟨s,rfl,hs2⟩:=W0 (List.mem_of_find?_eq_some e)
  have hf:=@List.find?_some _ (fun k=>kfO o n k==((cA o n u:Nat):Int)) _ _ e
  have hf:kfO o n ((s:Nat):Int)=(cA o n u:Nat):=eq_of_beq hf
  have:=NW hs2 (succ_lt_succ (lt_succ_of_lt hu)) (hf.trans hk.symm)
  subst this
  show vfO o n sizes size ((u+1:Nat):Int)=_
  obtain ⟨x,ex⟩:=Option.isSome_iff_exists.mp (Vi (o:=o) (n:=n) (size:=size) (s:=u+1) hs (fun g hg=>(h1 g hg).1) (succ_lt_succ (lt_succ_of_lt hu)))
  unfold vfO grN
  rw[ex,Option.getD_some,show ((u+1:Nat):Int)-1=(u:Nat) by omega]
  by_cases q:x=u
  ·rw[q,beq_self_eq_true,decide_eq_true rfl]
  ·rw[decide_eq_false fun c=>q (Option.some.inj c),beq_eq_false_iff_ne.mpr (R2 q)]
theorem Ha {t e:Nat} (hn:NotesOk o notes) (h6:t<6) (h:byL o n sizes size t=true) (he:e<Yb o n t):(Wo o n sizes size notes v t)[e]?=(notes.getD t [])[e]?:=by
 unfold Wo
 rw[if_pos h,getElem?_append_left (by rw[length_take,hn.each t h6,min_eq_left X1.1];exact he),List.getElem?_take,if_pos he]
theorem Hb {t e:Nat} (hn:NotesOk o notes) (h6:t<6) (h:byL o n sizes size t=true) (he:Yb o n t+e<n.getD t 0):(Wo o n sizes size notes v t)[Yb o n t+e]?=some v:=by
 unfold Wo
 have hl:((notes.getD t []).take (Yb o n t)).length=Yb o n t:=by rw[length_take,hn.each t h6,min_eq_left X1.1]
 rw[if_pos h,getElem?_append_right (by rw[hl];exact Nat.le_add_right _ _),hl,add_sub_cancel_left,List.getElem?_replicate,if_pos (Nat.lt_sub_of_add_lt (by rw[add_comm];exact he))]
theorem Lz {t e:Nat} (h:byL o n sizes size t=false) (he:e<n.getD t 0-Yb o n t):(Wo o n sizes size notes v t)[e]?=some v:=by
 unfold Wo
 rw[if_neg (by rw[h];exact Bool.false_ne_true),getElem?_append_left (by rw[length_replicate];exact he),List.getElem?_replicate,if_pos he]
theorem L3 {t e:Nat} (h:byL o n sizes size t=false):(Wo o n sizes size notes v t)[n.getD t 0-Yb o n t+e]?=(notes.getD t [])[o.getD t 0-Yb o n t+e]?:=by
 unfold Wo
 rw[if_neg (by rw[h];exact Bool.false_ne_true),getElem?_append_right (by rw[length_replicate];exact Nat.le_add_right _ _),length_replicate,add_sub_cancel_left,List.getElem?_drop]
theorem Pi {s:List Nat} {u st:Nat} (hl:Pb s o n sizes size) (hu:u<Y2 o n) (hst:st≤s.getD (cA o n u) 0) (e:Nat):pN s o n sizes size (u+1)-size*st+e=atP s sizes size (cA o n u)+sizes.getD (cA o n u) 0+(size*(s.getD (cA o n u) 0-st)+e):=by
 have hx:size*st≤xN s o n size (u+1):=mul_le_mul_left size hst
 rw[RI hl hu,hl u (le_of_lt hu),Nat.mul_sub,Nat.add_sub_assoc hx,add_assoc]
theorem Mf {a st e:Nat} (hst:st≤a) (he:e<size*st):size*(a-st)+e<size*a:=lt_of_lt_of_le (add_lt_add_left he _) (le_of_eq (by rw[<-Nat.mul_add,sub_add_cancel hst]))
theorem Uj {a e:Nat} (h0:0<size):(size*a+e)/size=a+e/size:=Nat.mul_add_div h0 a e
theorem GD (ho:o.length=6) (hs:sizes.length=7) (h4:∀ g∈o,g≤4) (h4n:∀ g∈n,g≤4) (h1:∀ g∈sizes,1≤g∧g≤4) (h0:0<size) (h3:size≤3) (hn:NotesOk o notes) :
  Nt (Yc sizes size notes 7) (Yc sizes size (Wp o n sizes size notes v 6) 7) v (Y2 o n) (pN o o n sizes size) (pN n o n sizes size) (wN o n sizes size) (xN o o n size) (xN n o n size) (sN o n size) (glN o n sizes size) (grN o n sizes size) (fun u=>Zb (XI o n sizes size (eA o n u))):=by
 have lo:=Uh (n:=n) (size:=size) ho hs
 have ln:=Pd (n:=n) (size:=size) ho hs
 have hd:NotesOk n (Wp o n sizes size notes v 6):=Te hn
 have one:=Pg (o:=o) (n:=n) (size:=size) hs h1
 have st1:∀ u,u<Y2 o n->sN o n size (u+1)=size*Yb o n (cA o n u):=fun u hu=>congrArg (size*·) (Xr hu).2.2.2
 have bR:∀ u,u<Y2 o n->grN o n sizes size u=true->byL o n sizes size (cA o n u)=true:=fun u hu q=>(RJ hs h1 hu).trans q
 have bL:∀ u,u<Y2 o n->glN o n sizes size (u+1)=true->byL o n sizes size (cA o n u)=false:=fun u hu q=>by
  rw[RJ hs h1 hu]
  rcases one u hu with ⟨_,q2⟩ | ⟨q1,_⟩
  ·rw[q] at q2;cases q2
  ·exact q1
 refine ⟨fun u d hu hd'=>?_,fun u e hu q he=>?_,fun u e hu q he=>?_,fun u e hu q he=>?_,fun u e hu q he=>?_,fun u hu=>?_,rfl,?_,fun u hu=>?_⟩
 ·rcases SQ ho hs hu hd' with ⟨t,d',a1,a2,a3,a4⟩ | ⟨t,e,a1,a2,a3,a4,a5⟩
  ·rw[a3,a4,U1 hn a2 a1,U1 hd a2 a1]
  ·rw[a4,a5,YM hn h0 a1 a2 (lt_succ_of_lt a1),YM hd h0 a1 (a3▸a2) (lt_succ_of_lt a1),Wg a1,JZ hn a1 a3]
 ·have h6:=(Xr hu).1
  rw[st1 u hu] at he
  rw[<-lo u (le_of_lt hu),<-ln u (le_of_lt hu),YM hn h0 h6 (lt_of_lt_of_le he (mul_le_mul_left _ X1.1)) (lt_succ_of_lt h6),YM hd h0 h6 (lt_of_lt_of_le he (mul_le_mul_left _ X1.2)) (lt_succ_of_lt h6),Wg h6,Ha hn h6 (bR u hu q) (Nat.div_lt_of_lt_mul he)]
 ·have h6:=(Xr hu).1
  rw[st1 u hu] at he ⊢
  rw[Pi lo hu X1.1,Pi ln hu X1.2,YM hn h0 h6 (Mf X1.1 he) (lt_succ_of_lt h6),YM hd h0 h6 (Mf X1.2 he) (lt_succ_of_lt h6),Wg h6,Uj h0,Uj h0,L3 (bL u hu q)]
 ·have h6:=(Xr hu).1
  rw[st1 u hu] at he ⊢
  have he:size*Yb o n (cA o n u)+e<size*n.getD (cA o n u) 0:=he
  rw[<-ln u (le_of_lt hu),YM hd h0 h6 he (lt_succ_of_lt h6),Wg h6,Uj h0]
  refine Hb hn h6 (bR u hu q) ?_
  rw[<-Uj h0]
  exact Nat.div_lt_of_lt_mul he
 ·have h6:=(Xr hu).1
  rw[st1 u hu] at he
  have he:e+size*Yb o n (cA o n u)<size*n.getD (cA o n u) 0:=he
  rw[<-ln u (le_of_lt hu),YM hd h0 h6 (lt_of_le_of_lt (Nat.le_add_right _ _) he) (lt_succ_of_lt h6),Wg h6]
  refine Lz (bL u hu q) (Nat.div_lt_of_lt_mul ?_)
  rw[Nat.mul_sub]
  exact Nat.lt_sub_of_add_lt he
 ·have h2:=Xr hu
  have e1:eA o n (u+1)=cA o n u+1:=h2.2.2.1
  have e2:=Sa (sizes:=sizes) (size:=size) (le_of_lt hu) (UI (le_of_lt hu)).1 (le_refl _)
  show Zb (XI o n sizes size (eA o n (u+1)))=Zb (XI o n sizes size (eA o n u))++Zb _
  have e3:UH o n sizes size (cA o n u)=List.range' (pN o o n sizes size u+wN o n sizes size u+cpr (sN o n size) (grN o n sizes size) u) (xN o o n size (u+1)-sN o n size (u+1)):=by
   unfold UH cpr
   rw[if_pos h2.1,lo u (le_of_lt hu),RJ hs h1 hu,st1 u hu,Nat.mul_sub]
  rw[e1,Wh,e2,e3]
  unfold Zb
  rw[map_append]
 ·have:=WF hd h4n h1 h3 7
  exact Nat.le_trans this (by decide)
 ·have:=Uz (n:=n) (sizes:=sizes) h4 h3 (eA o n u)
  show (Zb _).length≤1000
  rw[YH]
  exact Nat.le_trans this (Nat.le_trans (Nat.mul_le_mul_right 12 (TY u)) (by decide))
theorem ST (ho:SongOk o) (hn':SongOk n) (hs:sizes.length=7) (h1:∀ g∈sizes,1≤g∧g≤4) (h0:0<size) (h3:size≤3) (hd:(∀ t,o.getD t 0≤n.getD t 0)∨(∀ t,n.getD t 0≤o.getD t 0)):GT sizes size o n:=by
 have fm:=GC (n:=n) ho.len hs h1 h0 h3
 obtain ⟨w1,w2⟩:=fm.way (hd.imp (Lu h0) (Lv h0)) (fun lo hi hl _ p=>Lw hl p) ⟨_,_,_,Iv.start hs fun g hg=>(h1 g hg).1⟩ (Pg hs h1)
 refine ⟨?_,fun notes v hn=>?_⟩
 ·rw[w1,length_map,length_range]
  exact lt_of_le_of_lt (succ_le_succ SH) (by decide)
 ·have hdk:NotesOk n (Wp o n sizes size notes v 6):=Te hn
  obtain ⟨S,w⟩:=w2 (GD (v:=v) ho.len hs ho.le hn'.le h1 h0 h3 hn) (WG hdk 7)
  have eg:XI o n sizes size (eA o n (Y2 o n))=XI o n sizes size 7:=by
   have e:cA o n (Y2 o n)=6:=congrArg (·-1) RH
   have e2:=Sa (sizes:=sizes) (size:=size) (le_refl _) (UI (o:=o) (n:=n) (le_refl _)).1 (le_refl _)
   rw[<-e2,e,Wh (m:=6)]
   exact (append_nil _).symm
  have we:=w.e
  refine ⟨S,w.z,w.st,by rw[we],by rw[we],w.bd,by rw[we],?_⟩
  rw[we,<-eg]
end
end
section
noncomputable def Al (o n:List Nat):Prop:=(∀ t,o.getD t 0≤n.getD t 0)∨(∀ t,n.getD t 0≤o.getD t 0)
theorem L4 {s:List Nat} (h:SongOk s) (x:Int):Al s (XH s x):=by
 have hg:∀ t,t<6->(XH s x).getD t 0=if x.fmod 2=0 then min 4 (s.getD t 0+(XD x).getD t 0) else s.getD t 0-(XD x).getD t 0:=fun t ht=>by
  unfold XH
  rw[getD_eq_getElem?_getD,getElem?_map,List.getElem?_range ht];rfl
 have hz:∀ t,¬ t<6->s.getD t 0=0∧(XH s x).getD t 0=0:=fun t ht=>by
  constructor
  ·rw[getD_eq_getElem?_getD,List.getElem?_eq_none (by rw[h.len];exact le_of_not_lt ht)];rfl
  ·rw[getD_eq_getElem?_getD,List.getElem?_eq_none (by rw[(UF h x).len];exact le_of_not_lt ht)];rfl
 by_cases q:x.fmod 2=0
 ·refine .inl fun t=>?_
  by_cases ht:t<6
  ·rw[hg t ht,if_pos q]
   exact Nat.le_min.mpr ⟨ZQ h.le t,Nat.le_add_right _ _⟩
  ·rw[(hz t ht).1];exact zero_le _
 ·refine .inr fun t=>?_
  by_cases ht:t<6
  ·rw[hg t ht,if_neg q]
   exact sub_le _ _
  ·rw[(hz t ht).2];exact zero_le _
noncomputable def Vr (c:List (List Nat)):Prop:=∀ t o n,c[t]?=some o->c[t+1]?=some n->Al o n
theorem Vr.step {c:List (List Nat)} (h:Vr c) (hc:CI c) (x:Int):Vr (Y7 c x):=fun t o n h1 h2=>by
 have ht:=(List.getElem?_eq_some_iff.mp h2).1
 unfold Y7 at h1 h2 ht
 rw[length_append,length_singleton] at ht
 rw[getElem?_append_left (Nat.lt_of_succ_lt_succ ht)] at h1
 by_cases q:t+1<c.length
 ·rw[getElem?_append_left q] at h2
  exact h t o n h1 h2
 ·have e:t+1=c.length:=le_antisymm (le_of_lt_succ ht) (le_of_not_lt q)
  rw[getElem?_append_right (le_of_eq e.symm),e,sub_self,List.getElem?_cons_zero] at h2
  cases h2
  have ho:c.getLastD []=o:=by
   rw[List.getLastD_eq_getLast?,List.getLast?_eq_getElem?,<-e,add_sub_cancel,h1];rfl
  rw[ho]
  exact L4 (hc.ok o (mem_of_getElem? h1)) x
theorem Vr.fold:∀ (l:List Int) {c:List (List Nat)},Vr c->CI c->Vr (l.foldl Y7 c)
 | [],_,h,_=>h
 | x::l,_,h,hc=>Vr.fold l (h.step hc x) (hc.step x)
theorem Nd:Vr songs0:=fun t o n h1 h2=>by
 have:=(List.getElem?_eq_some_iff.mp h2).1
 exact absurd this (Nat.not_lt_of_le (succ_le_succ (zero_le t)))
theorem Hc {prog:Program} {w:World} {script:List Int} (h63:script.length≤63):WK prog w (SK w) 20 (.ref 266) [il script] (.bool true):=by
 have hc:CI (WE script):=CI.fold _ CI.zero
 have hp:Vr (WE script):=Vr.fold _ Nd CI.zero
 obtain ⟨z7,zg⟩:=SN (whole:=RF script)
 have sb:=QS (script:=script)
 refine JM h63 fun row hr t o n h1 h2=>?_
 rcases hr with rfl | rfl
 ·exact ST (hc.ok o (mem_of_getElem? h1)) (hc.ok n (mem_of_getElem? h2)) z7 zg sb.1 sb.2 (hp t o n h1 h2)
 ·have ho:=hc.ok o (List.mem_reverse.mp (mem_of_getElem? h1))
  have hn:=hc.ok n (List.mem_reverse.mp (mem_of_getElem? h2))
  have l1:=(List.getElem?_eq_some_iff.mp h1).1
  have l2:=(List.getElem?_eq_some_iff.mp h2).1
  rw[List.length_reverse] at l1 l2
  rw[List.getElem?_reverse l1] at h1
  rw[List.getElem?_reverse l2] at h2
  obtain ⟨d,hd⟩:=Nat.exists_eq_add_of_lt l2
  rw[hd,add_sub_cancel,add_assoc,add_sub_cancel_left] at h1
  rw[hd,add_sub_cancel,add_sub_cancel_left] at h2
  have e:1+d=d+1:=add_comm 1 d
  rw[e] at h1
  exact ST ho hn z7 zg sb.1 sb.2 (hp d n o h2 h1).symm
end
section
theorem SU {R:WRecords}:∀ {xs:List WData},WShape.hasItems R xs .int=true->∃ is:List Int,xs=is.map .int
 | [],_=>⟨[],rfl⟩
 | x::xs,h=>by
  have h:(WShape.has R x .int&&WShape.hasItems R xs .int)=true:=h
  obtain ⟨h1,h2⟩:=Bool.and_eq_true_iff.mp h
  obtain ⟨is,rfl⟩:=SU h2
  cases x<;>first | exact absurd (show false=true from h1) Bool.false_ne_true | exact ⟨_::is,rfl⟩
set_option tactic.hygienic true in
theorem args_list {R:WRecords} {args:List WData} (h:WShape.hasAll R args [.list .int]=true):∃ is:List Int,args=[.list (is.map .int)]:=by
 obtain ⟨d,r,rfl,h1,h2⟩:=hasAllW_cons h
 cases hasAllW_nil h2
 cases d<;>first | exact absurd (show false=true from h1) Bool.false_ne_true | skip
 rename_i xs
 obtain ⟨is,rfl⟩:=SU ((Bool.or_false _).symm.trans (show (WShape.hasItems R xs .int || false)=true from h1))
 exact ⟨is,rfl⟩
theorem pre_len {R:WRecords} {is:List Int} (h:WTm.holds R (.and (.not (.lt (.lit (.int 63)) (.len (.arg 0)))) (.lit (.bool true))) { args:=[.list (is.map .int)] }=true):is.length≤63:=by
 by_cases q:is.length≤63
 ·exact q
 ·have q':(63:Int)<((is.map WData.int).length:Nat):=by rw[length_map];exact Int.ofNat_lt.mpr (lt_of_not_le q)
  have h:WTm.holds R (.and (.not (.lit (.bool (decide ((63:Int)<((is.map WData.int).length:Nat)))))) (.lit (.bool true))) { args:=[.list (is.map .int)] }=true:=h
  rw[decide_eq_true q'] at h
  exact absurd (show false=true from h) Bool.false_ne_true
noncomputable def A8 (P:Params) (h:Heap) (v:Value):WData->Prop
 | .list xs=>∃ a vs,v=.ref a∧h.get? a=some { cls:=.type "list",data:=.seq (List.toArray vs) }∧WellAll P h vs xs
 | .int i=>∃ t,v=.int i t
 | _=>True
set_option tactic.hygienic true in
theorem Pj {P:Params} {h:Heap} {v:Value} {d:WData} (x:Well P h v d):A8 P h v d:=by
 cases x
 case list a vs xs g k=>exact ⟨a,vs,rfl,g,k⟩
 case int i t=>exact ⟨t,rfl⟩
 all_goals exact trivial
theorem SV {P:Params} {h:Heap}:∀ {is:List Int} {vs:List Value},WellAll P h vs (is.map .int)->Zn (fun b=>h.get? b) (is.map .int) vs
 | [],vs,x=>by cases x;rfl
 | i::is,vs,x=>by
  obtain ⟨v,vs',rfl,h1,h2⟩:=wellAll_cons_inv x
  exact Zn.cons (Pj h1) (SV h2)
theorem law_walk {prog:Program} {w:World} {s₁:Shared} {c:ClaimW} {cl:Str->Option Addr} {mean:ExcName->Option Value} {is:List Int} {vals:List Value} (Y:(Zp w.params).In s₁.heap) (hg:s₁.gens=#[]) (h63:is.length≤63) (hw:WellAll w.params s₁.heap vals [.list (is.map .int)])
  (hn:∀ cls,c.raises [.list (is.map .int)] cls=false) (hp:c.post [.list (is.map .int)] (.bool true) [.list (is.map .int)]=true) :
  wpAny (model prog w) callerA (call (.ref 266) vals) (fun v s'=>GoodWG c cl mean [.list (is.map .int)] s₁ (.ok (.ret v)) s') (fun e s'=>GoodWG c cl mean [.list (is.map .int)] s₁ (.error e) s') s₁:=by
 obtain ⟨v,vs',rfl,h1,h2⟩:=wellAll_cons_inv hw
 cases h2
 obtain ⟨a,vs,rfl,ha,hv⟩:=Pj h1
 refine (Hc h63).fn callerA (fun b=>s₁.heap.get? b) s₁ _ _ _ ⟨rfl,by decide,by decide⟩ (fun b o e=>Y b o e) (fun b o e=>e) (Zn.cons ⟨a,vs.toArray,_,rfl,ha,SV hv⟩ rfl) fun v h' tk k rv=>?_
 have e:v=.bool true:=rv
 subst e
 exact GoodW.toG ⟨.inl ⟨.bool true,.bool true,[],rfl,hn,.bool true,hp,fun _=>⟨List.nodup_nil,fun a h=>by cases h⟩⟩,k,rfl,hg⟩
theorem law_at {w:World} {h:Heap} {mg:Str->Option Value} {a:Addr} (Y:(Zp w.params).In h) (g:h.Ns mainGlobals mg) (e:mg "law" = some (.ref a)):a=266:=by
 obtain ⟨o,es,ep,h1,h2,h3,h4⟩:=g
 have h5:h.get? mainGlobals=some (fo3 w.params):=Y _ _ (by kernel_rfl)
 have h6:∃ es' ep',(fo3 w.params).data=.dict es' ep'∧nsFind es' "law" = some (.ref 266):=⟨_,_,by with_unfolding_all rfl,by kernel_rfl⟩
 obtain ⟨es',ep',h7,h8⟩:=h6
 have q:es=es':=(Data.dict.inj (h2.symm.trans ((congrArg Obj.data (Option.some.inj (h1.symm.trans h5))).trans h7))).1
 subst q
 exact Value.ref.inj (Option.some.inj ((h4 _▸e:_=_).symm.trans h8))
theorem post_true {args after:List WData}:(WShape.has [] (.bool true) .bool&&WTm.holds [] (.eq .res (.lit (.bool true))) { args:=args,res:=some (.bool true),after:=after })=true:=by
 first | kernel_rfl | simp[WShape.has,WShape.arms,WTm.holds,WTm.value]
end
theorem said0:PySem.W.OpenLaw.wellSaid PySem.Challenge.rw_mt0012_03=true:=by
 have e:PySem.Challenge.rw_mt0012_03={ PySem.Challenge.rw_mt0012_03 with prog:=pwP strF }:=by
  rw[<-Tg];rfl
 rw[e,PySem.W.Fast.te9446332074065402090]
 kernel_rfl
end Mine
set_option maxRecDepth 100000 in
set_option maxHeartbeats 8000000 in
theorem PySem.Challenge.cw_mt0012_03_holds : PySem.Challenge.rw_mt0012_03.Holds := by
 refine holds_law Mine.said0 fun said => ?_
 refine holds_open (q := Mine.qv) (loose := Mine.looseN) (Xt := Mine.xtF) (XP := XL Mine.qv []) (Yf := Mine.hookF.obs) (Ya := Mine.hookF.val) (YP := Mine.hookF.says) (N := 4690) Mine.leftF Mine.hookF.of Mine.hookF.keeps (fun s e => xl_of s (Bool.and_eq_true_iff.mp e).1) XL.keeps (by rfl) (by rfl) (by rfl) (fun s e => recFacts_of (Bool.and_eq_true_iff.mp e).2) (by rfl) (by first | assumption | decide +kernel) (by decide +kernel) ⟨rfl, rfl, rfl, rfl, rfl, by decide +kernel⟩ ?hw ?hc
 case hw => w_witness2
 case hc =>
  intro w s₀ s₁ mg mb G Y a o pm cd doc dV kV h1 h2 h3 h4 h5 h6 args vals as hpre hlay hr hwell hlow
  obtain ⟨hsh, hpr⟩ := pre_splitW hpre
  obtain ⟨is, rfl⟩ := Mine.args_list hsh
  have h63 := Mine.pre_len hpr
  have ha := Mine.law_at (w := w) Y G.T.g h5
  subst ha
  exact Mine.law_walk (w := w) Y h6 h63 hwell (fun _ => rfl) Mine.post_true
