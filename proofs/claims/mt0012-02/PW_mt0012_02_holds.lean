import PyProof.Rows.All
import Wide.All
import OpenK.AllK
import Open.Tops
import Wide.FinOn
import PyProof.DictItemsLoops
import PyProof.Rows.DictMethods
import PyProof.SetNew
import PyProof.SetRoads
import PyProof.Rows.SumAny
import PySem.Challenge.RW_mt0012_02
set_option Elab.async false
set_option autoImplicit false
set_option linter.all false
set_option maxRecDepth 100000
set_option maxHeartbeats 4000000
open PySem PySem.W PyProof.Rows
namespace Mine
section
noncomputable def bcode (l:List UInt8):Nat:=@List.rec UInt8 (fun _=>Nat) 1 (fun b _ n=>Nat.add b.toNat (Nat.mul 256 n)) l
noncomputable def bread (f:Nat):Nat → List Nat:=@Nat.rec (fun _=>Nat → List Nat) (fun _=>[]) (fun _ ih n=>@Bool.rec (fun _=>List Nat) (Nat.mod n 256 :: ih (Nat.div n 256)) [] (Nat.beq n 1)) f
noncomputable def blow (l:List UInt8) (f:Nat):Bool:=@List.rec UInt8 (fun _=>Nat → Bool) (fun _=>true) (fun b _ ih f=>@Bool.rec (fun _=>Bool) false (@Bool.rec (fun _=>Bool) false (ih (Nat.pred f)) (Nat.blt 0 f)) (Nat.blt b.toNat 128)) l f
noncomputable def strF (s:String):PySem.Str:=@Bool.rec (fun _=>PySem.Str) (Str.ofString s) ⟨⟨bread 5000 (bcode s.toByteArray.data.toList)⟩⟩ (blow s.toByteArray.data.toList 5000)
theorem bcode_pos:∀ l,1 ≤ bcode l
 | []=>Nat.le_refl 1
 | b :: l=>by have:=bcode_pos l; show 1 ≤ b.toNat + 256 * bcode l; omega
theorem bread_code:∀ (f:Nat) (l:List UInt8),blow l f = true → bread f (bcode l) = l.map UInt8.toNat ∧ PySem.cpsOfBytes 0 0 l = l.map UInt8.toNat
 | 0,[],_=>⟨rfl,by simp [PySem.cpsOfBytes]⟩
 | f + 1,[],_=>⟨rfl,by simp [PySem.cpsOfBytes]⟩
 | f,b :: l,h=>by
  have h:(@Bool.rec (fun _=>Bool) false (@Bool.rec (fun _=>Bool) false (blow l (Nat.pred f)) (Nat.blt 0 f)) (Nat.blt b.toNat 128)) = true:=h
  cases hb:Nat.blt b.toNat 128 with
  | false=>rw [hb] at h; cases h
  | true =>
   cases hf:Nat.blt 0 f with
   | false=>rw [hb,hf] at h; cases h
   | true =>
    rw [hb,hf] at h
    have hb':b.toNat < 128:=Nat.lt_succ_of_le (by simpa [Nat.blt] using hb)
    have hf':0 < f:=Nat.lt_of_succ_le (by simpa [Nat.blt] using hf)
    obtain ⟨g,rfl⟩:∃ g,f = g + 1:=⟨f - 1,by omega⟩
    have ih:=bread_code g l h
    have hp:=bcode_pos l
    have e:bcode (b :: l) = b.toNat + 256 * bcode l:=rfl
    constructor
    ·show (@Bool.rec (fun _=>List Nat) (Nat.mod (bcode (b :: l)) 256 :: bread g (Nat.div (bcode (b :: l)) 256)) [] (Nat.beq (bcode (b :: l)) 1)) = _
     have n1:Nat.beq (bcode (b :: l)) 1 = false:=by
      cases q:Nat.beq (bcode (b :: l)) 1 with
      | false=>rfl
      | true=>have:=Nat.eq_of_beq_eq_true q; omega
     have m1:Nat.mod (bcode (b :: l)) 256 = b.toNat:=by show bcode (b :: l) % 256 = _; omega
     have d1:Nat.div (bcode (b :: l)) 256 = bcode l:=by show bcode (b :: l) / 256 = _; omega
     rw [n1,m1,d1,ih.1]; rfl
    ·rw [PySem.cpsOfBytes,if_pos hb',ih.2]; rfl
theorem strF_eq:@Str.ofString = strF:=by
 funext s
 unfold strF
 cases h:blow s.toByteArray.data.toList 5000 with
 | false=>rfl
 | true =>
  obtain ⟨h1,h2⟩:=bread_code _ _ h
  show Str.ofString s = ⟨⟨_⟩⟩
  rw [h1,← h2]; rfl
noncomputable abbrev StrT:=String → PySem.Str
inductive BxP (F:StrT → Program):StrT → Program → Type
 | mk (A:StrT):BxP F A (F A)
theorem BxP.eq {F:StrT → Program} {A:StrT} {b:Program} (x:BxP F A b):b = F A:=by cases x; rfl
noncomputable def pwB:(F:StrT → Program) × BxP F Str.ofString PySem.Challenge.pw_mt0012_02:=by
 refine ⟨?F,?h⟩
 case h =>
  delta PySem.Challenge.pw_mt0012_02
  generalize Str.ofString = A
  exact BxP.mk A
noncomputable def pwP:StrT → Program:=pwB.1
noncomputable def anyFast {α:Type} (as:Array α) (p:α → Bool) (start stop:Nat):Bool :=
 @Bool.rec (fun _=>Bool) (as.any p start stop) (PySem.W.R.anyR as.toList p) (Nat.beq start 0 && Nat.beq stop as.size)
theorem any_eq:(@Array.any:{α:Type} → Array α → (α → Bool) → Nat → Nat → Bool) = @anyFast:=by
 funext α as p start stop
 unfold anyFast
 cases h:(Nat.beq start 0 && Nat.beq stop as.size) with
 | false=>rfl
 | true =>
  obtain ⟨h1,h2⟩:=Bool.and_eq_true_iff.mp h
  have h1:=Nat.eq_of_beq_eq_true h1
  have h2:=Nat.eq_of_beq_eq_true h2
  subst h1 h2
  show as.any p 0 as.size = PySem.W.R.anyR as.toList p
  rw [← PySem.W.R.anyR_eq,Array.any_toList]
noncomputable abbrev AnyT:=(α:Type) → Array α → (α → Bool) → Nat → Nat → Bool
inductive Bx (F:AnyT → Builtin):AnyT → Builtin → Type 1
 | mk (A:AnyT):Bx F A (F A)
theorem Bx.eq {F:AnyT → Builtin} {A:AnyT} {b:Builtin} (x:Bx F A b):b = F A:=by cases x; rfl
noncomputable def tnB:(F:AnyT → Builtin) × Bx F (@Array.any.{0}) PySem.W.Fast.tw4202317264376624991:=by
 refine ⟨?F,?h⟩
 case h =>
  delta PySem.W.Fast.tw4202317264376624991
  generalize @Array.any.{0} = A
  exact @Bx.mk _ @A
noncomputable def tnV:Builtin:=tnB.1 (@anyFast)
theorem tn_eq:PySem.W.Fast.tw4202317264376624991 = tnV:=tnB.2.eq.trans (congrArg tnB.1 any_eq)
noncomputable def tblF (id:String):Option Builtin :=
 @Bool.rec (fun _=>Option Builtin) (PySem.W.Fast.tw14364793385576792824 id) (some tnV) (PySem.W.S.eqLit (PySem.code "type.__new__") id)
theorem tbl_new:PySem.W.Fast.tw14364793385576792824 "type.__new__" = some PySem.W.Fast.tw4202317264376624991:=by kernel_rfl
theorem tbl_eq:treeTable = tblF:=by
 rw [PySem.W.Fast.te14364793385576792824]
 funext id
 unfold tblF
 cases h:PySem.W.S.eqLit (PySem.code "type.__new__") id with
 | false=>rfl
 | true =>
  rw [← PySem.W.S.eqLit_eq "type.__new__" _ rfl] at h
  have:id = "type.__new__" := by simpa using h
  subst this
  exact tbl_new.trans (congrArg some tn_eq)
noncomputable abbrev pw:=PySem.Challenge.pw_mt0012_02
noncomputable def docOf5 (p:Program):PySem.Str:=match p.main.body.drop 5 with
 | .ClassDef _ _ _ (.Expr (.Constant (.str s) _ _) _ :: _) _ _ _ _ _ _ _ :: _=>s
 | _=>⟨#[]⟩
noncomputable def docR:PySem.Str:=docOf5 pw
noncomputable def docS:{ s:String // docR = Str.ofString s }:=⟨_,by unfold docR docOf5; exact rfl⟩
noncomputable def docL:{ l:List Char // docS.1 = String.ofList l }:=⟨_,rfl⟩
noncomputable def docF:PySem.Str:=⟨⟨PySem.W.R.mapR Char.toNat docL.1⟩⟩
theorem docR_eq:docR = docF:=by
 rw [docS.2,docL.2,PySem.W.Fast.ofString_ofList]
 unfold docF
 rw [← PySem.W.R.mapR_eq]
noncomputable def setDocS (d:PySem.Str):Stmt → Stmt
 | .ClassDef n b k (.Expr (.Constant (.str _) i q) p :: body) a t s ts bi st pos=>.ClassDef n b k (.Expr (.Constant (.str d) i q) p :: body) a t s ts bi st pos
 | s=>s
noncomputable def setDoc (d:PySem.Str) (p:Program):Program:={ p with main:={ p.main with body:=p.main.body.modify 5 (setDocS d) } }
theorem pwG_set:setDoc docR pw = pw:=by kernel_rfl
theorem pwG_strF:pw = pwP strF:=pwB.2.eq.trans (congrArg pwB.1 strF_eq)
theorem pwG_eq:pw = setDoc docF (pwP strF):=by
 rw [← pwG_strF,← docR_eq,pwG_set]
end
section
noncomputable abbrev r (a:Addr):Value:=.ref a
noncomputable def e (k:PySem.Str) (t:Tok) (v:Value):PySem.Str × Tok × Value:=(k,t,v)
noncomputable def dO (P:Params) (c:Value) (dd:Option Addr) (l:List (PySem.Str × Tok × Value)) (n:Nat) (sl:Array (Option Value)):Obj:=⟨c,dd,.dict ⟨l.map fun x=>⟨PyData.keyHash P x.1,.str x.1 x.2.1,x.2.2⟩⟩ n,sl⟩
noncomputable def oT (l:List Value):Obj:=⟨.type "tuple",none,.seq ⟨l⟩ 0,#[]⟩
noncomputable def oN (l:List Value):Obj:=⟨.none,none,.fields ⟨l⟩,#[]⟩
noncomputable def fT (q:Program) (i:Nat):Stmt:=q.main.body.getD i (.Pass ⟨0,0,0,0⟩)
noncomputable def fM (q:Program) (i j:Nat):Stmt:=match fT q i with
 | .ClassDef _ _ _ b _ _ _ _ _ _ _=>b.getD j (.Pass ⟨0,0,0,0⟩)
 | s=>s
noncomputable def docV:Option Tok → List Stmt → Value
 | some t,.Expr (.Constant (.str x) _ _) _ :: _=>.str x t
 | _,_=>.none
noncomputable def fO (f:Stmt) (c:Value) (q:PySem.Str) (g:Addr) (cl:List (PySem.Str × Addr)) (df kd:Value) (dc:Option Tok) (pm:Value) (an:Option Addr) (co ct:Value) (bi:Addr) (dd:Option Addr) (sl:Array (Option Value)):Obj:=match f with
 | .FunctionDef n a b _ _ _ sc _ _ _=>⟨c,dd,.func { name:=n,qualname:=q,params:=a,body:=.stmts b,scope:=sc,globals:=g,closure:=cl,defaults:=df,kwdefaults:=kd,doc:=docV dc b,pyModule:=pm,annotations:=an,code:=co,closureTuple:=ct,builtins:=bi },sl⟩
 | _=>default
noncomputable def fN (f:Stmt) (q:PySem.Str):Obj:=fO f .none q 0 [] .none .none none .none none .none .none 0 none #[]
noncomputable def fF (f:Stmt) (q:PySem.Str) (df:Value) (dc:Option Tok) (pm:Value) (co:Addr):Obj:=fO f (.type "function") q 3 [] df .none dc pm none (.ref co) .none 0 none #[]
noncomputable def kO (S:StrT) (n q:String) (t:List Tok) (i:List Int) (v:List Value):Obj:=match t,i,v with
 | [t0,t1,t2,t3],[i0,i1,i2,i3,i4,i5,i6,i7],[v0,v1,v2,v3,v4,v5,v6] =>
  ⟨.type "code",none,.fields #[.str (S n) t0,.str (S q) t1,.str (S "/claim/cut.py") t2,.int i0 0,.int i1 0,.int i2 0,.int i3 0,.int i4 0,v0,v1,.int i5 0,v2,v3,v4,v5,v6,.int i6 0,.int i7 0,.str (S "/claim/cut.py") t3],#[]⟩
 | _,_,_=>default
noncomputable def kF (S:StrT) (n q:String) (t:List Tok) (i:List Int) (a:Addr) (b:Bool) (c d f g:Addr):Obj:=kO S n q t i [.ref a,.bool b,.ref c,.none,.ref d,.ref f,.ref g]
noncomputable def tree0 (S:StrT) (P:Params):BT:=(.node (boot_o_0 P) (.node (boot_o_1 P) (.node (boot_o_3 P) (.node (boot_o_7 P) .nil .nil) (.node (oT []) .nil .nil)) (.node (boot_o_5 P) (.node (boot_o_9 P) .nil .nil) (.node (kO S "<module>" "<module>" [182,183,184,186] [1,0,0,0,0,181,185,1] [(r 11),(.bool false),(r 12),.none,.none,.none,.none]) .nil .nil))) (.node (boot_o_2 P) (.node (boot_o_4 P) (.node (boot_o_8 P) .nil .nil) (.node (oN []) .nil .nil)) (.node (boot_o_6 P) (.node (boot_o_10 P) .nil .nil) (.node (⟨(.type "frame"),none,.plain,#[(some (r 13)),(some (r 3)),(some (r 3)),none,(some (.str (S "__main__") 164)),none,(some (r 0))]⟩) .nil .nil))))
noncomputable def heap0 (S:StrT) (P:Params):Heap:=⟨⟨[boot_o_0 P,boot_o_1 P,boot_o_2 P,boot_o_3 P,boot_o_4 P,boot_o_5 P,boot_o_6 P,boot_o_7 P,boot_o_8 P,boot_o_9 P,boot_o_10 P,oT [],oN [],kO S "<module>" "<module>" [182,183,184,186] [1,0,0,0,0,181,185,1] [(r 11),(.bool false),(r 12),.none,.none,.none,.none],⟨(.type "frame"),none,.plain,#[(some (r 13)),(some (r 3)),(some (r 3)),none,(some (.str (S "__main__") 164)),none,(some (r 0))]⟩]⟩,{}⟩
section
variable (S:StrT) (q:Program) (D:PySem.Str) (P:Params)
noncomputable def o3:Obj:=dO P (.type "dict") none [e (S "__name__") 165 (.str (S "law_mt0012_02") 583),e (S "__doc__") 166 .none,e (S "__package__") 167 .none,e (S "__loader__") 168 (.builtin "__main__.__loader__#opaque"),e (S "__spec__") 169 .none,e (S "__annotations__") 170 (r 6),e (S "__builtins__") 171 (r 4),e (S "__file__") 173 (.str (S "/claim/cut.py") 172),e (S "__cached__") 174 .none,e (S "_wall") 193 (r 21),e (S "_tuplegetter") 252 (r 60),e (S "Match") 380 (r 135),e (S "_calculate_ratio") 388 (r 145),e (S "SequenceMatcher") 582 (r 242),e (S "_law_text") 590 (r 251),e (S "_law_longest") 600 (r 258),e (S "_law_read") 606 (r 263),e (S "law") 612 (r 268)] 18 #[]
noncomputable def o11:Obj:=oT []
noncomputable def o12:Obj:=oN [(.int 1 0),(.int 0 0),(r 20),(.int 5 0),(.int 0 0),(r 27),(.int 23 0),(.int 0 0),(r 71),(.int 66 0),(.int 0 0),(r 144),(.int 70 0),(.int 0 0),(r 151),(.int 463 0),(.int 0 0),(r 250),(.int 470 0),(.int 0 0),(r 257),(.int 476 0),(.int 0 0),(r 262),(.int 498 0),(.int 0 0),(r 267)]
noncomputable def o13:Obj:=kO S "<module>" "<module>" [182,183,184,186] [1,0,0,0,0,181,185,1] [(r 11),(.bool false),(r 12),.none,.none,.none,.none]
noncomputable def o14:Obj:=⟨(.type "frame"),none,.plain,#[(some (r 13)),(some (r 3)),(some (r 3)),none,(some (.str (S "__main__") 164)),none,(some (r 0))]⟩
noncomputable def o15:Obj:=oT []
noncomputable def o16:Obj:=oN []
noncomputable def o17:Obj:=oT [(.str (S "k") 190)]
noncomputable def o18:Obj:=oT []
noncomputable def o19:Obj:=fN (fT q 0) (S "_wall")
noncomputable def o20:Obj:=kF S "_wall" "_wall" [187,188,189,192] [1,1,0,0,3,181,191,1] 15 true 16 17 18 19
noncomputable def o21:Obj:=fF (fT q 0) (S "_wall") .none none (.str (S "__main__") 164) 20
noncomputable def o22:Obj:=oT []
noncomputable def o23:Obj:=⟨(.type "builtin_function_or_method"),none,(.fields #[(.builtin "type.__prepare__"),(.type "type")]),#[]⟩
noncomputable def o24:Obj:=dO P (.type "dict") none [e (S "__module__") 203 (.str (S "cpy313.difflib") 194),e (S "__qualname__") 205 (.str (S "_tuplegetter") 204),e (S "__firstlineno__") 207 (.int 5 206),e (S "__init__") 216 (r 35),e (S "__get__") 225 (r 43),e (S "__set__") 234 (r 50),e (S "__delete__") 242 (r 57),e (S "__static_attributes__") 245 (r 58)] 8 #[]
noncomputable def o25:Obj:=oT []
noncomputable def o26:Obj:=oN [(.int 7 0),(.int 4 0),(r 34),(.int 11 0),(.int 4 0),(r 42),(.int 18 0),(.int 4 0),(r 49),(.int 21 0),(.int 4 0),(r 56)]
noncomputable def o27:Obj:=kO S "_tuplegetter" "_tuplegetter" [198,199,200,202] [5,0,0,0,0,181,201,5] [(r 25),(.bool false),(r 26),.none,.none,.none,.none]
noncomputable def o28:Obj:=⟨(.type "frame"),none,.plain,#[(some (r 27)),(some (r 3)),(some (r 24)),none,(some (.str (S "cpy313.difflib") 194)),none,(some (r 0))]⟩
noncomputable def o29:Obj:=oT []
noncomputable def o30:Obj:=oN []
noncomputable def o31:Obj:=oT [(.str (S "self") 211),(.str (S "index") 212),(.str (S "doc") 213)]
noncomputable def o32:Obj:=oT []
noncomputable def o33:Obj:=fN (fM q 2 0) (S "_tuplegetter.__init__")
noncomputable def o34:Obj:=kF S "__init__" "_tuplegetter.__init__" [208,209,210,215] [7,3,0,0,3,181,214,7] 29 true 30 31 32 33
noncomputable def o35:Obj:=fF (fM q 2 0) (S "_tuplegetter.__init__") .none none (.str (S "cpy313.difflib") 194) 34
noncomputable def o36:Obj:=oT [.none]
noncomputable def o37:Obj:=oT []
noncomputable def o38:Obj:=oN []
noncomputable def o39:Obj:=oT [(.str (S "self") 220),(.str (S "obj") 221),(.str (S "objtype") 222)]
noncomputable def o40:Obj:=oT []
noncomputable def o41:Obj:=fN (fM q 2 1) (S "_tuplegetter.__get__")
noncomputable def o42:Obj:=kF S "__get__" "_tuplegetter.__get__" [217,218,219,224] [11,3,0,0,3,181,223,11] 37 true 38 39 40 41
noncomputable def o43:Obj:=fF (fM q 2 1) (S "_tuplegetter.__get__") (r 36) none (.str (S "cpy313.difflib") 194) 42
noncomputable def o44:Obj:=oT []
noncomputable def o45:Obj:=oN []
noncomputable def o46:Obj:=oT [(.str (S "self") 229),(.str (S "obj") 230),(.str (S "value") 231)]
noncomputable def o47:Obj:=oT []
noncomputable def o48:Obj:=fN (fM q 2 2) (S "_tuplegetter.__set__")
noncomputable def o49:Obj:=kF S "__set__" "_tuplegetter.__set__" [226,227,228,233] [18,3,0,0,3,181,232,18] 44 true 45 46 47 48
noncomputable def o50:Obj:=fF (fM q 2 2) (S "_tuplegetter.__set__") .none none (.str (S "cpy313.difflib") 194) 49
noncomputable def o51:Obj:=oT []
noncomputable def o52:Obj:=oN []
noncomputable def o53:Obj:=oT [(.str (S "self") 238),(.str (S "obj") 239)]
noncomputable def o54:Obj:=oT []
noncomputable def o55:Obj:=fN (fM q 2 3) (S "_tuplegetter.__delete__")
noncomputable def o56:Obj:=kF S "__delete__" "_tuplegetter.__delete__" [235,236,237,241] [21,2,0,0,3,181,240,21] 51 true 52 53 54 55
noncomputable def o57:Obj:=fF (fM q 2 3) (S "_tuplegetter.__delete__") .none none (.str (S "cpy313.difflib") 194) 56
noncomputable def o58:Obj:=oT [(.str (S "__doc__") 243),(.str (S "index") 244)]
noncomputable def o59:Obj:=dO P (.type "dict") none [e (S "__module__") 203 (.str (S "cpy313.difflib") 194),e (S "__firstlineno__") 207 (.int 5 206),e (S "__init__") 216 (r 35),e (S "__get__") 225 (r 43),e (S "__set__") 234 (r 50),e (S "__delete__") 242 (r 57),e (S "__static_attributes__") 245 (r 58),e (S "__dict__") 247 (r 61),e (S "__weakref__") 249 (r 62),e (S "__doc__") 250 .none] 4 #[]
noncomputable def o60:Obj:=⟨(.type "type"),none,(.cls ⟨(S "_tuplegetter"),[(.type "object")],[(r 60),(.type "object")],59,(S "_tuplegetter"),true,[],[],false,none,false⟩),#[none,none,(some (.str (S "_tuplegetter") 196)),(some (.str (S "_tuplegetter") 204)),(some (.builtin "object.__new__")),(some (.bool true))]⟩
noncomputable def o61:Obj:=⟨(.type "getset_descriptor"),none,(.fields #[(.str (S "__dict__") 246),(r 60),(.builtin "function.__dict__"),(.builtin "function.__dict__#set")]),#[]⟩
noncomputable def o62:Obj:=⟨(.type "getset_descriptor"),none,(.fields #[(.str (S "__weakref__") 248),(r 60),(.builtin "ExceptionGroup.__weakref__"),.none]),#[]⟩
noncomputable def o63:Obj:=⟨(.type "super"),none,(.fields #[(r 60),(r 60),(r 60)]),#[]⟩
noncomputable def o64:Obj:=⟨(.type "builtin_function_or_method"),none,(.fields #[(.builtin "object.__init_subclass__"),(r 60)]),#[]⟩
noncomputable def o65:Obj:=oT [(.type "tuple")]
noncomputable def o66:Obj:=⟨(.type "builtin_function_or_method"),none,(.fields #[(.builtin "type.__prepare__"),(.type "type")]),#[]⟩
noncomputable def o67:Obj:=dO P (.type "dict") none [e (S "__module__") 260 (.str (S "cpy313.difflib") 194),e (S "__qualname__") 262 (.str (S "Match") 261),e (S "__firstlineno__") 264 (.int 23 263),e (S "__doc__") 266 (.str (S "Match(a, b, size)") 265),e (S "__slots__") 268 (r 73),e (S "_fields") 272 (r 74),e (S "_field_defaults") 273 (r 75),e (S "__new__") 284 (r 82),e (S "_make") 306 (r 91),e (S "_replace") 317 (r 100),e (S "__replace__") 318 (r 100),e (S "__repr__") 326 (r 107),e (S "_asdict") 333 (r 114),e (S "__getnewargs__") 341 (r 121),e (S "__match_args__") 345 (r 122),e (S "a") 355 (r 124),e (S "b") 365 (r 127),e (S "size") 375 (r 130),e (S "__static_attributes__") 376 (r 132),e (S "__classcell__") 377 (r 68)] 20 #[]
noncomputable def o68:Obj:=⟨(.type "cell"),none,(.cell (some (r 135))),#[]⟩
noncomputable def o69:Obj:=oT []
noncomputable def o70:Obj:=oN [(.int 29 0),(.int 4 0),(r 81),(.int 34 0),(.int 4 0),(r 88),(.int 41 0),(.int 4 0),(r 99),(.int 52 0),(.int 4 0),(r 106),(.int 56 0),(.int 4 0),(r 113),(.int 59 0),(.int 4 0),(r 120)]
noncomputable def o71:Obj:=kO S "Match" "Match" [255,256,257,259] [23,0,0,0,0,181,258,23] [(r 69),(.bool false),(r 70),.none,.none,.none,.none]
noncomputable def o72:Obj:=⟨(.type "frame"),none,.plain,#[(some (r 71)),(some (r 3)),(some (r 67)),none,(some (.str (S "cpy313.difflib") 194)),none,(some (r 0))]⟩
noncomputable def o73:Obj:=oT []
noncomputable def o74:Obj:=oT [(.str (S "a") 269),(.str (S "b") 270),(.str (S "size") 271)]
noncomputable def o75:Obj:=dO P (.type "dict") none [] 0 #[]
noncomputable def o76:Obj:=oT []
noncomputable def o77:Obj:=oN []
noncomputable def o78:Obj:=oT [(.str (S "_cls") 277),(.str (S "a") 278),(.str (S "b") 279),(.str (S "size") 280)]
noncomputable def o79:Obj:=oT []
noncomputable def o80:Obj:=fN (fM q 3 4) (S "Match.__new__")
noncomputable def o81:Obj:=kF S "__new__" "Match.__new__" [274,275,276,282] [29,4,0,0,3,181,281,29] 76 true 77 78 79 80
noncomputable def o82:Obj:=fF (fM q 3 4) (S "Match.__new__") .none (some 283) (.str (S "cpy313.difflib") 194) 81
noncomputable def o83:Obj:=oT []
noncomputable def o84:Obj:=oN []
noncomputable def o85:Obj:=oT [(.str (S "cls") 288),(.str (S "iterable") 289),(.str (S "result") 290)]
noncomputable def o86:Obj:=oT []
noncomputable def o87:Obj:=fN (fM q 3 5) (S "Match._make")
noncomputable def o88:Obj:=kF S "_make" "Match._make" [285,286,287,292] [33,2,0,0,3,181,291,33] 83 true 84 85 86 87
noncomputable def o89:Obj:=fO (fM q 3 5) (.type "function") (S "Match._make") 3 [] .none .none (some 293) (.str (S "cpy313.difflib") 194) (some 92) (r 88) .none 0 none #[]
noncomputable def o90:Obj:=dO P (.type "dict") none [e (S "__module__") 295 (.str (S "cpy313.difflib") 194),e (S "__name__") 298 (.str (S "_make") 297),e (S "__qualname__") 301 (.str (S "Match._make") 300),e (S "__doc__") 303 (.str (S "Make a new Match object from a sequence or iterable") 293),e (S "__annotations__") 305 (r 92)] 5 #[]
noncomputable def o91:Obj:=⟨(.type "classmethod"),(some 90),(.fields #[(r 89),(.bool false)]),#[]⟩
noncomputable def o92:Obj:=dO P (.type "dict") none [] 0 #[]
noncomputable def o93:Obj:=oT [(r 68)]
noncomputable def o94:Obj:=oT [(.str (S "__class__") 310)]
noncomputable def o95:Obj:=oN []
noncomputable def o96:Obj:=oT [(.str (S "self") 311),(.str (S "kwds") 312),(.str (S "result") 313)]
noncomputable def o97:Obj:=oT []
noncomputable def o98:Obj:=fN (fM q 3 6) (S "Match._replace")
noncomputable def o99:Obj:=kF S "_replace" "Match._replace" [307,308,309,315] [41,1,1,0,11,181,314,41] 94 true 95 96 97 98
noncomputable def o100:Obj:=fO (fM q 3 6) (.type "function") (S "Match._replace") 3 [((S "__class__"),68)] .none .none (some 316) (.str (S "cpy313.difflib") 194) none (r 99) (r 93) 0 none #[]
noncomputable def o101:Obj:=oT []
noncomputable def o102:Obj:=oN []
noncomputable def o103:Obj:=oT [(.str (S "self") 322)]
noncomputable def o104:Obj:=oT []
noncomputable def o105:Obj:=fN (fM q 3 8) (S "Match.__repr__")
noncomputable def o106:Obj:=kF S "__repr__" "Match.__repr__" [319,320,321,324] [52,1,0,0,3,181,323,52] 101 true 102 103 104 105
noncomputable def o107:Obj:=fF (fM q 3 8) (S "Match.__repr__") .none (some 325) (.str (S "cpy313.difflib") 194) 106
noncomputable def o108:Obj:=oT []
noncomputable def o109:Obj:=oN []
noncomputable def o110:Obj:=oT [(.str (S "self") 330)]
noncomputable def o111:Obj:=oT []
noncomputable def o112:Obj:=fN (fM q 3 9) (S "Match._asdict")
noncomputable def o113:Obj:=kF S "_asdict" "Match._asdict" [327,328,329,332] [56,1,0,0,3,181,331,56] 108 true 109 110 111 112
noncomputable def o114:Obj:=fF (fM q 3 9) (S "Match._asdict") .none none (.str (S "cpy313.difflib") 194) 113
noncomputable def o115:Obj:=oT []
noncomputable def o116:Obj:=oN []
noncomputable def o117:Obj:=oT [(.str (S "self") 337)]
noncomputable def o118:Obj:=oT []
noncomputable def o119:Obj:=fN (fM q 3 10) (S "Match.__getnewargs__")
noncomputable def o120:Obj:=kF S "__getnewargs__" "Match.__getnewargs__" [334,335,336,339] [59,1,0,0,3,181,338,59] 115 true 116 117 118 119
noncomputable def o121:Obj:=fF (fM q 3 10) (S "Match.__getnewargs__") .none (some 340) (.str (S "cpy313.difflib") 194) 120
noncomputable def o122:Obj:=oT [(.str (S "a") 342),(.str (S "b") 343),(.str (S "size") 344)]
noncomputable def o123:Obj:=dO P (.type "dict") none [e (S "index") 352 (.int 0 346),e (S "__doc__") 354 (.str (S "Alias for field number 0") 347)] 2 #[]
noncomputable def o124:Obj:=⟨(r 60),(some 123),.plain,#[]⟩
noncomputable def o125:Obj:=dO P (.type "frame") none [e (S "self") 348 (r 124),e (S "index") 349 (.int 0 346),e (S "doc") 350 (.str (S "Alias for field number 0") 347)] 3 #[]
noncomputable def o126:Obj:=dO P (.type "dict") none [e (S "index") 362 (.int 1 356),e (S "__doc__") 364 (.str (S "Alias for field number 1") 357)] 2 #[]
noncomputable def o127:Obj:=⟨(r 60),(some 126),.plain,#[]⟩
noncomputable def o128:Obj:=dO P (.type "frame") none [e (S "self") 358 (r 127),e (S "index") 359 (.int 1 356),e (S "doc") 360 (.str (S "Alias for field number 1") 357)] 3 #[]
noncomputable def o129:Obj:=dO P (.type "dict") none [e (S "index") 372 (.int 2 366),e (S "__doc__") 374 (.str (S "Alias for field number 2") 367)] 2 #[]
noncomputable def o130:Obj:=⟨(r 60),(some 129),.plain,#[]⟩
noncomputable def o131:Obj:=dO P (.type "frame") none [e (S "self") 368 (r 130),e (S "index") 369 (.int 2 366),e (S "doc") 370 (.str (S "Alias for field number 2") 367)] 3 #[]
noncomputable def o132:Obj:=oT []
noncomputable def o133:Obj:=⟨(.type "list"),none,(.seq #[] 0),#[]⟩
noncomputable def o134:Obj:=dO P (.type "dict") none [e (S "__module__") 260 (.str (S "cpy313.difflib") 194),e (S "__firstlineno__") 264 (.int 23 263),e (S "__doc__") 266 (.str (S "Match(a, b, size)") 265),e (S "__slots__") 268 (r 73),e (S "_fields") 272 (r 74),e (S "_field_defaults") 273 (r 75),e (S "__new__") 284 (r 136),e (S "_make") 306 (r 91),e (S "_replace") 317 (r 100),e (S "__replace__") 318 (r 100),e (S "__repr__") 326 (r 107),e (S "_asdict") 333 (r 114),e (S "__getnewargs__") 341 (r 121),e (S "__match_args__") 345 (r 122),e (S "a") 355 (r 124),e (S "b") 365 (r 127),e (S "size") 375 (r 130),e (S "__static_attributes__") 376 (r 132)] 2 #[]
noncomputable def o135:Obj:=⟨(.type "type"),none,(.cls ⟨(S "Match"),[(.type "tuple")],[(r 135),(.type "tuple"),(.type "object")],134,(S "Match"),false,[],[],false,none,false⟩),#[(some (r 65)),none,(some (.str (S "Match") 253)),(some (.str (S "Match") 261)),(some .none),(some (.bool false))]⟩
noncomputable def o136:Obj:=⟨(.type "staticmethod"),none,(.fields #[(r 82)]),#[]⟩
noncomputable def o137:Obj:=⟨(.type "super"),none,(.fields #[(r 135),(r 135),(r 135)]),#[]⟩
noncomputable def o138:Obj:=⟨(.type "builtin_function_or_method"),none,(.fields #[(.builtin "object.__init_subclass__"),(r 135)]),#[]⟩
noncomputable def o139:Obj:=oT []
noncomputable def o140:Obj:=oN []
noncomputable def o141:Obj:=oT [(.str (S "matches") 384),(.str (S "length") 385)]
noncomputable def o142:Obj:=oT []
noncomputable def o143:Obj:=fN (fT q 4) (S "_calculate_ratio")
noncomputable def o144:Obj:=kF S "_calculate_ratio" "_calculate_ratio" [381,382,383,387] [66,2,0,0,3,181,386,66] 139 true 140 141 142 143
noncomputable def o145:Obj:=fF (fT q 4) (S "_calculate_ratio") .none none (.str (S "cpy313.difflib") 194) 144
noncomputable def o146:Obj:=oT []
noncomputable def o147:Obj:=⟨(.type "builtin_function_or_method"),none,(.fields #[(.builtin "type.__prepare__"),(.type "type")]),#[]⟩
noncomputable def o148:Obj:=dO P (.type "dict") none [e (S "__module__") 396 (.str (S "cpy313.difflib") 194),e (S "__qualname__") 398 (.str (S "SequenceMatcher") 397),e (S "__firstlineno__") 400 (.int 70 399),e (S "__doc__") 402 (.str D 401),e (S "__init__") 417 (r 160),e (S "set_seqs") 427 (r 167),e (S "set_seq1") 436 (r 174),e (S "set_seq2") 445 (r 181),e (S "_SequenceMatcher__chain_b") 463 (r 188),e (S "find_longest_match") 491 (r 196),e (S "get_matching_blocks") 518 (r 203),e (S "get_opcodes") 533 (r 210),e (S "get_grouped_opcodes") 542 (r 218),e (S "ratio") 551 (r 225),e (S "quick_ratio") 558 (r 232),e (S "real_quick_ratio") 565 (r 239),e (S "__static_attributes__") 576 (r 240)] 17 #[]
noncomputable def o149:Obj:=oT []
noncomputable def o150:Obj:=oN [(.int 145 0),(.int 4 0),(r 159),(.int 173 0),(.int 4 0),(r 166),(.int 184 0),(.int 4 0),(r 173),(.int 209 0),(.int 4 0),(r 180),(.int 236 0),(.int 4 0),(r 187),(.int 260 0),(.int 4 0),(r 195),(.int 335 0),(.int 4 0),(r 202),(.int 383 0),(.int 4 0),(r 209),(.int 430 0),(.int 4 0),(r 217),(.int 433 0),(.int 4 0),(r 224),(.int 457 0),(.int 4 0),(r 231),(.int 460 0),(.int 4 0),(r 238)]
noncomputable def o151:Obj:=kO S "SequenceMatcher" "SequenceMatcher" [391,392,393,395] [70,0,0,0,0,181,394,70] [(r 149),(.bool false),(r 150),.none,.none,.none,.none]
noncomputable def o152:Obj:=⟨(.type "frame"),none,.plain,#[(some (r 151)),(some (r 3)),(some (r 148)),none,(some (.str (S "cpy313.difflib") 194)),none,(some (r 0))]⟩
noncomputable def o153:Obj:=oT [.none,(.str (S "") 404),(.str (S "") 405),(.bool true)]
noncomputable def o154:Obj:=oT []
noncomputable def o155:Obj:=oN []
noncomputable def o156:Obj:=oT [(.str (S "self") 409),(.str (S "isjunk") 410),(.str (S "a") 411),(.str (S "b") 412),(.str (S "autojunk") 413)]
noncomputable def o157:Obj:=oT []
noncomputable def o158:Obj:=fN (fM q 5 1) (S "SequenceMatcher.__init__")
noncomputable def o159:Obj:=kF S "__init__" "SequenceMatcher.__init__" [406,407,408,415] [145,5,0,0,3,181,414,145] 154 true 155 156 157 158
noncomputable def o160:Obj:=fF (fM q 5 1) (S "SequenceMatcher.__init__") (r 153) (some 416) (.str (S "cpy313.difflib") 194) 159
noncomputable def o161:Obj:=oT []
noncomputable def o162:Obj:=oN []
noncomputable def o163:Obj:=oT [(.str (S "self") 421),(.str (S "a") 422),(.str (S "b") 423)]
noncomputable def o164:Obj:=oT []
noncomputable def o165:Obj:=fN (fM q 5 2) (S "SequenceMatcher.set_seqs")
noncomputable def o166:Obj:=kF S "set_seqs" "SequenceMatcher.set_seqs" [418,419,420,425] [173,3,0,0,3,181,424,173] 161 true 162 163 164 165
noncomputable def o167:Obj:=fF (fM q 5 2) (S "SequenceMatcher.set_seqs") .none (some 426) (.str (S "cpy313.difflib") 194) 166
noncomputable def o168:Obj:=oT []
noncomputable def o169:Obj:=oN []
noncomputable def o170:Obj:=oT [(.str (S "self") 431),(.str (S "a") 432)]
noncomputable def o171:Obj:=oT []
noncomputable def o172:Obj:=fN (fM q 5 3) (S "SequenceMatcher.set_seq1")
noncomputable def o173:Obj:=kF S "set_seq1" "SequenceMatcher.set_seq1" [428,429,430,434] [184,2,0,0,3,181,433,184] 168 true 169 170 171 172
noncomputable def o174:Obj:=fF (fM q 5 3) (S "SequenceMatcher.set_seq1") .none (some 435) (.str (S "cpy313.difflib") 194) 173
noncomputable def o175:Obj:=oT []
noncomputable def o176:Obj:=oN []
noncomputable def o177:Obj:=oT [(.str (S "self") 440),(.str (S "b") 441)]
noncomputable def o178:Obj:=oT []
noncomputable def o179:Obj:=fN (fM q 5 4) (S "SequenceMatcher.set_seq2")
noncomputable def o180:Obj:=kF S "set_seq2" "SequenceMatcher.set_seq2" [437,438,439,443] [209,2,0,0,3,181,442,209] 175 true 176 177 178 179
noncomputable def o181:Obj:=fF (fM q 5 4) (S "SequenceMatcher.set_seq2") .none (some 444) (.str (S "cpy313.difflib") 194) 180
noncomputable def o182:Obj:=oT []
noncomputable def o183:Obj:=oN []
noncomputable def o184:Obj:=oT [(.str (S "self") 449),(.str (S "b") 450),(.str (S "b2j") 451),(.str (S "i") 452),(.str (S "elt") 453),(.str (S "indices") 454),(.str (S "junk") 455),(.str (S "isjunk") 456),(.str (S "popular") 457),(.str (S "n") 458),(.str (S "ntest") 459),(.str (S "idxs") 460)]
noncomputable def o185:Obj:=oT []
noncomputable def o186:Obj:=fN (fM q 5 5) (S "SequenceMatcher.__chain_b")
noncomputable def o187:Obj:=kF S "__chain_b" "SequenceMatcher.__chain_b" [446,447,448,462] [236,1,0,0,3,181,461,236] 182 true 183 184 185 186
noncomputable def o188:Obj:=fF (fM q 5 5) (S "SequenceMatcher.__chain_b") .none none (.str (S "cpy313.difflib") 194) 187
noncomputable def o189:Obj:=oT [(.int 0 464),.none,(.int 0 465),.none]
noncomputable def o190:Obj:=oT []
noncomputable def o191:Obj:=oN []
noncomputable def o192:Obj:=oT [(.str (S "self") 469),(.str (S "alo") 470),(.str (S "ahi") 471),(.str (S "blo") 472),(.str (S "bhi") 473),(.str (S "a") 474),(.str (S "b") 475),(.str (S "b2j") 476),(.str (S "isbjunk") 477),(.str (S "besti") 478),(.str (S "bestj") 479),(.str (S "bestsize") 480),(.str (S "j2len") 481),(.str (S "nothing") 482),(.str (S "i") 483),(.str (S "j2lenget") 484),(.str (S "newj2len") 485),(.str (S "j") 486),(.str (S "k") 487)]
noncomputable def o193:Obj:=oT []
noncomputable def o194:Obj:=fN (fM q 5 6) (S "SequenceMatcher.find_longest_match")
noncomputable def o195:Obj:=kF S "find_longest_match" "SequenceMatcher.find_longest_match" [466,467,468,489] [260,5,0,0,3,181,488,260] 190 true 191 192 193 194
noncomputable def o196:Obj:=fF (fM q 5 6) (S "SequenceMatcher.find_longest_match") (r 189) (some 490) (.str (S "cpy313.difflib") 194) 195
noncomputable def o197:Obj:=oT []
noncomputable def o198:Obj:=oN []
noncomputable def o199:Obj:=oT [(.str (S "self") 495),(.str (S "la") 496),(.str (S "lb") 497),(.str (S "queue") 498),(.str (S "matching_blocks") 499),(.str (S "alo") 500),(.str (S "ahi") 501),(.str (S "blo") 502),(.str (S "bhi") 503),(.str (S "i") 504),(.str (S "j") 505),(.str (S "k") 506),(.str (S "x") 507),(.str (S "i1") 508),(.str (S "j1") 509),(.str (S "k1") 510),(.str (S "non_adjacent") 511),(.str (S "i2") 512),(.str (S "j2") 513),(.str (S "k2") 514)]
noncomputable def o200:Obj:=oT []
noncomputable def o201:Obj:=fN (fM q 5 7) (S "SequenceMatcher.get_matching_blocks")
noncomputable def o202:Obj:=kF S "get_matching_blocks" "SequenceMatcher.get_matching_blocks" [492,493,494,516] [335,1,0,0,3,181,515,335] 197 true 198 199 200 201
noncomputable def o203:Obj:=fF (fM q 5 7) (S "SequenceMatcher.get_matching_blocks") .none (some 517) (.str (S "cpy313.difflib") 194) 202
noncomputable def o204:Obj:=oT []
noncomputable def o205:Obj:=oN []
noncomputable def o206:Obj:=oT [(.str (S "self") 522),(.str (S "i") 523),(.str (S "j") 524),(.str (S "answer") 525),(.str (S "ai") 526),(.str (S "bj") 527),(.str (S "size") 528),(.str (S "tag") 529)]
noncomputable def o207:Obj:=oT []
noncomputable def o208:Obj:=fN (fM q 5 8) (S "SequenceMatcher.get_opcodes")
noncomputable def o209:Obj:=kF S "get_opcodes" "SequenceMatcher.get_opcodes" [519,520,521,531] [383,1,0,0,3,181,530,383] 204 true 205 206 207 208
noncomputable def o210:Obj:=fF (fM q 5 8) (S "SequenceMatcher.get_opcodes") .none (some 532) (.str (S "cpy313.difflib") 194) 209
noncomputable def o211:Obj:=oT [(.int 3 534)]
noncomputable def o212:Obj:=oT []
noncomputable def o213:Obj:=oN []
noncomputable def o214:Obj:=oT [(.str (S "self") 538),(.str (S "n") 539)]
noncomputable def o215:Obj:=oT []
noncomputable def o216:Obj:=fN (fM q 5 9) (S "SequenceMatcher.get_grouped_opcodes")
noncomputable def o217:Obj:=kF S "get_grouped_opcodes" "SequenceMatcher.get_grouped_opcodes" [535,536,537,541] [430,2,0,0,3,181,540,430] 212 true 213 214 215 216
noncomputable def o218:Obj:=fF (fM q 5 9) (S "SequenceMatcher.get_grouped_opcodes") (r 211) none (.str (S "cpy313.difflib") 194) 217
noncomputable def o219:Obj:=oT []
noncomputable def o220:Obj:=oN []
noncomputable def o221:Obj:=oT [(.str (S "self") 546),(.str (S "matches") 547)]
noncomputable def o222:Obj:=oT []
noncomputable def o223:Obj:=fN (fM q 5 10) (S "SequenceMatcher.ratio")
noncomputable def o224:Obj:=kF S "ratio" "SequenceMatcher.ratio" [543,544,545,549] [433,1,0,0,3,181,548,433] 219 true 220 221 222 223
noncomputable def o225:Obj:=fF (fM q 5 10) (S "SequenceMatcher.ratio") .none (some 550) (.str (S "cpy313.difflib") 194) 224
noncomputable def o226:Obj:=oT []
noncomputable def o227:Obj:=oN []
noncomputable def o228:Obj:=oT [(.str (S "self") 555)]
noncomputable def o229:Obj:=oT []
noncomputable def o230:Obj:=fN (fM q 5 11) (S "SequenceMatcher.quick_ratio")
noncomputable def o231:Obj:=kF S "quick_ratio" "SequenceMatcher.quick_ratio" [552,553,554,557] [457,1,0,0,3,181,556,457] 226 true 227 228 229 230
noncomputable def o232:Obj:=fF (fM q 5 11) (S "SequenceMatcher.quick_ratio") .none none (.str (S "cpy313.difflib") 194) 231
noncomputable def o233:Obj:=oT []
noncomputable def o234:Obj:=oN []
noncomputable def o235:Obj:=oT [(.str (S "self") 562)]
noncomputable def o236:Obj:=oT []
noncomputable def o237:Obj:=fN (fM q 5 12) (S "SequenceMatcher.real_quick_ratio")
noncomputable def o238:Obj:=kF S "real_quick_ratio" "SequenceMatcher.real_quick_ratio" [559,560,561,564] [460,1,0,0,3,181,563,460] 233 true 234 235 236 237
noncomputable def o239:Obj:=fF (fM q 5 12) (S "SequenceMatcher.real_quick_ratio") .none none (.str (S "cpy313.difflib") 194) 238
noncomputable def o240:Obj:=oT [(.str (S "a") 566),(.str (S "autojunk") 567),(.str (S "b") 568),(.str (S "b2j") 569),(.str (S "bjunk") 570),(.str (S "bpopular") 571),(.str (S "fullbcount") 572),(.str (S "isjunk") 573),(.str (S "matching_blocks") 574),(.str (S "opcodes") 575)]
noncomputable def o241:Obj:=dO P (.type "dict") none [e (S "__module__") 396 (.str (S "cpy313.difflib") 194),e (S "__firstlineno__") 400 (.int 70 399),e (S "__doc__") 402 (.str D 401),e (S "__init__") 417 (r 160),e (S "set_seqs") 427 (r 167),e (S "set_seq1") 436 (r 174),e (S "set_seq2") 445 (r 181),e (S "_SequenceMatcher__chain_b") 463 (r 188),e (S "find_longest_match") 491 (r 196),e (S "get_matching_blocks") 518 (r 203),e (S "get_opcodes") 533 (r 210),e (S "get_grouped_opcodes") 542 (r 218),e (S "ratio") 551 (r 225),e (S "quick_ratio") 558 (r 232),e (S "real_quick_ratio") 565 (r 239),e (S "__static_attributes__") 576 (r 240),e (S "__dict__") 578 (r 243),e (S "__weakref__") 580 (r 244)] 3 #[]
noncomputable def o242:Obj:=⟨(.type "type"),none,(.cls ⟨(S "SequenceMatcher"),[(.type "object")],[(r 242),(.type "object")],241,(S "SequenceMatcher"),true,[],[],false,none,false⟩),#[none,none,(some (.str (S "SequenceMatcher") 389)),(some (.str (S "SequenceMatcher") 397)),(some (.builtin "object.__new__")),(some (.bool true))]⟩
noncomputable def o243:Obj:=⟨(.type "getset_descriptor"),none,(.fields #[(.str (S "__dict__") 577),(r 242),(.builtin "function.__dict__"),(.builtin "function.__dict__#set")]),#[]⟩
noncomputable def o244:Obj:=⟨(.type "getset_descriptor"),none,(.fields #[(.str (S "__weakref__") 579),(r 242),(.builtin "ExceptionGroup.__weakref__"),.none]),#[]⟩
noncomputable def o245:Obj:=⟨(.type "super"),none,(.fields #[(r 242),(r 242),(r 242)]),#[]⟩
noncomputable def o246:Obj:=⟨(.type "builtin_function_or_method"),none,(.fields #[(.builtin "object.__init_subclass__"),(r 242)]),#[]⟩
noncomputable def o247:Obj:=oT []
noncomputable def o248:Obj:=oN []
noncomputable def o249:Obj:=fN (fT q 7) (S "_law_text")
noncomputable def o250:Obj:=kO S "_law_text" "_law_text" [585,586,587,589] [463,2,0,0,3,181,588,463] [(r 247),(.bool true),(r 248),.none,.none,.none,(r 249)]
noncomputable def o251:Obj:=fF (fT q 7) (S "_law_text") .none none (.str (S "law_mt0012_02") 583) 250
noncomputable def o252:Obj:=oT []
noncomputable def o253:Obj:=oN []
noncomputable def o254:Obj:=oT [(.str (S "text") 594),(.str (S "best") 595),(.str (S "here") 596),(.str (S "line") 597)]
noncomputable def o255:Obj:=oT []
noncomputable def o256:Obj:=fN (fT q 8) (S "_law_longest")
noncomputable def o257:Obj:=kF S "_law_longest" "_law_longest" [591,592,593,599] [470,1,0,0,3,181,598,470] 252 true 253 254 255 256
noncomputable def o258:Obj:=fF (fT q 8) (S "_law_longest") .none none (.str (S "law_mt0012_02") 583) 257
noncomputable def o259:Obj:=oT []
noncomputable def o260:Obj:=oN []
noncomputable def o261:Obj:=fN (fT q 9) (S "_law_read")
noncomputable def o262:Obj:=kO S "_law_read" "_law_read" [601,602,603,605] [476,5,0,0,3,181,604,476] [(r 259),(.bool true),(r 260),.none,.none,.none,(r 261)]
noncomputable def o263:Obj:=fF (fT q 9) (S "_law_read") .none none (.str (S "law_mt0012_02") 583) 262
noncomputable def o264:Obj:=oT []
noncomputable def o265:Obj:=oN []
noncomputable def o266:Obj:=fN (fT q 10) (S "law")
noncomputable def o267:Obj:=kO S "law" "law" [607,608,609,611] [498,1,0,0,3,181,610,498] [(r 264),(.bool true),(r 265),.none,.none,.none,(r 266)]
noncomputable def o268:Obj:=fF (fT q 10) (S "law") .none none (.str (S "law_mt0012_02") 583) 267
noncomputable def ol0:List Obj:=[boot_o_0 P,boot_o_1 P,boot_o_2 P,o3 S P,boot_o_4 P,boot_o_5 P,boot_o_6 P,boot_o_7 P,boot_o_8 P,boot_o_9 P,boot_o_10 P,o11,o12,o13 S,o14 S,o15,o16,o17 S,o18,o19 S q,o20 S,o21 S q,o22,o23,o24 S P,o25,o26,o27 S,o28 S,o29,o30,o31 S,o32,o33 S q,o34 S,o35 S q,o36,o37,o38,o39 S]
noncomputable def ol1:List Obj:=[o40,o41 S q,o42 S,o43 S q,o44,o45,o46 S,o47,o48 S q,o49 S,o50 S q,o51,o52,o53 S,o54,o55 S q,o56 S,o57 S q,o58 S,o59 S P,o60 S,o61 S,o62 S,o63,o64,o65,o66,o67 S P,o68,o69,o70,o71 S,o72 S,o73,o74 S,o75 P,o76,o77,o78 S,o79]
noncomputable def ol2:List Obj:=[o80 S q,o81 S,o82 S q,o83,o84,o85 S,o86,o87 S q,o88 S,o89 S q,o90 S P,o91,o92 P,o93,o94 S,o95,o96 S,o97,o98 S q,o99 S,o100 S q,o101,o102,o103 S,o104,o105 S q,o106 S,o107 S q,o108,o109,o110 S,o111,o112 S q,o113 S,o114 S q,o115,o116,o117 S,o118,o119 S q]
noncomputable def ol3:List Obj:=[o120 S,o121 S q,o122 S,o123 S P,o124,o125 S P,o126 S P,o127,o128 S P,o129 S P,o130,o131 S P,o132,o133,o134 S P,o135 S,o136,o137,o138,o139,o140,o141 S,o142,o143 S q,o144 S,o145 S q,o146,o147,o148 S D P,o149,o150,o151 S,o152 S,o153 S,o154,o155,o156 S,o157,o158 S q,o159 S]
noncomputable def ol4:List Obj:=[o160 S q,o161,o162,o163 S,o164,o165 S q,o166 S,o167 S q,o168,o169,o170 S,o171,o172 S q,o173 S,o174 S q,o175,o176,o177 S,o178,o179 S q,o180 S,o181 S q,o182,o183,o184 S,o185,o186 S q,o187 S,o188 S q,o189,o190,o191,o192 S,o193,o194 S q,o195 S,o196 S q,o197,o198,o199 S]
noncomputable def ol5:List Obj:=[o200,o201 S q,o202 S,o203 S q,o204,o205,o206 S,o207,o208 S q,o209 S,o210 S q,o211,o212,o213,o214 S,o215,o216 S q,o217 S,o218 S q,o219,o220,o221 S,o222,o223 S q,o224 S,o225 S q,o226,o227,o228 S,o229,o230 S q,o231 S,o232 S q,o233,o234,o235 S,o236,o237 S q,o238 S,o239 S q]
noncomputable def ol6:List Obj:=[o240 S,o241 S D P,o242 S,o243 S,o244 S,o245,o246,o247,o248,o249 S q,o250 S,o251 S q,o252,o253,o254 S,o255,o256 S q,o257 S,o258 S q,o259,o260,o261 S q,o262 S,o263 S q,o264,o265,o266 S q,o267 S,o268 S q]
noncomputable def objsF:List Obj:=ol0 S q P ++ (ol1 S q P ++ (ol2 S q P ++ (ol3 S q D P ++ (ol4 S q ++ (ol5 S q ++ (ol6 S q D P))))))
end
noncomputable def halve:List Obj → List Obj × List Obj
 | []=>([],[])
 | a :: l=>(a :: (halve l).2,(halve l).1)
noncomputable def treeOf:Nat → List Obj → BT
 | 0,_=>.nil
 | _ + 1,[]=>.nil
 | n + 1,a :: l=>.node a (treeOf n (halve l).1) (treeOf n (halve l).2)
noncomputable def envO (p:Program):Env:={ scope:=p.main.scope,locals:=mainNs,globals:=mainNs,cells:=[],code:=.ref 13,frame:=some 14 }
noncomputable def posK:Pos:=⟨498,0,529,15⟩
end
section
theorem segG {S:StrT} {D:PySem.Str} {q r:Program} (hS:S = strF) (hD:D = docF) (hq:q = setDoc docF (pwP strF)) (hr:r = pwP strF) (p:Program) (b:List Stmt) (w:World) (os:OsState) :
  segRunT treeTable p w 11 (some (.ref 6)) 1 2217 ⟨tree0 S w.params,15,{},⟨[]⟩,{},187,os⟩ (piecesOf q.main.body (envO q) (.body b (envO q)) ⟨0,0,0,0⟩ [topFrame ⟨0,0,0,0⟩])
   = some (.next,⟨treeOf 10 (objsF S r D w.params),269,{},⟨[]⟩,{},613,os⟩,.body b (envO q),posK):=by
 subst hS hD hq hr
 rw [tbl_eq,PySem.W.Fast.te10110043849684766642]
 kernel_rfl
end
section
noncomputable abbrev sO:StrT:=Str.ofString
noncomputable def qv:Program:={ pw with main:={ pw.main with body:=match pw.main.body with
 | [a0,_,a2,a3,a4,a5,_,a7,a8,a9,a10]=>[a0,a2,a3,a4,a5,a7,a8,a9,a10]
 | _=>[] } }
noncomputable def looseN:List PySem.Str:=["_tuplegetter", "Match", "SequenceMatcher"]
noncomputable def heapB (P:Params):Heap:=heap0 Str.ofString P
noncomputable def heapF (P:Params):Heap:=⟨⟨objsF Str.ofString pw docR P⟩,{}⟩
noncomputable def annV:Option Value:=some (.ref 6)
noncomputable abbrev codeB:Code:=.body (behindTheImports pw) (envO pw)
noncomputable def pos0:Pos:=⟨0,0,0,0⟩
theorem openB (N:Nat) (hN:Nat.ble 600 N = true):∀ w:World,(fencedOpening treeTable pw w N).map (fun s=>(s.heap,s.gens,s.drawn,s.toks)) = some (boot_heap w.params,Array.mk [],boot_drawn,boot_toks) :=
 boot_open (by kernel_rfl) hN (fun s=>by kernel_rfl)
theorem sizeB:∀ w:World,((boot_heap w.params).isNs mainGlobals && (Array.mk []:Array GenState).size == 0,(boot_heap w.params).objs.size,(boot_heap w.params).nsMap mainGlobals "__annotations__") = (true,11,annV):=by
 intro w
 kernel_rfl
theorem preB (w:World) (os:OsState):topGo treeTable pw w 11 annV 12 ⟨boot_heap w.params,⟨[]⟩,boot_drawn,boot_toks,os⟩ (topStub pw)
  = some (⟨heapB w.params,⟨[]⟩,{},187,os⟩,⟨denote treeTable codeB,codeB,pos0,[topFrame pos0]⟩):=by
 kernel_rfl
theorem blockB (w:World) (os:OsState):segRun treeTable pw w 11 annV 1 1 ⟨heapB w.params,⟨[]⟩,{},187,os⟩ (blockOf (behindTheImports pw) (envO pw) codeB pos0 [topFrame pos0])
  = some (.next,(⟨tree0 Str.ofString w.params,15,{},⟨[]⟩,{},187,os⟩:SharedT).abs,codeB,pos0):=by
 kernel_rfl
theorem body_eq:behindTheImports pw = pw.main.body ++ []:=by kernel_rfl
theorem finB (w:World) (os:OsState):topRun treeTable pw w 11 annV 2 (⟨treeOf 10 (objsF Str.ofString pw docR w.params),269,{},⟨[]⟩,{},613,os⟩:SharedT).abs ⟨doneF .next,codeB,posK,[topFrame pos0]⟩
  = some ⟨heapF w.params,⟨[]⟩,{},613,os⟩:=by
 kernel_rfl
noncomputable abbrev stepsAll:Nat:=12 + (1 + (2217 + 2))
theorem runB (w:World) (os:OsState):topRun treeTable pw w 11 annV stepsAll ⟨boot_heap w.params,⟨[]⟩,boot_drawn,boot_toks,os⟩ (topStub pw)
  = some ⟨heapF w.params,⟨[]⟩,{},613,os⟩:=by
 refine go_top (preB w os) (piece_block (q:=pos0) (blockB w os) ?_)
 have e:restOf (behindTheImports pw) (envO pw) codeB pos0 [topFrame pos0] = restOf (pw.main.body ++ []) (envO pw) codeB pos0 [topFrame pos0]:=congrArg (fun b=>restOf b (envO pw) codeB pos0 [topFrame pos0]) body_eq
 rw [e]
 exact piece_app (q:=pos0) (segRun_of (segG strF_eq docR_eq pwG_eq pwG_strF _ _ w os)) (piece_nil (finB w os))
noncomputable abbrev fo3 (P:Params):Obj:=o3 Str.ofString P
noncomputable abbrev fo21 (P:Params):Obj:=o21 Str.ofString pw
noncomputable abbrev fo35 (P:Params):Obj:=o35 Str.ofString pw
noncomputable abbrev fo43 (P:Params):Obj:=o43 Str.ofString pw
noncomputable abbrev fo50 (P:Params):Obj:=o50 Str.ofString pw
noncomputable abbrev fo57 (P:Params):Obj:=o57 Str.ofString pw
noncomputable abbrev fo60 (P:Params):Obj:=o60 Str.ofString
noncomputable abbrev fo82 (P:Params):Obj:=o82 Str.ofString pw
noncomputable abbrev fo89 (P:Params):Obj:=o89 Str.ofString pw
noncomputable abbrev fo91 (P:Params):Obj:=o91
noncomputable abbrev fo100 (P:Params):Obj:=o100 Str.ofString pw
noncomputable abbrev fo107 (P:Params):Obj:=o107 Str.ofString pw
noncomputable abbrev fo114 (P:Params):Obj:=o114 Str.ofString pw
noncomputable abbrev fo121 (P:Params):Obj:=o121 Str.ofString pw
noncomputable abbrev fo135 (P:Params):Obj:=o135 Str.ofString
noncomputable abbrev fo136 (P:Params):Obj:=o136
noncomputable abbrev fo145 (P:Params):Obj:=o145 Str.ofString pw
noncomputable abbrev fo160 (P:Params):Obj:=o160 Str.ofString pw
noncomputable abbrev fo167 (P:Params):Obj:=o167 Str.ofString pw
noncomputable abbrev fo174 (P:Params):Obj:=o174 Str.ofString pw
noncomputable abbrev fo181 (P:Params):Obj:=o181 Str.ofString pw
noncomputable abbrev fo188 (P:Params):Obj:=o188 Str.ofString pw
noncomputable abbrev fo196 (P:Params):Obj:=o196 Str.ofString pw
noncomputable abbrev fo203 (P:Params):Obj:=o203 Str.ofString pw
noncomputable abbrev fo210 (P:Params):Obj:=o210 Str.ofString pw
noncomputable abbrev fo218 (P:Params):Obj:=o218 Str.ofString pw
noncomputable abbrev fo225 (P:Params):Obj:=o225 Str.ofString pw
noncomputable abbrev fo232 (P:Params):Obj:=o232 Str.ofString pw
noncomputable abbrev fo239 (P:Params):Obj:=o239 Str.ofString pw
noncomputable abbrev fo242 (P:Params):Obj:=o242 Str.ofString
noncomputable abbrev fo251 (P:Params):Obj:=o251 Str.ofString pw
noncomputable abbrev fo258 (P:Params):Obj:=o258 Str.ofString pw
noncomputable abbrev fo263 (P:Params):Obj:=o263 Str.ofString pw
noncomputable abbrev fo268 (P:Params):Obj:=o268 Str.ofString pw
noncomputable def frag (P:Params):Frag:=[(0,boot_o_0 P),(2,boot_o_2 P),(3,fo3 P),(11,o11),(12,o12),(13,o13 sO),(14,o14 sO),(15,o15),(16,o16),(17,o17 sO),(18,o18),(19,o19 sO pw),(20,o20 sO),(21,fo21 P),(22,o22),(23,o23),(24,o24 sO P),(25,o25),(26,o26),(27,o27 sO),(28,o28 sO),(29,o29),(30,o30),(31,o31 sO),(32,o32),(33,o33 sO pw),(34,o34 sO),(35,fo35 P),(36,o36),(37,o37),(38,o38),(39,o39 sO),(40,o40),(41,o41 sO pw),(42,o42 sO),(43,fo43 P),(44,o44),(45,o45),(46,o46 sO),(47,o47),(48,o48 sO pw),(49,o49 sO),(50,fo50 P),(51,o51),(52,o52),(53,o53 sO),(54,o54),(55,o55 sO pw),(56,o56 sO),(57,fo57 P),(58,o58 sO),(59,o59 sO P),(60,fo60 P),(61,o61 sO),(62,o62 sO),(63,o63),(64,o64),(65,o65),(66,o66),(67,o67 sO P),(68,o68),(69,o69),(70,o70),(71,o71 sO),(72,o72 sO),(73,o73),(74,o74 sO),(75,o75 P),(76,o76),(77,o77),(78,o78 sO),(79,o79),(80,o80 sO pw),(81,o81 sO),(82,fo82 P),(83,o83),(84,o84),(85,o85 sO),(86,o86),(87,o87 sO pw),(88,o88 sO),(89,fo89 P),(90,o90 sO P),(91,fo91 P),(92,o92 P),(93,o93),(94,o94 sO),(95,o95),(96,o96 sO),(97,o97),(98,o98 sO pw),(99,o99 sO),(100,fo100 P),(101,o101),(102,o102),(103,o103 sO),(104,o104),(105,o105 sO pw),(106,o106 sO),(107,fo107 P),(108,o108),(109,o109),(110,o110 sO),(111,o111),(112,o112 sO pw),(113,o113 sO),(114,fo114 P),(115,o115),(116,o116),(117,o117 sO),(118,o118),(119,o119 sO pw),(120,o120 sO),(121,fo121 P),(122,o122 sO),(123,o123 sO P),(124,o124),(125,o125 sO P),(126,o126 sO P),(127,o127),(128,o128 sO P),(129,o129 sO P),(130,o130),(131,o131 sO P),(132,o132),(133,o133),(134,o134 sO P),(135,fo135 P),(136,fo136 P),(137,o137),(138,o138),(139,o139),(140,o140),(141,o141 sO),(142,o142),(143,o143 sO pw),(144,o144 sO),(145,fo145 P),(146,o146),(147,o147),(148,o148 sO docR P),(149,o149),(150,o150),(151,o151 sO),(152,o152 sO),(153,o153 sO),(154,o154),(155,o155),(156,o156 sO),(157,o157),(158,o158 sO pw),(159,o159 sO),(160,fo160 P),(161,o161),(162,o162),(163,o163 sO),(164,o164),(165,o165 sO pw),(166,o166 sO),(167,fo167 P),(168,o168),(169,o169),(170,o170 sO),(171,o171),(172,o172 sO pw),(173,o173 sO),(174,fo174 P),(175,o175),(176,o176),(177,o177 sO),(178,o178),(179,o179 sO pw),(180,o180 sO),(181,fo181 P),(182,o182),(183,o183),(184,o184 sO),(185,o185),(186,o186 sO pw),(187,o187 sO),(188,fo188 P),(189,o189),(190,o190),(191,o191),(192,o192 sO),(193,o193),(194,o194 sO pw),(195,o195 sO),(196,fo196 P),(197,o197),(198,o198),(199,o199 sO),(200,o200),(201,o201 sO pw),(202,o202 sO),(203,fo203 P),(204,o204),(205,o205),(206,o206 sO),(207,o207),(208,o208 sO pw),(209,o209 sO),(210,fo210 P),(211,o211),(212,o212),(213,o213),(214,o214 sO),(215,o215),(216,o216 sO pw),(217,o217 sO),(218,fo218 P),(219,o219),(220,o220),(221,o221 sO),(222,o222),(223,o223 sO pw),(224,o224 sO),(225,fo225 P),(226,o226),(227,o227),(228,o228 sO),(229,o229),(230,o230 sO pw),(231,o231 sO),(232,fo232 P),(233,o233),(234,o234),(235,o235 sO),(236,o236),(237,o237 sO pw),(238,o238 sO),(239,fo239 P),(240,o240 sO),(241,o241 sO docR P),(242,fo242 P),(243,o243 sO),(244,o244 sO),(245,o245),(246,o246),(247,o247),(248,o248),(249,o249 sO pw),(250,o250 sO),(251,fo251 P),(252,o252),(253,o253),(254,o254 sO),(255,o255),(256,o256 sO pw),(257,o257 sO),(258,fo258 P),(259,o259),(260,o260),(261,o261 sO pw),(262,o262 sO),(263,fo263 P),(264,o264),(265,o265),(266,o266 sO pw),(267,o267 sO),(268,fo268 P)]
noncomputable def fragAs:List Addr:=0 :: 2 :: 3 :: (List.range 258).map (· + 11)
noncomputable def hookF:Hook:=kHook frag fragAs (fun _=>by kernel_rfl)
noncomputable abbrev xtF:Shared → Bool:=fun s=>xlAt qv [] s && recOk [] s
theorem look1 (w:World) (os:OsState):(staticsOk (importedModules pw.main.body) (boot_heap w.params) (heapF w.params) && namesBound pw (heapF w.params) && gensDone ⟨heapF w.params,⟨[]⟩,{},613,os⟩ && laidKept (boot_heap w.params) (heapF w.params)) = true:=by
 kernel_rfl
noncomputable abbrev endS (w:World) (os:OsState):Shared:=⟨heapF w.params,⟨[]⟩,{},613,os⟩
theorem look2 (w:World) (os:OsState):seen ((recsOf qv).map (·.name)) (ownsOf qv) [] { endS w os with gens:=#[] } = expectedOf qv:=by kernel_rfl
theorem look3 (w:World) (os:OsState):(endS w os).heap.bltView = bltViewBooted:=by kernel_rfl
theorem look4 (w:World) (os:OsState):((endS w os).heap.keysOk (looseW qv looseN) ((recsOf qv).map (·.name)) ((litsOf qv).map (·.1)) ((clssOf qv (looseW qv looseN)).map (·.name)) && (endS w os).heap.accountedOkI (importedModules pw.main.body) && (endS w os).heap.isNs mainGlobals && (endS w os).heap.isNs builtinsNs && tablesOk qv (endS w os).heap && xtF (endS w os) && (if true then (endS w os).gens.size == 0 else !leftWithCleanup (endS w os).gens)) = true:=by kernel_rfl
theorem look5 (w:World) (os:OsState):tabsOk qv (endS w os) = true:=by kernel_rfl
theorem look6 (w:World) (os:OsState):pinSeenD qv (drecsOf qv) (endS w os) = pinGoodD (drecsOf qv):=by kernel_rfl
theorem look7 (w:World) (os:OsState):plainSeenE qv (looseW qv looseN) (endS w os) = plainGoodE qv (looseW qv looseN):=by kernel_rfl
theorem look8 (w:World) (os:OsState):plainSeenD qv looseN (endS w os) = plainGoodD qv looseN:=by kernel_rfl
theorem look9 (w:World) (os:OsState):wideSeen qv (endS w os) = wideGood qv:=by kernel_rfl
theorem look10 (w:World) (os:OsState):clsSeenW qv looseN (endS w os) = clsGoodW qv looseN:=by kernel_rfl
theorem look11 (w:World) (os:OsState):hookF.obs (endS w os) = hookF.val w:=by kernel_rfl
theorem leftF:LeftO pw qv looseN xtF hookF.obs hookF.val 4690 true :=
 LeftO.of_pieces (openB 4690 (by decide)) sizeB runB (by decide) (fun w=>by
  funext os
  refine looks_pair (look1 w os) (looks_pair ?_ (look11 w os))
  exact looks_pair (look2 w os) (looks_pair (look3 w os) (looks_pair (look4 w os) (looks_pair (look5 w os) (looks_pair (look6 w os) (looks_pair (look7 w os) (looks_pair (look8 w os) (looks_pair (look9 w os) (look10 w os)))))))))
end
section
noncomputable abbrev PH:=Addr → Option Obj
noncomputable def PH.le (V V':PH):Prop:=∀ a o,V a = some o → V' a = some o
theorem PH.le.refl (V:PH):V.le V:=fun _ _ e=>e
theorem PH.le.trans {V V' V'':PH} (x:V.le V') (y:V'.le V''):V.le V'':=fun a o e=>y a o (x a o e)
theorem meas_e {a c n:Nat} (h:c - a < n + 1):c ≤ a + n:=Nat.sub_le_iff_le_add'.mp (Nat.le_of_lt_succ h)
theorem meas_hi {n alo ahi bi k:Nat} (h:ahi - alo < n + 1) (h1:alo ≤ bi) (h2:¬k = 0) (h3:bi + k < ahi):ahi - (bi + k) < n :=
 Nat.sub_lt_left_of_lt_add (Nat.le_of_lt h3) (Nat.lt_of_le_of_lt (meas_e h) (Nat.add_lt_add_right (Nat.lt_of_le_of_lt h1 (Nat.lt_add_of_pos_right (Nat.pos_of_ne_zero h2))) n))
theorem meas_lo {n alo ahi bi k:Nat} (h:ahi - alo < n + 1) (h1:alo < bi) (h2:¬k = 0) (h3:bi + k ≤ ahi):bi - alo < n :=
 Nat.sub_lt_left_of_lt_add (Nat.le_of_lt h1) (Nat.lt_of_lt_of_le (Nat.lt_add_of_pos_right (Nat.pos_of_ne_zero h2)) (Nat.le_trans h3 (meas_e h)))
theorem one_le' {a i:Nat} (h:a ≤ i):0 + 1 ≤ i + 1 - a:=Nat.le_sub_of_add_le (by rw [Nat.zero_add,Nat.add_comm]; exact Nat.add_le_add_right h 1)
theorem suc_le' {R a i:Nat} (h:a ≤ i + 1) (h1:R ≤ i + 1 - a):R + 1 ≤ i + 1 + 1 - a:=Nat.le_sub_of_add_le (by rw [Nat.add_right_comm]; exact Nat.succ_le_succ (Nat.add_le_of_le_sub h h1))
theorem back_lo {c r a:Nat} (hr:0 < r) (h:r ≤ c + 1 - a):a ≤ c + 1 - r :=
 Nat.le_sub_of_add_le (by rw [Nat.add_comm]; exact Nat.add_le_of_le_sub (Nat.le_of_lt (Nat.lt_of_sub_pos (Nat.lt_of_lt_of_le hr h))) h)
theorem back_hi {c r a hi:Nat} (h:r ≤ c + 1 - a) (hc:c < hi):c + 1 - r + r ≤ hi:=by
 rw [Nat.sub_add_cancel (Nat.le_trans h (Nat.sub_le _ _))]; exact hc
theorem back_at {c r t:Nat} (h:r - 1 ≤ c) (ht:t < r):c - (r - 1 - t) = c + 1 - r + t:=by
 obtain ⟨d,rfl⟩:=Nat.exists_eq_add_of_lt ht
 obtain ⟨e,rfl⟩:=Nat.exists_eq_add_of_le (show t + d ≤ c from h)
 rw [show t + d + 1 - 1 - t = d from Nat.add_sub_cancel_left ..,Nat.add_sub_add_right,Nat.add_sub_cancel_left,Nat.add_right_comm,Nat.add_sub_cancel,Nat.add_comm]
theorem meas_two {alo ahi i k:Nat} (h1:alo ≤ i) (hk:¬k = 0) (h2:i + k ≤ ahi):(2 * (i - alo) + 1) + (2 * (ahi - (i + k)) + 1) ≤ 2 * (ahi - alo):=by
 obtain ⟨u,rfl⟩:=Nat.exists_eq_add_of_le h1
 obtain ⟨v,rfl⟩:=Nat.exists_eq_add_of_le h2
 have e:alo + u + k + v = alo + (u + k + v):=by rw [Nat.add_assoc,Nat.add_assoc,Nat.add_assoc u]
 rw [Nat.add_sub_cancel_left,Nat.add_sub_cancel_left,e,Nat.add_sub_cancel_left]
 clear h1 h2 e
 omega
theorem meas_join {q n a b c x y:Nat} (hn:n = q + (c + 1)) (hx:x ≤ a) (hy:y ≤ b) (h:a + b ≤ c):q + x + y < n:=by
 rw [hn,Nat.add_assoc]
 exact Nat.add_lt_add_left (Nat.lt_succ_of_le (Nat.le_trans (Nat.add_le_add hx hy) h)) q
theorem ite_le {c:Prop} [Decidable c] {x:Nat}:(if c then x else 0) ≤ x:=by split <;> simp
theorem back_cast {i r:Nat} (h:r ≤ i + 1):(i:Int) - r + 1 = ((i + 1 - r:Nat):Int):=by rw [Int.ofNat_sub h]; omega
theorem pred_cast {i:Nat} (h:0 < i):(i:Int) - 1 = ((i - 1:Nat):Int):=by rw [Int.ofNat_sub h]; rfl
theorem ex1 {α:Sort _} {p:α → Prop} {G:Prop} (h:∃ a,p a) (k:∀ a,p a → G):G:=h.elim k
theorem ex2 {α:Sort _} {β:α → Sort _} {p:∀ a,β a → Prop} {G:Prop} (h:∃ a b,p a b) (k:∀ a b,p a b → G):G:=h.elim fun a h=>h.elim (k a)
theorem ex3 {α:Sort _} {β:α → Sort _} {γ:∀ a,β a → Sort _} {p:∀ a b,γ a b → Prop} {G:Prop} (h:∃ a b c,p a b c) (k:∀ a b c,p a b c → G):G:=h.elim fun a h=>ex2 h (k a)
theorem ex4 {α:Sort _} {β:α → Sort _} {γ:∀ a,β a → Sort _} {δ:∀ a b,γ a b → Sort _} {p:∀ a b c,δ a b c → Prop} {G:Prop} (h:∃ a b c d,p a b c d) (k:∀ a b c d,p a b c d → G):G:=h.elim fun a h=>ex3 h (k a)
theorem ex5 {α:Sort _} {β:α → Sort _} {γ:∀ a,β a → Sort _} {δ:∀ a b,γ a b → Sort _} {ε:∀ a b c,δ a b c → Sort _} {p:∀ a b c d,ε a b c d → Prop} {G:Prop} (h:∃ a b c d e,p a b c d e) (k:∀ a b c d e,p a b c d e → G):G:=h.elim fun a h=>ex4 h (k a)
theorem len0 {α:Type}:∀ {l:List α},l.length = 0 → l = []
 | [],_=>rfl
theorem lenS {α:Type} {n:Nat}:∀ {l:List α},l.length = n + 1 → ∃ a r,l = a :: r ∧ r.length = n
 | a :: r,h=>⟨a,r,rfl,Nat.succ.inj h⟩
theorem len1 {α:Type} {l:List α} (h:l.length = 1):∃ a0,l = [a0]:=by
 obtain ⟨a,r,rfl,h'⟩:=lenS h
 exact ⟨a,by rw [len0 h']⟩
theorem len2 {α:Type} {l:List α} (h:l.length = 2):∃ a0 a1,l = [a0,a1]:=by
 obtain ⟨a,r,rfl,h'⟩:=lenS h
 obtain ⟨a1,rfl⟩:=len1 h'
 exact ⟨a,a1,rfl⟩
theorem len3 {α:Type} {l:List α} (h:l.length = 3):∃ a0 a1 a2,l = [a0,a1,a2]:=by
 obtain ⟨a,r,rfl,h'⟩:=lenS h
 obtain ⟨a1,a2,rfl⟩:=len2 h'
 exact ⟨a,a1,a2,rfl⟩
theorem len4 {α:Type} {l:List α} (h:l.length = 4):∃ a0 a1 a2 a3,l = [a0,a1,a2,a3]:=by
 obtain ⟨a,r,rfl,h'⟩:=lenS h
 obtain ⟨a1,a2,a3,rfl⟩:=len3 h'
 exact ⟨a,a1,a2,a3,rfl⟩
theorem len5 {α:Type} {l:List α} (h:l.length = 5):∃ a0 a1 a2 a3 a4,l = [a0,a1,a2,a3,a4]:=by
 obtain ⟨a,r,rfl,h'⟩:=lenS h
 obtain ⟨a1,a2,a3,a4,rfl⟩:=len4 h'
 exact ⟨a,a1,a2,a3,a4,rfl⟩
inductive AV where
 | none
 | bool (b:Bool)
 | int (i:Int)
 | str (x:PySem.Str)
 | tup (l:List AV)
 | lst (l:List AV)
 | rng (a b:Int)
 | ptr (a:Addr)
 | raw (P:PH → Value → Prop)
mutual
noncomputable def Rep (V:PH):AV → Value → Prop
 | .none,v=>v = .none
 | .bool b,v=>v = .bool b
 | .int i,v=>∃ t,v = .int i t
 | .str x,v=>∃ t,v = .str x t
 | .tup l,v=>∃ a vs n,v = .ref a ∧ V a = some { cls:=.type "tuple",data:=.seq vs n } ∧ RepL V l vs.toList
 | .lst l,v=>∃ a vs n,v = .ref a ∧ V a = some { cls:=.type "list",data:=.seq vs n } ∧ RepL V l vs.toList
 | .rng a b,v=>∃ r x y z,v = .ref r ∧ V r = some { cls:=.type "range",data:=.fields #[.int a x,.int b y,.int 1 z] }
 | .ptr a,v=>v = .ref a
 | .raw P,v=>∀ V',V.le V' → P V' v
noncomputable def RepL (V:PH):List AV → List Value → Prop
 | [],vs=>vs = []
 | d :: ds,vs=>∃ v vs',vs = v :: vs' ∧ Rep V d v ∧ RepL V ds vs'
end
mutual
theorem Rep.mono {V V':PH} (k:V.le V'):∀ (d:AV) (v:Value),Rep V d v → Rep V' d v
 | .none,_,h=>by simpa only [Rep] using h
 | .bool _,_,h=>by simpa only [Rep] using h
 | .int _,_,h=>by simpa only [Rep] using h
 | .str _,_,h=>by simpa only [Rep] using h
 | .ptr _,_,h=>by simpa only [Rep] using h
 | .tup l,v,h=>by
  simp only [Rep] at h ⊢
  obtain ⟨a,vs,n,e,o,r⟩:=h
  exact ⟨a,vs,n,e,k _ _ o,RepL.mono k l _ r⟩
 | .lst l,v,h=>by
  simp only [Rep] at h ⊢
  obtain ⟨a,vs,n,e,o,r⟩:=h
  exact ⟨a,vs,n,e,k _ _ o,RepL.mono k l _ r⟩
 | .rng _ _,v,h=>by
  simp only [Rep] at h ⊢
  obtain ⟨r,x,y,z,e,o⟩:=h
  exact ⟨r,x,y,z,e,k _ _ o⟩
 | .raw P,v,h=>by
  simp only [Rep] at h ⊢
  exact fun V'' k'=>h V'' (k.trans k')
theorem RepL.mono {V V':PH} (k:V.le V'):∀ (l:List AV) (vs:List Value),RepL V l vs → RepL V' l vs
 | [],_,h=>by simpa only [RepL] using h
 | d :: ds,vs,h=>by
  simp only [RepL] at h ⊢
  obtain ⟨v,vs',e,r,rs⟩:=h
  exact ⟨v,vs',e,Rep.mono k d v r,RepL.mono k ds vs' rs⟩
end
theorem RepL.length {V:PH}:∀ {l:List AV} {vs:List Value},RepL V l vs → vs.length = l.length
 | [],_,h=>by simp only [RepL] at h; subst h; rfl
 | d :: ds,vs,h=>by
  simp only [RepL] at h
  obtain ⟨v,vs',rfl,_,rs⟩:=h
  simp [rs.length]
theorem RepL.nil {V:PH}:RepL V [] []:=by simp only [RepL]
theorem RepL.cons {V:PH} {d:AV} {ds:List AV} {v:Value} {vs:List Value} (h:Rep V d v) (hs:RepL V ds vs):RepL V (d :: ds) (v :: vs):=by
 simp only [RepL]; exact ⟨v,vs,rfl,h,hs⟩
theorem RepL.append {V:PH}:∀ {l l':List AV} {vs vs':List Value},RepL V l vs → RepL V l' vs' → RepL V (l ++ l') (vs ++ vs')
 | [],l',_,vs',h,h'=>by simp only [RepL] at h; subst h; simpa using h'
 | d :: ds,l',vs,vs',h,h'=>by
  simp only [RepL] at h
  obtain ⟨v,vs₁,rfl,r,rs⟩:=h
  exact .cons r (RepL.append rs h')
theorem RepL.get {V:PH}:∀ {l:List AV} {vs:List Value} {i:Nat} {d:AV},RepL V l vs → l[i]? = some d → ∃ v,vs[i]? = some v ∧ Rep V d v
 | [],_,_,_,_,e=>by simp at e
 | d :: ds,vs,i,d',h,e=>by
  simp only [RepL] at h
  obtain ⟨v,vs₁,rfl,r,rs⟩:=h
  cases i with
  | zero=>simp at e; subst e; exact ⟨v,rfl,r⟩
  | succ i=>simpa using RepL.get rs (by simpa using e)
theorem RepL.take {V:PH} {l:List AV} {vs:List Value} (h:RepL V l vs) (n:Nat):RepL V (l.take n) (vs.take n):=by
 induction n generalizing l vs with
 | zero=>simpa using RepL.nil
 | succ n ih =>
  cases l with
  | nil=>simp only [RepL] at h; subst h; simpa using RepL.nil
  | cons d ds =>
   simp only [RepL] at h
   obtain ⟨v,vs₁,rfl,r,rs⟩:=h
   exact .cons r (ih rs)
theorem RepL.drop {V:PH} {l:List AV} {vs:List Value} (h:RepL V l vs) (n:Nat):RepL V (l.drop n) (vs.drop n):=by
 induction n generalizing l vs with
 | zero=>simpa using h
 | succ n ih =>
  cases l with
  | nil=>simp only [RepL] at h; subst h; simpa using RepL.nil
  | cons d ds =>
   simp only [RepL] at h
   obtain ⟨v,vs₁,rfl,r,rs⟩:=h
   exact ih rs
theorem RepL.reverse {V:PH}:∀ {l:List AV} {vs:List Value},RepL V l vs → RepL V l.reverse vs.reverse
 | [],_,h=>by simp only [RepL] at h; subst h; simpa using RepL.nil
 | d :: ds,vs,h=>by
  simp only [RepL] at h
  obtain ⟨v,vs₁,rfl,r,rs⟩:=h
  rw [List.reverse_cons,List.reverse_cons]
  exact rs.reverse.append (.cons r .nil)
theorem RepL.of_forall {V:PH}:∀ {l:List AV} {vs:List Value},vs.length = l.length → (∀ (i:Nat) d v,l[i]? = some d → vs[i]? = some v → Rep V d v) → RepL V l vs
 | [],vs,e,_=>by have:vs = []:=List.length_eq_zero_iff.mp e; subst this; exact .nil
 | d :: ds,[],e,_=>by cases e
 | d :: ds,v :: vs,e,h=>.cons (h 0 d v rfl rfl) (RepL.of_forall (by simpa using e) fun i d' v' h1 h2=>h (i + 1) d' v' (by simpa using h1) (by simpa using h2))
structure Fn where
 env:Env
 G:PH
 n₀:Nat
 cs:List Addr
 base:Shared
 A:Around
noncomputable abbrev Fn.names (F:Fn):List (PySem.Str × NameKind):=F.env.scope.names
noncomputable abbrev Fn.L (F:Fn):Addr:=F.env.locals
noncomputable abbrev Om:=List (Addr × (PH → Obj → Prop))
noncomputable def Fn.D (F:Fn) (om:Om):List Addr:=F.L :: (F.cs ++ om.map (·.1))
noncomputable def Fn.view (F:Fn) (R:PH) (om:Om) (h:Heap):PH:=fun b=>if b ∈ F.D om ∨ (R b).isSome = true then none else if b < F.n₀ then F.G b else h.get? b
structure Fn.Ok (F:Fn):Prop where
 kind:F.env.scope.kind = .function
 handled:F.A.handled = none
 depth:F.A.depth ≤ 600
 units:F.A.units ≤ 5000
 nodup:(F.names.map (·.1)).Nodup
 low:F.n₀ ≤ F.L
 lows:∀ c ∈ F.cs,F.n₀ ≤ c
 cell:∀ x c,F.env.cells.lookup x = some c → c ∈ F.cs → ∀ y,F.env.cells.lookup y = some c → x = y
inductive SlotAt (F:Fn) (R:PH) (h:Heap) (m:PySem.Str → Option Value) (V:PH) (x:PySem.Str) (d:AV):NameKind → Prop
 | loc {v:Value}:m x = some v → Rep V d v → SlotAt F R h m V x d .local
 | cel {c:Addr} {o:Obj} {v:Value}:F.env.cells.lookup x = some c → h.get? c = some o → o.data = .cell (some v) → Rep V d v → (c ∈ F.cs ∨ R c = some o) → SlotAt F R h m V x d .cell
 | fre {c:Addr} {o:Obj} {v:Value}:F.env.cells.lookup x = some c → h.get? c = some o → o.data = .cell (some v) → Rep V d v → R c = some o → SlotAt F R h m V x d .free
structure Sta (F:Fn) (R:PH) (sig:List (Option AV)) (om:Om) (tau:List (Value × AV)) (s:Shared):Prop where
 same:∃ h tk,s = { F.base with heap:=h,toks:=tk }
 nodup:(F.D om).Nodup
 g:∀ b o,F.G b = some o → b < F.n₀ ∧ b ∉ F.D om ∧ s.heap.get? b = some o ∧ R b = none
 rf:∀ b o,R b = some o → b ∉ F.D om ∧ s.heap.get? b = some o
 cells:∀ c ∈ F.cs,∃ v,s.heap.IsCell c v
 opens:∀ p ∈ om,∃ o,s.heap.get? p.1 = some o ∧ ∀ V',(F.view R om s.heap).le V' → p.2 V' o
 temps:∀ p ∈ tau,Rep (F.view R om s.heap) p.2 p.1
 slots:∃ m,s.heap.Ns F.L m ∧ ∀ (k:Nat) x kind d,F.names[k]? = some (x,kind) → sig[k]? = some (some d) → SlotAt F R s.heap m (F.view R om s.heap) x d kind
section
variable {F:Fn} {R:PH} {sig:List (Option AV)} {om:Om} {tau:List (Value × AV)} {s:Shared}
theorem view_get {h:Heap} {b:Addr} {o:Obj} (hg:∀ b o,F.G b = some o → h.get? b = some o) (e:F.view R om h b = some o):h.get? b = some o ∧ b ∉ F.D om ∧ R b = none:=by
 unfold Fn.view at e
 split at e
 ·cases e
 ·rename_i hb
  have hR:R b = none:=by
   cases q:R b with
   | none=>rfl
   | some o=>exact absurd (.inr (by rw [q]; rfl)) hb
  split at e
  ·exact ⟨hg _ _ e,fun q=>hb (.inl q),hR⟩
  ·exact ⟨e,fun q=>hb (.inl q),hR⟩
theorem Sta.vget (x:Sta F R sig om tau s) {b:Addr} {o:Obj} (e:F.view R om s.heap b = some o):s.heap.get? b = some o:=(view_get (fun b o e=>(x.g b o e).2.2.1) e).1
theorem Sta.vnot (x:Sta F R sig om tau s) {b:Addr} {o:Obj} (e:F.view R om s.heap b = some o):b ∉ F.D om:=(view_get (fun b o e=>(x.g b o e).2.2.1) e).2.1
theorem SlotAt.mono {R':PH} {h h':Heap} {m:PySem.Str → Option Value} {V V':PH} {y:PySem.Str} {d:AV} {kind:NameKind} (x:SlotAt F R h m V y d kind) (k:V.le V')
  (hc:∀ c o,(c ∈ F.cs ∨ R c = some o) → h.get? c = some o → h'.get? c = some o) (hr:∀ c o,R c = some o → R' c = some o):SlotAt F R' h' m V' y d kind:=by
 cases x with
 | loc e r=>exact .loc e (r.mono k)
 | cel a b c r q=>exact .cel a (hc _ _ q b) c (r.mono k) (q.imp id (hr _ _))
 | fre a b c r q=>exact .fre a (hc _ _ (.inr q) b) c (r.mono k) (hr _ _ q)
theorem Fn.view_grow {h h':Heap} (k:∀ b o,h.get? b = some o → h'.get? b = some o):(F.view R om h).le (F.view R om h'):=fun b o e=>by
 unfold Fn.view at e ⊢
 split at e
 ·cases e
 ·rename_i hb
  rw [if_neg hb]
  split at e
  ·rename_i hlt; rw [if_pos hlt]; exact e
  ·rename_i hlt; rw [if_neg hlt]; exact k _ _ e
theorem Sta.grow (x:Sta F R sig om tau s) {h':Heap} {tk:Nat} (k:∀ b o,s.heap.get? b = some o → h'.get? b = some o):Sta F R sig om tau { s with heap:=h',toks:=tk }:=by
 have kv:(F.view R om s.heap).le (F.view R om h'):=F.view_grow k
 obtain ⟨h₀,tk₀,rfl⟩:=x.same
 refine ⟨⟨h',tk,rfl⟩,x.nodup,fun b o e=>⟨(x.g b o e).1,(x.g b o e).2.1,k _ _ (x.g b o e).2.2.1,(x.g b o e).2.2.2⟩,fun b o e=>⟨(x.rf b o e).1,k _ _ (x.rf b o e).2⟩,
  fun c hc=>let ⟨v,hv⟩:=x.cells c hc; ⟨v,hv.keeps k⟩,fun p hp=>?_,fun p hp=>(x.temps p hp).mono kv,?_⟩
 ·obtain ⟨o,ho,hP⟩:=x.opens p hp
  exact ⟨o,k _ _ ho,fun V' hV=>hP V' (kv.trans hV)⟩
 ·obtain ⟨m,hm,hs⟩:=x.slots
  exact ⟨m,hm.keeps k,fun k' y kind d h1 h2=>(hs k' y kind d h1 h2).mono kv (fun c o _ e=>k _ _ e) fun _ _ e=>e⟩
theorem Sta.tok (x:Sta F R sig om tau s) (tk:Nat):Sta F R sig om tau { s with toks:=tk }:=x.grow (h':=s.heap) fun _ _ e=>e
theorem Sta.temp (x:Sta F R sig om tau s) {tau':List (Value × AV)} (h:∀ p ∈ tau',Rep (F.view R om s.heap) p.2 p.1):Sta F R sig om tau' s :=
 ⟨x.same,x.nodup,x.g,x.rf,x.cells,x.opens,h,x.slots⟩
theorem Sta.push (x:Sta F R sig om tau s) {v:Value} {d:AV} (h:Rep (F.view R om s.heap) d v):Sta F R sig om ((v,d) :: tau) s :=
 x.temp fun p hp=>by rcases List.mem_cons.mp hp with rfl | hp; exact h; exact x.temps p hp
theorem Sta.pop {p:Value × AV} (x:Sta F R sig om (p :: tau) s):Sta F R sig om tau s:=x.temp fun q hq=>x.temps q (List.mem_cons_of_mem _ hq)
theorem Sta.top {v:Value} {d:AV} (x:Sta F R sig om ((v,d) :: tau) s):Rep (F.view R om s.heap) d v:=x.temps _ List.mem_cons_self
theorem Sta.top2 {v:Value} {d:AV} {p:Value × AV} (x:Sta F R sig om (p :: (v,d) :: tau) s):Rep (F.view R om s.heap) d v:=x.temps _ (List.mem_cons_of_mem _ List.mem_cons_self)
noncomputable def PH.put (R:PH) (a:Addr) (o:Obj):PH:=fun b=>if b = a then some o else R b
theorem PH.put_ne {R:PH} {a b:Addr} {o:Obj} (h:b ≠ a):R.put a o b = R b:=if_neg h
theorem PH.put_self {R:PH} {a:Addr} {o:Obj}:R.put a o a = some o:=if_pos rfl
theorem Fn.view_put {R:PH} {h h':Heap} {a:Addr} {o:Obj} (hk:∀ b o,b ≠ a → h.get? b = some o → h'.get? b = some o) (ha:F.view R om h a = none):(F.view R om h).le (F.view (R.put a o) om h'):=fun b ob e=>by
 have hne:b ≠ a:=fun q=>by rw [q,ha] at e; cases e
 unfold Fn.view at e ⊢
 rw [PH.put_ne hne]
 split at e
 ·cases e
 ·rename_i hb
  rw [if_neg hb]
  split at e
  ·rename_i q; rw [if_pos q]; exact e
  ·rename_i q; rw [if_neg q]; exact hk _ _ hne e
theorem Fn.view_unput {R:PH} {h h':Heap} {a:Addr} {o:Obj} (hk:∀ b o,b ≠ a → h.get? b = some o → h'.get? b = some o):(F.view (R.put a o) om h).le (F.view R om h'):=fun b ob e=>by
 have hne:b ≠ a:=fun q=>by
  subst q
  unfold Fn.view at e
  rw [if_pos (.inr (by rw [PH.put_self]; rfl))] at e
  cases e
 unfold Fn.view at e ⊢
 rw [PH.put_ne hne] at e
 split at e
 ·cases e
 ·rename_i hb
  rw [if_neg hb]
  split at e
  ·rename_i q; rw [if_pos q]; exact e
  ·rename_i q; rw [if_neg q]; exact hk _ _ hne e
theorem Fn.view_reput {R:PH} {h h':Heap} {a:Addr} {o o':Obj} (hk:∀ b o,b ≠ a → h.get? b = some o → h'.get? b = some o):(F.view (R.put a o) om h).le (F.view (R.put a o') om h'):=fun b ob e=>by
 have hne:b ≠ a:=fun q=>by
  subst q
  unfold Fn.view at e
  rw [if_pos (.inr (by rw [PH.put_self]; rfl))] at e
  cases e
 unfold Fn.view at e ⊢
 rw [PH.put_ne hne] at e ⊢
 split at e
 ·cases e
 ·rename_i hb
  rw [if_neg hb]
  split at e
  ·rename_i q; rw [if_pos q]; exact e
  ·rename_i q; rw [if_neg q]; exact hk _ _ hne e
end
end
section
section
variable {prog:Program} {w:World} {F:Fn} {R:PH} {sig:List (Option AV)} {om:Om} {tau:List (Value × AV)} {s:Shared}
theorem Sta.lt (x:Sta F R sig om tau s) {a:Addr} (h:a ∈ F.D om):a < s.heap.objs.size:=by
 unfold Fn.D at h
 rcases List.mem_cons.mp h with rfl | h
 ·obtain ⟨m,hm,_⟩:=x.slots; exact hm.lt
 ·rcases List.mem_append.mp h with h | h
  ·obtain ⟨v,hv⟩:=x.cells _ h; exact hv.lt
  ·obtain ⟨p,hp,rfl⟩:=List.mem_map.mp h
   obtain ⟨o,ho,_⟩:=x.opens p hp
   exact Heap.lt_size ho
theorem Sta.fresh (ok:F.Ok) (x:Sta F R sig om tau s) {n:Nat} (hn:s.heap.objs.size ≤ n):n ∉ F.D om ∧ ¬ n < F.n₀:=by
 refine ⟨fun h=>Nat.lt_irrefl _ (Nat.lt_of_lt_of_le (x.lt h) hn),fun h=>?_⟩
 have h1:F.L < s.heap.objs.size:=x.lt (a:=F.L) (by simp [Fn.D])
 exact Nat.lt_irrefl _ (Nat.lt_of_lt_of_le (Nat.lt_of_le_of_lt (Nat.le_trans (Nat.le_of_lt h) ok.low) h1) hn)
theorem Sta.freshR (x:Sta F R sig om tau s) {n:Nat} (hn:s.heap.objs.size ≤ n):R n = none:=by
 cases q:R n with
 | none=>rfl
 | some o=>exact absurd (Nat.lt_of_lt_of_le (Heap.lt_size (x.rf _ _ q).2) hn) (Nat.lt_irrefl _)
theorem Sta.new_view (ok:F.Ok) (x:Sta F R sig om tau s) {h':Heap} {a:Addr} {o:Obj} (ha:s.heap.objs.size ≤ a) (e:h'.get? a = some o):F.view R om h' a = some o:=by
 obtain ⟨h1,h2⟩:=x.fresh ok ha
 unfold Fn.view
 rw [if_neg (by rw [x.freshR ha]; simpa using h1),if_neg h2]
 exact e
theorem Sta.alloc (x:Sta F R sig om tau s) (o:Obj):Sta F R sig om tau { s with heap:=s.heap.push o }:=x.grow (tk:=s.toks) fun _ _ e=>Heap.get?_push_of_some o e
noncomputable def Ev (prog:Program) (w:World) (F:Fn) (sig:List (Option AV)) (om:Om) (e:PySem.Expr) (d:AV):Prop :=
 ∀ (R:PH) (tau:List (Value × AV)) (s:Shared) (Q:Value → Shared → Prop) (E:Value → Shared → Prop),Sta F R sig om tau s →
  (∀ v s',Sta F R sig om ((v,d) :: tau) s' → Q v s') → wpAny (model prog w) F.A (eval e F.env) Q E s
noncomputable def Op2 (prog:Program) (w:World) (F:Fn) (om:Om) (t:Value → Value → Sem Value) (d₁ d₂ d:AV):Prop :=
 ∀ (R:PH) (sig:List (Option AV)) (tau:List (Value × AV)) (v₁ v₂:Value) (s:Shared) (Q:Value → Shared → Prop) (E:Value → Shared → Prop),Sta F R sig om ((v₂,d₂) :: (v₁,d₁) :: tau) s →
  (∀ v s',Sta F R sig om ((v,d) :: tau) s' → Q v s') → wpAny (model prog w) F.A (t v₁ v₂) Q E s
noncomputable def Op1 (prog:Program) (w:World) (F:Fn) (om:Om) (t:Value → Sem Value) (d₁ d:AV):Prop :=
 ∀ (R:PH) (sig:List (Option AV)) (tau:List (Value × AV)) (v₁:Value) (s:Shared) (Q:Value → Shared → Prop) (E:Value → Shared → Prop),Sta F R sig om ((v₁,d₁) :: tau) s →
  (∀ v s',Sta F R sig om ((v,d) :: tau) s' → Q v s') → wpAny (model prog w) F.A (t v₁) Q E s
noncomputable def Tru (prog:Program) (w:World) (F:Fn) (om:Om) (d:AV) (b:Bool):Prop :=
 ∀ (R:PH) (sig:List (Option AV)) (tau:List (Value × AV)) (v₁:Value) (s:Shared) (Q:Bool → Shared → Prop) (E:Value → Shared → Prop),Sta F R sig om ((v₁,d) :: tau) s →
  (∀ s',Sta F R sig om tau s' → Q b s') → wpAny (model prog w) F.A (truthy v₁) Q E s
noncomputable def Tst (prog:Program) (w:World) (F:Fn) (sig:List (Option AV)) (om:Om) (e:PySem.Expr) (b:Bool):Prop :=
 ∀ (R:PH) (tau:List (Value × AV)) (s:Shared) (Q:Bool → Shared → Prop) (E:Value → Shared → Prop),Sta F R sig om tau s →
  (∀ s',Sta F R sig om tau s' → Q b s') → wpAny (model prog w) F.A (isTrue e F.env (eval e F.env)) Q E s
theorem Sta.tok1 (x:Sta F R sig om tau s):Sta F R sig om tau { s with toks:=s.toks + 1 }:=x.tok _
theorem Sta.tok2 (x:Sta F R sig om tau s):Sta F R sig om tau { s with toks:=s.toks + 1 + 1 }:=x.tok _
theorem rep_int {V:PH} {i:Int} {t:Tok}:Rep V (.int i) (.int i t):=by simp only [Rep]; exact ⟨_,rfl⟩
theorem rep_bool {V:PH} {b:Bool}:Rep V (.bool b) (.bool b):=by simp only [Rep]
theorem rep_none {V:PH}:Rep V .none .none:=by simp only [Rep]
theorem rep_str {V:PH} {x:PySem.Str} {t:Tok}:Rep V (.str x) (.str x t):=by simp only [Rep]; exact ⟨_,rfl⟩
theorem ev_int {i:Int} {k:Nat} {pos:Pos}:Ev prog w F sig om (.Constant (.int i) k pos) (.int i):=fun _ _ _ _ _ x h =>
 wpAny_Constant_int (h _ _ (x.tok1.push rep_int))
theorem ev_none {k:Nat} {pos:Pos}:Ev prog w F sig om (.Constant .none k pos) .none:=fun _ _ _ _ _ x h =>
 wpAny_Constant_none (h _ _ (x.push rep_none))
theorem ev_bool {b:Bool} {k:Nat} {pos:Pos}:Ev prog w F sig om (.Constant (.bool b) k pos) (.bool b):=fun _ _ _ _ _ x h =>
 wpAny_Constant_bool (h _ _ (x.push rep_bool))
theorem ev_str {y:PySem.Str} {k:Nat} {pos:Pos}:Ev prog w F sig om (.Constant (.str y) k pos) (.str y):=fun _ _ _ _ _ x h =>
 wpAny_Constant_str (h _ _ (x.tok1.push rep_str))
noncomputable def At (F:Fn) (x:PySem.Str) (k:Nat) (kind:NameKind):Prop :=
 F.names[k]? = some (x,kind) ∧ F.env.kindOf x = some kind ∧ (x == ("__debug__" : PySem.Str)) = false ∧ (x == ("__classdict__" : PySem.Str)) = false
theorem lookup_of_mem {x:PySem.Str} {kind:NameKind}:∀ {l:List (PySem.Str × NameKind)} {k:Nat},(l.map (·.1)).Nodup → l[k]? = some (x,kind) → l.lookup x = some kind
 | [],_,_,e=>by simp at e
 | (y,kd) :: r,0,_,e=>by
  simp only [List.getElem?_cons_zero,Option.some.injEq,Prod.mk.injEq] at e
  obtain ⟨rfl,rfl⟩:=e
  simp
 | (y,kd) :: r,k + 1,hn,e=>by
  simp only [List.getElem?_cons_succ] at e
  rw [List.map_cons,List.nodup_cons] at hn
  have hne:x ≠ y:=by
   rintro rfl
   exact hn.1 (List.mem_map.mpr ⟨(x,kind),List.mem_of_getElem? e,rfl⟩)
  rw [List.lookup_cons]
  have:(x == y) = false:=by simpa using hne
  rw [this]
  exact lookup_of_mem hn.2 e
theorem At.of (ok:F.Ok) {x:PySem.Str} {k:Nat} {kind:NameKind} (e:F.names[k]? = some (x,kind)) (hd:((x == ("__debug__" : PySem.Str)) || (x == ("__classdict__" : PySem.Str))) = false):At F x k kind :=
 ⟨e,lookup_of_mem ok.nodup e,(Bool.or_eq_false_iff.mp hd).1,(Bool.or_eq_false_iff.mp hd).2⟩
theorem ev_name (ok:F.Ok) {x:PySem.Str} {pos:Pos} {k:Nat} {kind:NameKind} {d:AV} (a:At F x k kind) (hs:sig[k]? = some (some d)):Ev prog w F sig om (.Name x pos) d:=fun R tau s Q E st h=>by
 refine wpAny_Name ?_ a.2.2.1
 obtain ⟨m,hm,sl⟩:=st.slots
 have:=sl k x kind d a.1 hs
 have hk:=a.2.1
 cases this with
 | loc e r=>exact wpAny_loadName_local ok.kind hk hm e (h _ _ (st.push r))
 | cel hc ho hd r _=>exact wpAny_loadName_cell ok.kind hk hc ⟨_,ho,hd⟩ (h _ _ (st.push r))
 | fre hc ho hd r _=>exact wpAny_loadName_free ok.kind hk hc ⟨_,ho,hd⟩ (h _ _ (st.push r)) a.2.2.2
noncomputable def Glo (F:Fn) (x:PySem.Str) (v:Value):Prop:=∀ h:Heap,(∀ b o,F.G b = some o → h.get? b = some o) →
 ∃ mg,h.Ns F.env.globals mg ∧ (mg x = some v ∨ (mg x = none ∧ ∃ mb,h.Ns F.env.builtins mb ∧ mb x = some v))
theorem ev_glob (ok:F.Ok) {x:PySem.Str} {pos:Pos} {k:Nat} {v:Value} (a:At F x k .globalImplicit) (g:Glo F x v):Ev prog w F sig om (.Name x pos) (.raw fun _ u=>u = v):=fun R tau s Q E st h=>by
 refine wpAny_Name ?_ a.2.2.1
 rw [loadName_read ok.kind a.2.1]
 have e:Sta F R sig om ((v,.raw fun _ u=>u = v) :: tau) s:=st.push (by simp only [Rep]; exact fun _ _=>trivial)
 obtain ⟨mg,hg,hv | ⟨hn,mb,hb,hv⟩⟩:=g s.heap fun b o e=>(st.g b o e).2.2.1
 ·exact Calls.loadGlobal_global hg hv (h _ _ e)
 ·exact Calls.loadGlobal_builtin hg hn hb hv (h _ _ e)
theorem ev_binop {l r:PySem.Expr} {op:Operator} {pos:Pos} {d₁ d₂ d:AV} (h₁:Ev prog w F sig om l d₁) (h₂:Ev prog w F sig om r d₂) (o:Op2 prog w F om (binaryOp op) d₁ d₂ d) :
  Ev prog w F sig om (.BinOp l op r pos) d:=fun R tau s Q E st h =>
 wpAny_BinOp (h₁ R tau s _ _ st fun _ _ st₁=>h₂ R _ _ _ _ st₁ fun _ _ st₂=>o R sig tau _ _ _ _ _ st₂ h)
theorem ev_unop {x:PySem.Expr} {op:UnaryOp} {pos:Pos} {d₁ d:AV} (h₁:Ev prog w F sig om x d₁) (o:Op1 prog w F om (unaryOp op) d₁ d):Ev prog w F sig om (.UnaryOp op x pos) d:=fun R tau s Q E st h =>
 wpAny_UnaryOp (h₁ R tau s _ _ st fun _ _ st₁=>o R sig tau _ _ _ _ st₁ h)
theorem ev_cmp {l r:PySem.Expr} {op:CmpOp} {pos:Pos} {d₁ d₂ d:AV} (h₁:Ev prog w F sig om l d₁) (h₂:Ev prog w F sig om r d₂) (o:Op2 prog w F om (compareOp op) d₁ d₂ d)
  (hm:behindInMarks op r = false:=by with_unfolding_all rfl):Ev prog w F sig om (.Compare l [op] [r] pos) d:=fun R tau s Q E st h =>
 wpAny_Compare1 (h₁ R tau s _ _ st fun _ _ st₁=>h₂ R _ _ _ _ st₁ fun _ _ st₂=>o R sig tau _ _ _ _ _ st₂ h) hm
theorem ev_if_true {t b o:PySem.Expr} {pos:Pos} {d:AV} (ht:Tst prog w F sig om t true) (h:Ev prog w F sig om b d):Ev prog w F sig om (.IfExp t b o pos) d:=fun R tau s Q E st hq =>
 wpAny_IfExp (ht R tau s _ _ st fun _ st₁=>by rw [if_pos rfl]; exact h R tau _ _ _ st₁ hq)
theorem ev_if_false {t b o:PySem.Expr} {pos:Pos} {d:AV} (ht:Tst prog w F sig om t false) (h:Ev prog w F sig om o d):Ev prog w F sig om (.IfExp t b o pos) d:=fun R tau s Q E st hq =>
 wpAny_IfExp (ht R tau s _ _ st fun _ st₁=>by rw [if_neg Bool.false_ne_true]; exact h R tau _ _ _ st₁ hq)
theorem ev_if {t b o:PySem.Expr} {pos:Pos} {c:Bool} {d₁ d₂:AV} (ht:Tst prog w F sig om t c) (h₁:c = true → Ev prog w F sig om b d₁) (h₂:c = false → Ev prog w F sig om o d₂):Ev prog w F sig om (.IfExp t b o pos) (if c then d₁ else d₂):=by
 cases c with
 | true=>exact ev_if_true ht (h₁ rfl)
 | false=>exact ev_if_false ht (h₂ rfl)
theorem tst_cmp {l r:PySem.Expr} {op:CmpOp} {pos:Pos} {d₁ d₂:AV} {b:Bool} (h₁:Ev prog w F sig om l d₁) (h₂:Ev prog w F sig om r d₂) (o:Op2 prog w F om (compareOp op) d₁ d₂ (.bool b))
  (hm:behindInMarks op r = false:=by with_unfolding_all rfl):Tst prog w F sig om (.Compare l [op] [r] pos) b:=fun R tau s Q E st h =>
 wpAny_isTrue_Compare1 (h₁ R tau s _ _ st fun _ _ st₁=>h₂ R _ _ _ _ st₁ fun _ _ st₂=>o R sig tau _ _ _ _ _ st₂ fun v s' st₃=>by
  have:=st₃.top
  simp only [Rep] at this
  subst this
  exact wpAny_truthy_bool (h _ st₃.pop)) hm
theorem tst_not {x:PySem.Expr} {pos:Pos} {b:Bool} (h₁:Tst prog w F sig om x b):Tst prog w F sig om (.UnaryOp .Not x pos) (!b):=fun R tau s Q E st h =>
 wpAny_isTrue_Not (h₁ R tau s _ _ st fun _ st₁=>h _ st₁)
theorem tst_value {e:PySem.Expr} {d:AV} {b:Bool} (h₁:Ev prog w F sig om e d) (t:Tru prog w F om d b)
  (he:∀ whole,isTrue e F.env whole = (do let v ← whole; standAt e.pos; holding [v] (truthy v)):=by intro _; rfl):Tst prog w F sig om e b:=fun R tau s Q E st h =>
 wpAny_isTrue_value (h₁ R tau s _ _ st fun _ _ st₁=>t R sig tau _ _ _ _ st₁ h) (he _)
noncomputable def TstAll (prog:Program) (w:World) (F:Fn) (sig:List (Option AV)) (om:Om) (op:BoolOp) (es:List PySem.Expr) (b:Bool):Prop :=
 ∀ (R:PH) (tau:List (Value × AV)) (s:Shared) (Q:Bool → Shared → Prop) (E:Value → Shared → Prop),Sta F R sig om tau s →
  (∀ s',Sta F R sig om tau s' → Q b s') → wpAny (model prog w) F.A (allTrue op es F.env) Q E s
theorem all_nil:TstAll prog w F sig om .And [] true:=fun R tau s Q E st h=>wpAny_allTrue_And_nil (h _ st)
theorem all_cons {e:PySem.Expr} {es:List PySem.Expr} {a b:Bool} (h₁:Tst prog w F sig om e a) (h₂:a = true → TstAll prog w F sig om .And es b):TstAll prog w F sig om .And (e :: es) (a && b):=fun R tau s Q E st h =>
 wpAny_allTrue_And_cons (h₁ R tau s _ _ st fun _ st₁=>by
  cases a with
  | true=>exact h₂ rfl R tau _ _ _ st₁ h
  | false=>exact h _ st₁)
theorem any_nil:TstAll prog w F sig om .Or [] false:=fun R tau s Q E st h=>wpAny_allTrue_Or_nil (h _ st)
theorem any_cons {e:PySem.Expr} {es:List PySem.Expr} {a b:Bool} (h₁:Tst prog w F sig om e a) (h₂:a = false → TstAll prog w F sig om .Or es b):TstAll prog w F sig om .Or (e :: es) (a || b):=fun R tau s Q E st h =>
 wpAny_allTrue_Or_cons (h₁ R tau s _ _ st fun _ st₁=>by
  cases a with
  | true=>exact h _ st₁
  | false=>exact h₂ rfl R tau _ _ _ st₁ h)
theorem tst_bool {op:BoolOp} {es:List PySem.Expr} {pos:Pos} {b:Bool} (h₁:TstAll prog w F sig om op es b):Tst prog w F sig om (.BoolOp op es pos) b:=fun R tau s Q E st h =>
 wpAny_isTrue_BoolOp (h₁ R tau s _ _ st h)
theorem op_add {a b:Int}:Op2 prog w F om (binaryOp .Add) (.int a) (.int b) (.int (a + b)):=fun R sig tau v₁ v₂ s Q E st h=>by
 have h1:=st.top2; have h2:=st.top
 simp only [Rep] at h1 h2
 obtain ⟨t,rfl⟩:=h1; obtain ⟨u,rfl⟩:=h2
 exact wpAny_add_int (h _ _ (st.pop.pop.tok1.push rep_int))
theorem op_sub {a b:Int}:Op2 prog w F om (binaryOp .Sub) (.int a) (.int b) (.int (a - b)):=fun R sig tau v₁ v₂ s Q E st h=>by
 have h1:=st.top2; have h2:=st.top
 simp only [Rep] at h1 h2
 obtain ⟨t,rfl⟩:=h1; obtain ⟨u,rfl⟩:=h2
 exact P.sub_int (h _ _ (st.pop.pop.tok1.push rep_int))
theorem op_mul {a b:Int} (hm:IntMulOk a b):Op2 prog w F om (binaryOp .Mult) (.int a) (.int b) (.int (a * b)):=fun R sig tau v₁ v₂ s Q E st h=>by
 have h1:=st.top2; have h2:=st.top
 simp only [Rep] at h1 h2
 obtain ⟨t,rfl⟩:=h1; obtain ⟨u,rfl⟩:=h2
 exact P.mul_int (h _ _ (st.pop.pop.tok1.push rep_int)) hm
theorem op_fdiv {a b:Int} (hb:b ≠ 0) (hs:b.natAbs < 1073741824):Op2 prog w F om (binaryOp .FloorDiv) (.int a) (.int b) (.int (a.fdiv b)):=fun R sig tau v₁ v₂ s Q E st h=>by
 have h1:=st.top2; have h2:=st.top
 simp only [Rep] at h1 h2
 obtain ⟨t,rfl⟩:=h1; obtain ⟨u,rfl⟩:=h2
 exact floordiv_int hb (h _ _ (st.pop.pop.tok1.push rep_int)) (.inl (PyProof.noPylong_small hs))
theorem op_mod {a b:Int} (hb:b ≠ 0):Op2 prog w F om (binaryOp .Mod) (.int a) (.int b) (.int (a.fmod b)):=fun R sig tau v₁ v₂ s Q E st h=>by
 have h1:=st.top2; have h2:=st.top
 simp only [Rep] at h1 h2
 obtain ⟨t,rfl⟩:=h1; obtain ⟨u,rfl⟩:=h2
 exact mod_int' hb (h _ _ (st.pop.pop.tok1.push rep_int))
theorem op_neg {a:Int}:Op1 prog w F om (unaryOp .USub) (.int a) (.int (-a)):=fun R sig tau v₁ s Q E st h=>by
 have h1:=st.top
 simp only [Rep] at h1
 obtain ⟨t,rfl⟩:=h1
 exact P.neg_int (h _ _ (st.pop.tok1.push rep_int))
theorem op_eq_int {a b:Int}:Op2 prog w F om (compareOp .Eq) (.int a) (.int b) (.bool (a == b)):=fun R sig tau v₁ v₂ s Q E st h=>by
 have h1:=st.top2; have h2:=st.top
 simp only [Rep] at h1 h2
 obtain ⟨t,rfl⟩:=h1; obtain ⟨u,rfl⟩:=h2
 exact P.eq_int (h _ _ (st.pop.pop.push rep_bool))
theorem op_ne_int {a b:Int}:Op2 prog w F om (compareOp .NotEq) (.int a) (.int b) (.bool (a != b)):=fun R sig tau v₁ v₂ s Q E st h=>by
 have h1:=st.top2; have h2:=st.top
 simp only [Rep] at h1 h2
 obtain ⟨t,rfl⟩:=h1; obtain ⟨u,rfl⟩:=h2
 exact P.ne_int (h _ _ (st.pop.pop.push rep_bool))
theorem op_lt_int {a b:Int}:Op2 prog w F om (compareOp .Lt) (.int a) (.int b) (.bool (decide (a < b))):=fun R sig tau v₁ v₂ s Q E st h=>by
 have h1:=st.top2; have h2:=st.top
 simp only [Rep] at h1 h2
 obtain ⟨t,rfl⟩:=h1; obtain ⟨u,rfl⟩:=h2
 exact P.lt_int (h _ _ (st.pop.pop.push rep_bool))
theorem op_gt_int {a b:Int}:Op2 prog w F om (compareOp .Gt) (.int a) (.int b) (.bool (decide (a > b))):=fun R sig tau v₁ v₂ s Q E st h=>by
 have h1:=st.top2; have h2:=st.top
 simp only [Rep] at h1 h2
 obtain ⟨t,rfl⟩:=h1; obtain ⟨u,rfl⟩:=h2
 exact P.gt_int (h _ _ (st.pop.pop.push rep_bool))
theorem op_ge_int {a b:Int}:Op2 prog w F om (compareOp .GtE) (.int a) (.int b) (.bool (decide (a ≥ b))):=fun R sig tau v₁ v₂ s Q E st h=>by
 have h1:=st.top2; have h2:=st.top
 simp only [Rep] at h1 h2
 obtain ⟨t,rfl⟩:=h1; obtain ⟨u,rfl⟩:=h2
 exact P.ge_int (h _ _ (st.pop.pop.push rep_bool))
theorem tru_int {a:Int}:Tru prog w F om (.int a) (a != 0):=fun R sig tau v₁ s Q E st h=>by
 have h1:=st.top
 simp only [Rep] at h1
 obtain ⟨t,rfl⟩:=h1
 exact P.truthy_int (h _ st.pop)
theorem tru_bool {a:Bool}:Tru prog w F om (.bool a) a:=fun R sig tau v₁ s Q E st h=>by
 have h1:=st.top
 simp only [Rep] at h1
 subst h1
 exact wpAny_truthy_bool (h _ st.pop)
theorem op_eq_str {a b:PySem.Str}:Op2 prog w F om (compareOp .Eq) (.str a) (.str b) (.bool (a.cps.toList == b.cps.toList)):=fun R sig tau v₁ v₂ s Q E st h=>by
 have h1:=st.top2; have h2:=st.top
 simp only [Rep] at h1 h2
 obtain ⟨t,rfl⟩:=h1; obtain ⟨u,rfl⟩:=h2
 exact P.eq_str (h _ _ (st.pop.pop.push rep_bool))
theorem op_ne_str {a b:PySem.Str}:Op2 prog w F om (compareOp .NotEq) (.str a) (.str b) (.bool (a.cps.toList != b.cps.toList)):=fun R sig tau v₁ v₂ s Q E st h=>by
 have h1:=st.top2; have h2:=st.top
 simp only [Rep] at h1 h2
 obtain ⟨t,rfl⟩:=h1; obtain ⟨u,rfl⟩:=h2
 exact P.ne_str (h _ _ (st.pop.pop.push rep_bool))
noncomputable def EvL (prog:Program) (w:World) (F:Fn) (sig:List (Option AV)) (om:Om) (es:List PySem.Expr) (ds:List AV):Prop :=
 ∀ (pos:Pos) (R:PH) (tau:List (Value × AV)) (s:Shared) (Q:List Value → Shared → Prop) (E:Value → Shared → Prop),Sta F R sig om tau s →
  (∀ vs s',vs.length = ds.length → Sta F R sig om ((vs.zip ds).reverse ++ tau) s' → Q vs s') → wpAny (model prog w) F.A (spliced (backTo pos (starEach es F.env))) Q E s
theorem evl_nil:EvL prog w F sig om [] []:=fun pos R tau s Q E st h=>wpAny_items_nil (h _ _ rfl (by simpa using st))
theorem evl_cons {e:PySem.Expr} {es:List PySem.Expr} {d:AV} {ds:List AV} (h₁:Ev prog w F sig om e d) (h₂:EvL prog w F sig om es ds)
  (he:starEach (e :: es) F.env = (false,eval e F.env) :: starEach es F.env:=by rfl):EvL prog w F sig om (e :: es) (d :: ds):=fun pos R tau s Q E st h =>
 wpAny_items_cons (h₁ R tau s _ _ st fun v s₁ st₁=>h₂ pos R _ _ _ _ st₁ fun vs s₂ hl st₂=>h _ _ (by simp [hl]) (by simpa using st₂)) he
theorem repl_zip {V:PH}:∀ {vs:List Value} {ds:List AV},vs.length = ds.length → (∀ p ∈ vs.zip ds,Rep V p.2 p.1) → RepL V ds vs
 | [],[],_,_=>.nil
 | v :: vs,d :: ds,hl,h=>.cons (h (v,d) (by simp)) (repl_zip (by simpa using hl) fun p hp=>h p (by simp [hp]))
 | [],_ :: _,hl,_=>by cases hl
 | _ :: _,[],hl,_=>by cases hl
theorem Sta.zip {vs:List Value} {ds:List AV} (hl:vs.length = ds.length) (st:Sta F R sig om ((vs.zip ds).reverse ++ tau) s):RepL (F.view R om s.heap) ds vs ∧ Sta F R sig om tau s :=
 ⟨repl_zip hl fun p hp=>st.temps p (by simp [hp]),st.temp fun p hp=>st.temps p (by simp [hp])⟩
theorem ev_tuple (ok:F.Ok) {es:List PySem.Expr} {k:Nat} {pos:Pos} {ds:List AV} (h₁:EvL prog w F sig om es ds) (hsz:ds.length ≤ sizeLine):Ev prog w F sig om (.Tuple es k pos) (.tup ds):=fun R tau s Q E st h =>
 wpAny_Tuple (h₁ pos R tau s _ _ st fun vs s₁ hl st₁=>by
  obtain ⟨r,st₂⟩:=st₁.zip hl
  refine ⟨by rw [hl]; exact hsz,h _ _ ((st₂.alloc _).push ?_)⟩
  simp only [Rep]
  refine ⟨_,vs.toArray,0,rfl,st₂.new_view ok (Nat.le_refl _) (Heap.get?_push_size _ rfl),?_⟩
  exact r.mono (F.view_grow fun _ _ e=>Heap.get?_push_of_some _ e))
theorem ev_list (ok:F.Ok) {es:List PySem.Expr} {pos:Pos} {ds:List AV} (h₁:EvL prog w F sig om es ds) (hsz:ds.length ≤ sizeLine):Ev prog w F sig om (.List es pos) (.lst ds):=fun R tau s Q E st h =>
 wpAny_List (h₁ pos R tau s _ _ st fun vs s₁ hl st₁=>by
  obtain ⟨r,st₂⟩:=st₁.zip hl
  refine ⟨by rw [hl]; exact hsz,h _ _ ((st₂.alloc _).push ?_)⟩
  simp only [Rep]
  refine ⟨_,vs.toArray,0,rfl,st₂.new_view ok (Nat.le_refl _) (Heap.get?_push_size _ rfl),?_⟩
  exact r.mono (F.view_grow fun _ _ e=>Heap.get?_push_of_some _ e))
end
end
section
mutual
inductive Cmp:Nat → AV → AV → Bool → Prop
 | int {n:Nat} (a b:Int):Cmp n (.int a) (.int b) (a == b)
 | str {n:Nat} (a b:PySem.Str):Cmp n (.str a) (.str b) (a == b)
 | bool {n:Nat} (a b:Bool):Cmp n (.bool a) (.bool b) (a == b)
 | none {n:Nat}:Cmp n .none .none true
 | lst {n:Nat} {l l':List AV} {b:Bool}:CmpL n l l' b → Cmp (n + 1) (.lst l) (.lst l') b
 | len {n:Nat} {l l':List AV}:l.length ≠ l'.length → Cmp n (.lst l) (.lst l') false
 | tup {n:Nat} {l l':List AV} {b:Bool}:CmpL n l l' b → Cmp (n + 1) (.tup l) (.tup l') b
inductive CmpL:Nat → List AV → List AV → Bool → Prop
 | nil {n:Nat}:CmpL n [] [] true
 | cons {n:Nat} {d d':AV} {l l':List AV} {b c:Bool}:Cmp n d d' b → CmpL n l l' c → CmpL n (d :: l) (d' :: l') (b && c)
end
theorem CmpL.length {n:Nat} {l l':List AV} {b:Bool} (h:CmpL n l l' b):l.length = l'.length:=by
 induction l generalizing l' b with
 | nil=>cases h; rfl
 | cons d l ih=>cases h with | cons _ h=>simp [ih h]
theorem CmpL.places {n:Nat} {l l':List AV} {b:Bool} (h:CmpL n l l' b):∃ e:Nat → Bool,(List.range l.length).all e = b ∧ ∀ (i:Nat) d d',l[i]? = some d → l'[i]? = some d' → Cmp n d d' (e i):=by
 induction l generalizing l' b with
 | nil=>cases h; exact ⟨fun _=>true,rfl,fun i d d' h=>by simp at h⟩
 | cons d l ih =>
  cases h with
  | cons c h =>
   obtain ⟨e,he,hp⟩:=ih h
   rename_i b₁ c₁
   refine ⟨fun i=>match i with | 0=>b₁ | i + 1=>e i,?_,fun i x y h1 h2=>?_⟩
   ·rw [List.length_cons,List.range_succ_eq_map,List.all_cons,List.all_map]
    exact congrArg (b₁ && ·) he
   ·cases i with
    | zero=>simp at h1 h2; subst h1 h2; exact c
    | succ i=>exact hp i x y (by simpa using h1) (by simpa using h2)
theorem CmpL.same_of {V:PH} {n:Nat} (ih:∀ {d d':AV} {b:Bool} {v:Value},Cmp n d d' b → Rep V d v → Rep V d' v → b = true) {l:List AV}:∀ {l':List AV} {b:Bool} {vs:List Value},CmpL n l l' b → RepL V l vs → RepL V l' vs → b = true:=by
 induction l with
 | nil=>intro l' b vs h _ _; cases h; rfl
 | cons d l ih2 =>
  intro l' b vs h r r'
  cases h with
  | cons c cs =>
   simp only [RepL] at r r'
   obtain ⟨v,vs₁,rfl,r,rs⟩:=r
   obtain ⟨v',vs₁',e,r',rs'⟩:=r'
   cases e
   rw [ih c r r',ih2 cs rs rs']; rfl
theorem Cmp.same_step {V:PH} {n:Nat} (ih:∀ m,n = m + 1 → ∀ {d d':AV} {b:Bool} {v:Value},Cmp m d d' b → Rep V d v → Rep V d' v → b = true) {d d':AV} {b:Bool} {v:Value} (c:Cmp n d d' b) (h:Rep V d v) (h':Rep V d' v):b = true:=by
 cases c with
 | int a b=>simp only [Rep] at h h'; obtain ⟨t,rfl⟩:=h; obtain ⟨u,e⟩:=h'; cases e; exact beq_self_eq_true _
 | str a b=>simp only [Rep] at h h'; obtain ⟨t,rfl⟩:=h; obtain ⟨u,e⟩:=h'; cases e; exact beq_self_eq_true _
 | bool a b=>simp only [Rep] at h h'; subst h; cases h'; exact beq_self_eq_true _
 | none=>rfl
 | lst c =>
  simp only [Rep] at h h'
  obtain ⟨a,vs,n,rfl,o,r⟩:=h
  obtain ⟨a',vs',n',e,o',r'⟩:=h'
  cases e
  rw [o] at o'
  cases o'
  exact CmpL.same_of (ih _ rfl) c r r'
 | len c =>
  simp only [Rep] at h h'
  obtain ⟨a,vs,n,rfl,o,r⟩:=h
  obtain ⟨a',vs',n',e,o',r'⟩:=h'
  cases e
  rw [o] at o'
  cases o'
  exact absurd (r.length.symm.trans r'.length) c
 | tup c =>
  simp only [Rep] at h h'
  obtain ⟨a,vs,n,rfl,o,r⟩:=h
  obtain ⟨a',vs',n',e,o',r'⟩:=h'
  cases e
  rw [o] at o'
  cases o'
  exact CmpL.same_of (ih _ rfl) c r r'
theorem Cmp.same {V:PH} {n:Nat}:∀ {d d':AV} {b:Bool} {v:Value},Cmp n d d' b → Rep V d v → Rep V d' v → b = true:=by
 induction n with
 | zero=>exact Cmp.same_step fun m e=>by cases e
 | succ n ih=>exact Cmp.same_step fun m e=>by cases e; exact ih
section
variable {prog:Program} {w:World} {F:Fn} {R:PH} {sig:List (Option AV)} {om:Om} {tau:List (Value × AV)} {s:Shared}
noncomputable def ViewIn (V:PH) (h:Heap):Prop:=∀ b o,V b = some o → h.get? b = some o
theorem cmp_at {V:PH} {s:Shared} (hv:ViewIn V s.heap):∀ (n:Nat) {d d':AV} {b:Bool} {v v':Value} {A:Around},A.units + n < cLine → Cmp n d d' b → Rep V d v → Rep V d' v' →
  SeqAt.RcAt A s v v' b ∧ SeqAt.RcNeAt A s v v' (!b) ∧ SeqAt.EqAt A s v v' b:=by
 intro n
 induction n with
 | zero =>
  intro d d' b v v' A hu c h h'
  cases c with
  | int a b =>
   simp only [Rep] at h h'; obtain ⟨t,rfl⟩:=h; obtain ⟨u,rfl⟩:=h'
   exact ⟨SeqAt.RcAt.int_int _ _ _ _,SeqAt.RcNeAt.int_int _ _ _ _,SeqAt.EqAt.int_int _ _ _ _⟩
  | str a b =>
   simp only [Rep] at h h'; obtain ⟨t,rfl⟩:=h; obtain ⟨u,rfl⟩:=h'
   exact ⟨SeqAt.RcAt.str_str _ _ _ _,SeqAt.RcNeAt.str_str _ _ _ _,SeqAt.EqAt.str_str _ _ _ _⟩
  | bool a b =>
   simp only [Rep] at h h'; subst h; subst h'
   exact ⟨SeqAt.RcAt.bool_bool _ _,SeqAt.RcNeAt.bool_bool _ _,SeqAt.EqAt.bool_bool _ _⟩
  | none =>
   simp only [Rep] at h h'; subst h; subst h'
   exact ⟨SeqAt.RcAt.none_none,SeqAt.RcNeAt.none_none,SeqAt.EqAt.same _⟩
  | len hl =>
   rename_i l l'
   have hs:=h
   have hs':=h'
   simp only [Rep] at h h'
   obtain ⟨a,vs,k,rfl,o,r⟩:=h
   obtain ⟨a',vs',k',rfl,o',r'⟩:=h'
   have hsz:(vs.size != vs'.size) = true:=by
    have h1:=r.length; have h2:=r'.length
    simp only [Array.length_toList] at h1 h2
    simp only [bne_iff_ne,ne_eq]; lia
   have L:s.heap.IsList a vs:=⟨_,hv _ _ o,rfl,k,rfl⟩
   have L':s.heap.IsList a' vs':=⟨_,hv _ _ o',rfl,k',rfl⟩
   have rc:=SeqAt.RcAt.lists_lengths (A:=A) L L' hsz (by lia)
   refine ⟨rc,SeqAt.RcNeAt.lists_lengths L L' hsz (by lia),?_⟩
   by_cases ha:a = a'
   ·subst ha
    exact absurd ((Cmp.len (n:=0) hl).same hs hs') Bool.false_ne_true
   ·exact SeqAt.EqAt.of_refs ha rc
 | succ n ih =>
  intro d d' b v v' A hu c h h'
  cases c with
  | int a b =>
   simp only [Rep] at h h'; obtain ⟨t,rfl⟩:=h; obtain ⟨u,rfl⟩:=h'
   exact ⟨SeqAt.RcAt.int_int _ _ _ _,SeqAt.RcNeAt.int_int _ _ _ _,SeqAt.EqAt.int_int _ _ _ _⟩
  | str a b =>
   simp only [Rep] at h h'; obtain ⟨t,rfl⟩:=h; obtain ⟨u,rfl⟩:=h'
   exact ⟨SeqAt.RcAt.str_str _ _ _ _,SeqAt.RcNeAt.str_str _ _ _ _,SeqAt.EqAt.str_str _ _ _ _⟩
  | bool a b =>
   simp only [Rep] at h h'; subst h; subst h'
   exact ⟨SeqAt.RcAt.bool_bool _ _,SeqAt.RcNeAt.bool_bool _ _,SeqAt.EqAt.bool_bool _ _⟩
  | none =>
   simp only [Rep] at h h'; subst h; subst h'
   exact ⟨SeqAt.RcAt.none_none,SeqAt.RcNeAt.none_none,SeqAt.EqAt.same _⟩
  | len hl =>
   rename_i l l'
   have hs:=h
   have hs':=h'
   simp only [Rep] at h h'
   obtain ⟨a,vs,k,rfl,o,r⟩:=h
   obtain ⟨a',vs',k',rfl,o',r'⟩:=h'
   have hsz:(vs.size != vs'.size) = true:=by
    have h1:=r.length; have h2:=r'.length
    simp only [Array.length_toList] at h1 h2
    simp only [bne_iff_ne,ne_eq]; lia
   have L:s.heap.IsList a vs:=⟨_,hv _ _ o,rfl,k,rfl⟩
   have L':s.heap.IsList a' vs':=⟨_,hv _ _ o',rfl,k',rfl⟩
   have rc:=SeqAt.RcAt.lists_lengths (A:=A) L L' hsz (by lia)
   refine ⟨rc,SeqAt.RcNeAt.lists_lengths L L' hsz (by lia),?_⟩
   by_cases ha:a = a'
   ·subst ha
    exact absurd ((Cmp.len (n:=0) hl).same hs hs') Bool.false_ne_true
   ·exact SeqAt.EqAt.of_refs ha rc
  | lst cl =>
   rename_i l l'
   have hs:=h
   have hs':=h'
   simp only [Rep] at h h'
   obtain ⟨a,vs,k,rfl,o,r⟩:=h
   obtain ⟨a',vs',k',rfl,o',r'⟩:=h'
   obtain ⟨e,he,hp⟩:=cl.places
   have h1:=r.length; have h2:=r'.length; have h3:=cl.length
   simp only [Array.length_toList] at h1 h2
   have hel:∀ j (h1:j < vs.size) (h2:j < vs'.size),SeqAt.EqAt A.in1 s vs[j] vs'[j] (e j):=fun j q1 q2=>by
    have hj:j < l.length:=by lia
    have hj':j < l'.length:=by lia
    obtain ⟨x,hx,rx⟩:=r.get (i:=j) (d:=l[j]) (by simp [hj])
    obtain ⟨x',hx',rx'⟩:=r'.get (i:=j) (d:=l'[j]) (by simp [hj'])
    have ex:x = vs[j]:=by simpa [q1] using hx.symm
    have ex':x' = vs'[j]:=by simpa [q2] using hx'.symm
    subst ex ex'
    exact (ih (A:=A.in1) (by show A.units + 1 + n < cLine; lia) (hp j _ _ (by simp [hj]) (by simp [hj'])) rx rx').2.2
   have L:s.heap.IsList a vs:=⟨_,hv _ _ o,rfl,k,rfl⟩
   have L':s.heap.IsList a' vs':=⟨_,hv _ _ o',rfl,k',rfl⟩
   have rc:=SeqAt.RcAt.lists (A:=A) (e:=e) L L' (by lia) (by lia) hel
   have rn:=SeqAt.RcNeAt.lists (A:=A) (e:=e) L L' (by lia) (by lia) hel
   have ee:(List.range vs.size).all e = b:=by rw [h1]; exact he
   rw [ee] at rc
   refine ⟨rc,by first | (rw [ee] at rn; exact rn) | exact rn,?_⟩
   by_cases ha:a = a'
   ·subst ha
    rw [(Cmp.lst cl).same hs hs']; exact SeqAt.EqAt.same _
   ·exact SeqAt.EqAt.of_refs ha rc
  | tup cl =>
   rename_i l l'
   have hs:=h
   have hs':=h'
   simp only [Rep] at h h'
   obtain ⟨a,vs,k,rfl,o,r⟩:=h
   obtain ⟨a',vs',k',rfl,o',r'⟩:=h'
   obtain ⟨e,he,hp⟩:=cl.places
   have h1:=r.length; have h2:=r'.length; have h3:=cl.length
   simp only [Array.length_toList] at h1 h2
   have hel:∀ j (h1:j < vs.size) (h2:j < vs'.size),SeqAt.EqAt A.in1 s vs[j] vs'[j] (e j):=fun j q1 q2=>by
    have hj:j < l.length:=by lia
    have hj':j < l'.length:=by lia
    obtain ⟨x,hx,rx⟩:=r.get (i:=j) (d:=l[j]) (by simp [hj])
    obtain ⟨x',hx',rx'⟩:=r'.get (i:=j) (d:=l'[j]) (by simp [hj'])
    have ex:x = vs[j]:=by simpa [q1] using hx.symm
    have ex':x' = vs'[j]:=by simpa [q2] using hx'.symm
    subst ex ex'
    exact (ih (A:=A.in1) (by show A.units + 1 + n < cLine; lia) (hp j _ _ (by simp [hj]) (by simp [hj'])) rx rx').2.2
   have L:s.heap.IsTuple a vs:=⟨_,hv _ _ o,rfl,k,rfl⟩
   have L':s.heap.IsTuple a' vs':=⟨_,hv _ _ o',rfl,k',rfl⟩
   have rc:=SeqAt.RcAt.tuples (A:=A) (e:=e) L L' (by lia) hel
   have rn:=SeqAt.RcNeAt.tuples (A:=A) (e:=e) L L' (by lia) hel
   have ee:((List.range (min vs.size vs'.size)).all e && vs.size == vs'.size) = b:=by
    rw [show vs'.size = vs.size by lia,Nat.min_self,h1,he]; simp
   rw [ee] at rc rn
   refine ⟨rc,rn,?_⟩
   by_cases ha:a = a'
   ·subst ha
    rw [(Cmp.tup cl).same hs hs']; exact SeqAt.EqAt.same _
   ·exact SeqAt.EqAt.of_refs ha rc
end
end
section
section
variable {prog:Program} {w:World} {F:Fn} {R:PH} {sig:List (Option AV)} {om:Om} {tau:List (Value × AV)} {s:Shared}
theorem Sta.viewIn (x:Sta F R sig om tau s):ViewIn (F.view R om s.heap) s.heap:=fun _ _ e=>x.vget e
theorem units_lt (ok:F.Ok) {n:Nat} (h:n ≤ 1000):F.A.units + n < cLine:=by have:=ok.units; unfold cLine; lia
theorem op_eq (ok:F.Ok) {n:Nat} {d d':AV} {b:Bool} (c:Cmp n d d' b) (hn:n ≤ 1000:=by decide):Op2 prog w F om (compareOp .Eq) d d' (.bool b):=fun R sig tau v₁ v₂ s Q E st h =>
 (cmp_at st.viewIn n (A:=F.A) (units_lt ok hn) c st.top2 st.top).1 prog w E _ (h _ _ (st.pop.pop.push rep_bool))
theorem op_ne (ok:F.Ok) {n:Nat} {d d':AV} {b:Bool} (c:Cmp n d d' b) (hn:n ≤ 1000:=by decide):Op2 prog w F om (compareOp .NotEq) d d' (.bool (!b)):=fun R sig tau v₁ v₂ s Q E st h =>
 (cmp_at st.viewIn n (A:=F.A) (units_lt ok hn) c st.top2 st.top).2.1 prog w E _ (h _ _ (st.pop.pop.push rep_bool))
theorem op_is_none {d:AV} {b:Bool} (hd:∀ V v,Rep V d v → (v == .none) = b):Op2 prog w F om (compareOp .Is) d .none (.bool b):=fun R sig tau v₁ v₂ s Q E st h=>by
 have h2:=st.top
 simp only [Rep] at h2
 subst h2
 refine is_none ?_
 rw [hd _ _ st.top2]
 exact h _ _ (st.pop.pop.push rep_bool)
theorem op_isNot_none {d:AV} {b:Bool} (hd:∀ V v,Rep V d v → (v == .none) = b):Op2 prog w F om (compareOp .IsNot) d .none (.bool (!b)):=fun R sig tau v₁ v₂ s Q E st h=>by
 have h2:=st.top
 simp only [Rep] at h2
 subst h2
 refine isNot_none ?_
 rw [hd _ _ st.top2]
 exact h _ _ (st.pop.pop.push rep_bool)
theorem Sta.newList (ok:F.Ok) (x:Sta F R sig om tau s) {l:List AV} {vs:Array Value} {h':Heap} {a:Addr} {n tk:Nat} (ha:s.heap.objs.size ≤ a) (k:∀ b o,s.heap.get? b = some o → h'.get? b = some o)
  (e:h'.get? a = some { cls:=.type "list",data:=.seq vs n }) (r:RepL (F.view R om s.heap) l vs.toList):Sta F R sig om ((.ref a,.lst l) :: tau) { s with heap:=h',toks:=tk }:=by
 refine (x.grow k).push ?_
 simp only [Rep]
 exact ⟨a,vs,n,rfl,x.new_view ok ha e,r.mono (F.view_grow k)⟩
theorem Sta.newTup (ok:F.Ok) (x:Sta F R sig om tau s) {l:List AV} {vs:Array Value} {h':Heap} {a:Addr} {n tk:Nat} (ha:s.heap.objs.size ≤ a) (k:∀ b o,s.heap.get? b = some o → h'.get? b = some o)
  (e:h'.get? a = some { cls:=.type "tuple",data:=.seq vs n }) (r:RepL (F.view R om s.heap) l vs.toList):Sta F R sig om ((.ref a,.tup l) :: tau) { s with heap:=h',toks:=tk }:=by
 refine (x.grow k).push ?_
 simp only [Rep]
 exact ⟨a,vs,n,rfl,x.new_view ok ha e,r.mono (F.view_grow k)⟩
theorem op_cat (ok:F.Ok) {l l':List AV} (hsz:l.length + l'.length ≤ sizeLine):Op2 prog w F om (binaryOp .Add) (.lst l) (.lst l') (.lst (l ++ l')):=fun R sig tau v₁ v₂ s Q E st h=>by
 have h1:=st.top2; have h2:=st.top
 simp only [Rep] at h1 h2
 obtain ⟨a,vs,n,rfl,o,r⟩:=h1
 obtain ⟨a',vs',n',rfl,o',r'⟩:=h2
 have e1:=r.length; have e2:=r'.length
 simp only [Array.length_toList] at e1 e2
 refine P.add_list (st.vget o) (st.vget o') ?_ (by lia)
 exact h _ _ (st.pop.pop.newList ok (Nat.le_refl _) (fun _ _ e=>Heap.get?_push_of_some _ e) (Heap.get?_push_size _ rfl) (by rw [Array.toList_append]; exact r.append r'))
theorem ev_sub {value slice:PySem.Expr} {pos:Pos} {d₁ d₂ d:AV} (h₁:Ev prog w F sig om value d₁) (h₂:Ev prog w F sig om slice d₂) (o:Op2 prog w F om (subscriptTail value slice) d₁ d₂ d) :
  Ev prog w F sig om (.Subscript value slice pos) d:=fun R tau s Q E st h =>
 Subscript_ (h₁ R tau s _ _ st fun _ _ st₁=>h₂ R _ _ _ _ st₁ fun _ _ st₂=>o R sig tau _ _ _ _ _ st₂ h)
noncomputable def NoSlice (slice:PySem.Expr):Prop:=∀ o i,subscripted slice false o i = operate [o,i] (getItem o i)
theorem item_list {value slice:PySem.Expr} {l:List AV} {k:Int} {d:AV} (hn:NoSlice slice) (h0:0 ≤ k) (hk:k < 2 ^ 63) (hd:l[k.toNat]? = some d):Op2 prog w F om (subscriptTail value slice) (.lst l) (.int k) d:=fun R sig tau v₁ v₂ s Q E st h=>by
 have h1:=st.top2; have h2:=st.top
 simp only [Rep] at h1 h2
 obtain ⟨a,vs,n,rfl,o,r⟩:=h1
 obtain ⟨t,rfl⟩:=h2
 obtain ⟨v,hv,rv⟩:=r.get hd
 have L:s.heap.IsList a vs:=⟨_,st.vget o,rfl,n,rfl⟩
 exact tail_any L.typeIs slot_list_getitem.lookup (wpAny_getItem_list L h0 hk (by simpa using hv) (h _ _ (st.pop.pop.push rv))) (hn _ _)
noncomputable def sliceAV (lo hi st:Option Int):AV:=.raw fun V v=>∃ a n vl vu vs,v = .ref a ∧ V a = some { cls:=.type "slice",data:=.fields #[vl,vu,vs],dict:=n } ∧ IsPart vl lo ∧ IsPart vu hi ∧ IsPart vs st
noncomputable def EvP (prog:Program) (w:World) (F:Fn) (sig:List (Option AV)) (om:Om) (e:Option PySem.Expr) (k:Option Int):Prop:=match e,k with
 | none,none=>True
 | some e,some k=>Ev prog w F sig om e (.int k)
 | _,_=>False
theorem EvP.run {e:Option PySem.Expr} {k:Option Int} (p:EvP prog w F sig om e k) (st:Sta F R sig om tau s) {Q:Value → Shared → Prop} {E:Value → Shared → Prop}
  (h:∀ v s',IsPart v k → Sta F R sig om tau s' → Q v s'):wpAny (model prog w) F.A (evalPart e F.env) Q E s:=by
 cases e with
 | none=>cases k with
  | none=>rw [evalPart_none]; exact wpAny_pure (h _ _ .none st)
  | some k=>exact p.elim
 | some e=>cases k with
  | none=>exact p.elim
  | some k =>
   rw [evalPart_some]
   refine p R tau s _ _ st fun v s' st'=>?_
   have:=st'.top
   simp only [Rep] at this
   obtain ⟨t,rfl⟩:=this
   exact h _ _ (.int _ _) st'.pop
theorem ev_slice (ok:F.Ok) {lower upper step:Option PySem.Expr} {p:Pos} {lo hi st:Option Int} (h₁:EvP prog w F sig om lower lo) (h₂:EvP prog w F sig om upper hi) (h₃:EvP prog w F sig om step st) :
  Ev prog w F sig om (.Slice lower upper step p) (sliceAV lo hi st):=fun R tau s Q E x h =>
 wpAny_Slice (h₁.run x fun vl s₁ p₁ x₁=>h₂.run x₁ fun vu s₂ p₂ x₂=>h₃.run x₂ fun vs s₃ p₃ x₃=>by
  refine h _ _ ((x₃.alloc _).push ?_)
  simp only [Rep,sliceAV]
  exact fun V' kV=>⟨_,_,vl,vu,vs,rfl,kV _ _ (x₃.new_view ok (Nat.le_refl _) (Heap.get?_push_size _ rfl)),p₁,p₂,p₃⟩)
noncomputable def IsSl (slice:PySem.Expr):Prop:=∀ o i,∃ ops,subscripted slice false o i = operate ops (getItem o i)
theorem item_slice (ok:F.Ok) {value slice:PySem.Expr} {l l':List AV} {lo hi st:Option Int} (hn:IsSl slice) (h0:st ≠ some 0) (hsz:l.length ≤ sizeLine)
  (hp:∀ V (vs:Array Value),RepL V l vs.toList → RepL V l' (slicePick vs lo hi st).toList):Op2 prog w F om (subscriptTail value slice) (.lst l) (sliceAV lo hi st) (.lst l'):=fun R sig tau v₁ v₂ s Q E x h=>by
 have h1:=x.top2; have h2:=x.top
 simp only [Rep,sliceAV] at h1 h2
 obtain ⟨a,vs,n,rfl,o,r⟩:=h1
 obtain ⟨b,nb,vl,vu,vst,rfl,ob,p1,p2,p3⟩:=h2 _ (PH.le.refl _)
 have L:s.heap.IsList a vs:=⟨_,x.vget o,rfl,n,rfl⟩
 have e:=r.length
 simp only [Array.length_toList] at e
 obtain ⟨ops,ho⟩:=hn (.ref a) (.ref b)
 refine tail_any L.typeIs slot_list_getitem.lookup (wpAny_getItem_list_slice L ⟨_,x.vget ob,rfl,rfl⟩ p1 p2 p3 h0 ?_ (by lia)) ho
 exact h _ _ (x.pop.pop.newList ok (Nat.le_refl _) (fun _ _ e=>Heap.get?_push_of_some _ e) (Heap.get?_push_size _ rfl) (hp _ _ r))
theorem pick_upto {b:Nat} {l:List AV}:∀ V (vs:Array Value),RepL V l vs.toList → RepL V (l.take b) (slicePick vs none (some (b:Int)) none).toList:=fun V vs r=>by
 rw [slicePick_upto']; exact r.take b
theorem pick_from {a:Nat} {l:List AV}:∀ V (vs:Array Value),RepL V l vs.toList → RepL V (l.drop a) (slicePick vs (some (a:Int)) none none).toList:=fun V vs r=>by
 rw [slicePick_from']; exact r.drop a
theorem pick_between {a b:Nat} {l:List AV}:∀ V (vs:Array Value),RepL V l vs.toList → RepL V ((l.take b).drop a) (slicePick vs (some (a:Int)) (some (b:Int)) none).toList:=fun V vs r=>by
 have e:=r.length
 simp only [Array.length_toList] at e
 rw [slicePick_plain]
 simp only [Option.elim,clipAt_nat]
 have e':List.take (min b vs.size - min a vs.size) (List.drop (min a vs.size) vs.toList) = List.drop a (List.take b vs.toList):=by
  rw [List.drop_take]
  by_cases h1:a ≤ vs.size
  ·rw [Nat.min_eq_left h1]
   by_cases h2:b ≤ vs.size
   ·rw [Nat.min_eq_left h2]
   ·rw [Nat.min_eq_right (by lia),List.take_of_length_le (by simp),List.take_of_length_le (by simp; lia)]
  ·have ha:vs.size ≤ a:=by lia
   rw [show min a vs.size = vs.size from Nat.min_eq_right ha,List.drop_of_length_le (l:=vs.toList) (i:=vs.size) (by simp),List.drop_of_length_le (l:=vs.toList) (i:=a) (by simpa using ha)]; simp
 rw [e']
 exact (r.take b).drop a
theorem pick_rev {l:List AV}:∀ V (vs:Array Value),RepL V l vs.toList → RepL V l.reverse (slicePick vs none none (some (-1))).toList:=fun V vs r=>by
 rw [krv_pick]; exact r.reverse
noncomputable def Callee (prog:Program) (w:World) (F:Fn) (f:Value):Prop:=∀ h:Heap,(∀ b o,F.G b = some o → h.get? b = some o) → ∃ k,(k = Keeper.frame ∨ k = Keeper.machine ∨ k = Keeper.boundFrame) ∧ Looks (model prog w) h (keeperOf f) k
theorem callee_builtin {id:String}:Callee prog w F (.builtin id):=fun h _=>⟨.machine,.inr (.inl rfl),Looks.of_pure rfl⟩
theorem callee_type {T:String}:Callee prog w F (.type T):=fun h _=>⟨.machine,.inr (.inl rfl),Looks.of_pure rfl⟩
noncomputable def OpC (prog:Program) (w:World) (F:Fn) (om:Om) (f:Value) (ds:List AV) (d:AV):Prop :=
 ∀ (R:PH) (sig:List (Option AV)) (tau:List (Value × AV)) (vs:List Value) (s:Shared) (Q:Value → Shared → Prop) (E:Value → Shared → Prop),vs.length = ds.length → Sta F R sig om ((vs.zip ds).reverse ++ tau) s →
  (∀ v s',Sta F R sig om ((v,d) :: tau) s' → Q v s') → wpAny (model prog w) F.A (call f vs) Q E s
theorem args_run {f:Value} {ts:List (Bool × Sem Value)} {Q:Args → Shared → Prop} {E:Value → Shared → Prop} (hp:ts.any (·.1) = false) (h:wpAny (model prog w) F.A (spliced ts) (fun vs s₁=>Q ⟨vs,[]⟩ s₁) E s) :
  wpAny (model prog w) F.A (evalArgs f true ts []) Q E s:=by
 cases ts with
 | nil =>
  unfold evalArgs
  show wpAny _ _ (spliced [] >>= _) Q E s
  refine wpAny_bind (wpAny_mono h (fun vs s' h'=>?_) fun _ _ x=>x)
  refine wpAny_bind (wpAny_pure (wpAny_holding ?_))
  exact wpAny_bind (wpAny_pure (wpAny_bind (wpAny_pure (wpAny_pure h'))))
 | cons t r =>
  obtain ⟨b,x⟩:=t
  cases b with
  | true=>simp at hp
  | false=>exact Calls.evalArgs_plain h
theorem ev_call {func:PySem.Expr} {args:List PySem.Expr} {pos:Pos} {f:Value} {ds:List AV} {d:AV} (h₁:Ev prog w F sig om func (.raw fun _ u=>u = f)) (c:Callee prog w F f) (h₂:EvL prog w F sig om args ds) (o:OpC prog w F om f ds d)
  (hc:eval (.Call func args [] pos) F.env = (do callWith pos (← eval func F.env) [] (backTo pos (starEach args F.env)) (backToKw pos (keywordEach [] F.env))):=by rfl)
  (hp:(backTo pos (starEach args F.env)).any (·.1) = false:=by rfl) :
  Ev prog w F sig om (.Call func args [] pos) d:=fun R tau s Q E st h=>by
 rw [hc]
 refine wpAny_bind (h₁ R tau s _ _ st fun v s₁ st₁=>?_)
 have:=st₁.top
 simp only [Rep] at this
 obtain rfl:=this _ (PH.le.refl _)
 refine callWith_of (P:=fun h=>∀ b o,F.G b = some o → h.get? b = some o) (by show ((backTo pos (starEach args F.env)).any (·.1) || false) = false; rw [hp]; rfl) c (args_run hp (h₂ pos R tau s₁ _ _ st₁.pop fun vs s₂ hv st₂=>?_))
 exact ⟨fun b o e=>(st₂.g b o e).2.2.1,o R sig tau vs s₂ _ _ hv st₂ h⟩
theorem two_of {vs:List Value} {d₁ d₂:AV} (h:vs.length = [d₁,d₂].length) (st:Sta F R sig om ((vs.zip [d₁,d₂]).reverse ++ tau) s):∃ v₁ v₂,vs = [v₁,v₂] ∧ Sta F R sig om ((v₂,d₂) :: (v₁,d₁) :: tau) s:=by
 obtain ⟨v₁,v₂,rfl⟩:=len2 h
 exact ⟨v₁,v₂,rfl,st⟩
theorem one_of {vs:List Value} {d₁:AV} (h:vs.length = [d₁].length) (st:Sta F R sig om ((vs.zip [d₁]).reverse ++ tau) s):∃ v₁,vs = [v₁] ∧ Sta F R sig om ((v₁,d₁) :: tau) s:=by
 obtain ⟨v₁,rfl⟩:=len1 h
 exact ⟨v₁,rfl,st⟩
theorem c_len_list {l:List AV} (hl:l.length < 2 ^ 62):OpC prog w F om (.builtin "len") [.lst l] (.int l.length):=fun R sig tau vs s Q E hv st h=>by
 obtain ⟨v,rfl,st⟩:=one_of hv st
 have h1:=st.top
 simp only [Rep] at h1
 obtain ⟨a,vs,n,rfl,o,r⟩:=h1
 have e:=r.length
 simp only [Array.length_toList] at e
 refine Calls.call_len_list (items:=vs) ⟨_,st.vget o,rfl,n,rfl⟩ (by lia) ?_
 rw [e]
 exact h _ _ (st.pop.tok2.push rep_int)
theorem c_max {a b:Int} (ok:F.Ok):OpC prog w F om (.builtin "max") [.int a,.int b] (.int (max a b)):=fun R sig tau vs s Q E hv st h=>by
 obtain ⟨v₁,v₂,rfl,st⟩:=two_of hv st
 have h1:=st.top2; have h2:=st.top
 simp only [Rep] at h1 h2
 obtain ⟨t,rfl⟩:=h1; obtain ⟨u,rfl⟩:=h2
 refine max_two_ints ok.handled fun h' tk hk=>?_
 have:=(st.pop.pop.grow (tk:=tk) hk)
 split
 ·rw [Int.max_eq_right (by lia)] at h; exact h _ _ (this.push rep_int)
 ·rw [Int.max_eq_left (by lia)] at h; exact h _ _ (this.push rep_int)
theorem c_min {a b:Int} (ok:F.Ok):OpC prog w F om (.builtin "min") [.int a,.int b] (.int (min a b)):=fun R sig tau vs s Q E hv st h=>by
 obtain ⟨v₁,v₂,rfl,st⟩:=two_of hv st
 have h1:=st.top2; have h2:=st.top
 simp only [Rep] at h1 h2
 obtain ⟨t,rfl⟩:=h1; obtain ⟨u,rfl⟩:=h2
 refine min_two_ints ok.handled fun h' tk hk=>?_
 have:=(st.pop.pop.grow (tk:=tk) hk)
 split
 ·rw [Int.min_eq_right (by lia)] at h; exact h _ _ (this.push rep_int)
 ·rw [Int.min_eq_left (by lia)] at h; exact h _ _ (this.push rep_int)
theorem c_range1 {n:Int} (ok:F.Ok):OpC prog w F om (.type "range") [.int n] (.rng 0 n):=fun R sig tau vs s Q E hv st h=>by
 obtain ⟨v,rfl,st⟩:=one_of hv st
 have h1:=st.top
 simp only [Rep] at h1
 obtain ⟨t,rfl⟩:=h1
 refine call_range_1 (h _ _ ((st.pop.grow (fun _ _ e=>Heap.get?_push_of_some _ e)).push ?_))
 simp only [Rep]
 exact ⟨_,_,_,_,rfl,st.new_view ok (Nat.le_refl _) (Heap.get?_push_size _ rfl)⟩
theorem c_range2 {a b:Int} (ok:F.Ok):OpC prog w F om (.type "range") [.int a,.int b] (.rng a b):=fun R sig tau vs s Q E hv st h=>by
 obtain ⟨v₁,v₂,rfl,st⟩:=two_of hv st
 have h1:=st.top2; have h2:=st.top
 simp only [Rep] at h1 h2
 obtain ⟨t,rfl⟩:=h1; obtain ⟨u,rfl⟩:=h2
 refine call_range_2 (h _ _ ((st.pop.pop.grow (fun _ _ e=>Heap.get?_push_of_some _ e)).push ?_))
 simp only [Rep]
 exact ⟨_,_,_,_,rfl,st.new_view ok (Nat.le_refl _) (Heap.get?_push_size _ rfl)⟩
end
end
section
inductive Out where
 | nxt (sig:List (Option AV)) (om:Om)
 | brk (sig:List (Option AV)) (om:Om)
 | cnt (sig:List (Option AV)) (om:Om)
 | ret (d:AV) (sig:List (Option AV)) (om:Om)
noncomputable def Lands (F:Fn) (R:PH) (tau:List (Value × AV)):Out → Flow → Shared → Prop
 | .nxt sig om,.next,s=>Sta F R sig om tau s
 | .brk sig om,.brk,s=>Sta F R sig om tau s
 | .cnt sig om,.cont,s=>Sta F R sig om tau s
 | .ret d sig om,.ret v,s=>Sta F R sig om ((v,d) :: tau) s
 | _,_,_=>False
section
variable {prog:Program} {w:World} {F:Fn} {R:PH} {sig sig':List (Option AV)} {om om':Om} {tau:List (Value × AV)} {s:Shared}
noncomputable def Ex1 (prog:Program) (w:World) (F:Fn) (sig:List (Option AV)) (om:Om) (st:Stmt) (P:Out → Prop):Prop :=
 ∀ (R:PH) (tau:List (Value × AV)) (s:Shared) (Q:Flow → Shared → Prop) (E:Value → Shared → Prop),Sta F R sig om tau s →
  (∀ o f s',P o → Lands F R tau o f s' → Q f s') → wpAny (model prog w) F.A (exec st F.env) Q E s
noncomputable def Ex (prog:Program) (w:World) (F:Fn) (sig:List (Option AV)) (om:Om) (sts:List Stmt) (P:Out → Prop):Prop :=
 ∀ (R:PH) (tau:List (Value × AV)) (s:Shared) (Q:Flow → Shared → Prop) (E:Value → Shared → Prop),Sta F R sig om tau s →
  (∀ o f s',P o → Lands F R tau o f s' → Q f s') → wpAny (model prog w) F.A (execs sts F.env) Q E s
theorem ex_nil {P:Out → Prop} (h:P (.nxt sig om)):Ex prog w F sig om [] P:=fun R tau s Q E st hq=>wpAny_execs_nil (hq _ _ _ h st)
theorem ex_cons {st:Stmt} {rest:List Stmt} {P₁ P:Out → Prop} (h₁:Ex1 prog w F sig om st P₁)
  (h₂:∀ o,P₁ o → match o with | .nxt sig' om'=>Ex prog w F sig' om' rest P | o=>P o):Ex prog w F sig om (st :: rest) P:=fun R tau s Q E x hq =>
 wpAny_execs_cons (h₁ R tau s _ _ x fun o f s' ho hl=>by
  have:=h₂ o ho
  cases o <;> cases f <;> first
   | exact False.elim hl
   | exact this R tau s' _ _ hl hq
   | exact hq _ _ _ this hl)
theorem ex_seq {st:Stmt} {rest:List Stmt} {P:Out → Prop} (h₁:Ex1 prog w F sig om st (· = .nxt sig' om')) (h₂:Ex prog w F sig' om' rest P):Ex prog w F sig om (st :: rest) P :=
 ex_cons h₁ fun o ho=>by subst ho; exact h₂
theorem ex_mono {st:List Stmt} {P P':Out → Prop} (h:Ex prog w F sig om st P) (k:∀ o,P o → P' o):Ex prog w F sig om st P':=fun R tau s Q E x hq=>h R tau s Q E x fun o f s' ho=>hq o f s' (k o ho)
theorem ex_return {e:PySem.Expr} {pos:Pos} {d:AV} {P:Out → Prop} (h:Ev prog w F sig om e d) (hp:P (.ret d sig om)):Ex1 prog w F sig om (.Return (some e) pos) P:=fun R tau s Q E x hq =>
 wpAny_Return_some (h R tau s _ _ x fun v s' x'=>hq _ _ _ hp x')
theorem ex_return_none {pos:Pos} {P:Out → Prop} (hp:P (.ret .none sig om)):Ex1 prog w F sig om (.Return none pos) P:=fun R tau s Q E x hq =>
 wpAny_Return_none (hq _ _ _ hp (x.push rep_none))
theorem ex_break {pos:Pos} {P:Out → Prop} (hp:P (.brk sig om)):Ex1 prog w F sig om (.Break pos) P:=fun R tau s Q E x hq=>wpAny_Break (hq _ _ _ hp x)
theorem ex_continue {pos:Pos} {P:Out → Prop} (hp:P (.cnt sig om)):Ex1 prog w F sig om (.Continue pos) P:=fun R tau s Q E x hq=>wpAny_Continue (hq _ _ _ hp x)
theorem ex_doc {x:PySem.Str} {k:Nat} {p pos:Pos} {P:Out → Prop} (hp:P (.nxt sig om)) (hi:interactive F.env = false:=by rfl):Ex1 prog w F sig om (.Expr (.Constant (.str x) k p) pos) P:=fun R tau s Q E st hq =>
 wpAny_Expr (ev_str R tau s _ _ st fun v s' st'=>by
  have:=st'.top
  simp only [Rep] at this
  obtain ⟨t,rfl⟩:=this
  exact hq _ _ _ hp st'.pop) hi rfl
theorem ex_if {t:PySem.Expr} {body orelse:List Stmt} {pos:Pos} {b:Bool} {P:Out → Prop} (ht:Tst prog w F sig om t b) (h₁:b = true → Ex prog w F sig om body P) (h₂:b = false → Ex prog w F sig om orelse P) :
  Ex1 prog w F sig om (.If t body orelse pos) P:=fun R tau s Q E x hq =>
 wpAny_If (ht R tau s _ _ x fun s' x'=>by
  cases b with
  | true=>exact h₁ rfl R tau s' _ _ x' hq
  | false=>exact h₂ rfl R tau s' _ _ x' hq)
theorem Fn.D_nodup_L (h:(F.D om).Nodup):F.L ∉ F.cs ∧ F.L ∉ om.map (·.1):=by
 unfold Fn.D at h
 rw [List.nodup_cons,List.mem_append,not_or] at h
 exact h.1
theorem view_but {a:Addr} {h h':Heap} (ha:a ∈ F.D om) (hs:Heap.SameBut a h h'):(F.view R om h).le (F.view R om h'):=fun b o e=>by
 unfold Fn.view at e ⊢
 split at e
 ·cases e
 ·rename_i hb
  rw [if_neg hb]
  split at e
  ·rename_i q; rw [if_pos q]; exact e
  ·rename_i q; rw [if_neg q]; exact hs.extBut b o (fun e'=>hb (.inl (e' ▸ ha))) e
theorem name_ne (ok:F.Ok) {k k':Nat} {x y:PySem.Str} {kd kd':NameKind} (h:F.names[k]? = some (x,kd)) (h':F.names[k']? = some (y,kd')) (hne:k' ≠ k):y ≠ x:=by
 rintro rfl
 have hn:=ok.nodup
 rw [List.nodup_iff_pairwise_ne,List.pairwise_iff_getElem] at hn
 obtain ⟨h1,e1⟩:=List.getElem?_eq_some_iff.mp h
 obtain ⟨h2,e2⟩:=List.getElem?_eq_some_iff.mp h'
 rcases Nat.lt_or_gt_of_ne hne with q | q
 ·exact hn k' k (by simpa using h2) (by simpa using h1) q (by rw [List.getElem_map,List.getElem_map,e1,e2])
 ·exact hn k k' (by simpa using h1) (by simpa using h2) q (by rw [List.getElem_map,List.getElem_map,e1,e2])
theorem Sta.but (x:Sta F R sig om tau s) {a:Addr} {h':Heap} (ha:a ∈ F.D om) (hs:Heap.SameBut a s.heap h') :
  (∀ b o,F.G b = some o → b < F.n₀ ∧ b ∉ F.D om ∧ h'.get? b = some o ∧ R b = none) ∧ (∀ b o,R b = some o → b ∉ F.D om ∧ h'.get? b = some o) ∧ (∀ p ∈ tau,Rep (F.view R om h') p.2 p.1) :=
 ⟨fun b o e=>⟨(x.g b o e).1,(x.g b o e).2.1,hs.extBut b o (fun q=>(x.g b o e).2.1 (q ▸ ha)) (x.g b o e).2.2.1,(x.g b o e).2.2.2⟩,fun b o e=>⟨(x.rf b o e).1,hs.extBut b o (fun q=>(x.rf b o e).1 (q ▸ ha)) (x.rf b o e).2⟩,
  fun p hp=>(x.temps p hp).mono (view_but ha hs)⟩
theorem Sta.storeLocal (ok:F.Ok) (x:Sta F R sig om tau s) {k:Nat} {y:PySem.Str} {v:Value} {d:AV} {m:PySem.Str → Option Value} {h':Heap} {tk:Nat} (hk:F.names[k]? = some (y,.local)) (r:Rep (F.view R om s.heap) d v)
  (hm:s.heap.Ns F.L m) (hm':h'.Ns F.L fun z=>if z = y then some v else m z) (hs:Heap.SameBut F.L s.heap h'):Sta F R (sig.set k (some d)) om tau { s with heap:=h',toks:=tk }:=by
 have ha:F.L ∈ F.D om:=by simp [Fn.D]
 obtain ⟨b1,b2,b3⟩:=x.but ha hs
 obtain ⟨h₀,tk₀,rfl⟩:=x.same
 have kv:=view_but (F:=F) (R:=R) (om:=om) ha hs
 obtain ⟨n1,n2⟩:=Fn.D_nodup_L x.nodup
 refine ⟨⟨h',tk,rfl⟩,x.nodup,b1,b2,fun c hc=>?_,fun p hp=>?_,b3,?_⟩
 ·obtain ⟨u,hu⟩:=x.cells c hc
  exact ⟨u,hu.sameBut hs fun e=>n1 (e ▸ hc)⟩
 ·obtain ⟨o,ho,hP⟩:=x.opens p hp
  exact ⟨o,hs.extBut _ _ (fun e=>n2 (e ▸ List.mem_map_of_mem hp)) ho,fun V' hV=>hP V' (kv.trans hV)⟩
 ·obtain ⟨m₀,hm₀,sl⟩:=x.slots
  refine ⟨_,hm',fun k' z kind d' h1 h2=>?_⟩
  by_cases hkk:k' = k
  ·subst hkk
   rw [hk] at h1
   obtain ⟨rfl,rfl⟩:=Prod.mk.inj (Option.some.inj h1)
   obtain ⟨hlt,e⟩:=List.getElem?_eq_some_iff.mp h2
   have hlt':k' < sig.length:=by simpa using hlt
   have:d' = d:=by
    rw [List.getElem_set_self] at e; exact (Option.some.inj e).symm
   subst this
   exact .loc (by simp) (r.mono kv)
  ·rw [List.getElem?_set_ne (Ne.symm hkk)] at h2
   have hz:=name_ne ok hk h1 hkk
   have em:∀ z,m₀ z = m z:=fun z=>by
    obtain ⟨o,es,ep,e1,e2,_,e4⟩:=hm₀
    obtain ⟨o',es',ep',f1,f2,_,f4⟩:=hm
    rw [e1] at f1; cases f1
    rw [e2] at f2; cases f2
    rw [← e4,← f4]
   cases sl k' z kind d' h1 h2 with
   | loc e r=>exact .loc (by simp only [if_neg hz]; rw [← em]; exact e) (r.mono kv)
   | cel a b c r q =>
    refine .cel a (hs.extBut _ _ ?_ b) c (r.mono kv) q
    rintro rfl
    rcases q with q | q
    ·exact n1 q
    ·exact (x.rf _ _ q).1 ha
   | fre a b c r q=>exact .fre a (hs.extBut _ _ (fun e=>(x.rf _ _ q).1 (e ▸ ha)) b) c (r.mono kv) q
theorem Sta.storeCell (ok:F.Ok) (x:Sta F R sig om tau s) {k:Nat} {y:PySem.Str} {c:Addr} {v:Value} {d:AV} {h':Heap} {tk:Nat} (hk:F.names[k]? = some (y,.cell)) (r:Rep (F.view R om s.heap) d v)
  (hc:F.env.cells.lookup y = some c) (hcs:c ∈ F.cs) (hv:h'.IsCell c (some v)) (hs:Heap.SameBut c s.heap h'):Sta F R (sig.set k (some d)) om tau { s with heap:=h',toks:=tk }:=by
 have ha:c ∈ F.D om:=by simp [Fn.D,hcs]
 obtain ⟨b1,b2,b3⟩:=x.but ha hs
 obtain ⟨h₀,tk₀,rfl⟩:=x.same
 have kv:=view_but (F:=F) (R:=R) (om:=om) ha hs
 obtain ⟨n1,n2⟩:=Fn.D_nodup_L x.nodup
 have nd:=x.nodup
 unfold Fn.D at nd
 rw [List.nodup_cons] at nd
 have n3:∀ p ∈ om,p.1 ≠ c:=fun p hp e=>by
  have:=(List.nodup_append.mp nd.2).2.2 c hcs p.1 (List.mem_map_of_mem hp)
  exact this e.symm
 refine ⟨⟨h',tk,rfl⟩,x.nodup,b1,b2,fun c' hc'=>?_,fun p hp=>?_,b3,?_⟩
 ·by_cases e:c' = c
  ·subst e; exact ⟨_,hv⟩
  ·obtain ⟨u,hu⟩:=x.cells c' hc'
   exact ⟨u,hu.sameBut hs e⟩
 ·obtain ⟨o,ho,hP⟩:=x.opens p hp
  exact ⟨o,hs.extBut _ _ (n3 p hp) ho,fun V' hV=>hP V' (kv.trans hV)⟩
 ·obtain ⟨m₀,hm₀,sl⟩:=x.slots
  refine ⟨m₀,hm₀.sameBut hs (fun e=>n1 (e ▸ hcs)),fun k' z kind d' h1 h2=>?_⟩
  by_cases hkk:k' = k
  ·subst hkk
   rw [hk] at h1
   obtain ⟨rfl,rfl⟩:=Prod.mk.inj (Option.some.inj h1)
   obtain ⟨hlt,e⟩:=List.getElem?_eq_some_iff.mp h2
   have:d' = d:=by
    rw [List.getElem_set_self] at e; exact (Option.some.inj e).symm
   subst this
   obtain ⟨o,ho,hd⟩:=hv
   exact .cel hc ho hd (r.mono kv) (.inl hcs)
  ·rw [List.getElem?_set_ne (Ne.symm hkk)] at h2
   have hz:=name_ne ok hk h1 hkk
   cases sl k' z kind d' h1 h2 with
   | loc e r=>exact .loc e (r.mono kv)
   | cel a b e r q =>
    refine .cel a (hs.extBut _ _ ?_ b) e (r.mono kv) q
    rintro rfl
    exact hz (ok.cell _ _ hc hcs _ a).symm
   | fre a b e r q=>exact .fre a (hs.extBut _ _ (fun e=>(x.rf _ _ q).1 (e ▸ ha)) b) e (r.mono kv) q
noncomputable def Store (F:Fn) (x:PySem.Str) (k:Nat):Prop:=At F x k .local ∨ (At F x k .cell ∧ ∃ c,F.env.cells.lookup x = some c ∧ c ∈ F.cs)
theorem store_name (ok:F.Ok) {x:PySem.Str} {k:Nat} {v:Value} {d:AV} (a:Store F x k) (st:Sta F R sig om tau s) (r:Rep (F.view R om s.heap) d v) {Q:Unit → Shared → Prop} {E:Value → Shared → Prop}
  (h:∀ s',Sta F R (sig.set k (some d)) om tau s' → Q () s'):wpAny (model prog w) F.A (storeName F.env x v) Q E s:=by
 rcases a with a | ⟨a,c,hc,hcs⟩
 ·obtain ⟨m,hm,_⟩:=st.slots
  exact wpAny_storeName_local a.2.1 hm (fun h' hm' hs=>h _ (st.storeLocal ok a.1 r hm hm' hs)) (by rw [ok.kind]; rfl)
 ·obtain ⟨u,hu⟩:=st.cells c hcs
  refine wpAny_storeName_cell ok.kind a.2.1 hc hu fun h' hv hs=>h _ ?_
  exact st.storeCell (tk:=s.toks) ok a.1 r hc hcs hv hs
noncomputable def As (prog:Program) (w:World) (F:Fn) (om:Om) (target:PySem.Expr) (d:AV) (sig sig':List (Option AV)):Prop :=
 ∀ (R:PH) (tau:List (Value × AV)) (v:Value) (s:Shared) (Q:Unit → Shared → Prop) (E:Value → Shared → Prop),Sta F R sig om ((v,d) :: tau) s →
  (∀ s',Sta F R sig' om ((v,d) :: tau) s' → Q () s') → wpAny (model prog w) F.A (assign target F.env v) Q E s
theorem as_name (ok:F.Ok) {x:PySem.Str} {pos:Pos} {k:Nat} {d:AV} (a:Store F x k):As prog w F om (.Name x pos) d sig (sig.set k (some d)):=fun R tau v s Q E st h =>
 wpAny_assign_Name (store_name ok a st st.top h)
noncomputable def AsL (prog:Program) (w:World) (F:Fn) (om:Om) (ts:List PySem.Expr) (ds:List AV) (sig sig':List (Option AV)):Prop :=
 ∀ (R:PH) (tau:List (Value × AV)) (vs:List Value) (s:Shared) (Q:Unit → Shared → Prop) (E:Value → Shared → Prop),vs.length = ds.length → Sta F R sig om ((vs.zip ds) ++ tau) s →
  (∀ s',Sta F R sig' om tau s' → Q () s') → wpAny (model prog w) F.A (assignInOrder ((assignEach ts F.env).map (·.2)) vs) Q E s
theorem asl_nil:AsL prog w F om [] [] sig sig:=fun R tau vs s Q E hl st h=>by
 have:vs = []:=List.length_eq_zero_iff.mp hl
 subst this
 exact assignInOrder_nil (h _ st)
theorem asl_cons {sig₁:List (Option AV)} {t:PySem.Expr} {ts:List PySem.Expr} {d:AV} {ds:List AV} (h₁:As prog w F om t d sig sig₁) (h₂:AsL prog w F om ts ds sig₁ sig')
  (he:assignEach (t :: ts) F.env = (false,assign t F.env) :: assignEach ts F.env:=by rfl):AsL prog w F om (t :: ts) (d :: ds) sig sig':=fun R tau vs s Q E hl st h=>by
 cases vs with
 | nil=>cases hl
 | cons v vs =>
  rw [he]
  refine assignInOrder_cons (h₁ R ((vs.zip ds) ++ tau) v s _ _ (by simpa using st) fun s' st'=>h₂ R tau vs s' _ _ (by simpa using hl) st'.pop h)
theorem Sta.ext (x:Sta F R sig om tau s) {h':Heap} {tk:Nat} (he:Heap.ExtBut s.heap.objs.size s.heap h'):Sta F R sig om tau { s with heap:=h',toks:=tk } :=
 x.grow fun b o e=>he b o (fun q=>Nat.lt_irrefl _ (q ▸ Heap.lt_size e)) e
theorem unpack_tup (ok:F.Ok) {v:Value} {ds:List AV} {n:Nat} (hn:n = ds.length) (st:Sta F R sig om ((v,.tup ds) :: tau) s) {Q:List Value → Shared → Prop} {E:Value → Shared → Prop}
  (h:∀ vs s',vs.length = ds.length → Sta F R sig om ((vs.zip ds) ++ (v,.tup ds) :: tau) s' → Q vs s'):wpAny (model prog w) F.A (unpackItems v n none) Q E s:=by
 have h1:=st.top
 simp only [Rep] at h1
 obtain ⟨a,vs,k,rfl,o,r⟩:=h1
 have e:=r.length
 simp only [Array.length_toList] at e
 rw [hn,← e]
 refine wpAny_unpackItems_tuple ok.handled ⟨_,st.vget o,rfl,k,rfl⟩ fun h' he=>?_
 have st':=st.ext (tk:=s.toks) he
 refine h _ _ (by simpa using e) (st'.temp fun p hp=>?_)
 rcases List.mem_append.mp hp with hp | hp
 ·have r':=r.mono (F.view_grow (R:=R) (om:=om) fun b o e=>he b o (fun q=>Nat.lt_irrefl _ (q ▸ Heap.lt_size e)) e)
  obtain ⟨i,hi,e'⟩:=List.getElem_of_mem hp
  rw [List.getElem_zip] at e'
  subst e'
  obtain ⟨u,hu,ru⟩:=r'.get (i:=i) (d:=ds[i]'(by simp at hi; lia)) (by simp)
  have:u = vs.toList[i]'(by simp at hi ⊢; lia):=by
   rw [List.getElem?_eq_getElem (by simp at hi ⊢; lia)] at hu; exact (Option.some.inj hu).symm
  subst this
  exact ru
 ·exact st'.temps p hp
theorem as_tuple (ok:F.Ok) {ts:List PySem.Expr} {k:Nat} {pos:Pos} {ds:List AV} (h:AsL prog w F om ts ds sig sig') (hl:ts.length = ds.length)
  (hf:(assignEach ts F.env).findIdx? (·.1) = none:=by rfl) (hle:(assignEach ts F.env).length = ts.length:=by rfl):As prog w F om (.Tuple ts k pos) (.tup ds) sig sig':=fun R tau v s Q E st hq=>by
 show wpAny _ _ (do standAt pos; unpack v (assignEach ts F.env)) Q E s
 refine wpAny_bind (wpAny_standAt ?_)
 unfold unpack
 rw [hf,hle]
 refine wpAny_bind (wpAny_holding (unpack_tup ok hl st fun vs s' hv st'=>?_))
 exact h R _ vs s' _ _ hv st' hq
theorem ex_assign (ok:F.Ok) {x:PySem.Str} {p pos:Pos} {e:PySem.Expr} {k:Nat} {d:AV} (a:Store F x k) (h:Ev prog w F sig om e d)
  (hs:swapsWith e (some (.Name x p)) pos.line F.env = pure false:=by rfl):Ex1 prog w F sig om (.Assign [.Name x p] e pos) (· = .nxt (sig.set k (some d)) om):=fun R tau s Q E st hq =>
 wpAny_Assign_Name (h R tau s _ _ st fun v s' st'=>store_name ok a st' st'.top fun s'' st''=>hq _ _ _ rfl st''.pop) hs
theorem ex_assign_tuple {ts:List PySem.Expr} {k:Nat} {tp pos:Pos} {e:PySem.Expr} {d:AV} (h:Ev prog w F sig om e d) (a:As prog w F om (.Tuple ts k tp) d sig sig')
  (hs:swapsWithSole [.Tuple ts k tp] e pos.line F.env = pure false:=by rfl) (hw:swappedStores [.Tuple ts k tp] e F.env = pure none:=by rfl):Ex1 prog w F sig om (.Assign [.Tuple ts k tp] e pos) (· = .nxt sig' om):=fun R tau s Q E st hq =>
 Assign_Tuple (h R tau s _ _ st fun v s' st'=>a R tau v s' _ _ st' fun s'' st''=>hq _ _ _ rfl st''.pop) hs hw
inductive StL (F:Fn):List PySem.Str → List AV → List (Option AV) → List (Option AV) → Prop
 | nil {sig:List (Option AV)}:StL F [] [] sig sig
 | cons {x:PySem.Str} {xs:List PySem.Str} {k:Nat} {d:AV} {ds:List AV} {sig sig':List (Option AV)}:Store F x k → StL F xs ds (sig.set k (some d)) sig' → StL F (x :: xs) (d :: ds) sig sig'
theorem store_list (ok:F.Ok):∀ {xs:List PySem.Str} {ds:List AV} {sig sig':List (Option AV)} {vs:List Value} {tau:List (Value × AV)} {s:Shared} {Q:Unit → Shared → Prop} {E:Value → Shared → Prop},StL F xs ds sig sig' → vs.length = ds.length →
  Sta F R sig om ((vs.zip ds) ++ tau) s → (∀ s',Sta F R sig' om tau s' → Q () s') → wpAny (model prog w) F.A (assignInOrder (xs.map fun n=>bindName F.env n) vs) Q E s
 | _,_,_,_,vs,_,_,_,_,.nil,hl,st,h=>by
  have:vs = []:=List.length_eq_zero_iff.mp hl
  subst this
  exact assignInOrder_nil (h _ st)
 | _,_,_,_,[],_,_,_,_,.cons _ _,hl,_,_=>by cases hl
 | _,_,_,_,v :: vs,tau,s,Q,E,.cons a r,hl,st,h=>by
  refine assignInOrder_cons (wpAny_bindName (store_name ok a (tau:=_) (st:Sta F R _ om ((v,_) :: (vs.zip _ ++ tau)) s) (st:Sta F R _ om ((v,_) :: (vs.zip _ ++ tau)) s).top fun s' st'=>?_))
  exact store_list ok r (by simpa using hl) st'.pop h
theorem ex_assign_swapped (ok:F.Ok) {ts:List PySem.Expr} {k:Nat} {tp pos:Pos} {e:PySem.Expr} {ds:List AV} {names:List PySem.Str} (h:Ev prog w F sig om e (.tup ds)) (hn:names.length = ds.length) (r:StL F names.reverse ds.reverse sig sig')
  (hs:swapsWithSole [.Tuple ts k tp] e pos.line F.env = pure false:=by rfl) (hw:swappedStores [.Tuple ts k tp] e F.env = pure (some names):=by rfl):Ex1 prog w F sig om (.Assign [.Tuple ts k tp] e pos) (· = .nxt sig' om):=fun R tau s Q E st hq =>
 Assign_Tuple_swapped (h R tau s _ _ st fun v s' st'=>unpack_tup ok hn st' fun vs s'' hv st''=>store_list ok r (by simpa using hv) (tau:=(v,.tup ds) :: tau) (st''.temp fun p hp=>by
  rcases List.mem_append.mp hp with hp | hp
  ·rw [show vs.reverse.zip ds.reverse = (vs.zip ds).reverse from (List.reverse_zipWith hv).symm] at hp
   exact st''.temps p (List.mem_append_left _ (List.mem_reverse.mp hp))
  ·exact st''.temps p (List.mem_append_right _ hp)) fun s₃ st₃=>hq _ _ _ rfl st₃.pop) hs hw
end
end
section
section
variable {prog:Program} {w:World} {F:Fn} {R:PH} {sig sig':List (Option AV)} {om om':Om} {tau:List (Value × AV)} {s:Shared}
theorem Sta.move (x:Sta F R sig om tau s) {R':PH} {h':Heap} {tk:Nat} (kv:(F.view R om s.heap).le (F.view R' om h')) (hg:∀ b o,F.G b = some o → h'.get? b = some o ∧ R' b = none)
  (hr:∀ b o,R' b = some o → b ∉ F.D om ∧ h'.get? b = some o) (hD:∀ b o,b ∈ F.D om → s.heap.get? b = some o → h'.get? b = some o) (hc:∀ c o,R c = some o → (∃ v,o.data = .cell v) → R' c = some o):Sta F R' sig om tau { s with heap:=h',toks:=tk }:=by
 obtain ⟨h₀,tk₀,rfl⟩:=x.same
 refine ⟨⟨h',tk,rfl⟩,x.nodup,fun b o e=>⟨(x.g b o e).1,(x.g b o e).2.1,hg b o e⟩,hr,fun c hcs=>?_,fun p hp=>?_,fun p hp=>(x.temps p hp).mono kv,?_⟩
 ·obtain ⟨v,o,ho,hd⟩:=x.cells c hcs
  exact ⟨v,o,hD c o (by simp [Fn.D,hcs]) ho,hd⟩
 ·obtain ⟨o,ho,hP⟩:=x.opens p hp
  exact ⟨o,hD _ _ (by simp only [Fn.D,List.mem_cons,List.mem_append]; exact .inr (.inr (List.mem_map_of_mem hp))) ho,fun V' hV=>hP V' (kv.trans hV)⟩
 ·obtain ⟨m,hm,sl⟩:=x.slots
  refine ⟨m,hm.at' fun o e=>hD _ o (by simp [Fn.D]) e,fun k y kind d h1 h2=>?_⟩
  cases sl k y kind d h1 h2 with
  | loc e r=>exact .loc e (r.mono kv)
  | cel a b c r q =>
   rcases q with q | q
   ·exact .cel a (hD _ _ (by simp [Fn.D,q]) b) c (r.mono kv) (.inl q)
   ·have:=hc _ _ q ⟨_,c⟩
    exact .cel a (hr _ _ this).2 c (r.mono kv) (.inr this)
  | fre a b c r q =>
   have:=hc _ _ q ⟨_,c⟩
   exact .fre a (hr _ _ this).2 c (r.mono kv) this
theorem Sta.view_none (ok:F.Ok) (x:Sta F R sig om tau s) {a:Addr} (ha:s.heap.objs.size ≤ a):F.view R om s.heap a = none:=by
 cases e:F.view R om s.heap a with
 | none=>rfl
 | some o=>exact absurd (Nat.lt_of_lt_of_le (Heap.lt_size (x.vget e)) ha) (Nat.lt_irrefl _)
theorem Sta.hide (ok:F.Ok) (x:Sta F R sig om tau s) (o:Obj) (hf:o.isFreed = false):Sta F (R.put s.heap.objs.size o) sig om tau { s with heap:=s.heap.push o }:=by
 have k:∀ b o',s.heap.get? b = some o' → (s.heap.push o).get? b = some o':=fun b o' e=>Heap.get?_push_of_some _ e
 refine x.move (tk:=s.toks) (Fn.view_put (fun b o _ e=>k b o e) (x.view_none ok (Nat.le_refl _))) (fun b o' e=>⟨k _ _ (x.g b o' e).2.2.1,?_⟩) (fun b o' e=>?_) (fun b o' _ e=>k _ _ e) fun c o' e _=>?_
 ·rw [PH.put_ne (fun q=>by subst q; exact absurd (Heap.lt_size (x.g _ _ e).2.2.1) (Nat.lt_irrefl _))]
  exact (x.g b o' e).2.2.2
 ·by_cases q:b = s.heap.objs.size
  ·subst q
   rw [PH.put_self] at e; cases e
   exact ⟨(x.fresh ok (Nat.le_refl _)).1,Heap.get?_push_size _ hf⟩
  ·rw [PH.put_ne q] at e
   exact ⟨(x.rf _ _ e).1,k _ _ (x.rf _ _ e).2⟩
 ·rw [PH.put_ne (fun q=>by subst q; exact absurd (Heap.lt_size (x.rf _ _ e).2) (Nat.lt_irrefl _))]; exact e
theorem Sta.rehide {a:Addr} {o o':Obj} (x:Sta F (R.put a o) sig om tau s) (hn:∀ ob,R a = some ob → ¬ ∃ v,ob.data = .cell v) {h':Heap} {tk:Nat} (hk:∀ b o,b ∉ [a] → s.heap.get? b = some o → h'.get? b = some o) (ho:h'.get? a = some o')
  (hc:¬ ∃ v,o.data = .cell v):Sta F (R.put a o') sig om tau { s with heap:=h',toks:=tk }:=by
 have hk':∀ b o,b ≠ a → s.heap.get? b = some o → h'.get? b = some o:=fun b o hb=>hk b o (by simpa using hb)
 refine x.move (tk:=tk) (Fn.view_reput hk') (fun b ob e=>?_) (fun b ob e=>?_) (fun b ob hb e=>hk' b ob (fun q=>?_) e) fun c ob e hcell=>?_
 ·have g:=(x.g b ob e)
  have hne:b ≠ a:=fun q=>by have:=g.2.2.2; rw [q,PH.put_self] at this; cases this
  refine ⟨hk' _ _ hne g.2.2.1,?_⟩
  rw [PH.put_ne hne]; have:=g.2.2.2; rw [PH.put_ne hne] at this; exact this
 ·by_cases q:b = a
  ·subst q
   rw [PH.put_self] at e; cases e
   exact ⟨(x.rf b o PH.put_self).1,ho⟩
  ·rw [PH.put_ne q] at e
   have:=x.rf b ob (by rw [PH.put_ne q]; exact e)
   exact ⟨this.1,hk' _ _ q this.2⟩
 ·subst q; exact (x.rf b o PH.put_self).1 hb
 ·by_cases q:c = a
  ·subst q
   rw [PH.put_self] at e; cases e
   exact absurd hcell hc
  ·rw [PH.put_ne q] at e ⊢; exact e
theorem Sta.unhide {a:Addr} {o:Obj} (x:Sta F (R.put a o) sig om tau s) (hR:R a = none) (hc:¬ ∃ v,o.data = .cell v):Sta F R sig om tau s:=by
 have:=x.move (R':=R) (h':=s.heap) (tk:=s.toks) (Fn.view_unput fun _ _ _ e=>e) (fun b ob e=>?_) (fun b ob e=>?_) (fun _ _ _ e=>e) fun c ob e hcell=>?_
 ·exact this
 ·have g:=(x.g b ob e)
  have hne:b ≠ a:=fun q=>by have:=g.2.2.2; rw [q,PH.put_self] at this; cases this
  refine ⟨g.2.2.1,?_⟩
  have:=g.2.2.2; rw [PH.put_ne hne] at this; exact this
 ·have hne:b ≠ a:=fun q=>by rw [q,hR] at e; cases e
  exact x.rf b ob (by rw [PH.put_ne hne]; exact e)
 ·by_cases q:c = a
  ·subst q
   rw [PH.put_self] at e; cases e
   exact absurd hcell hc
  ·rw [PH.put_ne q] at e; exact e
noncomputable def ownedNames:List String:=["enumerate", "zip", "dict_itemiterator", "dict_reverseitemiterator", "odict_iterator", "itertools.zip_longest", "itertools.pairwise"]
structure Src (prog:Program) (w:World) (A:Around) (xs:List AV) (d':AV) (v:Value) (I:Addr) (P:Nat → Value → Prop) (St:Nat → Heap → Prop):Prop where
 walks:∃ fp,Walks prog w A I fp [I] xs.length P St ∧ ∀ b ∈ fp,b ≠ I → ∀ V V',Rep V d' v → Rep V' d' v → ∃ o,V b = some o ∧ V' b = some o
 item:∀ V i v' x,Rep V d' v → P i v' → xs[i]? = some x → Rep V x v'
 obj:∀ i h,St i h → ∃ o c vs,h.get? I = some o ∧ o.cls = .type c ∧ o.data = .fields vs ∧ ownedNames.contains c = false
noncomputable def Itr (prog:Program) (w:World) (F:Fn) (om:Om) (d:AV) (xs:List AV):Prop :=
 ∀ (R:PH) (sig:List (Option AV)) (tau:List (Value × AV)) (v:Value) (s:Shared) (Q:Value → Shared → Prop) (E:Value → Shared → Prop),Sta F R sig om ((v,d) :: tau) s →
  (∀ I d' P St o s',Src prog w F.A xs d' v I P St → R I = none → s.heap.objs.size ≤ I → St 0 s'.heap → s'.heap.get? I = some o → Sta F (R.put I o) sig om ((v,d') :: (v,d) :: tau) s' → Q (.ref I) s') → wpAny (model prog w) F.A (pyIter v) Q E s
theorem itr_list (ok:F.Ok) {l:List AV}:Itr prog w F om (.lst l) l:=fun R sig tau v s Q E st h=>by
 have h1:=st.top
 simp only [Rep] at h1
 obtain ⟨a,vs,n,rfl,o,r⟩:=h1
 have e:=r.length
 simp only [Array.length_toList] at e
 have L:s.heap.IsList a vs:=⟨_,st.vget o,rfl,n,rfl⟩
 have hlt:=Heap.lt_size (st.vget o)
 refine wpAny_pyIter_list L ?_
 refine h s.heap.objs.size (.raw fun V u=>u = .ref a ∧ V a = some { cls:=.type "list",data:=.seq vs n } ∧ RepL V l vs.toList) _ _ _ _ ⟨⟨_,e ▸ Walks.list ok.handled s.heap.objs.size a (Nat.ne_of_lt hlt) vs,?_⟩,?_,?_⟩ (st.freshR (Nat.le_refl _)) (Nat.le_refl _) ⟨⟨_,Heap.get?_push_size _ rfl,rfl,rfl⟩,L.push _⟩ (Heap.get?_push_size _ rfl)
  ((st.push (v:=.ref a) ?_).hide ok _ rfl)
 ·intro b hb hne V V' q q'
  simp only [Rep] at q q'
  have:b = a:=by simpa [hne] using hb
  subst this
  exact ⟨_,(q V (PH.le.refl _)).2.1,(q' V' (PH.le.refl _)).2.1⟩
 ·intro V i v' x q hi hx
  simp only [Rep] at q
  obtain ⟨u,hu,ru⟩:=(q V (PH.le.refl _)).2.2.get hx
  have hi':vs[i]? = some v':=hi
  have:u = v':=by simpa [hi'] using hu.symm
  subst this
  exact ru
 ·intro i h st'
  obtain ⟨o,ho,hc,hd⟩:=st'.1
  exact ⟨o,_,_,ho,hc,hd,by decide⟩
 ·simp only [Rep]
  exact fun V' hV=>⟨trivial,hV _ _ o,r.mono hV⟩
theorem itr_tup (ok:F.Ok) {l:List AV}:Itr prog w F om (.tup l) l:=fun R sig tau v s Q E st h=>by
 have h1:=st.top
 simp only [Rep] at h1
 obtain ⟨a,vs,n,rfl,o,r⟩:=h1
 have e:=r.length
 simp only [Array.length_toList] at e
 have L:s.heap.IsTuple a vs:=⟨_,st.vget o,rfl,n,rfl⟩
 have hlt:=Heap.lt_size (st.vget o)
 refine wpAny_pyIter_tuple L ?_
 refine h s.heap.objs.size (.raw fun V u=>u = .ref a ∧ V a = some { cls:=.type "tuple",data:=.seq vs n } ∧ RepL V l vs.toList) _ _ _ _ ⟨⟨_,e ▸ Walks.tuple ok.handled s.heap.objs.size a (Nat.ne_of_lt hlt) vs,?_⟩,?_,?_⟩ (st.freshR (Nat.le_refl _)) (Nat.le_refl _) ⟨⟨_,Heap.get?_push_size _ rfl,rfl,rfl⟩,L.push _⟩ (Heap.get?_push_size _ rfl)
  ((st.push (v:=.ref a) ?_).hide ok _ rfl)
 ·intro b hb hne V V' q q'
  simp only [Rep] at q q'
  have:b = a:=by simpa [hne] using hb
  subst this
  exact ⟨_,(q V (PH.le.refl _)).2.1,(q' V' (PH.le.refl _)).2.1⟩
 ·intro V i v' x q hi hx
  simp only [Rep] at q
  obtain ⟨u,hu,ru⟩:=(q V (PH.le.refl _)).2.2.get hx
  have hi':vs[i]? = some v':=hi
  have:u = v':=by simpa [hi'] using hu.symm
  subst this
  exact ru
 ·intro i h st'
  obtain ⟨o,ho,hc,hd⟩:=st'.1
  exact ⟨o,_,_,ho,hc,hd,by decide⟩
 ·simp only [Rep]
  exact fun V' hV=>⟨trivial,hV _ _ o,r.mono hV⟩
noncomputable def rngL (a b:Int):List AV:=(List.range (b - a).toNat).map fun i=>.int (a + (i:Nat))
theorem itr_rng (ok:F.Ok) {a b:Int} (ha:-(2 ^ 62) ≤ a) (ha':a < 2 ^ 62) (hb:-(2 ^ 62) ≤ b) (hb':b < 2 ^ 62):Itr prog w F om (.rng a b) (rngL a b):=fun R sig tau v s Q E st h=>by
 have h1:=st.top
 simp only [Rep] at h1
 obtain ⟨r,x,y,z,rfl,o⟩:=h1
 have hsz:Builtin.Range.rangeSize a b 1 = (((b - a).toNat:Nat):Int):=by
  rw [rangeSize_one]; split <;> omega
 refine wpAny_pyIter_range (st.vget o) (small_one ha ha' hb hb') ?_
 rw [hsz]
 have hlen:(rngL a b).length = (b - a).toNat:=by simp [rngL]
 refine h s.heap.objs.size (.raw fun _ _=>True) (fun i v=>∃ t,v = .int (a + i * 1) t) _ _ _ ⟨⟨_,hlen ▸ Walks.range ok.handled s.heap.objs.size a 1 (b - a).toNat,?_⟩,?_,?_⟩ (st.freshR (Nat.le_refl _)) (Nat.le_refl _) ?_ (Heap.get?_push_size _ rfl)
  ((st.push (v:=.ref r) (by simp only [Rep]; exact fun _ _=>trivial)).hide ok _ rfl)
 ·intro b hb hne; exact absurd (by simpa using hb) hne
 ·rintro V i v' x' _ ⟨t,rfl⟩ hx
  obtain ⟨hi,e⟩:=List.getElem?_eq_some_iff.mp hx
  simp only [rngL,List.getElem_map,List.getElem_range] at e
  subst e
  rw [Int.mul_one]
  exact rep_int
 ·intro i h st'
  exact ⟨_,_,_,st',rfl,rfl,by decide⟩
 ·show IsRangeIter _ _ (a + ((0:Nat):Int) * 1) ((((rngL a b).length:Nat):Int) - ((0:Nat):Int)) 1
  rw [hlen,show a + ((0:Nat):Int) * 1 = a by omega,show (((b - a).toNat:Nat):Int) - ((0:Nat):Int) = (((b - a).toNat:Nat):Int) by omega]
  exact Heap.get?_push_size _ rfl
theorem let_go {target:PySem.Expr} {I:Addr} {v:Value} {o:Obj} {c:String} {vs:Array Value} (ho:s.heap.get? I = some o) (hc:o.cls = .type c) (hd:o.data = .fields vs) (hn:ownedNames.contains c = false) {Q:Unit → Shared → Prop} {E:Value → Shared → Prop} (h:Q () s) :
  wpAny (model prog w) F.A (letOwnedTupleGo target (.ref I) v) Q E s:=by
 have key:∀ a:Addr,wpAny (model prog w) F.A (letOwnedTupleGo (.Tuple [] 0 ⟨0,0,0,0⟩) (.ref I) (.ref a)) Q E s:=fun a=>by
  show wpAny _ _ (load I >>= _) _ _ _
  refine wpAny_bind (wpAny_load ho ?_)
  rw [hc,hd]
  dsimp only
  have:ownedNames.contains c = false:=hn
  unfold ownedNames at this
  rw [this,Bool.false_and,if_neg Bool.false_ne_true]
  exact wpAny_pure h
 have key':∀ v:Value,wpAny (model prog w) F.A (letOwnedTupleGo (.Tuple [] 0 ⟨0,0,0,0⟩) (.ref I) v) Q E s:=fun v=>by
  cases v
  case ref a=>exact key a
  all_goals exact wpAny_pure h
 cases target
 case Tuple=>exact key' v
 case List=>exact key' v
 all_goals exact wpAny_pure h
theorem not_cell {o:Obj} {vs:Array Value} (h:o.data = .fields vs):¬ ∃ v,o.data = .cell v:=by rintro ⟨v,e⟩; rw [h] at e; cases e
theorem for_core (ok:F.Ok) {target:PySem.Expr} {body:List Stmt} {d:AV} {v:Value} {xs:List AV} {P:Out → Prop} {Q:Flow → Shared → Prop} {E:Value → Shared → Prop} (it:Itr prog w F om d xs) (Inv:Nat → List (Option AV) → Om → Prop) (h0:Inv 0 sig om)
  (turn:∀ (i:Nat) (x:AV) sig om,xs[i]? = some x → Inv i sig om → ∃ sig₁,As prog w F om target x sig sig₁ ∧ Ex prog w F sig₁ om body fun o=>match o with
   | .nxt sig' om'=>Inv (i + 1) sig' om'
   | .cnt sig' om'=>Inv (i + 1) sig' om'
   | .brk sig' om'=>P (.nxt sig' om')
   | .ret d sig' om'=>P (.ret d sig' om'))
  (done:∀ sig om,Inv xs.length sig om → P (.nxt sig om))
  (st:Sta F R sig om ((v,d) :: tau) s) (hq:∀ o f s',P o → Lands F R tau o f s' → Q f s') :
  wpAny (model prog w) F.A (pyIter v) (fun it s₂=>codeAny (model prog w) F.A (.forLoop target it body [] F.env) (fun r s'=>match r with | .ok f=>Q f s' | .error e=>cameBackBy (model prog w) F.A F.env E e s') s₂) E s:=by
 refine it R sig tau v s _ _ st fun I d' PP St o s₂ src hR hI hst ho st₂=>?_
 obtain ⟨⟨fp,W,hfp⟩,hitem,hobj⟩:=src
 refine codeAny_loop' rfl (fun n s'=>∃ i sig om o,i ≤ xs.length ∧ n = xs.length + 1 - i ∧ Inv i sig om ∧ St i s'.heap ∧ s'.heap.get? I = some o ∧ Sta F (R.put I o) sig om ((v,d') :: (v,d) :: tau) s') (fun n s' hI'=>?_) (xs.length + 1)
  ⟨0,sig,om,o,Nat.zero_le _,rfl,h0,hst,ho,st₂⟩
 obtain ⟨i,sig,om,o,hi,rfl,inv,hst,ho,st⟩:=hI'
 show wpAny _ _ ((forTurn target (.ref I) body [] F.env).onRaise (fun x=>do noteFrame x F.env; theTreesLotGoes x)) _ _ s'
 refine wpAny_noted ?_
 simp only [forTurn]
 refine wpAny_bind (wpAny_standAt (wpAny_bind (wpAny_onRaise ?_)))
 have oc:¬ ∃ v,o.data = .cell v:=by
  obtain ⟨o',c,vs,e1,_,e3,_⟩:=hobj i _ hst
  rw [ho] at e1; cases e1
  exact not_cell e3
 by_cases hlt:i < xs.length
 ·refine W.item i s' _ _ hlt hst fun v' h' tk hP hst' hk=>?_
  obtain ⟨o',c,vs,e1,e2,e3,e4⟩:=hobj _ _ hst'
  have st':=st.rehide (tk:=tk) (fun ob e=>by rw [hR] at e; cases e) hk e1 oc
  refine wpAny_bind (let_go (s:={ s' with heap:=h',toks:=tk }) e1 e2 e3 e4 ?_)
  have rx:Rep (F.view (R.put I o') om h') (xs[i]) v':=hitem _ i v' _ st'.top hP (by simp [hlt])
  obtain ⟨sig₁,as,ex⟩:=turn i xs[i] sig om (by simp [hlt]) inv
  refine wpAny_bind (as (R.put I o') _ v' _ _ _ (st'.push rx) fun s₃ st₃=>?_)
  refine wpAny_bind (ex (R.put I o') _ s₃ _ _ st₃.pop fun out f s₄ hout hl=>?_)
  have goes:∀ sig' om',Inv (i + 1) sig' om' → Sta F (R.put I o') sig' om' ((v,d') :: (v,d) :: tau) s₄ → ∃ m,m < xs.length + 1 - i ∧ ∃ i sig om o,i ≤ xs.length ∧ m = xs.length + 1 - i ∧ Inv i sig om ∧ St i s₄.heap ∧ s₄.heap.get? I = some o ∧ Sta F (R.put I o) sig om ((v,d') :: (v,d) :: tau) s₄:=fun sig' om' hinv st₄=>by
   have hI₄:s₄.heap.get? I = some o':=(st₄.rf I o' PH.put_self).2
   refine ⟨xs.length + 1 - (i + 1),Nat.sub_lt_sub_left (Nat.lt_succ_of_lt hlt) (Nat.lt_succ_self i),i + 1,sig',om',o',hlt,rfl,hinv,W.frame _ _ _ hst' fun b hb ob e=>?_,hI₄,st₄⟩
   by_cases hbI:b = I
   ·subst hbI; rw [e1] at e; cases e; exact hI₄
   ·obtain ⟨ob',q1,q2⟩:=hfp b hb hbI _ _ st'.top st₄.top
    have:=st'.vget q1
    rw [show ({ s' with heap:=h',toks:=tk }:Shared).heap.get? b = some ob from e] at this
    cases this
    exact st₄.vget q2
  have ends:∀ sig' om',Sta F (R.put I o') sig' om' ((v,d') :: (v,d) :: tau) s₄ → Sta F R sig' om' tau s₄:=fun sig' om' st₄=>(st₄.unhide hR (not_cell e3)).pop.pop
  cases out <;> cases f <;> first | exact False.elim hl | change Sta _ _ _ _ _ _ at hl
  ·exact wpAny_pure (.inl ⟨rfl,goes _ _ hout hl⟩)
  ·exact wpAny_pure (hq (.nxt _ _) .next _ hout (ends _ _ hl))
  ·exact wpAny_pure (.inl ⟨rfl,goes _ _ hout hl⟩)
  ·refine wpAny_pure (hq (.ret _ _ _) (.ret _) _ hout ?_)
   show Sta F R _ _ ((_,_) :: tau) s₄
   have:=hl.unhide hR (not_cell e3)
   exact this.temp fun p hp=>this.temps p (by rcases List.mem_cons.mp hp with rfl | hp <;> simp [*])
 ·have hi':i = xs.length:=by omega
  subst hi'
  refine W.done s' _ _ hst fun h' tk hk=>?_
  refine wpAny_pure (.inr ⟨rfl,codeAny_block (wpAny_execs_nil ?_)⟩)
  have st':Sta F R sig om ((v,d') :: (v,d) :: tau) { s' with heap:=h',toks:=tk }:=by
   refine st.move (tk:=tk) (Fn.view_unput fun b o hb e=>hk b o (by simpa using hb) e) (fun b ob e=>?_) (fun b ob e=>?_) (fun b ob hb e=>hk b ob (fun q=>?_) e) fun c ob e hcell=>?_
   ·have g:=(st.g b ob e)
    have hne:b ≠ I:=fun q=>by have:=g.2.2.2; rw [q,PH.put_self] at this; cases this
    refine ⟨hk _ _ (by simpa using hne) g.2.2.1,?_⟩
    have:=g.2.2.2; rw [PH.put_ne hne] at this; exact this
   ·have hne:b ≠ I:=fun q=>by rw [q,hR] at e; cases e
    have:=st.rf b ob (by rw [PH.put_ne hne]; exact e)
    exact ⟨this.1,hk _ _ (by simpa using hne) this.2⟩
   ·have:b = I:=by simpa using q
    subst this; exact (st.rf b o PH.put_self).1 hb
   ·by_cases q:c = I
    ·subst q
     rw [PH.put_self] at e; cases e
     exact absurd hcell oc
    ·rw [PH.put_ne q] at e; exact e
  exact hq (.nxt sig om) .next _ (done _ _ inv) st'.pop.pop
theorem ex_for (ok:F.Ok) {target iter:PySem.Expr} {body:List Stmt} {pos:Pos} {d:AV} {xs:List AV} {P:Out → Prop} (h₁:Ev prog w F sig om iter d) (it:Itr prog w F om d xs) (Inv:Nat → List (Option AV) → Om → Prop) (h0:Inv 0 sig om)
  (turn:∀ (i:Nat) (x:AV) sig om,xs[i]? = some x → Inv i sig om → ∃ sig₁,As prog w F om target x sig sig₁ ∧ Ex prog w F sig₁ om body fun o=>match o with
   | .nxt sig' om'=>Inv (i + 1) sig' om'
   | .cnt sig' om'=>Inv (i + 1) sig' om'
   | .brk sig' om'=>P (.nxt sig' om')
   | .ret d sig' om'=>P (.ret d sig' om'))
  (done:∀ sig om,Inv xs.length sig om → P (.nxt sig om))
  (hs:∀ x,foldedSetIterable iter F.env x = pure x:=by intro _; rfl):Ex1 prog w F sig om (.For target iter body [] pos) P:=fun R tau s Q E st hq =>
 wpAny_For (h₁ R tau s _ _ st fun v s₁ st₁=>for_core ok it Inv h0 turn done st₁ hq) hs
end
end
section
noncomputable def LstO (l:List AV):PH → Obj → Prop:=fun V o=>∃ vs n,o = { cls:=.type "list",data:=.seq vs n } ∧ RepL V l vs.toList
inductive OmUpd:Om → Addr → (PH → Obj → Prop) → (PH → Obj → Prop) → Om → Prop
 | here {a:Addr} {P P':PH → Obj → Prop} {om:Om}:OmUpd ((a,P) :: om) a P P' ((a,P') :: om)
 | there {a:Addr} {P P':PH → Obj → Prop} {om om':Om} {q:Addr × (PH → Obj → Prop)}:OmUpd om a P P' om' → OmUpd (q :: om) a P P' (q :: om')
theorem OmUpd.addrs {om om':Om} {a:Addr} {P P':PH → Obj → Prop} (h:OmUpd om a P P' om'):om'.map (·.1) = om.map (·.1):=by
 induction h with
 | here=>rfl
 | there _ ih=>simp [ih]
theorem OmUpd.mem {om om':Om} {a:Addr} {P P':PH → Obj → Prop} (h:OmUpd om a P P' om'):(a,P) ∈ om:=by
 induction h with
 | here=>simp
 | there _ ih=>simp [ih]
theorem OmUpd.other {om om':Om} {a:Addr} {P P':PH → Obj → Prop} (h:OmUpd om a P P' om'):∀ p ∈ om',p = (a,P') ∨ p ∈ om:=by
 induction h with
 | here=>intro p hp; rcases List.mem_cons.mp hp with rfl | hp; exact .inl rfl; exact .inr (by simp [hp])
 | there _ ih =>
  intro p hp
  rcases List.mem_cons.mp hp with rfl | hp
  ·exact .inr (by simp)
  ·rcases ih p hp with q | q
   ·exact .inl q
   ·exact .inr (by simp [q])
section
variable {prog:Program} {w:World} {F:Fn} {R:PH} {sig sig':List (Option AV)} {om om':Om} {tau:List (Value × AV)} {s:Shared}
theorem OmUpd.D {a:Addr} {P P':PH → Obj → Prop} (h:OmUpd om a P P' om'):F.D om' = F.D om:=by unfold Fn.D; rw [h.addrs]
theorem OmUpd.view {a:Addr} {P P':PH → Obj → Prop} (h:OmUpd om a P P' om') (hp:Heap):F.view R om' hp = F.view R om hp:=by unfold Fn.view; rw [h.D]
theorem OmUpd.inD {a:Addr} {P P':PH → Obj → Prop} (h:OmUpd om a P P' om'):a ∈ F.D om:=by
 unfold Fn.D
 simp only [List.mem_cons,List.mem_append]
 exact .inr (.inr (List.mem_map_of_mem h.mem))
theorem Sta.upd {a:Addr} {P P':PH → Obj → Prop} (x:Sta F R sig om tau s) (u:OmUpd om a P P' om') {h':Heap} {o':Obj} {tk:Nat} (hs:Heap.SameBut a s.heap h') (ho:h'.get? a = some o') (hP:∀ V',(F.view R om h').le V' → P' V' o') :
  Sta F R sig om' tau { s with heap:=h',toks:=tk }:=by
 have ha:a ∈ F.D om:=u.inD
 obtain ⟨b1,b2,b3⟩:=x.but ha hs
 have kv:=view_but (F:=F) (R:=R) (om:=om) ha hs
 obtain ⟨h₀,tk₀,rfl⟩:=x.same
 have nd:=x.nodup
 unfold Fn.D at nd
 rw [List.nodup_cons,List.mem_append,not_or] at nd
 obtain ⟨⟨nL1,nL2⟩,nd2⟩:=nd
 have hmem:a ∈ om.map (·.1):=List.mem_map_of_mem u.mem
 have hL:F.L ≠ a:=fun e=>nL2 (e ▸ hmem)
 have hcs:∀ c ∈ F.cs,c ≠ a:=fun c hc=>(List.nodup_append.mp nd2).2.2 c hc a hmem
 refine ⟨⟨h',tk,rfl⟩,by rw [u.D]; exact x.nodup,fun b o e=>by rw [u.D]; exact b1 b o e,fun b o e=>by rw [u.D]; exact b2 b o e,fun c hc=>?_,fun p hp=>?_,fun p hp=>by rw [u.view]; exact b3 p hp,?_⟩
 ·obtain ⟨v,hv⟩:=x.cells c hc
  exact ⟨v,hv.sameBut hs (hcs c hc)⟩
 ·rw [u.view]
  rcases u.other p hp with rfl | hp'
  ·exact ⟨o',ho,hP⟩
  ·by_cases q:p.1 = a
   ·-- the same address: the entry is the changed one or the same predicate
    have hnd:(om'.map (·.1)).Nodup:=by rw [u.addrs]; exact (List.nodup_append.mp nd2).2.1
    have hin:(a,P') ∈ om':=by
     clear hp hp' ho hP hs b1 b2 b3 kv x ha hmem hL hcs nL1 nL2 nd2 hnd q
     induction u with
     | here=>simp
     | there _ ih=>simp [ih]
    have:p = (a,P'):=by
     obtain ⟨i,hi,ei⟩:=List.getElem_of_mem hp
     obtain ⟨j,hj,ej⟩:=List.getElem_of_mem hin
     have:i = j:=by
      rw [List.nodup_iff_pairwise_ne,List.pairwise_iff_getElem] at hnd
      rcases Nat.lt_trichotomy i j with l | l | l
      ·exact absurd (by rw [List.getElem_map,List.getElem_map,ei,ej,q]) (hnd i j (by simpa using hi) (by simpa using hj) l)
      ·exact l
      ·exact absurd (by rw [List.getElem_map,List.getElem_map,ei,ej,q]) (hnd j i (by simpa using hj) (by simpa using hi) l)
     subst this
     rw [← ei,← ej]
    subst this
    exact ⟨o',ho,hP⟩
   ·obtain ⟨o,ho',hP'⟩:=x.opens p hp'
    exact ⟨o,hs.extBut _ _ q ho',fun V' hV=>hP' V' (kv.trans hV)⟩
 ·obtain ⟨m,hm,sl⟩:=x.slots
  refine ⟨m,hm.sameBut hs hL,fun k y kind d h1 h2=>?_⟩
  rw [u.view]
  cases sl k y kind d h1 h2 with
  | loc e r=>exact .loc e (r.mono kv)
  | cel e b c r q =>
   refine .cel e (hs.extBut _ _ ?_ b) c (r.mono kv) q
   rcases q with q | q
   ·exact hcs _ q
   ·exact fun z=>(x.rf _ _ q).1 (z ▸ ha)
  | fre e b c r q=>exact .fre e (hs.extBut _ _ (fun z=>(x.rf _ _ q).1 (z ▸ ha)) b) c (r.mono kv) q
theorem Sta.openNew (ok:F.Ok) (x:Sta F R sig om tau s) {P:PH → Obj → Prop} (o:Obj) (hf:o.isFreed = false) (hP:∀ V',(F.view R om s.heap).le V' → P V' o) :
  Sta F R sig ((s.heap.objs.size,P) :: om) tau { s with heap:=s.heap.push o }:=by
 have k:∀ b o',s.heap.get? b = some o' → (s.heap.push o).get? b = some o':=fun b o' e=>Heap.get?_push_of_some _ e
 obtain ⟨f1,f2⟩:=x.fresh ok (Nat.le_refl s.heap.objs.size)
 have hD:∀ b,b ∈ F.D ((s.heap.objs.size,P) :: om) ↔ b = s.heap.objs.size ∨ b ∈ F.D om:=fun b=>by
  unfold Fn.D
  simp only [List.map_cons,List.mem_cons,List.mem_append]
  constructor
  ·rintro (h | h | h | h)
   ·exact .inr (.inl h)
   ·exact .inr (.inr (.inl h))
   ·exact .inl h
   ·exact .inr (.inr (.inr h))
  ·rintro (h | h | h | h)
   ·exact .inr (.inr (.inl h))
   ·exact .inl h
   ·exact .inr (.inl h)
   ·exact .inr (.inr (.inr h))
 have hlt:∀ b o',s.heap.get? b = some o' → b ≠ s.heap.objs.size:=fun b o' e q=>Nat.lt_irrefl _ (q ▸ Heap.lt_size e)
 have kv:(F.view R om s.heap).le (F.view R ((s.heap.objs.size,P) :: om) (s.heap.push o)):=fun b o' e=>by
  have hb:=x.vget e
  have hn:=x.vnot e
  unfold Fn.view at e ⊢
  split at e
  ·cases e
  ·rename_i q
   rw [if_neg (fun z=>q (z.imp (fun z=>((hD b).mp z).resolve_left (hlt b o' hb)) id))]
   split at e
   ·rename_i z; rw [if_pos z]; exact e
   ·rename_i z; rw [if_neg z]; exact k _ _ e
 obtain ⟨h₀,tk₀,rfl⟩:=x.same
 refine ⟨⟨_,tk₀,rfl⟩,?_,fun b o' e=>⟨(x.g b o' e).1,fun z=>?_,k _ _ (x.g b o' e).2.2.1,(x.g b o' e).2.2.2⟩,fun b o' e=>⟨fun z=>?_,k _ _ (x.rf b o' e).2⟩,fun c hc=>?_,fun p hp=>?_,fun p hp=>(x.temps p hp).mono kv,?_⟩
 ·have nd:=x.nodup
  unfold Fn.D at nd f1 ⊢
  simp only [List.map_cons,List.nodup_cons,List.mem_append,List.mem_cons,not_or,List.nodup_append] at nd f1 ⊢
  refine ⟨⟨nd.1.1,fun q=>f1.1 q.symm,nd.1.2⟩,nd.2.1,⟨f1.2.2,nd.2.2.1⟩,fun a ha b hb=>?_⟩
  rcases hb with rfl | hb
  ·rintro rfl; exact f1.2.1 ha
  ·exact nd.2.2.2 a ha b hb
 ·exact ((hD b).mp z).elim (fun q=>hlt b o' (x.g b o' e).2.2.1 q) (x.g b o' e).2.1
 ·exact ((hD b).mp z).elim (fun q=>hlt b o' (x.rf b o' e).2 q) (x.rf b o' e).1
 ·obtain ⟨v,hv⟩:=x.cells c hc; exact ⟨v,hv.keeps k⟩
 ·rcases List.mem_cons.mp hp with rfl | hp
  ·exact ⟨o,Heap.get?_push_size _ hf,fun V' hV=>hP V' (kv.trans hV)⟩
  ·obtain ⟨o',ho',hP'⟩:=x.opens p hp
   exact ⟨o',k _ _ ho',fun V' hV=>hP' V' (kv.trans hV)⟩
 ·obtain ⟨m,hm,sl⟩:=x.slots
  exact ⟨m,hm.keeps k,fun k' y kind d h1 h2=>(sl k' y kind d h1 h2).mono kv (fun c o' _ e=>k _ _ e) fun _ _ e=>e⟩
inductive OmDel:Om → Addr → (PH → Obj → Prop) → Om → Prop
 | here {a:Addr} {P:PH → Obj → Prop} {om:Om}:OmDel ((a,P) :: om) a P om
 | there {a:Addr} {P:PH → Obj → Prop} {om om':Om} {q:Addr × (PH → Obj → Prop)}:OmDel om a P om' → OmDel (q :: om) a P (q :: om')
theorem OmDel.perm {a:Addr} {P:PH → Obj → Prop} (h:OmDel om a P om'):om.Perm ((a,P) :: om'):=by
 induction h with
 | here=>exact List.Perm.refl _
 | there _ ih=>exact (List.Perm.cons _ ih).trans (List.Perm.swap _ _ _)
noncomputable def EvX (prog:Program) (w:World) (F:Fn) (sig:List (Option AV)) (om:Om) (e:PySem.Expr) (P:AV → Om → Prop):Prop :=
 ∀ (R:PH) (tau:List (Value × AV)) (s:Shared) (Q:Value → Shared → Prop) (E:Value → Shared → Prop),Sta F R sig om tau s →
  (∀ v d om' s',P d om' → Sta F R sig om' ((v,d) :: tau) s' → Q v s') → wpAny (model prog w) F.A (eval e F.env) Q E s
theorem evx_of {e:PySem.Expr} {d:AV} {P:AV → Om → Prop} (h:Ev prog w F sig om e d) (hp:P d om):EvX prog w F sig om e P:=fun R tau s Q E x hq=>h R tau s Q E x fun v s' x'=>hq v d om s' hp x'
theorem evx_open (ok:F.Ok) {es:List PySem.Expr} {pos:Pos} {ds:List AV} {P:AV → Om → Prop} (h:EvL prog w F sig om es ds) (hsz:ds.length ≤ sizeLine) (hp:∀ a,F.n₀ ≤ a → P (.ptr a) ((a,LstO ds) :: om)):EvX prog w F sig om (.List es pos) P:=fun R tau s Q E x hq =>
 wpAny_List (h pos R tau s _ _ x fun vs s₁ hl x₁=>by
  obtain ⟨r,x₂⟩:=x₁.zip hl
  refine ⟨by rw [hl]; exact hsz,hq _ _ _ _ (hp s₁.heap.objs.size ?_) ((x₂.openNew ok _ rfl ?_).push (by simp only [Rep]))⟩
  ·exact Nat.not_lt.mp (x₂.fresh ok (Nat.le_refl _)).2
  ·exact fun V' hV=>⟨_,_,rfl,r.mono hV⟩)
noncomputable def EvXL (prog:Program) (w:World) (F:Fn) (sig:List (Option AV)) (om:Om) (es:List PySem.Expr) (P:List AV → Om → Prop):Prop :=
 ∀ (pos:Pos) (R:PH) (tau:List (Value × AV)) (s:Shared) (Q:List Value → Shared → Prop) (E:Value → Shared → Prop),Sta F R sig om tau s →
  (∀ vs ds om' s',P ds om' → vs.length = ds.length → Sta F R sig om' ((vs.zip ds).reverse ++ tau) s' → Q vs s') → wpAny (model prog w) F.A (spliced (backTo pos (starEach es F.env))) Q E s
theorem evxl_nil {P:List AV → Om → Prop} (hp:P [] om):EvXL prog w F sig om [] P:=fun pos R tau s Q E st h=>wpAny_items_nil (h _ _ _ _ hp rfl (by simpa using st))
theorem evxl_cons {e:PySem.Expr} {es:List PySem.Expr} {P₁:AV → Om → Prop} {P:List AV → Om → Prop} (h₁:EvX prog w F sig om e P₁) (h₂:∀ d om',P₁ d om' → EvXL prog w F sig om' es fun ds om''=>P (d :: ds) om'')
  (he:starEach (e :: es) F.env = (false,eval e F.env) :: starEach es F.env:=by rfl):EvXL prog w F sig om (e :: es) P:=fun pos R tau s Q E st h =>
 wpAny_items_cons (h₁ R tau s _ _ st fun v d om' s₁ hp st₁=>h₂ d om' hp pos R _ _ _ _ st₁ fun vs ds om'' s₂ hp' hl st₂=>h _ _ _ _ hp' (by simp [hl]) (by simpa using st₂)) he
theorem evx_tuple (ok:F.Ok) {es:List PySem.Expr} {k:Nat} {pos:Pos} {P:AV → Om → Prop} (h:EvXL prog w F sig om es fun ds om'=>ds.length ≤ sizeLine ∧ P (.tup ds) om'):EvX prog w F sig om (.Tuple es k pos) P:=fun R tau s Q E x hq =>
 wpAny_Tuple (h pos R tau s _ _ x fun vs ds om' s₁ hp hl x₁=>by
  obtain ⟨r,x₂⟩:=x₁.zip hl
  exact ⟨by rw [hl]; exact hp.1,hq _ _ _ _ hp.2 (x₂.newTup ok (Nat.le_refl _) (fun _ _ e=>Heap.get?_push_of_some _ e) (Heap.get?_push_size _ rfl) r)⟩)
theorem exx_assign (ok:F.Ok) {x:PySem.Str} {p pos:Pos} {e:PySem.Expr} {k:Nat} {P:AV → Om → Prop} (a:Store F x k) (h:EvX prog w F sig om e P)
  (hs:swapsWith e (some (.Name x p)) pos.line F.env = pure false:=by rfl):Ex1 prog w F sig om (.Assign [.Name x p] e pos) (fun o=>∃ d om',P d om' ∧ o = .nxt (sig.set k (some d)) om'):=fun R tau s Q E st hq =>
 wpAny_Assign_Name (h R tau s _ _ st fun v d om' s' hp st'=>store_name ok a st' st'.top fun s'' st''=>hq _ _ _ ⟨d,om',hp,rfl⟩ st''.pop) hs
theorem exx_assign_tuple {ts:List PySem.Expr} {k:Nat} {tp pos:Pos} {e:PySem.Expr} {P:AV → Om → Prop} {P':Out → Prop} (h:EvX prog w F sig om e P) (a:∀ d om',P d om' → ∃ sig',As prog w F om' (.Tuple ts k tp) d sig sig' ∧ P' (.nxt sig' om'))
  (hs:swapsWithSole [.Tuple ts k tp] e pos.line F.env = pure false:=by rfl) (hw:swappedStores [.Tuple ts k tp] e F.env = pure none:=by rfl):Ex1 prog w F sig om (.Assign [.Tuple ts k tp] e pos) P':=fun R tau s Q E st hq =>
 Assign_Tuple (h R tau s _ _ st fun v d om' s' hp st'=>by
  obtain ⟨sig',as,hp'⟩:=a d om' hp
  exact as R tau v s' _ _ st' fun s'' st''=>hq _ _ _ hp' st''.pop) hs hw
theorem exx_assign_swapped (ok:F.Ok) {ts:List PySem.Expr} {k:Nat} {tp pos:Pos} {e:PySem.Expr} {P:AV → Om → Prop} {P':Out → Prop} {names:List PySem.Str} (h:EvX prog w F sig om e P)
  (a:∀ d om',P d om' → ∃ ds sig',d = .tup ds ∧ names.length = ds.length ∧ StL F names.reverse ds.reverse sig sig' ∧ P' (.nxt sig' om'))
  (hs:swapsWithSole [.Tuple ts k tp] e pos.line F.env = pure false:=by rfl) (hw:swappedStores [.Tuple ts k tp] e F.env = pure (some names):=by rfl):Ex1 prog w F sig om (.Assign [.Tuple ts k tp] e pos) P':=fun R tau s Q E st hq =>
 Assign_Tuple_swapped (h R tau s _ _ st fun v d om' s' hp st'=>by
  obtain ⟨ds,sig',rfl,hn,r,hp'⟩:=a d om' hp
  exact unpack_tup ok hn st' fun vs s'' hv st''=>store_list ok r (by simpa using hv) (tau:=(v,.tup ds) :: tau) (st''.temp fun p hp=>by
   rcases List.mem_append.mp hp with hp | hp
   ·rw [show vs.reverse.zip ds.reverse = (vs.zip ds).reverse from (List.reverse_zipWith hv).symm] at hp
    exact st''.temps p (List.mem_append_left _ (List.mem_reverse.mp hp))
   ·exact st''.temps p (List.mem_append_right _ hp)) fun s₃ st₃=>hq _ _ _ hp' st₃.pop) hs hw
end
end
section
section
variable {prog:Program} {w:World} {F:Fn} {R:PH} {sig sig':List (Option AV)} {om om':Om} {tau:List (Value × AV)} {s:Shared}
theorem Sta.openList (x:Sta F R sig om tau s) {a:Addr} {l:List AV} (h:(a,LstO l) ∈ om):∃ vs n,IsL s.heap a vs n ∧ RepL (F.view R om s.heap) l vs.toList ∧ vs.size = l.length:=by
 obtain ⟨o,ho,hP⟩:=x.opens _ h
 obtain ⟨vs,n,rfl,r⟩:=hP _ (PH.le.refl _)
 exact ⟨vs,n,ho,r,by have:=r.length; simpa using this⟩
theorem LstO.upd {V:PH} {l:List AV} {vs:Array Value} {n:Nat} (r:RepL V l vs.toList):∀ V',V.le V' → LstO l V' { cls:=.type "list",data:=.seq vs n }:=fun V' hV=>⟨vs,n,rfl,r.mono hV⟩
theorem isL_update {h:Heap} {a:Addr} {vs:Array Value} {n:Nat} (hl:IsL h a vs n) (f:Array Value → Array Value):∃ n',(h.update a (Obj.mapSeq f)).get? a = some { cls:=.type "list",data:=.seq (f vs) n' }:=⟨_,hl.update f⟩
theorem meth_append {a:Addr} {vs:Array Value} {n:Nat} {pl:Sem Bool} (hl:IsL s.heap a vs n) {Q:Value × List Value → Shared → Prop} {E:Value → Shared → Prop} (h:Q (.builtin "list.append",[.ref a]) s):wpAny (model prog w) F.A (getMethod (.ref a) "append" pl) Q E s :=
 Calls.getMethod_list_append hl rfl rfl h
theorem type_list_extend:typeOf (.builtin "list.extend") = pure (.type "method_descriptor"):=by first | kernel_rfl | rfl
theorem type_list_pop:typeOf (.builtin "list.pop") = pure (.type "method_descriptor"):=by first | kernel_rfl | rfl
theorem meth_extend {a:Addr} {vs:Array Value} {n:Nat} {pl:Sem Bool} (hl:IsL s.heap a vs n) {Q:Value × List Value → Shared → Prop} {E:Value → Shared → Prop} (h:Q (.builtin "list.extend",[.ref a]) s):wpAny (model prog w) F.A (getMethod (.ref a) "extend" pl) Q E s :=
 getMethod_list_of PySem.F.slot_list_extend type_list_extend hl.isList ⟨_,hl,rfl⟩ h
theorem meth_pop {a:Addr} {vs:Array Value} {n:Nat} {pl:Sem Bool} (hl:IsL s.heap a vs n) {Q:Value × List Value → Shared → Prop} {E:Value → Shared → Prop} (h:Q (.builtin "list.pop",[.ref a]) s):wpAny (model prog w) F.A (getMethod (.ref a) "pop" pl) Q E s :=
 getMethod_list_of PySem.F.slot_list_pop type_list_pop hl.isList ⟨_,hl,rfl⟩ h
theorem evx_append (ok:F.Ok) {o e:PySem.Expr} {apos pos:Pos} {a:Addr} {l:List AV} {d:AV} {P:AV → Om → Prop} (h₁:Ev prog w F sig om o (.ptr a)) (h₂:Ev prog w F sig om e d) (u:OmUpd om a (LstO l) (LstO (l ++ [d])) om') (hsz:l.length ≤ sizeLine) (hp:P .none om')
  (pl:Sem Bool) (he:eval (.Call (.Attribute o "append" apos) [e] [] pos) F.env = (do
   let ov ← eval o F.env
   standAt apos.atName
   let (f,first) ← holding [ov] (getMethod ov "append" pl)
   callWith pos f first (backTo pos (starEach [e] F.env)) []):=by rfl)
  (hs:backTo pos (starEach [e] F.env) = [(false,eval e F.env)]:=by rfl):EvX prog w F sig om (.Call (.Attribute o "append" apos) [e] [] pos) P:=fun R tau s Q E st hq=>by
 refine MethodCall_ (pl:=pl) (h₁ R tau s _ _ st fun v s₁ st₁=>?_) he
 have h1:=st₁.top
 simp only [Rep] at h1
 subst h1
 obtain ⟨vs,n,hl,r,e1⟩:=st₁.openList u.mem
 refine meth_append hl ?_
 dsimp only
 rw [hs]
 refine PySem.P.append_list (h₂ R tau s₁ _ _ st₁.pop fun v s₂ st₂=>?_)
 obtain ⟨vs₂,n₂,hl₂,r₂,e₂⟩:=st₂.openList u.mem
 refine ⟨vs₂,n₂,by lia,hl₂,?_⟩
 obtain ⟨n',ho'⟩:=isL_update hl₂ fun xs=>xs.push v
 have hsb:Heap.SameBut a s₂.heap (s₂.heap.update a (Obj.mapSeq fun xs=>xs.push v)):=Heap.SameBut.update ..
 refine hq _ _ _ _ hp ((st₂.pop.upd (tk:=s₂.toks) u hsb ho' (LstO.upd ?_)).push rep_none)
 have kv:=view_but (F:=F) (R:=R) (om:=om) u.inD hsb
 rw [Array.toList_push]
 exact (r₂.mono kv).append (.cons (st₂.top.mono kv) .nil)
theorem evx_extend (ok:F.Ok) {o e:PySem.Expr} {apos pos:Pos} {a:Addr} {l l':List AV} {P:AV → Om → Prop} (h₁:Ev prog w F sig om o (.ptr a)) (h₂:Ev prog w F sig om e (.lst l')) (u:OmUpd om a (LstO l) (LstO (l ++ l')) om') (hsz:l.length + l'.length ≤ 1000000) (hp:P .none om')
  (pl:Sem Bool) (he:eval (.Call (.Attribute o "extend" apos) [e] [] pos) F.env = (do
   let ov ← eval o F.env
   standAt apos.atName
   let (f,first) ← holding [ov] (getMethod ov "extend" pl)
   callWith pos f first (backTo pos (starEach [e] F.env)) []):=by rfl)
  (hs:backTo pos (starEach [e] F.env) = [(false,eval e F.env)]:=by rfl):EvX prog w F sig om (.Call (.Attribute o "extend" apos) [e] [] pos) P:=fun R tau s Q E st hq=>by
 refine MethodCall_ (pl:=pl) (h₁ R tau s _ _ st fun v s₁ st₁=>?_) he
 have h1:=st₁.top
 simp only [Rep] at h1
 subst h1
 obtain ⟨vs,n,hl,r,e1⟩:=st₁.openList u.mem
 refine meth_extend hl ?_
 dsimp only
 rw [hs]
 refine PySem.P.extend_list (h₂ R tau s₁ _ _ st₁.pop fun v s₂ st₂=>?_)
 obtain ⟨vs₂,n₂,hl₂,r₂,e₂⟩:=st₂.openList u.mem
 have h2:=st₂.top
 simp only [Rep] at h2
 obtain ⟨b,vs',n',rfl,o',r'⟩:=h2
 have e':=r'.length
 simp only [Array.length_toList] at e'
 have hs1:(1000000:Nat) ≤ sizeLine:=by decide
 refine ⟨b,vs₂,vs',n₂,n',by lia,by lia,?_,rfl,hl₂,st₂.vget o',?_⟩
 ·unfold Builtin.List.listTooLong
  simp only [Bool.and_eq_true,Bool.not_eq_true,not_and,decide_eq_true_eq]
  intro _
  first
   | lia
   | (simp only [decide_eq_false_iff_not]; lia)
 obtain ⟨n',ho'⟩:=isL_update hl₂ fun xs=>xs ++ vs'
 have hsb:Heap.SameBut a s₂.heap (s₂.heap.update a (Obj.mapSeq fun xs=>xs ++ vs')):=Heap.SameBut.update ..
 refine hq _ _ _ _ hp ((st₂.pop.upd (tk:=s₂.toks) u hsb ho' (LstO.upd ?_)).push rep_none)
 have kv:=view_but (F:=F) (R:=R) (om:=om) u.inD hsb
 rw [Array.toList_append]
 exact (r₂.mono kv).append (r'.mono kv)
theorem exx_expr {e:PySem.Expr} {pos:Pos} {P:AV → Om → Prop} (h:EvX prog w F sig om e P) (hi:interactive F.env = false:=by rfl) (hs:swapsWith e none pos.line F.env = pure false:=by rfl) :
  Ex1 prog w F sig om (.Expr e pos) (fun o=>∃ d om',P d om' ∧ o = .nxt sig om'):=fun R tau s Q E st hq =>
 wpAny_Expr_any (h R tau s _ _ st fun v d om' s' hp st'=>hq _ _ _ ⟨d,om',hp,rfl⟩ st'.pop) hi hs
theorem evx_pop (ok:F.Ok) {o:PySem.Expr} {apos pos:Pos} {a:Addr} {l:List AV} {d:AV} {P:AV → Om → Prop} (h₁:Ev prog w F sig om o (.ptr a)) (u:OmUpd om a (LstO (l ++ [d])) (LstO l) om') (hsz:l.length + 1 ≤ sizeLine) (hp:P d om')
  (pl:Sem Bool) (he:eval (.Call (.Attribute o "pop" apos) [] [] pos) F.env = (do
   let ov ← eval o F.env
   standAt apos.atName
   let (f,first) ← holding [ov] (getMethod ov "pop" pl)
   callWith pos f first (backTo pos (starEach [] F.env)) []):=by rfl)
  (hs:backTo pos (starEach [] F.env) = []:=by rfl):EvX prog w F sig om (.Call (.Attribute o "pop" apos) [] [] pos) P:=fun R tau s Q E st hq=>by
 refine MethodCall_ (pl:=pl) (h₁ R tau s _ _ st fun v s₁ st₁=>?_) he
 have h1:=st₁.top
 simp only [Rep] at h1
 subst h1
 obtain ⟨vs,n,hl,r,e1⟩:=st₁.openList u.mem
 refine meth_pop hl ?_
 dsimp only
 rw [hs]
 rw [List.length_append,List.length_singleton] at e1
 obtain ⟨y,hy,ry⟩:=r.get (i:=l.length) (d:=d) (by simp)
 refine PySem.P.pop_list (y:=y) hl (by rw [e1]; simpa using hy) ?_ (by lia)
 obtain ⟨n',ho'⟩:=isL_update hl fun xs=>xs.eraseIdxIfInBounds (vs.size - 1)
 have hsb:Heap.SameBut a s₁.heap (s₁.heap.update a (Obj.mapSeq fun xs=>xs.eraseIdxIfInBounds (vs.size - 1))):=Heap.SameBut.update ..
 have kv:=view_but (F:=F) (R:=R) (om:=om) u.inD hsb
 refine hq _ _ _ _ hp ((st₁.pop.upd (tk:=s₁.toks) u hsb ho' (LstO.upd ?_)).push ?_)
 ·have:(vs.eraseIdxIfInBounds (vs.size - 1)).toList = vs.toList.take l.length:=by
   obtain ⟨vl⟩:=vs
   have e2:vl.length = l.length + 1:=e1
   show (Array.eraseIdxIfInBounds ⟨vl⟩ (vl.length - 1)).toList = vl.take l.length
   rw [show vl.length - 1 = l.length by lia]
   rw [Array.eraseIdxIfInBounds,dif_pos (show l.length < (Array.mk vl).size by show l.length < vl.length; lia),Array.toList_eraseIdx]
   show vl.eraseIdx l.length = vl.take l.length
   rw [List.eraseIdx_eq_take_drop_succ,List.drop_of_length_le (by lia),List.append_nil]
  rw [this]
  have:=(r.mono kv).take l.length
  rw [List.take_left'  rfl] at this
  exact this
 ·rw [u.view]; exact ry.mono kv
theorem item_open_neg {value slice:PySem.Expr} {a:Addr} {l:List AV} {k:Int} {d:AV} (hm:(a,LstO l) ∈ om) (hn:NoSlice slice) (h0:k < 0) (h1:-(l.length:Int) ≤ k) (hk:-(2 ^ 63) ≤ k) (hd:l[(k + l.length).toNat]? = some d) :
  Op2 prog w F om (subscriptTail value slice) (.ptr a) (.int k) d:=fun R sig tau v₁ v₂ s Q E st h=>by
 have q1:=st.top2; have q2:=st.top
 simp only [Rep] at q1 q2
 subst q1
 obtain ⟨t,rfl⟩:=q2
 obtain ⟨vs,n,hl,r,e1⟩:=st.openList hm
 obtain ⟨v,hv,rv⟩:=r.get hd
 exact tail_any hl.isList.typeIs slot_list_getitem.lookup (wpAny_getItem_list_neg hl.isList h0 (by rw [e1]; exact h1) hk (by rw [e1]; simpa using hv) (h _ _ (st.pop.pop.push rv))) (hn _ _)
theorem c_len_open {a:Addr} {l:List AV} (hm:(a,LstO l) ∈ om) (hl:l.length < 2 ^ 62):OpC prog w F om (.builtin "len") [.ptr a] (.int l.length):=fun R sig tau vs s Q E hv st h=>by
 obtain ⟨v,rfl,st⟩:=one_of hv st
 have h1:=st.top
 simp only [Rep] at h1
 subst h1
 obtain ⟨vs,n,hl',r,e1⟩:=st.openList hm
 refine Calls.call_len_list (items:=vs) hl'.isList (by lia) ?_
 rw [e1]
 exact h _ _ (st.pop.tok2.push rep_int)
theorem tru_open {a:Addr} {l:List AV} (hm:(a,LstO l) ∈ om) (hl:l.length < 2 ^ 62):Tru prog w F om (.ptr a) (!l.isEmpty):=fun R sig tau v₁ s Q E st h=>by
 have h1:=st.top
 simp only [Rep] at h1
 subst h1
 obtain ⟨vs,n,hl',r,e1⟩:=st.openList hm
 refine wpAny_truthy_list hl'.isList (by lia) ?_
 have:(!vs.isEmpty) = (!l.isEmpty):=by
  cases l with
  | nil=>simp at e1; subst e1; rfl
  | cons d l =>
   have:vs.isEmpty = false:=by
    cases q:vs.isEmpty with
    | false=>rfl
    | true=>rw [Array.isEmpty_iff] at q; subst q; simp at e1
   rw [this]; rfl
 rw [this]
 exact h _ st.pop.tok2
end
end
section
noncomputable def ext (G:PH) (n:Nat) (h':Heap):PH:=fun b=>if b < n then G b else h'.get? b
structure Room (A:Around) (n:Nat):Prop where
 handled:A.handled = none
 depth:A.depth + n ≤ 600
 units:A.units + 20 * n ≤ 5000
theorem Room.mono {A:Around} {n m:Nat} (h:Room A n) (hm:m ≤ n):Room A m:=⟨h.handled,by have:=h.depth; lia,by have:=h.units; lia⟩
theorem Room.deeper {A:Around} {n:Nat} (h:Room A (n + 1)) (env:Env):Room (A.deeper env) n:=⟨h.handled,by have:=h.depth; show A.depth + 1 + n ≤ 600; lia,by have:=h.units; show A.units + 3 + 20 * n ≤ 5000; lia⟩
noncomputable def PureFn (prog:Program) (w:World) (B:PH → Prop) (n:Nat) (f:Value) (ds:List AV) (d:AV):Prop :=
 ∀ (A:Around) (G:PH) (s:Shared) (vs:List Value) (Q:Value → Shared → Prop) (E:Value → Shared → Prop),Room A n → B G → ViewIn G s.heap → RepL G ds vs →
  (∀ v h' tk,(∀ b o,s.heap.get? b = some o → h'.get? b = some o) → Rep (ext G s.heap.objs.size h') d v → Q v { s with heap:=h',toks:=tk }) → wpAny (model prog w) A (call f vs) Q E s
noncomputable def PureC (prog:Program) (w:World) (B:PH → Prop) (n:Nat) (f:Value) (ds:List AV) (d:AV):Prop :=
 ∀ (A:Around) (G:PH) (s:Shared) (vs:List Value) (Q:Value → Shared → Prop) (E:Value → Shared → Prop),Room A n → B G → ViewIn G s.heap → RepL G ds vs →
  (∀ v h' tk,(∀ b o,s.heap.get? b = some o → h'.get? b = some o) → Rep (ext G s.heap.objs.size h') d v → Q v { s with heap:=h',toks:=tk }) →
  codeAny (model prog w) A (.call f ⟨vs,[]⟩) (fun r s'=>match r with | .ok (.ret v)=>Q v s' | .ok _=>False | .error e=>E e s') s
theorem PureC.fn {prog:Program} {w:World} {B:PH → Prop} {n:Nat} {f:Value} {ds:List AV} {d:AV} (h:PureC prog w B n f ds d):PureFn prog w B n f ds d:=fun A G s vs Q E hr hB hG r hq=>wpAny_call (h A G s vs Q E hr hB hG r hq)
section
variable {prog:Program} {w:World} {F:Fn} {R:PH} {sig sig':List (Option AV)} {om om':Om} {tau:List (Value × AV)} {s:Shared}
theorem Fn.G_view (x:Sta F R sig om tau s):F.G.le (F.view R om s.heap):=fun b o e=>by
 obtain ⟨h1,h2,h3,h4⟩:=x.g b o e
 unfold Fn.view
 rw [if_neg (by rw [h4]; simpa using h2),if_pos h1]
 exact e
theorem c_pure (ok:F.Ok) {B:PH → Prop} {n:Nat} {f:Value} {ds:List AV} {d:AV} (hB:B F.G) (mono:∀ V V',V.le V' → B V → B V') (room:Room F.A n) (h:PureFn prog w B n f ds d):OpC prog w F om f ds d:=fun R sig tau vs s Q E hv st hq=>by
 obtain ⟨r,st'⟩:=st.zip hv
 refine h F.A (F.view R om s.heap) s vs _ _ room (mono _ _ (Fn.G_view st') hB) st'.viewIn r fun v h' tk k rv=>?_
 refine hq _ _ ((st'.grow k).push (rv.mono fun b o e=>?_))
 unfold ext at e
 split at e
 ·exact F.view_grow k b o e
 ·rename_i hlt
  exact st'.new_view ok (Nat.not_lt.mp hlt) e
noncomputable def sigOf (names:List (PySem.Str × NameKind)) (ps:List PySem.Str) (ds:List AV):List (Option AV):=names.map fun x=>(ps.zip ds).lookup x.1
theorem lookup_zip {x:PySem.Str} {d:AV}:∀ {ps:List PySem.Str} {ds:List AV},(ps.zip ds).lookup x = some d → ∃ j:Nat,ps[j]? = some x ∧ ds[j]? = some d
 | [],_,h=>by simp at h
 | _ :: _,[],h=>by simp at h
 | p :: ps,d' :: ds,h=>by
  rw [List.zip_cons_cons,List.lookup_cons] at h
  cases q:x == p with
  | true=>rw [q] at h; simp only [Option.some.injEq] at h; subst h; exact ⟨0,by simp [beq_iff_eq.mp q],rfl⟩
  | false =>
   rw [q] at h
   obtain ⟨j,h1,h2⟩:=lookup_zip h
   exact ⟨j + 1,by simpa using h1,by simpa using h2⟩
theorem bind_none {kindOf:PySem.Str → Option NameKind} {x:PySem.Str}:∀ {binds:List (PySem.Str × Value)} {m:PySem.Str → Option Value},x ∉ binds.map (·.1) → bindL kindOf binds m x = m x ∧ bindC kindOf binds m x = m x
 | [],m,_=>⟨rfl,rfl⟩
 | (n,v) :: r,m,h=>by
  simp only [List.map_cons,List.mem_cons,not_or] at h
  unfold bindL bindC
  refine ⟨(bind_none h.2).1.trans ?_,(bind_none h.2).2.trans ?_⟩
  ·split
   ·simp [h.1]
   ·rfl
  ·split
   ·rfl
   ·simp [h.1]
theorem bind_at {kindOf:PySem.Str → Option NameKind} {x:PySem.Str} {v:Value}:∀ {binds:List (PySem.Str × Value)} {m m':PySem.Str → Option Value} {j:Nat},(binds.map (·.1)).Nodup → binds[j]? = some (x,v) →
  (kindOf x = some .local → bindL kindOf binds m x = some v) ∧ (kindOf x = some .cell → bindC kindOf binds m' x = some v)
 | [],_,_,_,_,h=>by simp at h
 | (n,u) :: r,m,m',0,hn,h=>by
  simp only [List.getElem?_cons_zero,Option.some.injEq,Prod.mk.injEq] at h
  obtain ⟨rfl,rfl⟩:=h
  rw [List.map_cons,List.nodup_cons] at hn
  unfold bindL bindC
  refine ⟨fun hk=>(bind_none hn.1).1.trans ?_,fun hk=>(bind_none hn.1).2.trans ?_⟩
  ·rw [if_pos hk]; simp
  ·rw [if_neg (by rw [hk]; decide)]; simp
 | (n,u) :: r,m,m',j + 1,hn,h=>by
  rw [List.map_cons,List.nodup_cons] at hn
  simp only [List.getElem?_cons_succ] at h
  unfold bindL bindC
  exact bind_at hn.2 h
theorem cellsFrom_keys:∀ (names:List (PySem.Str × NameKind)) (n:Nat) (acc:List (PySem.Str × Addr)),(cellsFrom n names acc).map (·.1) = ((names.filter fun x=>x.2 == .cell).map (·.1)).reverse ++ acc.map (·.1)
 | [],_,_=>by simp [cellsFrom]
 | (x,k) :: r,n,acc=>by
  unfold cellsFrom
  by_cases hk:(k == .cell) = true
  ·rw [if_pos hk,cellsFrom_keys r,List.filter_cons_of_pos (by simpa using hk)]
   simp
  ·rw [if_neg hk,cellsFrom_keys r,List.filter_cons_of_neg (by simpa using hk)]
theorem lookup_of_nodup {x:PySem.Str} {c:Addr}:∀ {l:List (PySem.Str × Addr)},(l.map (·.1)).Nodup → (x,c) ∈ l → l.lookup x = some c
 | [],_,h=>nomatch h
 | (y,d) :: r,hn,h=>by
  rw [List.map_cons,List.nodup_cons] at hn
  rw [List.lookup_cons]
  rcases List.mem_cons.mp h with e | h
  ·cases e; simp
  ·have:(x == y) = false:=by
    simp only [beq_eq_false_iff_ne,ne_eq]
    intro e
    exact hn.1 (List.mem_map.mpr ⟨(x,c),h,e⟩)
   rw [this]
   exact lookup_of_nodup hn.2 h
noncomputable def fnAt (fd:FuncData) (f:Addr) (A:Around) (G:PH) (s:Shared):Fn :=
 ⟨callEnvC fd s.heap.objs.size f,G,s.heap.objs.size,(callEnvC fd s.heap.objs.size f).cells.map (·.2),s,A.deeper (callEnvC fd s.heap.objs.size f)⟩
noncomputable def hid (G:PH) (h:Heap):PH:=fun b=>if (G b).isSome then none else h.get? b
theorem hid_none {G:PH} {h:Heap} {b:Addr} {o:Obj} (e:G b = some o):hid G h b = none:=by unfold hid; rw [e]; rfl
theorem hid_get {G:PH} {h:Heap} {b:Addr} {o:Obj} (e:hid G h b = some o):h.get? b = some o:=by
 unfold hid at e
 split at e
 ·cases e
 ·exact e
structure DefOk (fd:FuncData) (ps:List PySem.Str):Prop where
 kind:fd.scope.kind = .function
 names:(fd.scope.names.map (·.1)).Nodup
 nofree:∀ y ∈ fd.scope.names,y.2 ≠ .free
 nodup:ps.Nodup
 pk:∀ x ∈ ps,fd.scope.names.lookup x = some .local ∨ fd.scope.names.lookup x = some .cell
theorem cells_nodup {fd:FuncData} {ps:List PySem.Str} (ok:DefOk fd ps) {n f:Addr}:((callEnvC fd n f).cells.map (·.1)).Nodup:=by
 show ((cellsFrom (n + 1) fd.scope.names []).map (·.1)).Nodup
 rw [cellsFrom_keys]
 simp only [List.map_nil,List.append_nil]
 rw [List.reverse_perm _ |>.nodup_iff]
 exact (ok.names.sublist ((List.filter_sublist).map _))
theorem fn_ok {fd:FuncData} {ps:List PySem.Str} (ok:DefOk fd ps) {f:Addr} {A:Around} {G:PH} {s:Shared} {n:Nat} (hr:Room A (n + 1)) (ap:(callEnvC fd s.heap.objs.size f).cells.Pairwise fun x y=>x.2 ≠ y.2)
  (ab:∀ n c,(n,c) ∈ (callEnvC fd s.heap.objs.size f).cells → s.heap.objs.size < c):(fnAt fd f A G s).Ok:=by
 have hr':=hr.deeper (callEnvC fd s.heap.objs.size f)
 refine ⟨ok.kind,hr'.handled,by have:=hr'.depth; show (A.deeper _).depth ≤ 600; lia,by have:=hr'.units; show (A.deeper _).units ≤ 5000; lia,ok.names,Nat.le_refl _,fun c hc=>?_,fun x c h1 _ y h2=>name_of_addr ap (mem_of_lookup h1) (mem_of_lookup h2)⟩
 obtain ⟨⟨n,c'⟩,h1,h2⟩:=List.mem_map.mp hc
 cases h2
 exact Nat.le_of_lt (ab n _ h1)
theorem entry_sta {fd:FuncData} {f:Addr} {A:Around} {G:PH} {s s₁:Shared} {vs:List Value} {ds:List AV} {ps:List PySem.Str} (ok:DefOk fd ps)
  (hG:ViewIn G s.heap) (r:RepL G ds vs) (hlen:ps.length = ds.length)
  (x:InCallC s (callEnvC fd s.heap.objs.size f).locals (bindL (callEnvC fd s.heap.objs.size f).kindOf (ps.zip vs) fun _=>none) (callEnvC fd s.heap.objs.size f).cells (bindC (callEnvC fd s.heap.objs.size f).kindOf (ps.zip vs) fun _=>none) s₁) :
  Sta (fnAt fd f A G s) (hid G s.heap) (sigOf fd.scope.names ps ds) [] [] s₁:=by
 have hvl:=r.length
 have ab:∀ n c,(n,c) ∈ (callEnvC fd s.heap.objs.size f).cells → s.heap.objs.size < c:=x.above
 have hm:∀ c ∈ (callEnvC fd s.heap.objs.size f).cells.map (·.2),∃ n,(n,c) ∈ (callEnvC fd s.heap.objs.size f).cells:=fun c hc=>by
  obtain ⟨⟨n,c'⟩,h1,h2⟩:=List.mem_map.mp hc
  cases h2
  exact ⟨n,h1⟩
 have notD:∀ b,b < s.heap.objs.size → b ∉ (fnAt fd f A G s).D []:=fun b hb h=>by
  unfold Fn.D at h
  simp only [List.map_nil,List.append_nil,List.mem_cons] at h
  rcases h with h | h
  ·have:b = s.heap.objs.size:=h
   exact Nat.lt_irrefl _ (this ▸ hb)
  ·obtain ⟨n,hn⟩:=hm b h
   exact Nat.lt_irrefl _ (Nat.lt_trans (ab n b hn) hb)
 have kv:G.le ((fnAt fd f A G s).view (hid G s.heap) [] s₁.heap):=fun b o e=>by
  have hb:b < s.heap.objs.size:=Heap.lt_size (hG _ _ e)
  unfold Fn.view
  rw [if_neg (by rw [hid_none e]; simpa using notD b hb),if_pos (show b < (fnAt fd f A G s).n₀ from hb)]
  exact e
 refine ⟨x.toInCall.same,?_,fun b o e=>⟨Heap.lt_size (hG _ _ e),notD b (Heap.lt_size (hG _ _ e)),x.toInCall.keep _ _ (hG _ _ e),hid_none e⟩,fun b o e=>⟨notD b (Heap.lt_size (hid_get e)),x.toInCall.keep _ _ (hid_get e)⟩,fun c hc=>?_,fun p hp=>(nomatch hp),fun p hp=>(nomatch hp),?_⟩
 ·unfold Fn.D
  simp only [List.map_nil,List.append_nil]
  rw [List.nodup_cons]
  refine ⟨fun h=>?_,?_⟩
  ·obtain ⟨n,hn⟩:=hm _ h
   exact Nat.lt_irrefl _ (ab n _ hn)
  ·show ((callEnvC fd s.heap.objs.size f).cells.map (·.2)).Nodup
   rw [List.nodup_iff_pairwise_ne,List.pairwise_map]
   exact x.apart
 ·obtain ⟨n,hn⟩:=hm c hc
  exact ⟨_,x.cell n c (lookup_of_nodup (cells_nodup ok) hn)⟩
 ·refine ⟨_,x.toInCall.ns,fun k y kind d h1 h2=>?_⟩
  have h1':fd.scope.names[k]? = some (y,kind):=h1
  unfold sigOf at h2
  rw [List.getElem?_map,h1'] at h2
  simp only [Option.map_some,Option.some.injEq] at h2
  obtain ⟨j,hj1,hj2⟩:=lookup_zip h2
  obtain ⟨v,hv,rv⟩:=r.get hj2
  have hb:(ps.zip vs)[j]? = some (y,v):=by
   rw [List.getElem?_zip_eq_some]; exact ⟨hj1,hv⟩
  have hnd:((ps.zip vs).map (·.1)).Nodup:=by
   rw [List.map_fst_zip (by lia)]; exact ok.nodup
  have hkind:(callEnvC fd s.heap.objs.size f).kindOf y = some kind:=lookup_of_mem ok.names h1'
  have hb2:=bind_at (kindOf:=(callEnvC fd s.heap.objs.size f).kindOf) (m:=fun _=>none) (m':=fun _=>none) hnd hb
  have hkd:kind = .local ∨ kind = .cell:=by
   have:fd.scope.names.lookup y = some kind:=hkind
   rcases ok.pk y (List.mem_of_getElem? hj1) with q | q <;> rw [this] at q <;> cases q
   ·exact .inl rfl
   ·exact .inr rfl
  rcases hkd with rfl | rfl
  ·exact .loc (hb2.1 hkind) (rv.mono kv)
  ·obtain ⟨c,hc⟩:=Option.isSome_iff_exists.mp (cellsFrom_some (x:=y) fd.scope.names (s.heap.objs.size + 1) [] (.inl hkind))
   have hc':(callEnvC fd s.heap.objs.size f).cells.lookup y = some c:=hc
   have hcell:=x.cell y c hc'
   rw [hb2.2 hkind] at hcell
   obtain ⟨o,ho,hd⟩:=hcell
   exact .cel hc' ho hd (rv.mono kv) (.inl (List.mem_map.mpr ⟨(y,c),mem_of_lookup hc',rfl⟩))
structure DefAt (fd:FuncData) (body:List Stmt) (f:Addr) (V:PH):Prop where
 obj:∃ o,V f = some o ∧ o.data = .func fd
 code:∃ c o vs t,fd.code = .ref c ∧ V c = some o ∧ o.data = .fields vs ∧ vs[1]? = some (.str fd.qualname t)
 lim:∃ o es ep,V cStatics = some o ∧ o.data = .dict es ep ∧ StrKeys es ∧ nsFind es "sys.recursionlimit" = none
 body:fd.body = .stmts body
 clo:fd.closure = []
theorem pure_defC {fd:FuncData} {body:List Stmt} {f:Addr} {ps:List PySem.Str} {ds:List AV} {d:AV} {n:Nat} {B:PH → Prop} (ok:DefOk fd ps) (hat:∀ V,B V → DefAt fd body f V) (hlen:ps.length = ds.length)
  (hbind:∀ vs:List Value,vs.length = ds.length → bindArgs fd ⟨vs,[]⟩ = pure (ps.zip vs))
  (h:∀ (A:Around) (G:PH) (s:Shared),B G → Room (A.deeper (callEnvC fd s.heap.objs.size f)) n → (fnAt fd f A G s).Ok → Ex prog w (fnAt fd f A G s) (sigOf fd.scope.names ps ds) [] body fun o=>match o with | .ret d' _ _=>d' = d | .nxt _ _=>d = .none | _=>False)
  (hco:fd.scope.isCoroutine = false:=by rfl) (hgen:fd.scope.isGenerator = false:=by rfl):PureC prog w B (n + 1) (.ref f) ds d:=fun A G s vs Q E hr hB hG r hq=>by
 obtain ⟨⟨o,ho,hd⟩,⟨c,oc,cvs,t,hc1,hc2,hc3,hc4⟩,⟨ol,es,ep,hl1,hl2,hl3,hl4⟩,hbody,hclo⟩:=hat G hB
 have hvl:=r.length
 refine (codeAny_call_cells (fd:=fd) (by have:=hr.depth; unfold recursionLimit; lia) (hG _ _ ho) hd ⟨_,⟨ol,es,ep,hG _ _ hl1,hl2,hl3,fun _=>rfl⟩,hl4⟩ ⟨c,oc,cvs,t,hc1,hG _ _ hc2,hc3,hc4⟩ hbody (hbind vs hvl) hclo (fun x hx=>?_) (fun s₁ x=>?_) hco hgen ok.kind)
 ·have hx':x.1 ∈ ps:=by
   obtain ⟨i,hi,e⟩:=List.getElem_of_mem hx
   rw [List.getElem_zip] at e
   rw [← e]
   exact List.getElem_mem _
  rcases ok.pk x.1 hx' with q | q
  ·exact .inl q
  ·exact .inr ⟨q,cellsFrom_some fd.scope.names _ [] (.inl q)⟩
 ·have fok:=fn_ok ok hr x.apart x.above (G:=G)
  have st:=entry_sta (A:=A) ok hG r hlen x
  have fin:∀ (v:Value) (sig':List (Option AV)) (om':Om) (s':Shared),Sta (fnAt fd f A G s) (hid G s.heap) sig' om' [(v,d)] s' → Q v s':=fun v sig' om' s' st'=>by
   have hsame:=st'.same
   obtain ⟨h',tk,rfl⟩:=hsame
   refine hq v h' tk (fun b ob e=>?_) (st'.top.mono fun b ob e=>?_)
   ·cases q:G b with
    | some og =>
     have:=hG _ _ q
     rw [e] at this; cases this
     exact (st'.g b _ q).2.2.1
    | none=>exact (st'.rf b ob (by unfold hid; rw [q]; exact e)).2
   ·unfold ext
    have:=st'.vget e
    unfold Fn.view at e
    split at e
    ·cases e
    ·split at e
     ·rename_i hlt; rw [if_pos (show b < s.heap.objs.size from hlt)]; exact e
     ·rename_i hlt; rw [if_neg (show ¬ b < s.heap.objs.size from hlt)]; exact this
  refine h A G s hB (hr.deeper _) fok (hid G s.heap) [] s₁ _ _ st fun out fl s' ho hl=>?_
  cases out <;> cases fl <;> first | exact False.elim hl | change Sta _ _ _ _ _ _ at hl
  ·rename_i sig' om'
   simp only at ho
   subst ho
   exact fin _ sig' om' s' (hl.push rep_none)
  ·exact ho.elim
  ·exact ho.elim
  ·rename_i d' sig' om' v
   simp only at ho
   subst ho
   exact fin v sig' om' s' hl
end
end
section
section
variable {prog:Program} {w:World} {F:Fn} {R:PH} {sig sig':List (Option AV)} {om om':Om} {tau:List (Value × AV)} {s:Shared}
theorem Sta.unhideBut {a:Addr} {o:Obj} (st:Sta F (R.put a o) sig om tau s) (hR:R a = none) (hc:¬ ∃ v,o.data = .cell v) {h':Heap} {tk:Nat} (hk:∀ b o,b ≠ a → s.heap.get? b = some o → h'.get? b = some o):Sta F R sig om tau { s with heap:=h',toks:=tk }:=by
 refine st.move (tk:=tk) (Fn.view_unput hk) (fun b ob e=>?_) (fun b ob e=>?_) (fun b ob hb e=>hk b ob (fun q=>?_) e) fun c ob e hcell=>?_
 ·have g:=(st.g b ob e)
  have hne:b ≠ a:=fun q=>by have:=g.2.2.2; rw [q,PH.put_self] at this; cases this
  refine ⟨hk _ _ hne g.2.2.1,?_⟩
  have:=g.2.2.2; rw [PH.put_ne hne] at this; exact this
 ·have hne:b ≠ a:=fun q=>by rw [q,hR] at e; cases e
  have:=st.rf b ob (by rw [PH.put_ne hne]; exact e)
  exact ⟨this.1,hk _ _ hne this.2⟩
 ·subst q; exact (st.rf b o PH.put_self).1 hb
 ·by_cases q:c = a
  ·subst q
   rw [PH.put_self] at e; cases e
   exact absurd hcell hc
  ·rw [PH.put_ne q] at e; exact e
theorem view_lo {F:Fn} {R:PH} {om:Om} {h:Heap} {b:Addr} {ob:Obj} (h1:b ∉ F.D om) (h2:R b = none) (h3:b < F.n₀) (e:F.G b = some ob):F.view R om h b = some ob:=by
 unfold Fn.view
 rw [if_neg (by rw [h2]; simpa using h1),if_pos h3]
 exact e
theorem view_cases {F:Fn} {R:PH} {om:Om} {h:Heap} {b:Addr} {ob:Obj} (e:F.view R om h b = some ob):b ∉ F.D om ∧ R b = none ∧ ((b < F.n₀ ∧ F.G b = some ob) ∨ (¬ b < F.n₀ ∧ h.get? b = some ob)):=by
 unfold Fn.view at e
 split at e
 ·cases e
 ·rename_i q
  simp only [not_or] at q
  refine ⟨q.1,?_,?_⟩
  ·cases z:R b with
   | none=>rfl
   | some o=>rw [z] at q; exact absurd rfl q.2
  ·split at e
   ·rename_i z; exact .inl ⟨z,e⟩
   ·rename_i z; exact .inr ⟨z,e⟩
noncomputable def compFn (F:Fn) (scope:Scope) (cl:List (PySem.Str × Addr)) (V:PH) (n C:Addr):Fn:=⟨compEnvC scope cl C F.env,V,n,[],F.base,F.A⟩
noncomputable def compHid (V:PH) (om:Om) (I:Addr) (h:Heap):PH:=fun b=>if (V b).isSome = true ∨ b ∈ om.map (·.1) ∨ b = I then none else h.get? b
theorem compHid_get {V:PH} {I:Addr} {h:Heap} {b:Addr} {o:Obj} (e:compHid V om I h b = some o):h.get? b = some o ∧ V b = none ∧ b ∉ om.map (·.1) ∧ b ≠ I:=by
 unfold compHid at e
 split at e
 ·cases e
 ·rename_i q
  simp only [not_or] at q
  refine ⟨e,?_,q.2.1,q.2.2⟩
  cases z:V b with
  | none=>rfl
  | some o=>rw [z] at q; exact absurd rfl q.1
theorem compHid_of {V:PH} {I:Addr} {h:Heap} {b:Addr} {o:Obj} (e:h.get? b = some o) (h1:V b = none) (h2:b ∉ om.map (·.1)) (h3:b ≠ I):compHid V om I h b = some o:=by
 unfold compHid
 rw [if_neg (by rw [h1]; simp [h2,h3])]
 exact e
noncomputable def CapOk (F:Fn) (sig:List (Option AV)) (scope:Scope) (cl:List (PySem.Str × Addr)) (cap:List (Option AV)):Prop :=
 ∀ (j:Nat) x kind d,(relabel scope F.env).names[j]? = some (x,kind) → cap[j]? = some (some d) → (kind = .cell ∨ kind = .free) ∧ ∃ (k:Nat) (kind':NameKind),F.names[k]? = some (x,kind') ∧ (kind' = .cell ∨ kind' = .free) ∧ sig[k]? = some (some d) ∧ cl.lookup x = F.env.cells.lookup x
theorem comp_in (ok:F.Ok) {scope:Scope} {cl:List (PySem.Str × Addr)} {cap:List (Option AV)} {I:Addr} {o:Obj} (x:Sta F (R.put I o) sig om tau s) (hoc:¬ ∃ v,o.data = .cell v) (hcap:CapOk F sig scope cl cap)
  {h₁:Heap} {tk:Nat} (hns:h₁.Ns (s.heap.objs.size + 1) fun _=>none) (hk:∀ b o,s.heap.get? b = some o → h₁.get? b = some o) (hacc:h₁.get? s.heap.objs.size = some { cls:=.type "list",data:=.seq #[] 0 }) :
  Sta (compFn F scope cl (F.view (R.put I o) om s.heap) s.heap.objs.size (s.heap.objs.size + 1)) ((compHid (F.view (R.put I o) om s.heap) om I s.heap).put I o) cap ((s.heap.objs.size,LstO []) :: om) tau { s with heap:=h₁,toks:=tk }:=by
 have hI:=x.rf I o PH.put_self
 have hlt:∀ b ob,s.heap.get? b = some ob → b < s.heap.objs.size:=fun b ob e=>Heap.lt_size e
 have omD:∀ b,b ∈ om.map (·.1) → b ∈ F.D om:=fun b hb=>by unfold Fn.D; simp only [List.mem_cons,List.mem_append]; exact .inr (.inr hb)
 have inD:∀ b,b ∈ Fn.D (compFn F scope cl (F.view (R.put I o) om s.heap) s.heap.objs.size (s.heap.objs.size + 1)) ((s.heap.objs.size,LstO []) :: om) ↔ b = s.heap.objs.size + 1 ∨ b = s.heap.objs.size ∨ b ∈ om.map (·.1):=fun b=>by
  unfold Fn.D
  show b ∈ (s.heap.objs.size + 1) :: ([] ++ (s.heap.objs.size :: om.map (·.1))) ↔ _
  simp
 have notD:∀ b,b < s.heap.objs.size → b ∉ om.map (·.1) → b ∉ Fn.D (compFn F scope cl (F.view (R.put I o) om s.heap) s.heap.objs.size (s.heap.objs.size + 1)) ((s.heap.objs.size,LstO []) :: om):=fun b hb ho q=>by
  rcases (inD b).mp q with q | q | q
  ·exact absurd hb (by rw [q]; exact Nat.not_lt.mpr (Nat.le_succ _))
  ·exact absurd hb (by rw [q]; exact Nat.lt_irrefl _)
  ·exact ho q
 have vI:F.view (R.put I o) om s.heap I = none:=by
  cases e:F.view (R.put I o) om s.heap I with
  | none=>rfl
  | some ob=>have:=(view_get (fun b o e=>(x.g b o e).2.2.1) e).2.2; rw [PH.put_self] at this; cases this
 have g:∀ b ob,F.view (R.put I o) om s.heap b = some ob → b < s.heap.objs.size ∧ b ∉ Fn.D (compFn F scope cl (F.view (R.put I o) om s.heap) s.heap.objs.size (s.heap.objs.size + 1)) ((s.heap.objs.size,LstO []) :: om) ∧ h₁.get? b = some ob ∧ (compHid (F.view (R.put I o) om s.heap) om I s.heap).put I o b = none:=fun b ob e=>by
  have hb:=x.vget e
  have hn:=x.vnot e
  refine ⟨hlt _ _ hb,notD b (hlt _ _ hb) (fun q=>hn (omD b q)),hk _ _ hb,?_⟩
  rw [PH.put_ne (fun q=>by rw [q,vI] at e; cases e)]
  unfold compHid
  rw [if_pos (.inl (by rw [e]; rfl))]
 have kv:(F.view (R.put I o) om s.heap).le (Fn.view (compFn F scope cl (F.view (R.put I o) om s.heap) s.heap.objs.size (s.heap.objs.size + 1)) ((compHid (F.view (R.put I o) om s.heap) om I s.heap).put I o) ((s.heap.objs.size,LstO []) :: om) h₁):=fun b ob e=>by
  obtain ⟨g1,g2,g3,g4⟩:=g b ob e
  exact view_lo g2 g4 g1 e
 obtain ⟨h₀,tk₀,rfl⟩:=x.same
 refine ⟨⟨h₁,tk,rfl⟩,?_,g,fun b ob e=>?_,fun c hc=>(nomatch hc),fun p hp=>?_,fun p hp=>(x.temps p hp).mono kv,⟨fun _=>none,hns,fun j y kind d h1 h2=>?_⟩⟩
 ·show ((h₀.objs.size + 1) :: ([] ++ (h₀.objs.size :: om.map (·.1)))).Nodup
  have hom:∀ b ∈ om.map (·.1),b < h₀.objs.size:=fun b hb=>x.lt (omD b hb)
  have nd:=x.nodup
  unfold Fn.D at nd
  rw [List.nodup_cons] at nd
  rw [List.nil_append,List.nodup_cons,List.nodup_cons]
  refine ⟨fun q=>?_,fun q=>Nat.lt_irrefl _ (hom _ q),(List.nodup_append.mp nd.2).2.1⟩
  rcases List.mem_cons.mp q with q | q
  ·exact absurd q (Nat.succ_ne_self _)
  ·exact absurd (hom _ q) (Nat.not_lt.mpr (Nat.le_succ _))
 ·by_cases q:b = I
  ·subst q
   rw [PH.put_self] at e; cases e
   exact ⟨notD b (hlt _ _ hI.2) (fun z=>hI.1 (omD b z)),hk _ _ hI.2⟩
  ·rw [PH.put_ne q] at e
   obtain ⟨e1,e2,e3,e4⟩:=compHid_get e
   exact ⟨notD b (hlt _ _ e1) e3,hk _ _ e1⟩
 ·rcases List.mem_cons.mp hp with rfl | hp
  ·exact ⟨_,hacc,fun V' hV=>⟨_,_,rfl,.nil⟩⟩
  ·obtain ⟨ob,ho,hP⟩:=x.opens p hp
   exact ⟨ob,hk _ _ ho,fun V' hV=>hP V' (kv.trans hV)⟩
 ·obtain ⟨hkind,k,kind',c1,c2,c3,c4⟩:=hcap j y kind d h1 h2
  obtain ⟨m,hm,sl⟩:=x.slots
  have body:∀ (c:Addr) (ob:Obj) (v:Value),F.env.cells.lookup y = some c → h₀.get? c = some ob → ob.data = .cell (some v) → Rep (F.view (R.put I o) om h₀) d v → (c ∈ F.cs ∨ (R.put I o) c = some ob) →
    SlotAt (compFn F scope cl (F.view (R.put I o) om h₀) h₀.objs.size (h₀.objs.size + 1)) ((compHid (F.view (R.put I o) om h₀) om I h₀).put I o) h₁ (fun _=>none)
     (Fn.view (compFn F scope cl (F.view (R.put I o) om h₀) h₀.objs.size (h₀.objs.size + 1)) ((compHid (F.view (R.put I o) om h₀) om I h₀).put I o) ((h₀.objs.size,LstO []) :: om) h₁) y d kind:=fun c ob v e1 e2 e3 r q=>by
   have hcI:c ≠ I:=fun z=>by
    subst z
    rcases q with q | q
    ·exact hI.1 (by simp [Fn.D,q])
    ·rw [PH.put_self] at q; cases q; exact hoc ⟨_,e3⟩
   have hvc:F.view (R.put I o) om h₀ c = none:=by
    unfold Fn.view
    rw [if_pos]
    rcases q with q | q
    ·exact .inl (by simp [Fn.D,q])
    ·exact .inr (by rw [q]; rfl)
   have hom:c ∉ om.map (·.1):=fun z=>by
    rcases q with q | q
    ·have nd:=x.nodup
     unfold Fn.D at nd
     rw [List.nodup_cons] at nd
     exact (List.nodup_append.mp nd.2).2.2 c q c z rfl
    ·exact (x.rf _ _ q).1 (omD c z)
   have hh:((compHid (F.view (R.put I o) om h₀) om I h₀).put I o) c = some ob:=by
    rw [PH.put_ne hcI]; exact compHid_of e2 hvc hom hcI
   have hl:(compFn F scope cl (F.view (R.put I o) om h₀) h₀.objs.size (h₀.objs.size + 1)).env.cells.lookup y = some c:=by
    show cl.lookup y = some c
    rw [c4]; exact e1
   rcases hkind with rfl | rfl
   ·exact .cel hl (hk _ _ e2) e3 (r.mono kv) (.inr hh)
   ·exact .fre hl (hk _ _ e2) e3 (r.mono kv) hh
  have:=sl k y kind' d c1 c3
  rcases c2 with rfl | rfl
  ·cases this with | cel e1 e2 e3 r q=>exact body _ _ _ e1 e2 e3 r q
  ·cases this with | fre e1 e2 e3 r q=>exact body _ _ _ e1 e2 e3 r (.inr q)
theorem comp_out (ok:F.Ok) {scope:Scope} {cl:List (PySem.Str × Addr)} {sigc:List (Option AV)} {I:Addr} {o:Obj} {res:List AV} {tau':List (Value × AV)} {s s':Shared} (x:Sta F (R.put I o) sig om tau s) (hR:R I = none) (hoc:¬ ∃ v,o.data = .cell v)
  (y:Sta (compFn F scope cl (F.view (R.put I o) om s.heap) s.heap.objs.size (s.heap.objs.size + 1)) (compHid (F.view (R.put I o) om s.heap) om I s.heap) sigc ((s.heap.objs.size,LstO res) :: om) tau' s') :
  ∃ oC,s'.heap.get? (s.heap.objs.size + 1) = some oC ∧ (∃ m,s'.heap.Ns (s.heap.objs.size + 1) m) ∧ (¬ ∃ v,oC.data = .cell v) ∧ R (s.heap.objs.size + 1) = none ∧ Sta F (R.put (s.heap.objs.size + 1) oC) sig om ((.ref s.heap.objs.size,.lst res) :: tau) s':=by
 obtain ⟨mc,hmc,_⟩:=y.slots
 have hmc':s'.heap.Ns (s.heap.objs.size + 1) mc:=hmc
 obtain ⟨oC,esC,epC,hoC,hdC,_⟩:=id hmc'
 have omD:∀ b,b ∈ om.map (·.1) → b ∈ F.D om:=fun b hb=>by unfold Fn.D; simp only [List.mem_cons,List.mem_append]; exact .inr (.inr hb)
 have hlt:∀ b ob,s.heap.get? b = some ob → b < s.heap.objs.size:=fun b ob e=>Heap.lt_size e
 have fr:=x.fresh ok (n:=s.heap.objs.size + 1) (Nat.le_succ _)
 have fr0:=x.fresh ok (n:=s.heap.objs.size) (Nat.le_refl _)
 have hRn:∀ n,s.heap.objs.size ≤ n → R n = none:=fun n hn=>by
  have:=x.freshR hn
  by_cases q:n = I
  ·rw [q]; exact hR
  ·rw [PH.put_ne q] at this; exact this
 have kD:∀ b ob,b ∈ F.D om → b ∉ om.map (·.1) → s.heap.get? b = some ob → s'.heap.get? b = some ob:=fun b ob hb ho e=>by
  have hbI:b ≠ I:=fun q=>(x.rf I o PH.put_self).1 (q ▸ hb)
  have hv:F.view (R.put I o) om s.heap b = none:=by unfold Fn.view; rw [if_pos (.inl hb)]
  exact (y.rf b ob (compHid_of e hv ho hbI)).2
 have kR:∀ b ob,R b = some ob → s'.heap.get? b = some ob ∧ b ∉ F.D om:=fun b ob e=>by
  have hbI:b ≠ I:=fun q=>by rw [q,hR] at e; cases e
  have h1:=x.rf b ob (by rw [PH.put_ne hbI]; exact e)
  have hv:F.view (R.put I o) om s.heap b = none:=by unfold Fn.view; rw [if_pos (.inr (by rw [PH.put_ne hbI,e]; rfl))]
  exact ⟨(y.rf b ob (compHid_of h1.2 hv (fun q=>h1.1 (omD b q)) hbI)).2,h1.1⟩
 have vis:∀ b ob,b ∉ F.D om → R b = none → b ≠ s.heap.objs.size + 1 → (if b < F.n₀ then F.G b else s'.heap.get? b) = some ob → F.view (R.put (s.heap.objs.size + 1) oC) om s'.heap b = some ob:=fun b ob h1 h2 h3 e=>by
  unfold Fn.view
  rw [if_neg (by rw [PH.put_ne h3,h2]; simpa using h1)]
  exact e
 have kV:(F.view (R.put I o) om s.heap).le (F.view (R.put (s.heap.objs.size + 1) oC) om s'.heap):=fun b ob e=>by
  have hb:=x.vget e
  have hn:=x.vnot e
  have hr:=(view_get (fun b o e=>(x.g b o e).2.2.1) e).2.2
  have hbI:b ≠ I:=fun q=>by rw [q,PH.put_self] at hr; cases hr
  rw [PH.put_ne hbI] at hr
  refine vis b ob hn hr (fun q=>Nat.lt_irrefl _ (Nat.lt_trans (Nat.lt_succ_self _) (q ▸ hlt _ _ hb))) ?_
  have gy:=y.g b ob e
  unfold Fn.view at e
  rw [if_neg (by rw [PH.put_ne hbI,hr]; simpa using hn)] at e
  split at e
  ·rename_i q; rw [if_pos q]; exact e
  ·rename_i q; rw [if_neg q]; exact gy.2.2.1
 have kC:(Fn.view (compFn F scope cl (F.view (R.put I o) om s.heap) s.heap.objs.size (s.heap.objs.size + 1)) (compHid (F.view (R.put I o) om s.heap) om I s.heap) ((s.heap.objs.size,LstO res) :: om) s'.heap).le (F.view (R.put (s.heap.objs.size + 1) oC) om s'.heap):=fun b ob e=>by
  have hb:=y.vget e
  have hn:=y.vnot e
  rcases (view_cases e).2.2 with ⟨hlt',e'⟩ | ⟨hge,e'⟩
  ·exact kV b ob e'
  ·have hge':s.heap.objs.size ≤ b:=Nat.not_lt.mp hge
   have f:=x.fresh ok hge'
   refine vis b ob f.1 (hRn b hge') (fun q=>hn ?_) (by rw [if_neg f.2]; exact hb)
   unfold Fn.D
   rw [q]
   exact List.mem_cons_self
 refine ⟨oC,hoC,⟨mc,hmc'⟩,fun ⟨v,e⟩=>(by rw [hdC] at e; cases e),hRn _ (Nat.le_succ _),?_⟩
 have hsame:∃ h tk,s' = { F.base with heap:=h,toks:=tk }:=y.same
 refine ⟨hsame,x.nodup,fun b ob e=>?_,fun b ob e=>?_,fun c hc=>?_,fun p hp=>?_,fun p hp=>?_,?_⟩
 ·obtain ⟨g1,g2,g3,g4⟩:=x.g b ob e
  have hbI:b ≠ I:=fun q=>by rw [q,PH.put_self] at g4; cases g4
  have hbC:b ≠ s.heap.objs.size + 1:=fun q=>Nat.lt_irrefl _ (Nat.lt_trans (Nat.lt_succ_self _) (q ▸ hlt _ _ g3))
  rw [PH.put_ne hbI] at g4
  have:=y.g b ob (Fn.G_view x b ob e)
  exact ⟨g1,g2,this.2.2.1,by rw [PH.put_ne hbC]; exact g4⟩
 ·by_cases q:b = s.heap.objs.size + 1
  ·subst q
   rw [PH.put_self] at e; cases e
   exact ⟨fr.1,hoC⟩
  ·rw [PH.put_ne q] at e
   exact ⟨(kR b ob e).2,(kR b ob e).1⟩
 ·obtain ⟨v,ob,ho,hd⟩:=x.cells c hc
  have nd:=x.nodup
  unfold Fn.D at nd
  rw [List.nodup_cons] at nd
  exact ⟨v,ob,kD c ob (by simp [Fn.D,hc]) (fun z=>(List.nodup_append.mp nd.2).2.2 c hc c z rfl) ho,hd⟩
 ·obtain ⟨ob,ho,hP⟩:=y.opens p (List.mem_cons_of_mem _ hp)
  exact ⟨ob,ho,fun V' hV=>hP V' (kC.trans hV)⟩
 ·rcases List.mem_cons.mp hp with rfl | hp
  ·obtain ⟨ob,ho,hP⟩:=y.opens (s.heap.objs.size,LstO res) List.mem_cons_self
   obtain ⟨vs,n,rfl,r⟩:=hP _ (PH.le.refl _)
   simp only [Rep]
   refine ⟨_,vs,n,rfl,vis _ _ fr0.1 (hRn _ (Nat.le_refl _)) (Nat.ne_of_lt (Nat.lt_succ_self _)) (by rw [if_neg fr0.2]; exact ho),r.mono kC⟩
  ·exact (x.temps p hp).mono kV
 ·obtain ⟨m,hm,sl⟩:=x.slots
  have nd:=x.nodup
  unfold Fn.D at nd
  rw [List.nodup_cons,List.mem_append,not_or] at nd
  refine ⟨m,hm.at' fun ob e=>kD F.L ob (by simp [Fn.D]) nd.1.2 e,fun k z kind d h1 h2=>?_⟩
  have hCc:∀ c ob,s.heap.get? c = some ob → c ≠ s.heap.objs.size + 1:=fun c ob e q=>Nat.lt_irrefl _ (Nat.lt_trans (Nat.lt_succ_self _) (q ▸ hlt _ _ e))
  cases sl k z kind d h1 h2 with
  | loc e r=>exact .loc e (r.mono kV)
  | cel a b c r q =>
   rcases q with q | q
   ·exact .cel a (kD _ _ (by simp [Fn.D,q]) (fun z=>(List.nodup_append.mp nd.2).2.2 _ q _ z rfl) b) c (r.mono kV) (.inl q)
   ·rename_i cc ob v
    have hne:cc ≠ I:=fun z=>by rw [z,PH.put_self] at q; cases q; exact hoc ⟨_,c⟩
    rw [PH.put_ne hne] at q
    exact .cel a (kR _ _ q).1 c (r.mono kV) (.inr (by rw [PH.put_ne (hCc _ _ b)]; exact q))
  | fre a b c r q =>
   rename_i cc ob v
   have hne:cc ≠ I:=fun z=>by rw [z,PH.put_self] at q; cases q; exact hoc ⟨_,c⟩
   rw [PH.put_ne hne] at q
   exact .fre a (kR _ _ q).1 c (r.mono kV) (by rw [PH.put_ne (hCc _ _ b)]; exact q)
end
end
section
section
variable {prog:Program} {w:World} {F:Fn} {R:PH} {sig sig':List (Option AV)} {om om':Om} {tau:List (Value × AV)} {s:Shared}
noncomputable def Do (prog:Program) (w:World) (F:Fn) (sig:List (Option AV)) (om:Om) (act:Sem PySem.Fin) (c:Code) (P:List (Option AV) → Om → Prop):Prop :=
 ∀ (R:PH) (tau:List (Value × AV)) (s:Shared) (Q:PySem.Fin → Shared → Prop) (E:Value → Shared → Prop),Sta F R sig om tau s →
  (∀ sig' om' s',P sig' om' → Sta F R sig' om' tau s' → Q (.again c) s') → wpAny (model prog w) F.A act Q E s
noncomputable def Ifs (prog:Program) (w:World) (F:Fn) (sig:List (Option AV)) (om:Om) (ifs:List PySem.Expr) (b:Bool):Prop :=
 ∀ (R:PH) (tau:List (Value × AV)) (s:Shared) (Q:Bool → Shared → Prop) (E:Value → Shared → Prop),Sta F R sig om tau s →
  (∀ s',Sta F R sig om tau s' → Q b s') → wpAny (model prog w) F.A (forIn ifs true fun c r=>if r = true then do let ok ← isTrue c F.env (eval c F.env); pure (ForInStep.yield ok) else pure (ForInStep.yield r)) Q E s
theorem ifs_nil:Ifs prog w F sig om [] true:=fun R tau s Q E st h=>wpAny_tests_nil (h _ st)
noncomputable def TurnIs (e:PySem.Expr) (k:Nat) (acc:Value) (env:Env) (p:Pos) (target:PySem.Expr) (ifs:List PySem.Expr) (act:Value → Sem PySem.Fin):Prop :=
 ∀ it,compTurn e k it acc env = (do
   standAt p
   match ← pyNext it with
   | none=>pure (.done .next)
   | some v =>
    letOwnedTupleGo target it v
    assign target env v
    let mut ok:=true
    for c in ifs do
     if ok then ok ← isTrue c env (eval c env)
    if ok then act it
    else again (.compLoop e k it acc env))
noncomputable def emitL (e elt:PySem.Expr) (acc:Value) (env:Env) (k:Nat) (it:Value):Sem PySem.Fin :=
 (do let _ ← call (.builtin "list.append") [acc,← eval elt env]:Sem Unit) >>= fun _=>again (.compLoop e k it acc env)
theorem turn_list (elt target iter:PySem.Expr) (ifs:List PySem.Expr) (scope:Scope) (pos:Pos) (acc:Value) (env:Env) :
  TurnIs (.ListComp elt [⟨target,iter,ifs,0⟩] scope pos) 0 acc env iter.pos target ifs (emitL (.ListComp elt [⟨target,iter,ifs,0⟩] scope pos) elt acc env 0):=fun it=>by rfl
theorem comp_loop (ok:F.Ok) {elt:PySem.Expr} {gens:List Comprehension} {scope:Scope} {pos:Pos} {k:Nat} {acc:Value} {p:Pos} {target:PySem.Expr} {ifs:List PySem.Expr} {act:Value → Sem PySem.Fin} (ht:TurnIs (.ListComp elt gens scope pos) k acc F.env p target ifs act)
  {xs:List AV} {d':AV} {v:Value} {I:Addr} {PP:Nat → Value → Prop} {St:Nat → Heap → Prop} (src:Src prog w F.A xs d' v I PP St) (hR:R I = none)
  (Inv:Nat → List (Option AV) → Om → Prop) (h0:Inv 0 sig om)
  (turn:∀ (i:Nat) (x:AV) sig om,xs[i]? = some x → Inv i sig om → ∃ sig₁ b,As prog w F om target x sig sig₁ ∧ Ifs prog w F sig₁ om ifs b ∧ (b = false → Inv (i + 1) sig₁ om) ∧ (b = true → Do prog w F sig₁ om (act (.ref I)) (.compLoop (.ListComp elt gens scope pos) k (.ref I) acc F.env) (Inv (i + 1))))
  {o:Obj} (hst:St 0 s.heap) (ho:s.heap.get? I = some o) (st:Sta F (R.put I o) sig om ((v,d') :: tau) s) {RR:Result → Shared → Prop}
  (hq:∀ sig om s',Inv xs.length sig om → Sta F R sig om ((v,d') :: tau) s' → RR (.ok .next) s') :
  codeAny (model prog w) F.A (.compLoop (.ListComp elt gens scope pos) k (.ref I) acc F.env) RR s:=by
 obtain ⟨⟨fp,W,hfp⟩,hitem,hobj⟩:=src
 refine codeAny_loop rfl (fun n s'=>∃ i sig om o,i ≤ xs.length ∧ n = xs.length + 1 - i ∧ Inv i sig om ∧ St i s'.heap ∧ s'.heap.get? I = some o ∧ Sta F (R.put I o) sig om ((v,d') :: tau) s') (fun n s' hI'=>?_) (xs.length + 1)
  ⟨0,sig,om,o,Nat.zero_le _,rfl,h0,hst,ho,st⟩
 obtain ⟨i,sig,om,o,hi,rfl,inv,hst,ho,st⟩:=hI'
 show wpAny _ F.A ((compTurn (.ListComp elt gens scope pos) k (.ref I) acc F.env).onRaise (fun x=>do noteFrame x F.env; theTreesLotGoes x)) _ _ s'
 refine wpAny_noted ?_
 rw [ht (.ref I)]
 refine wpAny_bind (wpAny_standAt (wpAny_bind ?_))
 have oc:¬ ∃ v,o.data = .cell v:=by
  obtain ⟨o',c,vs,e1,_,e3,_⟩:=hobj i _ hst
  rw [ho] at e1; cases e1
  exact not_cell e3
 by_cases hlt:i < xs.length
 ·refine W.item i s' _ _ hlt hst fun v' h' tk hP hst' hk=>?_
  obtain ⟨o',c,vs,e1,e2,e3,e4⟩:=hobj _ _ hst'
  have st':=st.rehide (tk:=tk) (fun ob e=>by rw [hR] at e; cases e) hk e1 oc
  refine wpAny_bind (let_go (s:={ s' with heap:=h',toks:=tk }) e1 e2 e3 e4 ?_)
  have rx:Rep (F.view (R.put I o') om h') (xs[i]) v':=hitem _ i v' _ st'.top hP (by simp [hlt])
  obtain ⟨sig₁,b,as,ifs',hf,htr⟩:=turn i xs[i] sig om (by simp [hlt]) inv
  refine wpAny_bind (as (R.put I o') _ v' _ _ _ (st'.push rx) fun s₃ st₃=>?_)
  refine wpAny_bind (ifs' (R.put I o') _ s₃ _ _ st₃.pop fun s₄ st₄=>?_)
  have goes:∀ sig' om' s₄,Inv (i + 1) sig' om' → Sta F (R.put I o') sig' om' ((v,d') :: tau) s₄ → ∃ m,m < xs.length + 1 - i ∧ ∃ i sig om o,i ≤ xs.length ∧ m = xs.length + 1 - i ∧ Inv i sig om ∧ St i s₄.heap ∧ s₄.heap.get? I = some o ∧ Sta F (R.put I o) sig om ((v,d') :: tau) s₄:=fun sig' om' s₄ hinv st₄=>by
   have hI₄:s₄.heap.get? I = some o':=(st₄.rf I o' PH.put_self).2
   refine ⟨xs.length + 1 - (i + 1),Nat.sub_lt_sub_left (Nat.lt_succ_of_lt hlt) (Nat.lt_succ_self i),i + 1,sig',om',o',hlt,rfl,hinv,W.frame _ _ _ hst' fun b hb ob e=>?_,hI₄,st₄⟩
   by_cases hbI:b = I
   ·subst hbI; rw [e1] at e; cases e; exact hI₄
   ·obtain ⟨ob',q1,q2⟩:=hfp b hb hbI _ _ st'.top st₄.top
    have:=st'.vget q1
    rw [show ({ s' with heap:=h',toks:=tk }:Shared).heap.get? b = some ob from e] at this
    cases this
    exact st₄.vget q2
  cases b with
  | false=>exact wpAny_pure ⟨rfl,goes _ _ _ (hf rfl) st₄⟩
  | true=>exact htr rfl (R.put I o') _ s₄ _ _ st₄ fun sig' om' s₅ hi' st₅=>⟨rfl,goes _ _ _ hi' st₅⟩
 ·have hi':i = xs.length:=by lia
  subst hi'
  refine W.done s' _ _ hst fun h' tk hk=>?_
  exact wpAny_pure (hq sig om _ inv (st.unhideBut hR oc fun b o hb e=>hk b o (by simpa using hb) e))
theorem comp_start (ok:F.Ok) {elt:PySem.Expr} {gens:List Comprehension} {scope:Scope} {pos:Pos} {k:Nat} {acc it:Value} {g:Comprehension} (hg:gens[k]? = some g) (ha:g.is_async = 0) {RR:Result → Shared → Prop}
  (h0:codeAny (model prog w) F.A (.compLoop (.ListComp elt gens scope pos) k it acc F.env) RR s)
  (h:wpAny (model prog w) F.A (pyIter it) (fun it' s'=>codeAny (model prog w) F.A (.compLoop (.ListComp elt gens scope pos) k it' acc F.env) RR s') (notedBy (model prog w) F.A F.env fun x s'=>RR (.error x) s') s) :
  codeAny (model prog w) F.A (.compStart (.ListComp elt gens scope pos) k it acc F.env) RR s:=by
 refine codeAny_of_tree ?_
 show wpAny _ _ ((compStart (.ListComp elt gens scope pos) k it acc F.env).onRaise (fun x=>do noteFrame x F.env; standAt theWindowsPlace)) _ _ s
 refine wpAny_notedAt ?_
 unfold compStart
 have hc:(clausesOf (.ListComp elt gens scope pos))[k]? = some g:=hg
 rw [hc]
 simp only [Option.elim,ha,bne_self_eq_false,Bool.false_eq_true,if_false]
 refine wpAny_bind (wpAny_askSetting (wpAny_ite ?_))
 split
 ·first
   | exact wpAny_bind (wpAny_pure (wpAny_pure (And.intro rfl h0)))
   | exact wpAny_pure (And.intro rfl h0)
 ·exact wpAny_bind (wpAny_rule (wpAny_bind (wpAny_standAt (wpAny_bind (wpAny_mono h (fun it' s' h'=>wpAny_pure (And.intro rfl h')) fun _ _ x=>x)))))
theorem comp_ok (ok:F.Ok) {scope:Scope} {cl:List (PySem.Str × Addr)} {V:PH} {n:Addr} (hk:scope.kind = .function) (hn:(scope.names.map (·.1)).Nodup):(compFn F scope cl V n (n + 1)).Ok:=by
 refine ⟨hk,ok.handled,ok.depth,ok.units,?_,Nat.le_succ _,fun c hc=>(nomatch hc),fun x c _ hc=>(nomatch hc)⟩
 show (((relabel scope F.env).names).map (·.1)).Nodup
 have:(relabel scope F.env).names.map (·.1) = scope.names.map (·.1):=by
  unfold relabel
  simp only [List.map_map]
  refine List.map_congr_left fun x _=>?_
  simp only [Function.comp]
  split <;> rfl
 rw [this]; exact hn
end
end
section
section
variable {prog:Program} {w:World} {F:Fn} {R:PH} {sig sig':List (Option AV)} {om om':Om} {tau:List (Value × AV)} {s:Shared}
theorem do_emit {e elt:PySem.Expr} {k:Nat} {D:Addr} {it:Value} {l:List AV} {d:AV} {P:List (Option AV) → Om → Prop} (h:Ev prog w F sig om elt d) (u:OmUpd om D (LstO l) (LstO (l ++ [d])) om') (hsz:l.length ≤ sizeLine) (hp:P sig om') :
  Do prog w F sig om (emitL e elt (.ref D) F.env k it) (.compLoop e k it (.ref D) F.env) P:=fun R tau s Q E st hq=>by
 unfold emitL
 refine wpAny_bind (wpAny_bind (h R tau s _ _ st fun v s₂ st₂=>?_))
 obtain ⟨vs₂,n₂,hl₂,r₂,e₂⟩:=st₂.openList u.mem
 refine wpAny_bind (append_at (hsz:=by lia) hl₂ fun h' hs ho=>wpAny_pure (wpAny_pure (hq _ _ _ hp (st₂.pop.upd (tk:=s₂.toks) u hs ho (LstO.upd ?_)))))
 have kv:=view_but (F:=F) (R:=R) (om:=om) u.inD hs
 rw [Array.toList_push]
 exact (r₂.mono kv).append (.cons (st₂.top.mono kv) .nil)
theorem comp_run (ok:F.Ok) {elt iter target:PySem.Expr} {ifs:List PySem.Expr} {gens:List Comprehension} {scope:Scope} {pos p:Pos} {cl:List (PySem.Str × Addr)} {cap:List (Option AV)} {d:AV} {xs res:List AV} {act:Value → Env → Value → Sem PySem.Fin}
  (ht:∀ acc env,TurnIs (.ListComp elt gens scope pos) 0 acc env p target ifs (act acc env)) {g:Comprehension} (hg:gens[0]? = some g) (ha:g.is_async = 0)
  (hcell:∀ y ∈ scope.names,y.2 ≠ .cell) (hkind:scope.kind = .function) (hnd:(scope.names.map (·.1)).Nodup) (hcap:CapOk F sig scope cl cap)
  (h:Ev prog w F sig om iter d) (itr:Itr prog w F om d xs)
  (body:∀ (V:PH) (n:Addr),(compFn F scope cl V n (n + 1)).Ok → F.G.le V → n ∉ om.map (·.1) → ∃ Inv:Nat → List (Option AV) → Om → Prop,Inv 0 cap ((n,LstO []) :: om) ∧ (∀ sig' om',Inv xs.length sig' om' → om' = (n,LstO res) :: om) ∧
   ∀ (I:Addr) (i:Nat) (x:AV) sig om,xs[i]? = some x → Inv i sig om → ∃ sig₁ b,As prog w (compFn F scope cl V n (n + 1)) om target x sig sig₁ ∧ Ifs prog w (compFn F scope cl V n (n + 1)) sig₁ om ifs b ∧ (b = false → Inv (i + 1) sig₁ om) ∧
    (b = true → Do prog w (compFn F scope cl V n (n + 1)) sig₁ om (act (.ref n) (compEnvC scope cl (n + 1) F.env) (.ref I)) (.compLoop (.ListComp elt gens scope pos) 0 (.ref I) (.ref n) (compEnvC scope cl (n + 1) F.env)) (Inv (i + 1))))
  {E:Value → Shared → Prop} {RR:Value → Addr → Result → Shared → Prop} (st:Sta F R sig om tau s)
  (hRR:∀ (n C:Addr) v oC s',C ≠ n → s'.heap.get? C = some oC → (∃ m,s'.heap.Ns C m) → (¬ ∃ v,oC.data = .cell v) → R C = none → Sta F (R.put C oC) sig om ((.ref n,.lst res) :: (v,d) :: tau) s' → RR (.ref n) C (.ok .next) s') :
  wpAny (model prog w) F.A (eval iter F.env) (fun x s₁=>wpAny (model prog w) F.A (pyIter x) (fun it s₂=>wpAny (model prog w) F.A (newList []) (fun acc s₃ =>
   wpAny (model prog w) F.A (newFunctionEnv scope F.env.globals cl [] F.env.qual none .none (some F.env)) (fun cenv s₄ =>
    codeAny (model prog w) F.A (.compStart (.ListComp elt gens scope pos) 0 it acc { cenv with scope:=relabel scope F.env }) (RR acc cenv.locals) s₄) E s₃) E s₂) E s₁) E s:=by
 refine h R tau s _ _ st fun v s₁ st₁=>itr R sig tau v s₁ _ _ st₁ fun I d' PP St o s₂ src hR hI hst ho st₂=>?_
 refine wpAny_newObj_type (wpAny_newFunctionEnv hcell (by intro y hy; simp at hy) (fun h₁ hns₁ hsb₁=>?_) hkind)
 dsimp only at hns₁ hsb₁ ⊢
 have hC:(s₂.heap.push { cls:=.type "list",dict:=none,data:=.seq ([]:List Value).toArray }).objs.size = s₂.heap.objs.size + 1:=by rw [Heap.size_push]
 rw [hC] at hns₁ hsb₁ ⊢
 have old:∀ b o,s₂.heap.get? b = some o → h₁.get? b = some o:=fun b o e=>hsb₁.extBut b o (Nat.ne_of_lt (Nat.lt_succ_of_lt (Heap.lt_size e))) (Heap.get?_push_of_some _ (Heap.get?_push_of_some _ e))
 have hacc:h₁.get? s₂.heap.objs.size = some { cls:=.type "list",data:=.seq #[] 0 }:=hsb₁.extBut _ _ (Nat.ne_of_lt (Nat.lt_succ_self _)) (Heap.get?_push_of_some _ (Heap.get?_push_size _ rfl))
 have hobj:=src.obj
 have oc:¬ ∃ v,o.data = .cell v:=by
  obtain ⟨o',c,vs,e1,_,e3,_⟩:=hobj 0 _ hst
  rw [ho] at e1; cases e1
  exact not_cell e3
 have y:=comp_in (tk:=s₂.toks + ([]:List (PySem.Str × Value)).length) ok st₂ oc hcap hns₁ old hacc
 have ok':=comp_ok ok (cl:=cl) (V:=F.view (R.put I o) om s₂.heap) (n:=s₂.heap.objs.size) hkind hnd
 obtain ⟨Inv,i0,ifin,iturn⟩:=body _ _ ok' (Fn.G_view st₂) (fun q=>by
  have:s₂.heap.objs.size ∈ F.D om:=by unfold Fn.D; simp only [List.mem_cons,List.mem_append]; exact .inr (.inr q)
  exact Nat.lt_irrefl _ (st₂.lt this))
 obtain ⟨⟨fp,W,hfp⟩,_,_⟩:=id src
 have hst₁:St 0 h₁:=W.frame _ _ _ hst fun b _ o e=>old b o e
 have hRI:compHid (F.view (R.put I o) om s₂.heap) om I s₂.heap I = none:=by
  unfold compHid; rw [if_pos (.inr (.inr rfl))]
 have src':Src prog w (compFn F scope cl (F.view (R.put I o) om s₂.heap) s₂.heap.objs.size (s₂.heap.objs.size + 1)).A xs d' v I PP St:=src
 have loop:=comp_loop (s:={ s₂ with heap:=h₁,toks:=s₂.toks + ([]:List (PySem.Str × Value)).length }) ok' (ht (.ref s₂.heap.objs.size) _) src' hRI Inv i0 (iturn I) hst₁ (old _ _ ho) y (RR:=RR (.ref s₂.heap.objs.size) (s₂.heap.objs.size + 1))
  fun sig' om' s' hi st'=>by
   have:=ifin _ _ hi
   subst this
   obtain ⟨oC,q1,q2,q3,q4,q5⟩:=comp_out ok st₂ hR oc st'
   refine hRR _ _ v oC s' (Nat.succ_ne_self _) q1 q2 q3 q4 (q5.temp fun p hp=>q5.temps p ?_)
   rcases List.mem_cons.mp hp with rfl | hp
   ·exact List.mem_cons_self
   ·exact List.mem_cons_of_mem _ (List.mem_cons_of_mem _ hp)
 exact comp_start (F:=compFn F scope cl (F.view (R.put I o) om s₂.heap) s₂.heap.objs.size (s₂.heap.objs.size + 1)) ok' hg ha loop (W.self 0 _ _ _ hst₁ loop)
end
end
section
section
variable {prog:Program} {w:World} {F:Fn} {R:PH} {sig sig':List (Option AV)} {om om':Om} {tau:List (Value × AV)} {s:Shared}
structure CompOk (F:Fn) (scope:Scope) (cl:List (PySem.Str × Addr)):Prop where
 clos:closureFor scope F.env = pure cl
 cell:∀ y ∈ scope.names,y.2 ≠ .cell
 kind:scope.kind = .function
 names:(scope.names.map (·.1)).Nodup
noncomputable def Comp (prog:Program) (w:World) (F:Fn) (sig:List (Option AV)) (om:Om) (elt iter:PySem.Expr) (gens:List Comprehension) (scope:Scope) (pos:Pos) (cl:List (PySem.Str × Addr)) (res:List AV):Prop :=
 ∃ d,∀ (R:PH) (tau:List (Value × AV)) (s:Shared) (E:Value → Shared → Prop) (RR:Value → Addr → Result → Shared → Prop),Sta F R sig om tau s →
  (∀ (n C:Addr) v oC s',C ≠ n → s'.heap.get? C = some oC → (∃ m,s'.heap.Ns C m) → (¬ ∃ v,oC.data = .cell v) → R C = none → Sta F (R.put C oC) sig om ((.ref n,.lst res) :: (v,d) :: tau) s' → RR (.ref n) C (.ok .next) s') →
  wpAny (model prog w) F.A (eval iter F.env) (fun x s₁=>wpAny (model prog w) F.A (pyIter x) (fun it s₂=>wpAny (model prog w) F.A (newList []) (fun acc s₃ =>
   wpAny (model prog w) F.A (newFunctionEnv scope F.env.globals cl [] F.env.qual none .none (some F.env)) (fun cenv s₄ =>
    codeAny (model prog w) F.A (.compStart (.ListComp elt gens scope pos) 0 it acc { cenv with scope:=relabel scope F.env }) (RR acc cenv.locals) s₄) E s₃) E s₂) E s₁) E s
theorem CompOk.looks {scope:Scope} {cl:List (PySem.Str × Addr)} (c:CompOk F scope cl):∀ x ∈ scope.names,x.2 = .local → scope.names.lookup x.1 = some .local:=fun x hx e=>by
 obtain ⟨k,hk⟩:=List.mem_iff_getElem?.mp hx
 exact lookup_of_mem c.names (k:=k) (by rw [hk,← e])
theorem ev_comp {elt iter target:PySem.Expr} {ifs:List PySem.Expr} {gs:List Comprehension} {scope:Scope} {pos:Pos} {cl:List (PySem.Str × Addr)} {res:List AV} (c:CompOk F scope cl) (h:Comp prog w F sig om elt iter (⟨target,iter,ifs,0⟩ :: gs) scope pos cl res)
  (hs:∀ x,foldedSetIterable iter F.env x = pure x:=by intro _; rfl):Ev prog w F sig om (.ListComp elt (⟨target,iter,ifs,0⟩ :: gs) scope pos) (.lst res):=fun R tau s Q E st hq=>by
 obtain ⟨d,h⟩:=h
 rw [eval_ListComp]
 refine wpAny_comprehension_free (use:=none) rfl hs c.clos c.kind c.looks (h R tau s E _ st fun n C v oC s' hne ho ⟨m,hm⟩ hoc hR st'=>⟨m,hm,fun h' hsb=>hq _ _ ?_⟩)
 have:=st'.unhideBut (tk:=s'.toks) hR hoc (h':=h') fun b o hb e=>hsb.extBut b o hb e
 exact this.temp fun p hp=>this.temps p (by rcases List.mem_cons.mp hp with rfl | hp <;> simp [*])
theorem ex_assign_comp (ok:F.Ok) {x:PySem.Str} {p spos:Pos} {k:Nat} {elt iter target:PySem.Expr} {ifs:List PySem.Expr} {gs:List Comprehension} {scope:Scope} {pos:Pos} {cl:List (PySem.Str × Addr)} {res:List AV} (c:CompOk F scope cl) (a:Store F x k)
  (h:Comp prog w F sig om elt iter (⟨target,iter,ifs,0⟩ :: gs) scope pos cl res)
  (hsw:swapsWith (.ListComp elt (⟨target,iter,ifs,0⟩ :: gs) scope pos) (some (.Name x p)) spos.line F.env = pure true)
  (hs:∀ x,foldedSetIterable iter F.env x = pure x:=by intro _; rfl):Ex1 prog w F sig om (.Assign [.Name x p] (.ListComp elt (⟨target,iter,ifs,0⟩ :: gs) scope pos) spos) (· = .nxt (sig.set k (some (.lst res))) om):=fun R tau s Q E st hq=>by
 obtain ⟨d,h⟩:=h
 rw [exec_Assign_Name_used _ _ _ _ hsw]
 refine wpAny_bind (wpAny_standAt (wpAny_bind ?_))
 show wpAny _ _ (do let _ ← comprehension (.ListComp elt (⟨target,iter,ifs,0⟩ :: gs) scope pos) scope F.env _ (newList []) false (eval iter F.env) (some (assign (.Name x p) F.env))) _ _ s
 refine wpAny_bind (wpAny_mono (wpAny_comprehension_free (use:=some (assign (.Name x p) F.env)) (Q:=fun _ s'=>Q .next s') rfl hs c.clos c.kind c.looks (h R tau s E _ st fun n C v oC s' hne ho ⟨m,hm⟩ hoc hR st'=>?_)) (fun _ s' hq=>wpAny_pure (wpAny_pure hq)) fun _ _ e=>e)
 show wpAny _ _ (assign (.Name x p) F.env (.ref n)) _ _ s'
 refine wpAny_assign_Name (store_name ok a st' st'.top fun s'' st''=>?_)
 have hC:=st''.rf C oC PH.put_self
 refine ⟨m,hm.at' fun o e=>?_,fun h' hsb=>hq _ _ _ rfl ?_⟩
 ·have:some o = some oC:=e.symm.trans ho
  cases this; exact hC.2
 ·have:=st''.unhideBut (tk:=s''.toks) hR hoc (h':=h') fun b o hb e=>hsb.extBut b o hb e
  exact this.pop.pop
theorem relabel_at {scope:Scope} {env:Env} {k:Nat} {x:PySem.Str} (h:scope.names[k]? = some (x,.local)):(relabel scope env).names[k]? = some (x,.local):=by
 unfold relabel
 simp only [List.getElem?_map,h,Option.map_some]
 rfl
noncomputable def sel (p:Nat → Bool) (f:Nat → AV) (n:Nat):List AV:=((List.range n).filter p).map f
theorem sel_succ (p:Nat → Bool) (f:Nat → AV) (n:Nat):sel p f (n + 1) = sel p f n ++ if p n then [f n] else []:=by
 unfold sel
 rw [List.range_succ,List.filter_append,List.map_append]
 cases h:p n <;> simp [h]
theorem sel_le (p:Nat → Bool) (f:Nat → AV) (n:Nat):(sel p f n).length ≤ n:=by
 unfold sel
 rw [List.length_map]
 exact Nat.le_trans (List.length_filter_le _ _) (by simp)
theorem comp1f (ok:F.Ok) {elt iter:PySem.Expr} {x:PySem.Str} {px:Pos} {ifs:List PySem.Expr} {scope:Scope} {pos:Pos} {cl:List (PySem.Str × Addr)} {cap:List (Option AV)} {k:Nat} {d:AV} {xs:List AV} (p:Nat → Bool) (f:Nat → AV)
  (c:CompOk F scope cl) (hcap:CapOk F sig scope cl cap) (hx:scope.names[k]? = some (x,.local)) (hd:((x == ("__debug__" : PySem.Str)) || (x == ("__classdict__" : PySem.Str))) = false)
  (h:Ev prog w F sig om iter d) (itr:Itr prog w F om d xs) (hsz:xs.length ≤ sizeLine)
  (body:∀ (V:PH) (n:Addr) (l:List AV),(compFn F scope cl V n (n + 1)).Ok → F.G.le V → n ∉ om.map (·.1) → ∀ (i:Nat) xv,xs[i]? = some xv → Ifs prog w (compFn F scope cl V n (n + 1)) (cap.set k (some xv)) ((n,LstO l) :: om) ifs (p i) ∧ (p i = true → Ev prog w (compFn F scope cl V n (n + 1)) (cap.set k (some xv)) ((n,LstO l) :: om) elt (f i))) :
  Comp prog w F sig om elt iter [⟨.Name x px,iter,ifs,0⟩] scope pos cl (sel p f xs.length) :=
 ⟨d,fun R tau s E RR st hRR=>by
  refine comp_run ok (act:=fun acc env=>emitL (.ListComp elt [⟨.Name x px,iter,ifs,0⟩] scope pos) elt acc env 0) (fun acc env=>turn_list elt (.Name x px) iter ifs scope pos acc env) rfl rfl c.cell c.kind c.names hcap h itr (fun V n ok' hV hn=>?_) st hRR
  refine ⟨fun i sig om'=>(sig = cap ∨ ∃ xv,sig = cap.set k (some xv)) ∧ om' = (n,LstO (sel p f i)) :: om,⟨.inl rfl,rfl⟩,fun sig' om' hi=>hi.2,?_⟩
  rintro I i xv sig om' hx' ⟨hsig,rfl⟩
  have hset:sig.set k (some xv) = cap.set k (some xv):=by
   rcases hsig with rfl | ⟨y,rfl⟩
   ·rfl
   ·rw [List.set_set]
  obtain ⟨b1,b2⟩:=body V n (sel p f i) ok' hV hn i xv hx'
  refine ⟨cap.set k (some xv),p i,hset ▸ as_name ok' (.inl (At.of ok' (relabel_at hx) hd)),b1,fun e=>⟨.inr ⟨xv,rfl⟩,?_⟩,fun e=>do_emit (b2 e) OmUpd.here (Nat.le_trans (sel_le _ _ _) (Nat.le_trans (Nat.le_of_lt (List.getElem?_eq_some_iff.mp hx').1) hsz)) ⟨.inr ⟨xv,rfl⟩,?_⟩⟩
  ·rw [sel_succ,e]; simp
  ·rw [sel_succ,e]; simp⟩
end
end
section
noncomputable def extO (G:PH) (n:Nat) (om:Om) (h':Heap):PH:=fun b=>if b ∈ om.map (·.1) then none else if b < n then G b else h'.get? b
noncomputable def ImpFn (prog:Program) (w:World) (B:PH → Prop) (n:Nat) (f:Value) (ds:List AV) (om₁:Om) (P:AV → Om → Prop):Prop :=
 ∀ (A:Around) (G:PH) (s:Shared) (vs:List Value) (Q:Value → Shared → Prop) (E:Value → Shared → Prop),Room A n → B G → ViewIn G s.heap → RepL G ds vs →
  (om₁.map (·.1)).Nodup → (∀ b ∈ om₁.map (·.1),G b = none) → (∀ p ∈ om₁,∃ o,s.heap.get? p.1 = some o ∧ ∀ V',G.le V' → p.2 V' o) →
  (∀ v d om₂ h' tk,P d om₂ → (om₂.map (·.1)).Nodup → (∀ b ∈ om₂.map (·.1),b ∈ om₁.map (·.1) ∨ s.heap.objs.size ≤ b) → (∀ b o,b ∉ om₁.map (·.1) → s.heap.get? b = some o → h'.get? b = some o) →
   (∀ p ∈ om₂,∃ o,h'.get? p.1 = some o ∧ ∀ V',(extO G s.heap.objs.size om₂ h').le V' → p.2 V' o) → Rep (extO G s.heap.objs.size om₂ h') d v → Q v { s with heap:=h',toks:=tk }) →
  wpAny (model prog w) A (call f vs) Q E s
section
variable {prog:Program} {w:World} {F:Fn} {R:PH} {sig sig':List (Option AV)} {om om':Om} {tau:List (Value × AV)} {s:Shared}
theorem D_perm (h:om.Perm om') (b:Addr):b ∈ F.D om' ↔ b ∈ F.D om:=by
 unfold Fn.D
 simp only [List.mem_cons,List.mem_append]
 rw [(h.map (·.1)).mem_iff]
theorem view_perm (h:om.Perm om') (hp:Heap):F.view R om' hp = F.view R om hp:=by
 funext b
 unfold Fn.view
 simp only [D_perm h b]
theorem Sta.perm (h:om.Perm om') (x:Sta F R sig om tau s):Sta F R sig om' tau s:=by
 have hv:F.view R om' s.heap = F.view R om s.heap:=view_perm h _
 refine ⟨x.same,?_,fun b o e=>?_,fun b o e=>?_,x.cells,fun p hp=>?_,fun p hp=>?_,?_⟩
 ·have:=x.nodup
  unfold Fn.D at this ⊢
  refine (List.Perm.nodup_iff ?_).mp this
  exact ((List.Perm.append_left _ (h.map _))).cons _
 ·obtain ⟨h1,h2,h3,h4⟩:=x.g b o e
  exact ⟨h1,fun q=>h2 ((D_perm h b).mp q),h3,h4⟩
 ·obtain ⟨h1,h2⟩:=x.rf b o e
  exact ⟨fun q=>h1 ((D_perm h b).mp q),h2⟩
 ·obtain ⟨o,ho,hP⟩:=x.opens p (h.mem_iff.mpr hp)
  exact ⟨o,ho,hv ▸ hP⟩
 ·rw [hv]; exact x.temps p hp
 ·obtain ⟨m,hm,sl⟩:=x.slots
  exact ⟨m,hm,by rw [hv]; exact sl⟩
theorem ex_perm {sts:List Stmt} {P:Out → Prop} (h:om.Perm om') (e:Ex prog w F sig om' sts P):Ex prog w F sig om sts P:=fun R tau s Q E st hq=>e R tau s Q E (st.perm h) hq
theorem Sta.called (ok:F.Ok) {om₁ om₂ rest:Om} (x:Sta F R sig (om₁ ++ rest) tau s) {h':Heap} {tk:Nat} {v:Value} {d:AV} (nd:(om₂.map (·.1)).Nodup) (new:∀ b ∈ om₂.map (·.1),b ∈ om₁.map (·.1) ∨ s.heap.objs.size ≤ b)
  (k:∀ b o,b ∉ om₁.map (·.1) → s.heap.get? b = some o → h'.get? b = some o) (op:∀ p ∈ om₂,∃ o,h'.get? p.1 = some o ∧ ∀ V',(extO (F.view R (om₁ ++ rest) s.heap) s.heap.objs.size om₂ h').le V' → p.2 V' o)
  (r:Rep (extO (F.view R (om₁ ++ rest) s.heap) s.heap.objs.size om₂ h') d v):Sta F R sig (om₂ ++ rest) ((v,d) :: tau) { s with heap:=h',toks:=tk }:=by
 have inD:∀ b (o:Om),b ∈ F.D o ↔ b = F.L ∨ b ∈ F.cs ∨ b ∈ o.map (·.1):=fun b o=>by unfold Fn.D; simp only [List.mem_cons,List.mem_append]
 have ma:∀ b,b ∈ (om₁ ++ rest).map (·.1) ↔ b ∈ om₁.map (·.1) ∨ b ∈ rest.map (·.1):=fun b=>by rw [List.map_append,List.mem_append]
 have ma2:∀ b,b ∈ (om₂ ++ rest).map (·.1) ↔ b ∈ om₂.map (·.1) ∨ b ∈ rest.map (·.1):=fun b=>by rw [List.map_append,List.mem_append]
 have ndx:=x.nodup
 unfold Fn.D at ndx
 rw [List.nodup_cons,List.mem_append,not_or,List.nodup_append,List.map_append,List.nodup_append,List.mem_append,not_or] at ndx
 obtain ⟨⟨nL1,nL2,nL3⟩,ncs,⟨n1,n2,n3⟩,ncr⟩:=ndx
 have lt:∀ b,b ∈ F.D (om₁ ++ rest) → b < s.heap.objs.size:=fun b hb=>x.lt hb
 have no2:∀ b,b < s.heap.objs.size → b ∉ om₁.map (·.1) → b ∉ om₂.map (·.1):=fun b hb h1 h2=>by
  rcases new b h2 with q | q
  ·exact h1 q
  ·exact absurd hb (Nat.not_lt.mpr q)
 have notD:∀ b,b < s.heap.objs.size → b ∉ F.D (om₁ ++ rest) → b ∉ F.D (om₂ ++ rest):=fun b hb h1 h2=>by
  rw [inD,ma,not_or,not_or,not_or] at h1
  rw [inD,ma2] at h2
  rcases h2 with q | q | q | q
  ·exact h1.1 q
  ·exact h1.2.1 q
  ·exact no2 b hb h1.2.2.1 q
  ·exact h1.2.2.2 q
 have not1:∀ b,b ∉ F.D (om₁ ++ rest) → b ∉ om₁.map (·.1):=fun b h1 h2=>h1 ((inD _ _).mpr (.inr (.inr ((ma b).mpr (.inl h2)))))
 have kv:(F.view R (om₁ ++ rest) s.heap).le (F.view R (om₂ ++ rest) h'):=fun b o e=>by
  obtain ⟨c1,c2,c3⟩:=view_cases e
  have hb:=Heap.lt_size (x.vget e)
  unfold Fn.view
  rw [if_neg (by rw [c2]; simpa using notD b hb c1)]
  rcases c3 with ⟨q,z⟩ | ⟨q,z⟩
  ·rw [if_pos q]; exact z
  ·rw [if_neg q]; exact k b o (not1 b c1) z
 have ke:(extO (F.view R (om₁ ++ rest) s.heap) s.heap.objs.size om₂ h').le (F.view R (om₂ ++ rest) h'):=fun b o e=>by
  unfold extO at e
  split at e
  ·cases e
  ·rename_i q2
   split at e
   ·exact kv b o e
   ·rename_i q
    have hb:=Nat.not_lt.mp q
    have f:=x.fresh ok hb
    unfold Fn.view
    rw [if_neg,if_neg f.2]
    ·exact e
    ·rw [x.freshR hb]
     simp only [Option.isSome_none,Bool.false_eq_true,or_false]
     intro z
     rw [inD,ma2] at z
     rcases z with z | z | z | z
     ·exact f.1 ((inD _ _).mpr (.inl z))
     ·exact f.1 ((inD _ _).mpr (.inr (.inl z)))
     ·exact q2 z
     ·exact f.1 ((inD _ _).mpr (.inr (.inr ((ma b).mpr (.inr z)))))
 obtain ⟨h₀,tk₀,rfl⟩:=x.same
 refine ⟨⟨h',tk,rfl⟩,?_,fun b o e=>?_,fun b o e=>?_,fun c hc=>?_,fun p hp=>?_,fun p hp=>?_,?_⟩
 ·unfold Fn.D
  rw [List.nodup_cons,List.mem_append,not_or,List.nodup_append,List.map_append,List.nodup_append,List.mem_append,not_or]
  have hL:F.L < h₀.objs.size:=lt _ ((inD _ _).mpr (.inl rfl))
  refine ⟨⟨nL1,no2 _ hL nL2,nL3⟩,ncs,⟨nd,n2,fun a ha b hb=>?_⟩,fun a ha b hb=>?_⟩
  ·rcases new a ha with q | q
   ·exact n3 a q b hb
   ·have:=lt b ((inD _ _).mpr (.inr (.inr ((ma b).mpr (.inr hb)))))
    intro e; subst e
    exact absurd this (Nat.not_lt.mpr q)
  ·have hla:=lt a ((inD _ _).mpr (.inr (.inl ha)))
   rcases List.mem_append.mp hb with q | q
   ·rcases new b q with z | z
    ·exact ncr a ha b (List.mem_append.mpr (.inl z))
    ·intro e; subst e
     exact absurd hla (Nat.not_lt.mpr z)
   ·exact ncr a ha b (List.mem_append.mpr (.inr q))
 ·obtain ⟨h1,h2,h3,h4⟩:=x.g b o e
  exact ⟨h1,notD b (Heap.lt_size h3) h2,k b o (not1 b h2) h3,h4⟩
 ·obtain ⟨h1,h2⟩:=x.rf b o e
  exact ⟨notD b (Heap.lt_size h2) h1,k b o (not1 b h1) h2⟩
 ·obtain ⟨u,o,ho,hd⟩:=x.cells c hc
  exact ⟨u,o,k c o (fun q=>ncr c hc c (List.mem_append.mpr (.inl q)) rfl) ho,hd⟩
 ·rcases List.mem_append.mp hp with q | q
  ·obtain ⟨o,ho,hP⟩:=op p q
   exact ⟨o,ho,fun V' hV=>hP V' (ke.trans hV)⟩
  ·obtain ⟨o,ho,hP⟩:=x.opens p (List.mem_append.mpr (.inr q))
   exact ⟨o,k _ o (fun z=>n3 _ z _ (List.mem_map_of_mem q) rfl) ho,fun V' hV=>hP V' (kv.trans hV)⟩
 ·rcases List.mem_cons.mp hp with rfl | hp
  ·exact r.mono ke
  ·exact (x.temps p hp).mono kv
 ·obtain ⟨m,hm,sl⟩:=x.slots
  refine ⟨m,hm.at' fun o e=>k F.L o nL2 e,fun j y kind d h1 h2=>?_⟩
  cases sl j y kind d h1 h2 with
  | loc e r=>exact .loc e (r.mono kv)
  | cel a b c r q =>
   rcases q with q | q
   ·exact .cel a (k _ _ (fun z=>ncr _ q _ (List.mem_append.mpr (.inl z)) rfl) b) c (r.mono kv) (.inl q)
   ·exact .cel a (k _ _ (not1 _ (x.rf _ _ q).1) b) c (r.mono kv) (.inr q)
  | fre a b c r q=>exact .fre a (k _ _ (not1 _ (x.rf _ _ q).1) b) c (r.mono kv) q
noncomputable def OpX (prog:Program) (w:World) (F:Fn) (om:Om) (f:Value) (ds:List AV) (P:AV → Om → Prop):Prop :=
 ∀ (R:PH) (sig:List (Option AV)) (tau:List (Value × AV)) (vs:List Value) (s:Shared) (Q:Value → Shared → Prop) (E:Value → Shared → Prop),vs.length = ds.length → Sta F R sig om ((vs.zip ds).reverse ++ tau) s →
  (∀ v d om' s',P d om' → Sta F R sig om' ((v,d) :: tau) s' → Q v s') → wpAny (model prog w) F.A (call f vs) Q E s
theorem x_imp (ok:F.Ok) {B:PH → Prop} {n:Nat} {f:Value} {ds:List AV} {om₁ rest:Om} {P P':AV → Om → Prop} (hB:B F.G) (mono:∀ V V',V.le V' → B V → B V') (room:Room F.A n) (h:ImpFn prog w B n f ds om₁ P) (hp:om.Perm (om₁ ++ rest))
  (hP:∀ d om₂,P d om₂ → P' d (om₂ ++ rest)):OpX prog w F om f ds P':=fun R sig tau vs s Q E hv st hq=>by
 obtain ⟨r,st'⟩:=st.zip hv
 have x:=st'.perm hp
 have hvw:F.view R om s.heap = F.view R (om₁ ++ rest) s.heap:=(view_perm hp _).symm
 rw [hvw] at r
 have nd:=x.nodup
 unfold Fn.D at nd
 rw [List.nodup_cons,List.nodup_append,List.map_append,List.nodup_append] at nd
 refine h F.A (F.view R (om₁ ++ rest) s.heap) s vs _ _ room (mono _ _ (Fn.G_view x) hB) x.viewIn r nd.2.2.1.1 (fun b hb=>?_) (fun p hp=>?_) fun v d om₂ h' tk hPd n2 new k op rv=>hq v d _ _ (hP d om₂ hPd) (x.called (tk:=tk) ok n2 new k op rv)
 ·have:b ∈ F.D (om₁ ++ rest):=by
   unfold Fn.D
   rw [List.mem_cons,List.mem_append,List.map_append,List.mem_append]
   exact .inr (.inr (.inl hb))
  unfold Fn.view
  rw [if_pos (.inl this)]
 ·obtain ⟨o,ho,hP⟩:=x.opens p (List.mem_append.mpr (.inl hp))
  exact ⟨o,ho,hP⟩
end
end
section
section
variable {prog:Program} {w:World} {F:Fn} {R:PH} {sig sig':List (Option AV)} {om om':Om} {tau:List (Value × AV)} {s:Shared}
noncomputable def hidO (G:PH) (om:Om) (h:Heap):PH:=fun b=>if (G b).isSome = true ∨ b ∈ om.map (·.1) then none else h.get? b
theorem hidO_none {G:PH} {om:Om} {h:Heap} {b:Addr} {o:Obj} (e:G b = some o):hidO G om h b = none:=by unfold hidO; rw [e]; rfl
theorem hidO_get {G:PH} {om:Om} {h:Heap} {b:Addr} {o:Obj} (e:hidO G om h b = some o):h.get? b = some o ∧ b ∉ om.map (·.1):=by
 unfold hidO at e
 split at e
 ·cases e
 ·rename_i q
  exact ⟨e,fun z=>q (.inr z)⟩
theorem hidO_of {G:PH} {om:Om} {h:Heap} {b:Addr} {o:Obj} (h1:G b = none) (h2:b ∉ om.map (·.1)) (e:h.get? b = some o):hidO G om h b = some o:=by
 unfold hidO
 rw [if_neg (by rw [h1]; simpa using h2)]
 exact e
theorem entry_staO {fd:FuncData} {f:Addr} {A:Around} {G:PH} {s s₁:Shared} {vs:List Value} {ds:List AV} {ps:List PySem.Str} {om₁:Om} (ok:DefOk fd ps)
  (hG:ViewIn G s.heap) (r:RepL G ds vs) (nd:(om₁.map (·.1)).Nodup) (hO:∀ b ∈ om₁.map (·.1),G b = none) (op:∀ p ∈ om₁,∃ o,s.heap.get? p.1 = some o ∧ ∀ V',G.le V' → p.2 V' o) (hlen:ps.length = ds.length)
  (x:InCallC s (callEnvC fd s.heap.objs.size f).locals (bindL (callEnvC fd s.heap.objs.size f).kindOf (ps.zip vs) fun _=>none) (callEnvC fd s.heap.objs.size f).cells (bindC (callEnvC fd s.heap.objs.size f).kindOf (ps.zip vs) fun _=>none) s₁) :
  Sta (fnAt fd f A G s) (hidO G om₁ s.heap) (sigOf fd.scope.names ps ds) om₁ [] s₁:=by
 have hvl:=r.length
 have ab:∀ n c,(n,c) ∈ (callEnvC fd s.heap.objs.size f).cells → s.heap.objs.size < c:=x.above
 have hm:∀ c ∈ (callEnvC fd s.heap.objs.size f).cells.map (·.2),∃ n,(n,c) ∈ (callEnvC fd s.heap.objs.size f).cells:=fun c hc=>by
  obtain ⟨⟨n,c'⟩,h1,h2⟩:=List.mem_map.mp hc
  cases h2
  exact ⟨n,h1⟩
 have omlt:∀ b ∈ om₁.map (·.1),b < s.heap.objs.size:=fun b hb=>by
  obtain ⟨p,hp,rfl⟩:=List.mem_map.mp hb
  obtain ⟨o,ho,_⟩:=op p hp
  exact Heap.lt_size ho
 have notD:∀ b,b < s.heap.objs.size → b ∉ om₁.map (·.1) → b ∉ (fnAt fd f A G s).D om₁:=fun b hb ho h=>by
  unfold Fn.D at h
  simp only [List.mem_cons,List.mem_append] at h
  rcases h with h | h | h
  ·have:b = s.heap.objs.size:=h
   exact Nat.lt_irrefl _ (this ▸ hb)
  ·obtain ⟨n,hn⟩:=hm b h
   exact Nat.lt_irrefl _ (Nat.lt_trans (ab n b hn) hb)
  ·exact ho h
 have gO:∀ b o,G b = some o → b ∉ om₁.map (·.1):=fun b o e q=>by rw [hO b q] at e; cases e
 have kv:G.le ((fnAt fd f A G s).view (hidO G om₁ s.heap) om₁ s₁.heap):=fun b o e=>by
  have hb:b < s.heap.objs.size:=Heap.lt_size (hG _ _ e)
  exact view_lo (notD b hb (gO b o e)) (hidO_none e) hb e
 refine ⟨x.toInCall.same,?_,fun b o e=>⟨Heap.lt_size (hG _ _ e),notD b (Heap.lt_size (hG _ _ e)) (gO b o e),x.toInCall.keep _ _ (hG _ _ e),hidO_none e⟩,fun b o e=>⟨notD b (Heap.lt_size (hidO_get e).1) (hidO_get e).2,x.toInCall.keep _ _ (hidO_get e).1⟩,fun c hc=>?_,fun p hp=>?_,fun p hp=>(nomatch hp),?_⟩
 ·unfold Fn.D
  rw [List.nodup_cons,List.mem_append,not_or,List.nodup_append]
  refine ⟨⟨fun h=>?_,fun h=>?_⟩,?_,nd,fun a ha b hb e=>?_⟩
  ·obtain ⟨n,hn⟩:=hm _ h
   exact Nat.lt_irrefl _ (ab n _ hn)
  ·exact Nat.lt_irrefl _ (omlt _ h)
  ·show ((callEnvC fd s.heap.objs.size f).cells.map (·.2)).Nodup
   rw [List.nodup_iff_pairwise_ne,List.pairwise_map]
   exact x.apart
  ·subst e
   obtain ⟨n,hn⟩:=hm _ ha
   exact Nat.lt_irrefl _ (Nat.lt_trans (ab n _ hn) (omlt _ hb))
 ·obtain ⟨n,hn⟩:=hm c hc
  exact ⟨_,x.cell n c (lookup_of_nodup (cells_nodup ok) hn)⟩
 ·obtain ⟨o,ho,hP⟩:=op p hp
  exact ⟨o,x.toInCall.keep _ _ ho,fun V' hV=>hP V' (kv.trans hV)⟩
 ·refine ⟨_,x.toInCall.ns,fun k y kind d h1 h2=>?_⟩
  have h1':fd.scope.names[k]? = some (y,kind):=h1
  unfold sigOf at h2
  rw [List.getElem?_map,h1'] at h2
  simp only [Option.map_some,Option.some.injEq] at h2
  obtain ⟨j,hj1,hj2⟩:=lookup_zip h2
  obtain ⟨v,hv,rv⟩:=r.get hj2
  have hb:(ps.zip vs)[j]? = some (y,v):=by
   rw [List.getElem?_zip_eq_some]; exact ⟨hj1,hv⟩
  have hnd:((ps.zip vs).map (·.1)).Nodup:=by
   rw [List.map_fst_zip (by omega)]; exact ok.nodup
  have hkind:(callEnvC fd s.heap.objs.size f).kindOf y = some kind:=lookup_of_mem ok.names h1'
  have hb2:=bind_at (kindOf:=(callEnvC fd s.heap.objs.size f).kindOf) (m:=fun _=>none) (m':=fun _=>none) hnd hb
  have hkd:kind = .local ∨ kind = .cell:=by
   have:fd.scope.names.lookup y = some kind:=hkind
   rcases ok.pk y (List.mem_of_getElem? hj1) with q | q <;> rw [this] at q <;> cases q
   ·exact .inl rfl
   ·exact .inr rfl
  rcases hkd with rfl | rfl
  ·exact .loc (hb2.1 hkind) (rv.mono kv)
  ·obtain ⟨c,hc⟩:=Option.isSome_iff_exists.mp (cellsFrom_some (x:=y) fd.scope.names (s.heap.objs.size + 1) [] (.inl hkind))
   have hc':(callEnvC fd s.heap.objs.size f).cells.lookup y = some c:=hc
   have hcell:=x.cell y c hc'
   rw [hb2.2 hkind] at hcell
   obtain ⟨o,ho,hd⟩:=hcell
   exact .cel hc' ho hd (rv.mono kv) (.inl (List.mem_map.mpr ⟨(y,c),mem_of_lookup hc',rfl⟩))
end
end
section
inductive Ents (V:PH):List (PySem.Str × AV) → List DictEntry → Prop
 | nil:Ents V [] []
 | cons {x:PySem.Str} {d:AV} {as:List (PySem.Str × AV)} {h:Int} {t:Tok} {v:Value} {es:List DictEntry}:Rep V d v → handedIn v = true → Ents V as es → Ents V ((x,d) :: as) (⟨h,.str x t,v⟩ :: es)
theorem Ents.mono {V V':PH} {as:List (PySem.Str × AV)} {es:List DictEntry} (k:V.le V') (h:Ents V as es):Ents V' as es:=by
 induction h with
 | nil=>exact .nil
 | cons r hh _ ih=>exact .cons (r.mono k) hh ih
theorem Ents.length {V:PH} {as:List (PySem.Str × AV)} {es:List DictEntry} (h:Ents V as es):es.length = as.length:=by
 induction h with
 | nil=>rfl
 | cons _ _ _ ih=>simp [ih]
noncomputable def putA (x:PySem.Str) (d:AV):List (PySem.Str × AV) → List (PySem.Str × AV)
 | []=>[(x,d)]
 | (y,e) :: r=>if y = x then (y,d) :: r else (y,e) :: putA x d r
theorem isStr_eq {x y:PySem.Str} {t:Tok}:(Value.str x t).isStr y = decide (x = y):=by
 show (x == y) = decide (x = y)
 by_cases h:x = y <;> simp [h]
theorem Ents.put {V:PH} {as:List (PySem.Str × AV)} {es:List DictEntry} (h:Ents V as es) {x:PySem.Str} {d:AV} {hsh:Int} {t:Tok} {v:Value} (r:Rep V d v) (hh:handedIn v = true):Ents V (putA x d as) (putL x hsh (.str x t) v es):=by
 induction h with
 | nil=>exact .cons r hh .nil
 | @cons y d' as h' t' v' es r' hh' hs ih =>
  unfold putA putL
  show Ents V _ (if (Value.str y t').isStr x = true then _ else _)
  rw [isStr_eq]
  by_cases q:y = x
  ·rw [if_pos q,if_pos (by simpa using q)]
   exact .cons r hh hs
  ·rw [if_neg q,if_neg (by simpa using q)]
   exact .cons r' hh' ih
theorem Ents.get {V:PH} {as:List (PySem.Str × AV)} {es:List DictEntry} (h:Ents V as es) (x:PySem.Str):match as.lookup x with
  | some d=>∃ v,getL x es = some (some v) ∧ Rep V d v ∧ handedIn v = true
  | none=>getL x es = some none:=by
 have hr:es.any (·.refKey) = false:=by
  induction h with
  | nil=>rfl
  | cons _ _ _ ih=>rw [List.any_cons,ih]; rfl
 have hf:match as.lookup x with
  | some d=>∃ e,es.find? (·.key.isStr x) = some e ∧ Rep V d e.val ∧ handedIn e.val = true
  | none=>es.find? (·.key.isStr x) = none:=by
  clear hr
  induction h with
  | nil=>rfl
  | @cons y d' as h' t' v' es r' hh' hs ih =>
   rw [List.lookup_cons,List.find?_cons]
   show match (match x == y with | true=>some d' | false=>as.lookup x) with | some d=>_ | none=>_
   have e1:(({ hash:=h',key:=.str y t',val:=v' }:DictEntry).key.isStr x) = decide (y = x):=isStr_eq
   rw [e1]
   by_cases q:y = x
   ·subst q
    simp only [beq_self_eq_true,decide_true]
    exact ⟨_,rfl,r',hh'⟩
   ·have q1:(x == y) = false:=by simpa using fun e:x = y=>q e.symm
    rw [q1]
    simp only [q,decide_false]
    exact ih
 unfold getL
 cases e:as.lookup x with
 | none=>rw [e] at hf; simp only at hf ⊢; rw [hf,hr]; rfl
 | some d=>rw [e] at hf; simp only at hf ⊢; obtain ⟨en,h1,h2,h3⟩:=hf; rw [h1]; exact ⟨_,rfl,h2,h3⟩
noncomputable def AttO (as:List (PySem.Str × AV)):PH → Obj → Prop:=fun V o=>∃ es n,o = dictOf es n ∧ Ents V as es
noncomputable def inst (C x dx:Addr):AV:=.raw fun V v=>v = .ref x ∧ V x = some (instObj C dx)
noncomputable def SeesK (K:Frag) (V:PH):Prop:=∀ a o,K.lookup a = some o → V a = some o
theorem SeesK.mono {K:Frag} {V V':PH} (k:V.le V') (h:SeesK K V):SeesK K V':=fun a o e=>k _ _ (h a o e)
noncomputable def plainCls (K:Frag) (C:Addr):Bool:=(clsIn K C).any (·.hasDict) && (findIn K (.ref C) "__getattribute__" == some (some (.builtin "object.__getattribute__"))) && (findIn K (.ref C) "__getattr__" == some none) && (findIn K (.ref C) "__setattr__" == some (some (.builtin "object.__setattr__"))) && plainOver K C
noncomputable def ownName (K:Frag) (C:Addr) (x:PySem.Str):Bool:=findIn K (.ref C) x == some none
section
variable {prog:Program} {w:World} {F:Fn} {R:PH} {sig sig':List (Option AV)} {om om':Om} {tau:List (Value × AV)} {s:Shared} {K:Frag}
theorem plainCls_out {C:Addr} (h:plainCls K C = true):(∃ cd,clsIn K C = some cd ∧ cd.hasDict = true) ∧ findIn K (.ref C) "__getattribute__" = some (some (.builtin "object.__getattribute__")) ∧ findIn K (.ref C) "__getattr__" = some none ∧ findIn K (.ref C) "__setattr__" = some (some (.builtin "object.__setattr__")) ∧ plainOver K C = true:=by
 unfold plainCls at h
 simp only [Bool.and_eq_true,beq_iff_eq] at h
 obtain ⟨⟨⟨⟨h1,h2⟩,h3⟩,h4⟩,h5⟩:=h
 exact ⟨any_some h1,h2,h3,h4,h5⟩
theorem Sta.inK (x:Sta F R sig om tau s) (h:SeesK K F.G):K.In s.heap:=fun a o e=>(x.g a o (h a o e)).2.2.1
theorem Sta.openD (x:Sta F R sig om tau s) {a:Addr} {as:List (PySem.Str × AV)} (h:(a,AttO as) ∈ om):∃ es n,s.heap.get? a = some (dictOf es n) ∧ Ents (F.view R om s.heap) as es:=by
 obtain ⟨o,ho,hP⟩:=x.opens _ h
 obtain ⟨es,n,rfl,e⟩:=hP _ (PH.le.refl _)
 exact ⟨es,n,ho,e⟩
theorem Sta.instAt (x:Sta F R sig om tau s) {C a dx:Addr} {as:List (PySem.Str × AV)} {v:Value} (r:Rep (F.view R om s.heap) (inst C a dx) v) (h:(dx,AttO as) ∈ om):v = .ref a ∧ s.heap.get? a = some (instObj C dx) ∧
  ∃ es n,s.heap.get? dx = some (dictOf es n) ∧ Ents (F.view R om s.heap) as es ∧ InstAt s.heap a (instObj C dx) C (some (dictOf es n)):=by
 unfold inst at r
 simp only [Rep] at r
 obtain ⟨e1,e2⟩:=r _ (PH.le.refl _)
 obtain ⟨es,n,h1,h2⟩:=x.openD h
 exact ⟨e1,x.vget e2,es,n,h1,h2,⟨x.vget e2,rfl,rfl,h1⟩⟩
theorem findObj_own {C:Addr} {es:List DictEntry} {n:Nat} {x:PySem.Str} {v:Value} (hp:plainCls K C = true) (hx:ownName K C x = true) (h:getL x es = some (some v)):findObj K C (some (dictOf es n)) x = some (.value v):=by
 obtain ⟨⟨cd,h1,h2⟩,_⟩:=plainCls_out hp
 have h3:findIn K (.ref C) x = some none:=by unfold ownName at hx; simpa using hx
 unfold findObj
 rw [h1,Option.bind_some,h3,Option.bind_some]
 simp only [Option.bind_some]
 unfold W.ownOf
 rw [h2]
 simp only [if_true,lookIn_dict,h,Option.bind_some]
theorem ev_attr {o:PySem.Expr} {x:PySem.Str} {pos:Pos} {C a dx:Addr} {as:List (PySem.Str × AV)} {d:AV} (hk:SeesK K F.G) (hp:plainCls K C = true) (hx:ownName K C x = true) (h:Ev prog w F sig om o (inst C a dx)) (hm:(dx,AttO as) ∈ om) (hl:as.lookup x = some d)
  (he:eval (.Attribute o x pos) F.env = (do
   let ov ← eval o F.env
   standAt pos.atName
   let r ← holding [ov] (getAttr ov x true)
   letTemporaryGo o ov r
   pure r):=by with_unfolding_all rfl):Ev prog w F sig om (.Attribute o x pos) d:=fun R tau s Q E st hq=>by
 refine Attribute_any_ (h R tau s _ _ st fun v s₁ st₁=>?_) he
 obtain ⟨rfl,h1,es,n,h2,h3,I⟩:=st₁.instAt st₁.top hm
 have g:=h3.get x
 rw [hl] at g
 obtain ⟨u,g1,g2,g3⟩:=g
 exact get_value (st₁.inK hk) I (plainCls_out hp).2.1 (findObj_own hp hx g1) g3 (hq _ _ (st₁.pop.tok1.push g2))
noncomputable def AsX (prog:Program) (w:World) (F:Fn) (target:PySem.Expr) (d:AV) (sig:List (Option AV)) (om:Om) (sig':List (Option AV)) (om':Om):Prop :=
 ∀ (R:PH) (tau:List (Value × AV)) (v:Value) (s:Shared) (Q:Unit → Shared → Prop) (E:Value → Shared → Prop),Sta F R sig om ((v,d) :: tau) s →
  (∀ s',Sta F R sig' om' ((v,d) :: tau) s' → Q () s') → wpAny (model prog w) F.A (assign target F.env v) Q E s
theorem asx_of {target:PySem.Expr} {d:AV} (h:As prog w F om target d sig sig'):AsX prog w F target d sig om sig' om:=fun R tau v s Q E st hq=>h R tau v s Q E st hq
noncomputable def Handed (d:AV):Prop:=∀ V v,Rep V d v → handedIn v = true
theorem handed_none:Handed .none:=fun V v h=>by simp only [Rep] at h; subst h; rfl
theorem handed_bool {b:Bool}:Handed (.bool b):=fun V v h=>by simp only [Rep] at h; subst h; rfl
theorem handed_ptr {a:Addr}:Handed (.ptr a):=fun V v h=>by simp only [Rep] at h; subst h; rfl
theorem handed_str {a:PySem.Str}:Handed (.str a):=fun V v h=>by simp only [Rep] at h; obtain ⟨_,rfl⟩:=h; rfl
theorem handed_lst {a:List AV}:Handed (.lst a):=fun V v h=>by simp only [Rep] at h; obtain ⟨_,_,_,rfl,_⟩:=h; rfl
theorem putL_len (name:PySem.Str) (hsh:Int) (key v:Value):∀ es:List DictEntry,(putL name hsh key v es).length ≤ es.length + 1
 | []=>by simp [putL]
 | e :: r=>by
  have:=putL_len name hsh key v r
  unfold putL; split <;> simp <;> omega
theorem osa_here {A:Around} {C x dx:Addr} {es:List DictEntry} {n:Nat} {name:PySem.Str} {tk:Tok} {v:Value} {RR:Result → Shared → Prop} (X:K.In s.heap) (I:InstAt s.heap x (instObj C dx) C (some (dictOf es n))) (hp:plainCls K C = true) (hx:ownName K C name = true)
  (hl:(getL name es).isSome = true) (hz:es.length ≤ 1000)
  (h:∀ h' hsh t n',Heap.SameBut dx s.heap h' → h'.get? dx = some (dictOf (putL name hsh (.str name t) v es) n') → RR (.ok (.ret .none)) { s with heap:=h',toks:=s.toks + 1 }) :
  codeAny (model prog w) A (.call (.builtin "object.__setattr__") ⟨[.ref x,.str name tk,v],[]⟩) RR s:=by
 obtain ⟨⟨cd,hc,hd'⟩,_,_,_,po⟩:=plainCls_out hp
 have h3:findIn K (.ref C) name = some none:=by unfold ownName at hx; simpa using hx
 refine osa_open X I po (r:=none) (by unfold takerIn; rw [h3]; rfl) fun b=>?_
 have D:s.heap.get? dx = some (dictOf es n):=I.dict
 obtain ⟨hx,hcl,hn,-⟩:=I
 refine wpAny_bind (wpAny_pure (wpAny_bind (wpAny_bind (wpAny_loadPart hx (wpAny_bind ((looks_clsIn X hc).here ?_))))))
 rw [hd']
 refine wpAny_pure (a:=some dx) (wpAny_bind (wpAny_pure (wpAny_bind ?_)))
 unfold nsSet
 refine wpAny_bind (wpAny_bind (wpAny_askSetting (wpAny_pure (wpAny_bind (wpAny_mkText (wpAny_bind (wpAny_loadPart D ?_)))))))
 dsimp only
 have c:(!es.toArray.any (·.key.isStr name) && es.toArray.any (·.refKey)) = false:=by
  rw [← Array.any_toList,← Array.any_toList]
  unfold getL at hl
  split at hl
  ·rename_i en he
   rw [List.any_eq_true.mpr ⟨en,List.mem_of_find?_eq_some he,List.find?_some he⟩]; rfl
  ·split at hl
   ·cases hl
   ·rename_i z; rw [Bool.not_eq_true] at z; rw [z,Bool.and_false]
 rw [aRefKeyMayBeTheName_at,c]
 refine wpAny_updatePart D ?_
 have D':(s.heap.update dx (Obj.putName name (PyData.keyHash w.params name) (.str name s.toks) v)).get? dx = some (dictOf (putL name (PyData.keyHash w.params name) (.str name s.toks) v es) (putN name es n)):=by
  rw [Heap.get?_update_self _ D (by rw [putName_dict]; rfl),putName_dict]
 refine wpAny_bind (wpAny_lookBehind D' (pastItsLine_dict (by rw [List.size_toArray,sizeLine_eq]; have:=putL_len name (PyData.keyHash w.params name) (.str name s.toks) v es; omega)) ?_)
 exact wpAny_pure (h _ _ _ _ (Heap.SameBut.update ..) D')
theorem asx_attr {o:PySem.Expr} {x:PySem.Str} {pos:Pos} {C a dx:Addr} {as:List (PySem.Str × AV)} {d:AV} (hk:SeesK K F.G) (hp:plainCls K C = true) (hx:ownName K C x = true) (h:Ev prog w F sig om o (inst C a dx)) (hd:Handed d) (hz:as.length ≤ 1000)
  (u:OmUpd om dx (AttO as) (AttO (putA x d as)) om'):AsX prog w F (.Attribute o x pos) d sig om sig om':=fun R tau v s Q E st hq=>by
 rw [assign_Attribute]
 refine wpAny_bind (wpAny_holding (h R _ s _ _ st fun ov s₁ st₁=>wpAny_bind (wpAny_standAt (wpAny_bind (wpAny_holding ?_)))))
 obtain ⟨rfl,h1,es,n,h2,h3,I⟩:=st₁.instAt st₁.top u.mem
 refine set_plain (st₁.inK hk) I (plainCls_out hp).2.2.2.1 ?_
 have g:=h3.get x
 have hl:=h3.length
 refine osa_here (s:={ s₁ with toks:=s₁.toks + 1 }) (st₁.inK hk) I hp hx ?_ (by omega) fun h' hsh t n' hs ho=>?_
 ·cases e:as.lookup x with
  | none=>rw [e] at g; simp only at g; rw [g]; rfl
  | some d=>rw [e] at g; obtain ⟨_,g1,_⟩:=g; rw [g1]; rfl
 ·refine wpAny_release (hq _ ?_)
  have r:=st₁.top2
  have kv:=view_but (F:=F) (R:=R) (om:=om) u.inD (show Heap.SameBut dx s₁.heap h' from hs)
  exact st₁.pop.upd (tk:=s₁.toks + 1 + 1) u hs ho fun V' hV=>⟨_,_,rfl,(h3.mono (kv.trans hV)).put (r.mono (kv.trans hV)) (hd _ _ r)⟩
end
end
section
section
variable {prog:Program} {w:World} {F:Fn} {R:PH} {sig sig':List (Option AV)} {om om':Om} {tau:List (Value × AV)} {s:Shared}
theorem opx_of {f:Value} {ds:List AV} {d:AV} {P:AV → Om → Prop} (h:OpC prog w F om f ds d) (hp:P d om):OpX prog w F om f ds P:=fun R sig tau vs s Q E hv st hq=>h R sig tau vs s Q E hv st fun v s' st'=>hq v d om s' hp st'
theorem evx_call {func:PySem.Expr} {args:List PySem.Expr} {pos:Pos} {f:Value} {P:AV → Om → Prop} (h₁:Ev prog w F sig om func (.raw fun _ u=>u = f)) (c:Callee prog w F f) (h₂:EvXL prog w F sig om args fun ds om'=>OpX prog w F om' f ds P)
  (hc:eval (.Call func args [] pos) F.env = (do callWith pos (← eval func F.env) [] (backTo pos (starEach args F.env)) (backToKw pos (keywordEach [] F.env))):=by rfl)
  (hp:(backTo pos (starEach args F.env)).any (·.1) = false:=by rfl) :
  EvX prog w F sig om (.Call func args [] pos) P:=fun R tau s Q E st h=>by
 rw [hc]
 refine wpAny_bind (h₁ R tau s _ _ st fun v s₁ st₁=>?_)
 have:=st₁.top
 simp only [Rep] at this
 obtain rfl:=this _ (PH.le.refl _)
 refine callWith_of (P:=fun h=>∀ b o,F.G b = some o → h.get? b = some o) (by show ((backTo pos (starEach args F.env)).any (·.1) || false) = false; rw [hp]; rfl) c (args_run hp (h₂ pos R tau s₁ _ _ st₁.pop fun vs ds om' s₂ o hv st₂=>?_))
 exact ⟨fun b o e=>(st₂.g b o e).2.2.1,o R sig tau vs s₂ _ _ hv st₂ h⟩
noncomputable def Gets (prog:Program) (w:World) (F:Fn) (om:Om) (d:AV) (name:PySem.Str) (f:Value):Prop :=
 ∀ (R:PH) (sig:List (Option AV)) (tau:List (Value × AV)) (v:Value) (s:Shared) (pl:Sem Bool) (Q:Value × List Value → Shared → Prop) (E:Value → Shared → Prop),Sta F R sig om ((v,d) :: tau) s → Q (f,[v]) s → wpAny (model prog w) F.A (getMethod v name pl) Q E s
theorem evx_meth {o:PySem.Expr} {name:PySem.Str} {apos pos:Pos} {args:List PySem.Expr} {d₀:AV} {f:Value} {P:AV → Om → Prop} (h₁:Ev prog w F sig om o d₀) (hm:Gets prog w F om d₀ name f) (c:Callee prog w F f) (h₂:EvXL prog w F sig om args fun ds om'=>OpX prog w F om' f (d₀ :: ds) P)
  (pl:Sem Bool) (he:eval (.Call (.Attribute o name apos) args [] pos) F.env = (do
   let ov ← eval o F.env
   standAt apos.atName
   let (f,first) ← holding [ov] (getMethod ov name pl)
   callWith pos f first (backTo pos (starEach args F.env)) []):=by rfl)
  (hp:(backTo pos (starEach args F.env)).any (·.1) = false:=by rfl):EvX prog w F sig om (.Call (.Attribute o name apos) args [] pos) P:=fun R tau s Q E st hq=>by
 refine MethodCall_ (pl:=pl) (h₁ R tau s _ _ st fun v s₁ st₁=>hm R sig tau v s₁ pl _ _ st₁ ?_) he
 refine callWith_of (P:=fun h=>∀ b o,F.G b = some o → h.get? b = some o) (by show ((backTo pos (starEach args F.env)).any (·.1) || false) = false; rw [hp]; rfl) c (args_run hp (h₂ pos R _ s₁ _ _ st₁ fun vs ds om' s₂ op hv st₂=>?_))
 refine ⟨fun b o e=>(st₂.g b o e).2.2.1,op R sig tau (v :: vs) s₂ _ _ (by simp [hv]) ?_ hq⟩
 simpa using st₂
theorem ev_of {e:PySem.Expr} {d:AV} (h:EvX prog w F sig om e fun d' om'=>d' = d ∧ om' = om):Ev prog w F sig om e d:=fun R tau s Q E st hq=>h R tau s Q E st fun v d' om' s' ⟨e1,e2⟩ st'=>by subst e1 e2; exact hq v s' st'
theorem evxl_of {es:List PySem.Expr} {ds:List AV} {P:List AV → Om → Prop} (h:EvL prog w F sig om es ds) (hp:P ds om):EvXL prog w F sig om es P:=fun pos R tau s Q E st hq=>h pos R tau s Q E st fun vs s' hv st'=>hq vs ds om s' hp hv st'
theorem exx_one {t:PySem.Expr} {pos:Pos} {e:PySem.Expr} {P:AV → Om → Prop} {P':Out → Prop} (h:EvX prog w F sig om e P) (a:∀ d om',P d om' → ∃ sig₁ om₁,AsX prog w F t d sig om' sig₁ om₁ ∧ P' (.nxt sig₁ om₁))
  (hs:swapsWithSole [t] e pos.line F.env = pure false:=by rfl) (hw:swappedStores [t] e F.env = pure none:=by rfl) (ha:(assignEach [t] F.env).map (·.2) = [assign t F.env]:=by rfl):Ex1 prog w F sig om (.Assign [t] e pos) P':=fun R tau s Q E st hq=>by
 refine wpAny_Assign_stores (h R tau s _ _ st fun v d om' s' hp st'=>?_) hs hw
 obtain ⟨sig₁,om₁,as,hp'⟩:=a d om' hp
 rw [ha]
 exact as R tau v s' _ _ st' fun s'' st''=>hq _ _ _ hp' st''.pop
theorem exx_two {t₁ t₂:PySem.Expr} {pos:Pos} {e:PySem.Expr} {P:AV → Om → Prop} {P':Out → Prop} (h:EvX prog w F sig om e P) (a:∀ d om',P d om' → ∃ sig₁ om₁ sig₂ om₂,AsX prog w F t₁ d sig om' sig₁ om₁ ∧ AsX prog w F t₂ d sig₁ om₁ sig₂ om₂ ∧ P' (.nxt sig₂ om₂))
  (hw:swappedStores [t₁,t₂] e F.env = pure none:=by rfl) (ha:(assignEach [t₁,t₂] F.env).map (·.2) = [assign t₁ F.env,assign t₂ F.env]:=by rfl):Ex1 prog w F sig om (.Assign [t₁,t₂] e pos) P':=fun R tau s Q E st hq=>by
 refine wpAny_Assign_two (h R tau s _ _ st fun v d om' s' hp st'=>?_) ha hw
 obtain ⟨sig₁,om₁,sig₂,om₂,as,as',hp'⟩:=a d om' hp
 exact as R tau v s' _ _ st' fun s'' st''=>as' R tau v s'' _ _ st'' fun s3 st3=>hq _ _ _ hp' st3.pop
theorem exx_three {t₁ t₂ t₃:PySem.Expr} {pos:Pos} {e:PySem.Expr} {P:AV → Om → Prop} {P':Out → Prop} (h:EvX prog w F sig om e P) (a:∀ d om',P d om' → ∃ sig₁ om₁ sig₂ om₂ sig₃ om₃,AsX prog w F t₁ d sig om' sig₁ om₁ ∧ AsX prog w F t₂ d sig₁ om₁ sig₂ om₂ ∧ AsX prog w F t₃ d sig₂ om₂ sig₃ om₃ ∧ P' (.nxt sig₃ om₃))
  (hw:swappedStores [t₁,t₂,t₃] e F.env = pure none:=by rfl) (ha:(assignEach [t₁,t₂,t₃] F.env).map (·.2) = [assign t₁ F.env,assign t₂ F.env,assign t₃ F.env]:=by rfl):Ex1 prog w F sig om (.Assign [t₁,t₂,t₃] e pos) P':=fun R tau s Q E st hq=>by
 refine wpAny_Assign_three (h R tau s _ _ st fun v d om' s' hp st'=>?_) ha hw
 obtain ⟨sig₁,om₁,sig₂,om₂,sig₃,om₃,as,as',as'',hp'⟩:=a d om' hp
 exact as R tau v s' _ _ st' fun s'' st''=>as' R tau v s'' _ _ st'' fun s3 st3=>as'' R tau v s3 _ _ st3 fun s4 st4=>hq _ _ _ hp' st4.pop
theorem Sta.drop (ok:F.Ok) (x:Sta F R sig om tau s) {a:Addr} {P:PH → Obj → Prop} (hd:OmDel om a P om'):Sta F R sig om' tau s:=by
 have pm:=hd.perm
 have y:=x.perm pm
 clear hd x
 have inD:∀ b (o:Om),b ∈ F.D o ↔ b = F.L ∨ b ∈ F.cs ∨ b ∈ o.map (·.1):=fun b o=>by unfold Fn.D; simp only [List.mem_cons,List.mem_append]
 have sub:∀ b,b ∈ F.D om' → b ∈ F.D ((a,P) :: om'):=fun b hb=>by
  rw [inD] at hb ⊢
  rcases hb with q | q | q
  ·exact .inl q
  ·exact .inr (.inl q)
  ·exact .inr (.inr (List.mem_cons_of_mem _ q))
 have kv:(F.view R ((a,P) :: om') s.heap).le (F.view R om' s.heap):=fun b o e=>by
  obtain ⟨c1,c2,c3⟩:=view_cases e
  unfold Fn.view
  rw [if_neg (by rw [c2]; simpa using fun q=>c1 (sub b q))]
  rcases c3 with ⟨q,z⟩ | ⟨q,z⟩
  ·rw [if_pos q]; exact z
  ·rw [if_neg q]; exact z
 refine ⟨y.same,?_,fun b o e=>?_,fun b o e=>?_,y.cells,fun p hp=>?_,fun p hp=>(y.temps p hp).mono kv,?_⟩
 ·have:=y.nodup
  unfold Fn.D at this ⊢
  refine this.sublist (List.Sublist.cons_cons _ (List.Sublist.append_left (List.Sublist.map _ (List.sublist_cons_self _ _)) _))
 ·obtain ⟨h1,h2,h3,h4⟩:=y.g b o e
  exact ⟨h1,fun q=>h2 (sub b q),h3,h4⟩
 ·obtain ⟨h1,h2⟩:=y.rf b o e
  exact ⟨fun q=>h1 (sub b q),h2⟩
 ·obtain ⟨o,ho,hP⟩:=y.opens p (List.mem_cons_of_mem _ hp)
  exact ⟨o,ho,fun V' hV=>hP V' (kv.trans hV)⟩
 ·obtain ⟨m,hm,sl⟩:=y.slots
  exact ⟨m,hm,fun k z kind d h1 h2=>(sl k z kind d h1 h2).mono kv (fun _ _ _ e=>e) fun _ _ e=>e⟩
theorem ex_drop (ok:F.Ok) {a:Addr} {P:PH → Obj → Prop} {sts:List Stmt} {P':Out → Prop} (hd:OmDel om a P om') (h:Ex prog w F sig om' sts P'):Ex prog w F sig om sts P':=fun R tau s Q E st hq=>h R tau s Q E (st.drop ok hd) hq
end
end
section
noncomputable def Weak (a:Addr) (d:AV) (P P':PH → Obj → Prop):Prop:=∀ V o,Rep V d (.ref a) → P V o → P' V o
theorem weak_refl {a:Addr} {d:AV} {P:PH → Obj → Prop}:Weak a d P P:=fun _ _ _ h=>h
inductive OmCast (a:Addr) (d:AV):Om → Om → Prop
 | nil:OmCast a d [] []
 | cons {b:Addr} {P P':PH → Obj → Prop} {om om':Om}:Weak a d P P' → OmCast a d om om' → OmCast a d ((b,P) :: om) ((b,P') :: om')
theorem OmCast.refl {a:Addr} {d:AV}:∀ {om:Om},OmCast a d om om
 | []=>.nil
 | (b,P) :: r=>.cons weak_refl (OmCast.refl (om:=r))
theorem OmCast.addrs {a:Addr} {d:AV} {om om':Om} (h:OmCast a d om om'):om'.map (·.1) = om.map (·.1):=by
 induction h with
 | nil=>rfl
 | cons _ _ ih=>simp [ih]
theorem OmCast.mem {a:Addr} {d:AV} {om om':Om} (h:OmCast a d om om'):∀ p ∈ om',∃ P,(p.1,P) ∈ om ∧ Weak a d P p.2:=by
 induction h with
 | nil=>intro p hp; cases hp
 | cons w _ ih =>
  intro p hp
  rcases List.mem_cons.mp hp with rfl | hp
  ·exact ⟨_,List.mem_cons_self,w⟩
  ·obtain ⟨P,h1,h2⟩:=ih p hp
   exact ⟨P,List.mem_cons_of_mem _ h1,h2⟩
noncomputable def SigCast (a:Addr) (d:AV) (sig sig':List (Option AV)):Prop:=∀ (k:Nat) d',sig'[k]? = some (some d') → sig[k]? = some (some d') ∨ (sig[k]? = some (some (.ptr a)) ∧ d' = d)
theorem SigCast.refl {a:Addr} {d:AV} {sig:List (Option AV)}:SigCast a d sig sig:=fun _ _ h=>.inl h
theorem SigCast.set {a:Addr} {d:AV} {sig:List (Option AV)} {k:Nat} (h:sig[k]? = some (some (.ptr a))):SigCast a d sig (sig.set k (some d)):=fun j d' e=>by
 rw [List.getElem?_set] at e
 split at e
 ·split at e
  ·rename_i q _; subst q; cases e; exact .inr ⟨h,rfl⟩
  ·cases e
 ·exact .inl e
section
variable {prog:Program} {w:World} {F:Fn} {R:PH} {sig sig':List (Option AV)} {om om' om₁:Om} {tau:List (Value × AV)} {s:Shared}
theorem Sta.cast (ok:F.Ok) (x:Sta F R sig om tau s) {a:Addr} {P:PH → Obj → Prop} {d:AV} (hd:OmDel om a P om₁) (ha:F.n₀ ≤ a) (key:∀ V o,V a = some o → P V o → Rep V d (.ref a)) (hs:SigCast a d sig sig') (ho:OmCast a d om₁ om'):Sta F R sig' om' tau s:=by
 obtain ⟨o,hao,hP⟩:=x.opens _ (hd.perm.mem_iff.mpr List.mem_cons_self)
 have nd:=(x.perm hd.perm).nodup
 have haD:a ∈ F.D ((a,P) :: om₁):=by unfold Fn.D; simp
 have hRa:R a = none:=by
  cases e:R a with
  | none=>rfl
  | some o=>exact absurd haD ((x.perm hd.perm).rf a o e).1
 have y:=x.drop ok hd
 have hv:F.view R om₁ s.heap a = some o:=by
  unfold Fn.view
  rw [if_neg,if_neg (Nat.not_lt.mpr ha)]
  ·exact hao
  ·rw [hRa]
   simp only [Option.isSome_none,Bool.false_eq_true,or_false]
   intro q
   unfold Fn.D at nd q
   rw [List.nodup_cons,List.nodup_append] at nd
   rcases List.mem_cons.mp q with q | q
   ·exact nd.1 (List.mem_append.mpr (.inr (by rw [← q]; simp)))
   ·rcases List.mem_append.mp q with q | q
    ·exact nd.2.2.2 a q a (by simp) rfl
    ·have:=nd.2.2.1
     simp only [List.map_cons,List.nodup_cons] at this
     exact this.1 q
 have kv:(F.view R om s.heap).le (F.view R om₁ s.heap):=by
  rw [view_perm hd.perm.symm]
  intro b ob e
  obtain ⟨c1,c2,c3⟩:=view_cases e
  unfold Fn.view
  rw [if_neg]
  ·rcases c3 with ⟨q,z⟩ | ⟨q,z⟩
   ·rw [if_pos q]; exact z
   ·rw [if_neg q]; exact z
  ·rw [c2]
   simp only [Option.isSome_none,Bool.false_eq_true,or_false]
   intro q
   apply c1
   unfold Fn.D at q ⊢
   simp only [List.mem_cons,List.mem_append,List.map_cons] at q ⊢
   rcases q with q | q | q
   ·exact .inl q
   ·exact .inr (.inl q)
   ·exact .inr (.inr (.inr q))
 have kd:Rep (F.view R om₁ s.heap) d (.ref a):=key _ o hv (hP _ kv)
 have hD:F.D om' = F.D om₁:=by unfold Fn.D; rw [ho.addrs]
 have hvw:F.view R om' s.heap = F.view R om₁ s.heap:=by unfold Fn.view; rw [hD]
 refine ⟨y.same,hD ▸ y.nodup,fun b o e=>hD ▸ y.g b o e,fun b o e=>hD ▸ y.rf b o e,y.cells,fun p hp=>?_,fun p hp=>by rw [hvw]; exact y.temps p hp,?_⟩
 ·obtain ⟨P₀,h1,h2⟩:=ho.mem p hp
  obtain ⟨ob,hob,hPo⟩:=y.opens _ h1
  exact ⟨ob,hob,fun V' hV=>h2 V' ob (kd.mono (hvw ▸ hV)) (hPo V' (hvw ▸ hV))⟩
 ·obtain ⟨m,hm,sl⟩:=y.slots
  refine ⟨m,hm,fun k z kind d' h1 h2=>?_⟩
  rw [hvw]
  rcases hs k d' h2 with q | ⟨q,rfl⟩
  ·exact sl k z kind d' h1 q
  ·have:=sl k z kind _ h1 q
   cases this with
   | loc e r=>simp only [Rep] at r; subst r; exact .loc e kd
   | cel a b c r q=>simp only [Rep] at r; subst r; exact .cel a b c kd q
   | fre a b c r q=>simp only [Rep] at r; subst r; exact .fre a b c kd q
theorem ex_cast (ok:F.Ok) {a:Addr} {P:PH → Obj → Prop} {d:AV} {sts:List Stmt} {P':Out → Prop} (hd:OmDel om a P om₁) (ha:F.n₀ ≤ a) (key:∀ V o,V a = some o → P V o → Rep V d (.ref a)) (hs:SigCast a d sig sig') (ho:OmCast a d om₁ om')
  (h:Ex prog w F sig' om' sts P'):Ex prog w F sig om sts P':=fun R tau s Q E st hq=>h R tau s Q E (st.cast ok hd ha key hs ho) hq
theorem key_lst {a:Addr} {l:List AV}:∀ V o,V a = some o → LstO l V o → Rep V (.lst l) (.ref a):=fun V o h ⟨vs,n,e,r⟩=>by
 subst e
 simp only [Rep]
 exact ⟨a,vs,n,rfl,h,r⟩
noncomputable def OptRep (V:PH):Option AV → Option Value → Prop
 | none,r=>r = none
 | some d,r=>∃ v,r = some v ∧ Rep V d v
theorem OptRep.mono {V V':PH} (k:V.le V') {d:Option AV} {r:Option Value} (h:OptRep V d r):OptRep V' d r:=by
 cases d with
 | none=>exact h
 | some d=>obtain ⟨v,e,r⟩:=h; exact ⟨v,e,r.mono k⟩
noncomputable def DctO (f:Int → Option AV) (m:Nat):PH → Obj → Prop:=fun V o=>o.ExactDict ∧ ∃ es ep,o.data = .dict es ep ∧ IntKeys es ∧ es.size ≤ m ∧ ∀ k,OptRep V (f k) (findBy Value.isInt es k)
noncomputable def upd (f:Int → Option AV) (k:Int) (d:AV):Int → Option AV:=fun x=>if x = k then some d else f x
noncomputable def dct (f:Int → Option AV) (m:Nat):AV:=.raw fun V v=>∃ a o,v = .ref a ∧ (a == sysModules) = false ∧ V a = some o ∧ DctO f m V o
theorem key_dct {a:Addr} {f:Int → Option AV} {m:Nat} (ha:sysModules < a):∀ V o,V a = some o → DctO f m V o → Rep V (dct f m) (.ref a):=fun V o h hd=>by
 unfold dct
 simp only [Rep]
 intro V' hV
 obtain ⟨h1,es,ep,h2,h3,h4,h5⟩:=hd
 exact ⟨a,o,rfl,by simpa using (Nat.ne_of_lt ha).symm,hV _ _ h,h1,es,ep,h2,h3,h4,fun k=>(h5 k).mono hV⟩
theorem DctO.weak {a:Addr} {d:AV} {f f':Int → Option AV} {m:Nat} (h:∀ k,f' k = f k ∨ (f k = some (.ptr a) ∧ f' k = some d)):Weak a d (DctO f m) (DctO f' m):=fun V o r ⟨h1,es,ep,h2,h3,h4,h5⟩=>by
 refine ⟨h1,es,ep,h2,h3,h4,fun k=>?_⟩
 rcases h k with q | ⟨q1,q2⟩
 ·rw [q]; exact h5 k
 ·have:=h5 k
  rw [q1] at this
  obtain ⟨v,e,rv⟩:=this
  simp only [Rep] at rv
  subst rv
  rw [q2]
  exact ⟨_,e,r⟩
inductive AttCast (a:Addr) (d:AV):List (PySem.Str × AV) → List (PySem.Str × AV) → Prop
 | nil:AttCast a d [] []
 | same {x:PySem.Str} {e:AV} {as as':List (PySem.Str × AV)}:AttCast a d as as' → AttCast a d ((x,e) :: as) ((x,e) :: as')
 | cast {x:PySem.Str} {as as':List (PySem.Str × AV)}:AttCast a d as as' → AttCast a d ((x,.ptr a) :: as) ((x,d) :: as')
theorem AttCast.ents {a:Addr} {d:AV} {as as':List (PySem.Str × AV)} {V:PH} (h:AttCast a d as as') (r:Rep V d (.ref a)):∀ es,Ents V as es → Ents V as' es:=by
 induction h with
 | nil=>intro es he; cases he; exact .nil
 | same _ ih=>intro es he; cases he with | cons r' hh hs=>exact .cons r' hh (ih _ hs)
 | cast _ ih =>
  intro es he
  cases he with
  | cons r' hh hs =>
   simp only [Rep] at r'
   subst r'
   exact .cons r hh (ih _ hs)
theorem AttO.weak {a:Addr} {d:AV} {as as':List (PySem.Str × AV)} (h:AttCast a d as as'):Weak a d (AttO as) (AttO as'):=fun V o r ⟨es,n,e,he⟩=>⟨es,n,e,h.ents r es he⟩
theorem DctO.map {V:PH} {o:Obj} {f:Int → Option AV} {m:Nat} {h:Heap} {a:Addr} (x:DctO f m V o) (ho:h.get? a = some o):∃ g:Int → Option Value,h.MapOf (intKind prog w) a g ∧ h.DictLe a m ∧ ∀ k,OptRep V (f k) (g k):=by
 obtain ⟨h1,es,ep,h2,h3,h4,h5⟩:=x
 have im:h.IntMap a (findBy Value.isInt es):=⟨o,es,ep,ho,h1.1,h2,h3,fun k=>rfl⟩
 refine ⟨_,im.mapOf fun o' e=>?_,fun o' es' ep' e1 e2=>?_,h5⟩
 ·rw [ho] at e; cases e; exact ⟨h1.2.1,h1.2.2⟩
 ·rw [ho] at e1; cases e1; rw [h2] at e2; cases e2; exact h4
theorem DctO.of_map {V:PH} {f:Int → Option AV} {m:Nat} {h:Heap} {a:Addr} {g:Int → Option Value} (hm:h.MapOf (intKind prog w) a g) (hz:h.DictLe a m) (hr:∀ k,OptRep V (f k) (g k)):∃ o,h.get? a = some o ∧ ∀ V',V.le V' → DctO f m V' o:=by
 obtain ⟨o,es,ep,ho,he,hd,hk,hg⟩:=id hm
 have hz':=hz o es ep ho hd
 obtain ⟨o',es',ep',ho',hc',hd',hk',hf'⟩:=hm.intMap
 rw [ho] at ho'; cases ho'
 rw [hd] at hd'; cases hd'
 refine ⟨o,ho,fun V' hV=>⟨he,es,ep,hd,hk',hz',fun k=>?_⟩⟩
 rw [hf' k]; exact (hr k).mono hV
end
end
section
section
variable {prog:Program} {w:World} {F:Fn} {R:PH} {sig sig':List (Option AV)} {om om' om₁:Om} {tau:List (Value × AV)} {s:Shared} {A:Around} {E:Value → Shared → Prop}
theorem dictSet_le {d:Addr} {f:Int → Option Value} {k:Int} {t:Tok} {v:Value} {m:Nat} {Q:Unit → Shared → Prop} (hm:s.heap.MapOf (intKind prog w) d f) (hz:s.heap.DictLe d m) (hn:m ≤ sizeLine)
  (hQ:∀ h',h'.MapOf (intKind prog w) d (fun x=>if x = k then some v else f x) → h'.DictLe d (m + 1) → Heap.SameBut d s.heap h' → Q () { s with heap:=h',toks:=s.toks + 1 }) :
  wpAny (model prog w) A (dictSet d (.int k t) v) Q E s:=by
 have hkey:(intKind prog w).is k (.int k t) = true:=by show Value.isInt k (.int k t) = true; simp [Value.isInt]
 obtain ⟨o,es,ep,ho,hc,hd,hk,hf⟩:=hm
 have hes:es.size ≤ m:=hz _ _ _ ho hd
 unfold dictSet
 try with_reducible refine wpAny_holding ?_
 refine wpAny_bind ((intKind prog w).pyHash hkey ?_)
 unfold dictSetHashed
 try with_reducible refine wpAny_holding ?_
 refine wpAny_bind (wpAny_dictFind_of (s:={ s with toks:=s.toks + 1 }) hkey ho hd hk ?_)
 cases hi:es.findIdx? fun e=>(intKind prog w).is k e.key with
 | some i =>
  refine wpAny_bind (wpAny_rule (wpAny_bind (wpAny_updateDict (s:={ s with toks:=s.toks + 1 }) ho hd (wpAny_point (hQ _ ⟨_,_,ep,Heap.get?_update_self _ ho (Obj.isFreed_of_dict (Obj.data_mapDict hd _)),
   hc.mapDict _,Obj.data_mapDict hd _,hk.modify _ _,fun x=>?_⟩ (fun o' es' ep' h1 h2=>?_) (Heap.SameBut.update ..))))))
  ·rw [findBy_modify (intKind prog w).is (intKind prog w).inj es k x v i hi,hf]
  ·rw [Heap.get?_update_self _ ho (Obj.isFreed_of_dict (Obj.data_mapDict hd _))] at h1
   cases h1
   rw [Obj.data_mapDict hd] at h2
   cases h2
   rw [Array.size_modify]
   lia
 | none =>
  refine wpAny_bind (wpAny_rule (wpAny_updateDictKeys (hz:=by lia) (s:={ s with toks:=s.toks + 1 }) ho hd (hQ _ ⟨_,_,ep + 1,Heap.get?_update_self _ ho (Obj.isFreed_of_dict (Obj.data_mapDictKeys hd _)),
   hc.mapDictKeys _,Obj.data_mapDictKeys hd _,hk.push hkey _,fun x=>?_⟩ (fun o' es' ep' h1 h2=>?_) (Heap.SameBut.update ..))))
  ·rw [findBy_push (intKind prog w).is es k x _ _ v (KeyKind.is_eq_decide hkey) hi,hf]
  ·rw [Heap.get?_update_self _ ho (Obj.isFreed_of_dict (Obj.data_mapDictKeys hd _))] at h1
   cases h1
   rw [Obj.data_mapDictKeys hd] at h2
   cases h2
   rw [Array.size_push]
   lia
theorem dictSetDefault_le {d:Addr} {f:Int → Option Value} {k:Int} {t:Tok} {v:Value} {m:Nat} {Q:Value → Shared → Prop} (hm:s.heap.MapOf (intKind prog w) d f) (hz:s.heap.DictLe d m) (hn:m ≤ sizeLine)
  (hthere:∀ u,f k = some u → Q u { s with toks:=s.toks + 1 })
  (hnew:f k = none → ∀ h',h'.MapOf (intKind prog w) d (fun x=>if x = k then some v else f x) → h'.DictLe d (m + 1) → Heap.SameBut d s.heap h' → Q v { s with heap:=h',toks:=s.toks + 1 }) :
  wpAny (model prog w) A (dictSetDefault d (.int k t) v) Q E s:=by
 have hkey:(intKind prog w).is k (.int k t) = true:=by show Value.isInt k (.int k t) = true; simp [Value.isInt]
 obtain ⟨o,es,ep,ho,hc,hd,hk,hf⟩:=hm
 have hes:es.size ≤ m:=hz _ _ _ ho hd
 unfold dictSetDefault
 try with_reducible refine wpAny_holding ?_
 refine wpAny_bind ((intKind prog w).pyHash hkey ?_)
 refine wpAny_bind (wpAny_dictFind_of (s:={ s with toks:=s.toks + 1 }) hkey ho hd hk ?_)
 cases hi:es.findIdx? fun e=>(intKind prog w).is k e.key with
 | some i =>
  have hfk:f k = (es[i]?).map (·.val):=by rw [← hf k,findBy_of_findIdx?,hi]
  refine wpAny_bind (wpAny_dictEntries (s:={ s with toks:=s.toks + 1 }) ho hd ?_)
  cases he:es[i]? with
  | none =>
   exfalso
   have:=Array.findIdx?_eq_some_iff_findIdx_eq.mp hi
   have hlt:i < es.size:=this.1
   rw [Array.getElem?_eq_getElem hlt] at he
   exact nomatch he
  | some e =>
   rw [he] at hfk
   exact wpAny_bind (wpAny_rule (wpAny_pure (hthere e.val hfk)))
 | none =>
  have hfk:f k = none:=by rw [← hf k,findBy_of_findIdx?,hi]
  refine wpAny_bind (wpAny_rule (wpAny_bind (wpAny_updateDictKeys (hz:=by lia) (s:={ s with toks:=s.toks + 1 }) ho hd (wpAny_pure (hnew hfk _ ⟨_,_,ep + 1,Heap.get?_update_self _ ho (Obj.isFreed_of_dict (Obj.data_mapDictKeys hd _)),
   hc.mapDictKeys _,Obj.data_mapDictKeys hd _,hk.push hkey _,fun x=>?_⟩ (fun o' es' ep' h1 h2=>?_) (Heap.SameBut.update ..))))))
  ·rw [findBy_push (intKind prog w).is es k x _ _ v (KeyKind.is_eq_decide hkey) hi,hf]
  ·rw [Heap.get?_update_self _ ho (Obj.isFreed_of_dict (Obj.data_mapDictKeys hd _))] at h1
   cases h1
   rw [Obj.data_mapDictKeys hd] at h2
   cases h2
   rw [Array.size_push]
   lia
theorem setItem_le {d:Addr} {f:Int → Option Value} {k:Int} {t:Tok} {v:Value} {m:Nat} {Q:Unit → Shared → Prop} (hm:s.heap.MapOf (intKind prog w) d f) (hz:s.heap.DictLe d m) (hn:m ≤ sizeLine)
  (hQ:∀ h',h'.MapOf (intKind prog w) d (fun x=>if x = k then some v else f x) → h'.DictLe d (m + 1) → Heap.SameBut d s.heap h' → Q () { s with heap:=h',toks:=s.toks + 1 }) :
  wpAny (model prog w) A (setItem (.ref d) (.int k t) v) Q E s:=by
 unfold setItem
 try with_reducible refine wpAny_holding ?_
 first | refine wpAny_bind (wpAny_pure ?_) | skip
 refine wpAny_bind (wpAny_sequenceKey hm.typeIs (by decide) ?_)
 refine wpAny_bind (wpAny_callSpecial?_slot (name:=Str.ofString "__setitem__") hm.typeIs slot_dict_setitem
  (wpAny_call_entry slot_dict_setitem hm.typeIs entry_dict_setitem ?_ (args_dict_setitem _ _ _)))
 show wpAny _ _ (Builtin.Dict.notOrdered "__setitem__" ⟨[.ref d,.int k t,v],[]⟩ >>= _) _ _ s
 refine wpAny_bind (wpAny_notOrdered_dict hm.typeIs ?_)
 show wpAny _ _ (dictSet d (.int k t) v >>= _) _ _ s
 exact wpAny_bind (dictSet_le hm hz hn fun h' hm' hz' hs'=>wpAny_pure ⟨.none,rfl,wpAny_pure (hQ h' hm' hz' hs')⟩)
theorem evx_dict (ok:F.Ok) {pos:Pos} {P:AV → Om → Prop} (hp:∀ a,F.n₀ ≤ a → P (.ptr a) ((a,DctO (fun _=>none) 0) :: om)):EvX prog w F sig om (.Dict [] [] pos) P:=fun R tau s Q E st hq=>by
 refine wpAny_Dict_empty (hq _ _ _ _ (hp _ ?_) ((st.openNew ok (P:=DctO (fun _=>none) 0) _ rfl ?_).push ?_))
 ·exact Nat.not_lt.mp (st.fresh ok (Nat.le_refl _)).2
 ·exact fun V' hV=>⟨⟨rfl,rfl,rfl⟩,#[],0,rfl,fun e he=>by simp at he,Nat.le_refl _,fun k=>rfl⟩
 ·simp only [Rep]
theorem Sta.openDct (x:Sta F R sig om tau s) {a:Addr} {f:Int → Option AV} {m:Nat} (h:(a,DctO f m) ∈ om):∃ g:Int → Option Value,s.heap.MapOf (intKind prog w) a g ∧ s.heap.DictLe a m ∧ ∀ k,OptRep (F.view R om s.heap) (f k) (g k):=by
 obtain ⟨o,ho,hP⟩:=x.opens _ h
 exact (hP _ (PH.le.refl _)).map ho
theorem asx_item {o i:PySem.Expr} {pos:Pos} {a:Addr} {f:Int → Option AV} {m:Nat} {k:Int} {d:AV} (h₁:Ev prog w F sig om o (.ptr a)) (h₂:Ev prog w F sig om i (.int k)) (hn:m ≤ sizeLine)
  (u:OmUpd om a (DctO f m) (DctO (upd f k d) (m + 1)) om'):AsX prog w F (.Subscript o i pos) d sig om sig om':=fun R tau v s Q E st hq=>by
 rw [assign_Subscript]
 refine wpAny_bind (wpAny_holding (h₁ R _ s _ _ st fun ov s₁ st₁=>wpAny_bind (wpAny_holding (h₂ R _ s₁ _ _ st₁ fun iv s₂ st₂=>wpAny_bind (wpAny_standAt (wpAny_bind (wpAny_holding ?_)))))))
 have r1:=st₂.top2
 have r2:=st₂.top
 simp only [Rep] at r1 r2
 obtain ⟨t,rfl⟩:=r2
 subst r1
 obtain ⟨g,hm,hz,hg⟩:=st₂.openDct (prog:=prog) (w:=w) u.mem
 refine setItem_le hm hz hn fun h' hm' hz' hs'=>?_
 have st₃:=st₂.pop.pop
 have kv:=view_but (F:=F) (R:=R) (om:=om) u.inD hs'
 obtain ⟨o',ho',hP'⟩:=DctO.of_map (V:=F.view R om h') (f:=upd f k d) hm' hz' (fun x=>by
  unfold upd
  by_cases q:x = k
  ·rw [if_pos q,if_pos q]; exact ⟨_,rfl,st₃.top.mono kv⟩
  ·rw [if_neg q,if_neg q]; exact (hg x).mono kv)
 have fin:=hq _ (st₃.upd (tk:=s₂.toks + 1) u hs' ho' hP')
 cases i <;> exact wpAny_release fin
theorem c_dict_get {f:Int → Option AV} {m:Nat} {k:Int} {d₀:AV}:OpC prog w F om (.builtin "dict.get") [dct f m,.int k,d₀] ((f k).getD d₀):=fun R sig tau vs s Q E hv st h=>by
 obtain ⟨v₁,v₂,v₃,rfl⟩:=len3 hv
 have st':Sta F R sig om ((v₃,d₀) :: (v₂,.int k) :: (v₁,dct f m) :: tau) s:=by simpa using st
 have r1:=st'.pop.top2
 have r2:=st'.top2
 unfold dct at r1
 simp only [Rep] at r1 r2
 obtain ⟨t,rfl⟩:=r2
 obtain ⟨a,o,rfl,hsm,hV,hd⟩:=r1 _ (PH.le.refl _)
 obtain ⟨g,hm,hz,hg⟩:=hd.map (prog:=prog) (w:=w) (st.vget hV)
 have hkey:(intKind prog w).is k (.int k t) = true:=by show Value.isInt k (.int k t) = true; simp [Value.isInt]
 refine wpAny_call_entry PySem.F.slot_dict_get hm.typeIs PySem.F.entry_dict_get ?_ (PySem.F.args_dict_get_3 _ _ _)
 show wpAny _ _ (dictGet a (.int k t) >>= _) _ _ s
 refine wpAny_bind (wpAny_dictGet_of hkey hm ?_)
 have hgk:=hg k
 cases hf:f k with
 | some d =>
  rw [hf] at hgk
  obtain ⟨u,e,r⟩:=hgk
  rw [e]
  exact wpAny_pure ⟨u,rfl,h _ _ (st'.pop.pop.pop.tok1.push (by rw [hf]; exact r))⟩
 | none =>
  rw [hf] at hgk
  have:g k = none:=hgk
  rw [this]
  show wpAny _ _ (Builtin.Dict.missed a (.int k t) >>= _) _ _ _
  exact wpAny_bind (wpAny_missed_other hsm (wpAny_pure ⟨v₃,rfl,h _ _ (st'.pop.pop.pop.tok1.push (by rw [hf]; exact st'.top))⟩))
theorem x_setdefault {f:Int → Option AV} {m:Nat} {k:Int} {a:Addr} {d₀:AV} {P:AV → Om → Prop} (hsm:sysModules < a) (hn:m ≤ sizeLine) (hmem:(a,DctO f m) ∈ om) (hthere:∀ d,f k = some d → P d om)
  (hnew:f k = none → ∃ om',OmUpd om a (DctO f m) (DctO (upd f k d₀) (m + 1)) om' ∧ P d₀ om'):OpX prog w F om (.builtin "dict.setdefault") [.ptr a,.int k,d₀] P:=fun R sig tau vs s Q E hv st h=>by
 obtain ⟨v₁,v₂,v₃,rfl⟩:=len3 hv
 have st':Sta F R sig om ((v₃,d₀) :: (v₂,.int k) :: (v₁,.ptr a) :: tau) s:=by simpa using st
 have r1:=st'.pop.top2
 have r2:=st'.top2
 simp only [Rep] at r1 r2
 obtain ⟨t,rfl⟩:=r2
 subst r1
 obtain ⟨g,hm,hz,hg⟩:=st.openDct (prog:=prog) (w:=w) hmem
 refine wpAny_call_entry PySem.F.slot_dict_setdefault hm.typeIs PySem.F.entry_dict_setdefault ?_ (PySem.F.args_dict_setdefault_3 _ _ _)
 unfold Builtin.«dict.setdefault»
 refine wpAny_bind ?_
 unfold Builtin.Dict.keyAndDefault
 refine wpAny_bind (wpAny_notOrdered_dict hm.typeIs ?_)
 show wpAny _ _ (pure (a,Value.int k t,some v₃)) _ _ s
 refine wpAny_pure ?_
 show wpAny _ _ (if (a == sysModules) = true then _ else (dictSetDefault a (.int k t) v₃ >>= _)) _ _ s
 rw [if_neg (by simpa using (Nat.ne_of_lt hsm).symm)]
 have hgk:=hg k
 refine wpAny_bind (dictSetDefault_le hm hz hn (fun u e=>wpAny_pure ⟨u,rfl,?_⟩) fun e h' hm' hz' hs'=>wpAny_pure ⟨v₃,rfl,?_⟩)
 ·cases hf:f k with
  | none=>rw [hf] at hgk; rw [show g k = none from hgk] at e; cases e
  | some d =>
   rw [hf] at hgk
   obtain ⟨u',e',r⟩:=hgk
   rw [e] at e'; cases e'
   exact h _ _ _ _ (hthere d hf) (st'.pop.pop.pop.tok1.push r)
 ·cases hf:f k with
  | some d =>
   rw [hf] at hgk
   obtain ⟨u',e',r⟩:=hgk
   rw [e] at e'; cases e'
  | none =>
   obtain ⟨om',u,hp⟩:=hnew hf
   have kv:=view_but (F:=F) (R:=R) (om:=om) u.inD hs'
   obtain ⟨o',ho',hP'⟩:=DctO.of_map (V:=F.view R om h') (f:=upd f k d₀) hm' hz' (fun x=>by
    unfold upd
    by_cases q:x = k
    ·rw [if_pos q,if_pos q]; exact ⟨_,rfl,st'.top.mono kv⟩
    ·rw [if_neg q,if_neg q]; exact (hg x).mono kv)
   have fin:=st'.upd (tk:=s.toks + 1) u hs' ho' hP'
   exact h _ _ _ _ hp (fin.temp fun p hp=>fin.temps p (by
    rcases List.mem_cons.mp hp with rfl | hp
    ·exact List.mem_cons_self
    ·exact List.mem_cons_of_mem _ (List.mem_cons_of_mem _ (List.mem_cons_of_mem _ hp))))
theorem gets_dct {f:Int → Option AV} {m:Nat} {name:PySem.Str} {id:String} (slot:Slot "dict" name id) (hty:typeOf (.builtin id) = pure (.type "method_descriptor")):Gets prog w F om (dct f m) name (.builtin id):=fun R sig tau v s pl Q E st h=>by
 have r1:=st.top
 unfold dct at r1
 simp only [Rep] at r1
 obtain ⟨a,o,rfl,hsm,hV,hd⟩:=r1 _ (PH.le.refl _)
 obtain ⟨g,hm,hz,hg⟩:=hd.map (prog:=prog) (w:=w) (st.vget hV)
 exact getMethod_builtin hm.typeIs PySem.F.plainAttrs_dict slot hty hm.noDict h
theorem gets_dcto {a:Addr} {f:Int → Option AV} {m:Nat} {name:PySem.Str} {id:String} (slot:Slot "dict" name id) (hty:typeOf (.builtin id) = pure (.type "method_descriptor")) (hmem:(a,DctO f m) ∈ om):Gets prog w F om (.ptr a) name (.builtin id):=fun R sig tau v s pl Q E st h=>by
 have r1:=st.top
 simp only [Rep] at r1
 subst r1
 obtain ⟨g,hm,hz,hg⟩:=st.openDct (prog:=prog) (w:=w) hmem
 exact getMethod_builtin hm.typeIs PySem.F.plainAttrs_dict slot hty hm.noDict h
end
end
section
noncomputable abbrev boundObj (id:String) (x:Value):Obj:={ cls:=.type "builtin_function_or_method",data:=.fields #[.builtin id,x] }
section
variable {prog:Program} {w:World} {A:Around} {E:Value → Shared → Prop} {s:Shared}
theorem md_slot:Slot "method_descriptor" "__get__" "method_descriptor.__get__" :=
 .of (owner := "method_descriptor") (n := "__get__") (by rw [typeLookup_type,builtinLookup_eq_fast]; kernel_rfl) (by decide +kernel) (by decide +kernel) (by decide +kernel)
  (by first | exact .inl (by decide +kernel) | exact .inr (by decide +kernel)) (by rw [isSubtype_type]; kernel_rfl)
theorem md_entry:entryFor table "method_descriptor.__get__" = some Builtin.«method_descriptor.__get__»:=entryFor_of_tree (by kernel_rfl)
theorem md_args (a b c:Value):argsOk "method_descriptor.__get__" ⟨[a,b,c],[]⟩:=by unfold argsOk; kernel_rfl
theorem md_run {a:Addr} {o:Obj} {P:PySem.Fin → Shared → Prop} (ho:s.heap.get? a = some o) (hc:o.cls = .type "dict") (h:P (.done (.ret (.ref s.heap.objs.size))) { s with heap:=s.heap.push (boundObj "dict.get" (.ref a)) }) :
  wpAny (model prog w) A (Builtin.«method_descriptor.__get__» ⟨[.builtin "dict.get",.ref a,.type "dict"],[]⟩) P E s:=by
 unfold Builtin.«method_descriptor.__get__»
 refine wpAny_bind (wpAny_of_eq (a:=(.builtin "dict.get",some (.ref a),some (.type "dict"))) (by first | rfl | kernel_rfl) ?_)
 dsimp only
 rw [if_neg (by decide +kernel)]
 refine wpAny_bind (wpAny_bind (wpAny_of_eq (a:=(Str.ofString "get",Value.type "dict")) (by first | rfl | kernel_rfl) ?_))
 have hT:s.TypeIs (.ref a) "dict" := ⟨_,ho,hc⟩
 refine wpAny_bind (wpAny_isInstance hT (show isSubtype (.type "dict") (.type "dict") = pure true by rw [isSubtype_type]; kernel_rfl) ?_)
 refine wpAny_pure ?_
 exact wpAny_bind (wpAny_newObj_type (wpAny_pure h))
set_option maxRecDepth 8000 in
set_option maxHeartbeats 1000000 in
theorem get_dict_get {a:Addr} {o:Obj} {Q:Value → Shared → Prop} (ho:s.heap.get? a = some o) (he:o.ExactDict) {es:Array DictEntry} {n:Nat} (hd:o.data = .dict es n)
  (h:Q (.ref s.heap.objs.size) { s with heap:=s.heap.push (boundObj "dict.get" (.ref a)),toks:=s.toks + 1 }):wpAny (model prog w) A (getAttr (.ref a) "get" true) Q E s:=by
 obtain ⟨hp,g,d,tk,os⟩:=s
 obtain ⟨c,dct,dat,sl⟩:=o
 obtain ⟨h1,h2,h3⟩:=he
 simp only at h1 h2 h3 hd
 subst h1 h2 h3 hd
 have hT:∀ tk',(⟨hp,g,d,tk',os⟩:Shared).TypeIs (.ref a) "dict" := fun _=>⟨_,ho,rfl⟩
 have f3:=F.slot_dict_getattribute.lookup
 have f4:=F.slot_dict_getattribute.bind (.ref a)
 have f5:=am_dict_getattr_none
 have g1:=F.slot_dict_get.lookup
 have g2:=F.type_dict_get
 have g3:=md_slot.lookup
 have g4:typeLookup (.type "method_descriptor") "__set__" = pure none:=by rw [typeLookup_type,builtinLookup_eq_fast]; kernel_rfl
 have g5:typeLookup (.type "method_descriptor") "__delete__" = pure none:=by rw [typeLookup_type,builtinLookup_eq_fast]; kernel_rfl
 unfold getAttr getAttrBy
 repeat (any_goals (first | assumption | exact hT _ | ((with_reducible show wpAny _ _ (call (Value.builtin "dict.__getattribute__") _ _) _ _ _); refine wpAny_call_entry F.slot_dict_getattribute (hT _) am_entry_dict_getattribute ?_ (F.args_dict_getattribute_2 _ _)) | ((with_reducible show wpAny _ _ (call (Value.builtin "method_descriptor.__get__") _ _) _ _ _); refine wpAny_call_entry md_slot g2 md_entry ?_ (md_args _ _ _)) | ((with_reducible show wpAny _ _ (Builtin.«method_descriptor.__get__» _) _ _ _); refine md_run ho rfl ?_) | wp_step))
 exact ⟨_,rfl,wpAny_pure ⟨_,rfl,wpAny_pure h⟩⟩
theorem keeper_bound {M:Model} {b:Addr} {id:String} {x:Value} {h:Heap} (hb:h.get? b = some (boundObj id x)):Looks M h (keeperOf (.ref b)) .machine:=fun A Q E s k q=>by
 unfold keeperOf
 refine wpAny_bind (wpAny_load (k _ _ hb) ?_)
 simp only [show (Value.type "builtin_function_or_method" != Value.type "method") = true by decide,show (Value.type "builtin_function_or_method" == Value.type "builtin_function_or_method" || Value.type "builtin_function_or_method" == Value.type "method-wrapper") = true by decide,if_true]
 exact wpAny_pure q
end
end
section
section
variable {prog:Program} {w:World} {A:Around} {E:Value → Shared → Prop} {s:Shared}
theorem check_bound {a:Addr} {o:Obj} {T id:String} {vs:List Value} {sg:Manifest.Signature} {Q:Unit → Shared → Prop} (ho:s.heap.get? a = some o) (hcl:o.cls = .type T) (hnc:notCls o = true) (h1:Manifest.signature? id = some sg) (hk:builtinKind id = some .method)
  (h3:Manifest.varargsMethods.contains id = false) (h4:isSubtype (.type T) (.type "module") = pure false) (h6:Bind.checkArgs id { sg with full:=s!"{Bind.lastOf T}.{Bind.lastOf id}" } ⟨.ref a :: vs,[]⟩ = pure ()) (h:Q () s) :
  wpAny (model prog w) A (checkBoundCall id ⟨.ref a :: vs,[]⟩) Q E s:=by
 have hT:s.TypeIs (.ref a) T:=⟨_,ho,hcl⟩
 unfold checkBoundCall
 rw [hk,h1]
 dsimp only
 rw [if_neg (by decide)]
 refine wpAny_bind (wpAny_isInstance hT h4 ?_)
 rw [h3]
 rw [if_neg (by decide)]
 refine wpAny_bind (wpAny_bind (wpAny_loadPart ho (wpAny_pure ?_)))
 rw [if_neg (by
  intro q
  obtain ⟨c,dd,dat,sl⟩:=o
  cases dat <;> first | (cases hnc; done) | (cases q; done))]
 refine wpAny_bind (wpAny_typeOf hT ?_)
 dsimp only
 rw [h6]
 exact wpAny_pure h
theorem sig_dict_get:∃ sg,Manifest.signature? "dict.get" = some sg ∧ ∀ a u v,Bind.checkArgs "dict.get" { sg with full:=s!"{Bind.lastOf "dict"}.{Bind.lastOf "dict.get"}" } ⟨[.ref a,u,v],[]⟩ = pure () := 
 ⟨(Manifest.signature? "dict.get").get (by kernel_rfl),by rw [Option.some_get],fun a u v=>by kernel_rfl⟩
theorem sig_set_contains:∃ sg,Manifest.signature? "set.__contains__" = some sg ∧ ∀ a u,Bind.checkArgs "set.__contains__" { sg with full:=s!"{Bind.lastOf "set"}.{Bind.lastOf "set.__contains__"}" } ⟨[.ref a,u],[]⟩ = pure () := 
 ⟨(Manifest.signature? "set.__contains__").get (by kernel_rfl),by rw [Option.some_get],fun a u=>by kernel_rfl⟩
theorem call_bound {b:Addr} {id:String} {x:Value} {vs:List Value} {bi:Builtin} {Q:Value → Shared → Prop} (hb:s.heap.get? b = some (boundObj id x)) (hc:∀ (Q:Unit → Shared → Prop),Q () s → wpAny (model prog w) A.in1 (checkBoundCall id ⟨x :: vs,[]⟩) Q E s)
  (hq:(Code.builtin id ⟨x :: vs,[]⟩).quiet = true) (he:entryFor table id = some bi)
  (h:wpAny (model prog w) (A.under (Code.builtin id ⟨x :: vs,[]⟩)) (bi ⟨x :: vs,[]⟩) (fun fin s'=>∃ v,fin = .done (.ret v) ∧ Q v s') E s):wpAny (model prog w) A (call (.ref b) vs) Q E s:=by
 refine wpAny_call (codeAny_of_tree ?_)
 show wpAny _ A.in1 (callAny (.ref b) ⟨vs,[]⟩) _ _ s
 simp only [callAny]
 refine wpAny_bind (wpAny_load hb ?_)
 simp only [show (Value.type "builtin_function_or_method" == Value.type "method" || Value.type "builtin_function_or_method" == Value.type "builtin_function_or_method" || Value.type "builtin_function_or_method" == Value.type "method-wrapper") = true by decide,if_true]
 show wpAny _ _ (if (Value.type "builtin_function_or_method" != Value.type "method") = true then (checkBoundCall id ⟨x :: vs,[]⟩ >>= fun _=>again (Code.builtin id ⟨x :: vs,[]⟩)) else _) _ _ s
 rw [if_pos (by decide)]
 refine wpAny_bind (hc _ (wpAny_pure ⟨hq,codeAny_builtin he (wpAny_mono h (fun fin s' z=>?_) fun _ _ z=>z)⟩))
 obtain ⟨v,rfl,z⟩:=z
 exact z
end
end
section
section
variable {prog:Program} {w:World} {A:Around} {E:Value → Shared → Prop} {s:Shared}
theorem entry_set_getattribute:entryFor table "set.__getattribute__" = some Builtin.«object.__getattribute__» :=
 entryFor_alias (id' := "object.__getattribute__") (by kernel_rfl) (by decide +kernel) (by decide +kernel) (by kernel_rfl)
theorem md_run_set {a:Addr} {o:Obj} {P:PySem.Fin → Shared → Prop} (ho:s.heap.get? a = some o) (hc:o.cls = .type "set") (h:P (.done (.ret (.ref s.heap.objs.size))) { s with heap:=s.heap.push (boundObj "set.__contains__" (.ref a)) }) :
  wpAny (model prog w) A (Builtin.«method_descriptor.__get__» ⟨[.builtin "set.__contains__",.ref a,.type "set"],[]⟩) P E s:=by
 unfold Builtin.«method_descriptor.__get__»
 refine wpAny_bind (wpAny_of_eq (a:=(.builtin "set.__contains__",some (.ref a),some (.type "set"))) (by first | rfl | kernel_rfl) ?_)
 dsimp only
 rw [if_neg (by decide +kernel)]
 refine wpAny_bind (wpAny_bind (wpAny_of_eq (a:=(Str.ofString "__contains__",Value.type "set")) (by first | rfl | kernel_rfl) ?_))
 have hT:s.TypeIs (.ref a) "set" := ⟨_,ho,hc⟩
 refine wpAny_bind (wpAny_isInstance hT (show isSubtype (.type "set") (.type "set") = pure true by rw [isSubtype_type]; kernel_rfl) ?_)
 refine wpAny_pure ?_
 exact wpAny_bind (wpAny_newObj_type (wpAny_pure h))
set_option maxRecDepth 8000 in
set_option maxHeartbeats 1000000 in
theorem get_set_contains {a:Addr} {o:Obj} {Q:Value → Shared → Prop} (ho:s.heap.get? a = some o) (he:o.ExactSet) {es:Array (Int × Value)} {n:Nat} {t:SetTable} (hd:o.data = .set es n t)
  (h:Q (.ref s.heap.objs.size) { s with heap:=s.heap.push (boundObj "set.__contains__" (.ref a)),toks:=s.toks + 1 }):wpAny (model prog w) A (getAttr (.ref a) "__contains__" true) Q E s:=by
 obtain ⟨hp,g,d,tk,os⟩:=s
 obtain ⟨c,dct,dat,sl⟩:=o
 obtain ⟨h1,h2,h3⟩:=he
 simp only at h1 h2 h3 hd
 subst h1 h2 h3 hd
 have hT:∀ tk',(⟨hp,g,d,tk',os⟩:Shared).TypeIs (.ref a) "set" := fun _=>⟨_,ho,rfl⟩
 have f3:=F.slot_set_getattribute.lookup
 have f4:=F.slot_set_getattribute.bind (.ref a)
 have f5:typeLookup (.type "set") "__getattr__" = pure none:=by rw [typeLookup_type,builtinLookup_eq_fast]; kernel_rfl
 have g1:=F.slot_set_contains.lookup
 have g2:=F.type_set_contains
 have g3:=md_slot.lookup
 have g4:typeLookup (.type "method_descriptor") "__set__" = pure none:=by rw [typeLookup_type,builtinLookup_eq_fast]; kernel_rfl
 have g5:typeLookup (.type "method_descriptor") "__delete__" = pure none:=by rw [typeLookup_type,builtinLookup_eq_fast]; kernel_rfl
 unfold getAttr getAttrBy
 repeat (any_goals (first | assumption | exact hT _ | ((with_reducible show wpAny _ _ (call (Value.builtin "set.__getattribute__") _ _) _ _ _); refine wpAny_call_entry F.slot_set_getattribute (hT _) entry_set_getattribute ?_ (F.args_set_getattribute_2 _ _)) | ((with_reducible show wpAny _ _ (call (Value.builtin "method_descriptor.__get__") _ _) _ _ _); refine wpAny_call_entry md_slot g2 md_entry ?_ (md_args _ _ _)) | ((with_reducible show wpAny _ _ (Builtin.«method_descriptor.__get__» _) _ _ _); refine md_run_set ho rfl ?_) | wp_step))
 exact ⟨_,rfl,wpAny_pure ⟨_,rfl,wpAny_pure h⟩⟩
theorem set_contains_run {a:Addr} {k:Int} {t:Tok} {S:Int → Bool} {n:Nat} {P:Value → Shared → Prop} (hS:s.heap.SetOf (intKind prog w) a S n) (h:P (.bool (S k)) { s with toks:=s.toks + 1 }) :
  wpAny (model prog w) A (Builtin.«frozenset.__contains__» ⟨[.ref a,.int k t],[]⟩) (fun fin s'=>∃ v,fin = .done (.ret v) ∧ P v s') E s:=by
 have hkey:(intKind prog w).is k (.int k t) = true:=by show Value.isInt k (.int k t) = true; simp [Value.isInt]
 unfold Builtin.«frozenset.__contains__» Builtin.Frozenset.oneOther
 simp only [List.isEmpty_nil,bind_assoc]
 unfold Builtin.Frozenset.addrOf Builtin.Frozenset.withSetAsKey setContains
 refine wpAny_bind (wpAny_pure ?_)
 try dsimp only
 refine wpAny_bind (wpAny_pure ?_)
 try dsimp only
 refine wpAny_bind (wpAny_tryCatch ?_)
 refine wpAny_holding ?_
 refine wpAny_bind ((intKind prog w).pyHash hkey ?_)
 refine wpAny_bind (wpAny_setFind_of (s:={ s with toks:=s.toks + 1 }) hkey rfl hS fun r hr=>?_)
 refine wpAny_pure ?_
 show wpAny _ _ (ret (Value.bool r.isSome)) _ _ _
 rw [hr]
 exact wpAny_pure ⟨_,rfl,h⟩
end
end
section
noncomputable def bnd (id:String) (d:AV):AV:=.raw fun V v=>∃ b x,v = .ref b ∧ V b = some (boundObj id x) ∧ Rep V d x
noncomputable def SetP (prog:Program) (w:World) (S:Int → Bool) (n:Nat) (o:Obj):Prop:=∀ (h:Heap) (a:Addr),h.get? a = some o → h.SetOf (intKind prog w) a S n
noncomputable def setv (prog:Program) (w:World) (S:Int → Bool) (n:Nat):AV:=.raw fun V v=>∃ a o,v = .ref a ∧ V a = some o ∧ SetP prog w S n o
section
variable {prog:Program} {w:World} {F:Fn} {R:PH} {sig sig':List (Option AV)} {om om' om₁:Om} {tau:List (Value × AV)} {s:Shared}
theorem rep_bnd {V:PH} {id:String} {d:AV} {b:Addr} {x:Value} (h:V b = some (boundObj id x)) (r:Rep V d x):Rep V (bnd id d) (.ref b):=by
 unfold bnd
 simp only [Rep]
 exact fun V' hV=>⟨b,x,rfl,hV _ _ h,r.mono hV⟩
theorem bnd_rep {V:PH} {id:String} {d:AV} {v:Value} (h:Rep V (bnd id d) v):∃ b x,v = .ref b ∧ V b = some (boundObj id x) ∧ Rep V d x:=by
 unfold bnd at h
 simp only [Rep] at h
 exact h V (PH.le.refl _)
theorem ev_dict_get (ok:F.Ok) {o:PySem.Expr} {pos:Pos} {f:Int → Option AV} {m:Nat} (h:Ev prog w F sig om o (dct f m))
  (he:eval (.Attribute o "get" pos) F.env = (do
   let ov ← eval o F.env
   standAt pos.atName
   let r ← holding [ov] (getAttr ov "get" true)
   letTemporaryGo o ov r
   pure r):=by with_unfolding_all rfl):Ev prog w F sig om (.Attribute o "get" pos) (bnd "dict.get" (dct f m)):=fun R tau s Q E st hq=>by
 refine Attribute_any_ (h R tau s _ _ st fun v s₁ st₁=>?_) he
 have r1:=st₁.top
 unfold dct at r1
 simp only [Rep] at r1
 obtain ⟨a,o,rfl,hsm,hV,hd⟩:=r1 _ (PH.le.refl _)
 obtain ⟨e1,es,ep,e2,e3,e4,e5⟩:=id hd
 refine get_dict_get (st₁.vget hV) e1 e2 (hq _ _ ?_)
 have k:∀ b o',s₁.heap.get? b = some o' → (s₁.heap.push (boundObj "dict.get" (.ref a))).get? b = some o':=fun b o' e=>Heap.get?_push_of_some _ e
 have st₂:=st₁.grow (tk:=s₁.toks + 1) k
 exact st₂.pop.push (rep_bnd (st₁.new_view ok (Nat.le_refl _) (Heap.get?_push_size _ rfl)) st₂.top)
theorem ev_set_contains (ok:F.Ok) {o:PySem.Expr} {pos:Pos} {S:Int → Bool} {n:Nat} (h:Ev prog w F sig om o (setv prog w S n))
  (he:eval (.Attribute o "__contains__" pos) F.env = (do
   let ov ← eval o F.env
   standAt pos.atName
   let r ← holding [ov] (getAttr ov "__contains__" true)
   letTemporaryGo o ov r
   pure r):=by with_unfolding_all rfl):Ev prog w F sig om (.Attribute o "__contains__" pos) (bnd "set.__contains__" (setv prog w S n)):=fun R tau s Q E st hq=>by
 refine Attribute_any_ (h R tau s _ _ st fun v s₁ st₁=>?_) he
 have r1:=st₁.top
 unfold setv at r1
 simp only [Rep] at r1
 obtain ⟨a,o,rfl,hV,hd⟩:=r1 _ (PH.le.refl _)
 obtain ⟨o',es,ep,t,e0,e1,e2,_⟩:=hd _ _ (st₁.vget hV)
 rw [st₁.vget hV] at e0
 cases e0
 refine get_set_contains (st₁.vget hV) e1 e2 (hq _ _ ?_)
 have k:∀ b o',s₁.heap.get? b = some o' → (s₁.heap.push (boundObj "set.__contains__" (.ref a))).get? b = some o':=fun b o' e=>Heap.get?_push_of_some _ e
 have st₂:=st₁.grow (tk:=s₁.toks + 1) k
 exact st₂.pop.push (rep_bnd (st₁.new_view ok (Nat.le_refl _) (Heap.get?_push_size _ rfl)) st₂.top)
noncomputable def OpB (prog:Program) (w:World) (F:Fn) (om:Om) (id:String) (d₀:AV) (ds:List AV) (d:AV):Prop :=
 ∀ (R:PH) (sig:List (Option AV)) (tau:List (Value × AV)) (b:Addr) (x:Value) (vs:List Value) (s:Shared) (Q:Value → Shared → Prop) (E:Value → Shared → Prop),vs.length = ds.length → s.heap.get? b = some (boundObj id x) → Rep (F.view R om s.heap) d₀ x →
  Sta F R sig om ((vs.zip ds).reverse ++ tau) s → (∀ v s',Sta F R sig om ((v,d) :: tau) s' → Q v s') → wpAny (model prog w) F.A (call (.ref b) vs) Q E s
theorem ev_bcall {func:PySem.Expr} {args:List PySem.Expr} {pos:Pos} {id:String} {d₀:AV} {ds:List AV} {d:AV} (h₁:Ev prog w F sig om func (bnd id d₀)) (h₂:EvL prog w F sig om args ds) (o:OpB prog w F om id d₀ ds d)
  (hc:eval (.Call func args [] pos) F.env = (do callWith pos (← eval func F.env) [] (backTo pos (starEach args F.env)) (backToKw pos (keywordEach [] F.env))):=by rfl)
  (hp:(backTo pos (starEach args F.env)).any (·.1) = false:=by rfl) :
  Ev prog w F sig om (.Call func args [] pos) d:=fun R tau s Q E st h=>by
 rw [hc]
 refine wpAny_bind (h₁ R tau s _ _ st fun v s₁ st₁=>?_)
 obtain ⟨b,x,rfl,hb,rx⟩:=bnd_rep st₁.top
 refine callWith_of (P:=fun h=>∃ x,h.get? b = some (boundObj id x)) (by show ((backTo pos (starEach args F.env)).any (·.1) || false) = false; rw [hp]; rfl) (fun h ⟨x,hb⟩=>⟨.machine,.inr (.inl rfl),keeper_bound hb⟩) (args_run hp (h₂ pos R _ s₁ _ _ st₁ fun vs s₂ hv st₂=>?_))
 obtain ⟨b',x',e,hb',rx'⟩:=bnd_rep (st₂.temps (.ref b,bnd id d₀) (by simp))
 cases e
 refine ⟨⟨x',st₂.vget hb'⟩,o R sig tau b x' vs s₂ _ _ hv (st₂.vget hb') rx' (st₂.temp fun p hp=>st₂.temps p ?_) h⟩
 rcases List.mem_append.mp hp with q | q
 ·exact List.mem_append.mpr (.inl q)
 ·exact List.mem_append.mpr (.inr (List.mem_cons_of_mem _ q))
theorem kd1:builtinKind "dict.get" = some .method:=by decide +kernel
theorem kd2:Manifest.varargsMethods.contains "dict.get" = false:=by decide +kernel
theorem kd3:isSubtype (.type "dict") (.type "module") = pure false:=by rw [isSubtype_type]; kernel_rfl
theorem kd4 (as:Args):(Code.builtin "dict.get" as).quiet = true:=Code.quiet_builtin _ (by decide +kernel)
theorem ks1:builtinKind "set.__contains__" = some .method:=by decide +kernel
theorem ks2:Manifest.varargsMethods.contains "set.__contains__" = false:=by decide +kernel
theorem ks3:isSubtype (.type "set") (.type "module") = pure false:=by rw [isSubtype_type]; kernel_rfl
theorem ks4 (as:Args):(Code.builtin "set.__contains__" as).quiet = true:=Code.quiet_builtin _ (by decide +kernel)
theorem b_dict_get {f:Int → Option AV} {m:Nat} {k:Int} {d₀:AV}:OpB prog w F om "dict.get" (dct f m) [.int k,d₀] ((f k).getD d₀):=fun R sig tau b x vs s Q E hv hb rx st h=>by
 obtain ⟨v₂,v₃,rfl⟩:=len2 hv
 have st':Sta F R sig om ((v₃,d₀) :: (v₂,.int k) :: tau) s:=by simpa using st
 have r2:=st'.top2
 unfold dct at rx
 simp only [Rep] at rx r2
 obtain ⟨t,rfl⟩:=r2
 obtain ⟨a,o,rfl,hsm,hV,hd⟩:=rx _ (PH.le.refl _)
 obtain ⟨g,hm,hz,hg⟩:=hd.map (prog:=prog) (w:=w) (st.vget hV)
 have hkey:(intKind prog w).is k (.int k t) = true:=by show Value.isInt k (.int k t) = true; simp [Value.isInt]
 obtain ⟨sg,g1,g2⟩:=sig_dict_get
 obtain ⟨e1,es,ep,e2,e3,e4,e5⟩:=id hd
 refine call_bound hb (fun Q hq=>check_bound (T := "dict") (st.vget hV) e1.1 (by unfold notCls; rw [e2]) g1 kd1 kd2 kd3 (g2 _ _ _) hq) (kd4 _) PySem.F.entry_dict_get ?_
 show wpAny _ _ (dictGet a (.int k t) >>= _) _ _ s
 refine wpAny_bind (wpAny_dictGet_of hkey hm ?_)
 have hgk:=hg k
 cases hf:f k with
 | some d =>
  rw [hf] at hgk
  obtain ⟨u,e,r⟩:=hgk
  rw [e]
  exact wpAny_pure ⟨u,rfl,h _ _ (st'.pop.pop.tok1.push (by rw [hf]; exact r))⟩
 | none =>
  rw [hf] at hgk
  have:g k = none:=hgk
  rw [this]
  show wpAny _ _ (Builtin.Dict.missed a (.int k t) >>= _) _ _ _
  exact wpAny_bind (wpAny_missed_other hsm (wpAny_pure ⟨v₃,rfl,h _ _ (st'.pop.pop.tok1.push (by rw [hf]; exact st'.top))⟩))
theorem set_check {A:Around} {E:Value → Shared → Prop} {a:Addr} {o:Obj} {u:Value} (ho:s.heap.get? a = some o) (hc:o.cls = .type "set") (hn:notCls o = true) (Q:Unit → Shared → Prop) (hq:Q () s):wpAny (model prog w) A (checkBoundCall "set.__contains__" ⟨.ref a :: [u],[]⟩) Q E s:=by
 obtain ⟨sg,g1,g2⟩:=sig_set_contains
 have g3:=g2 a u
 generalize hfull:(s!"{Bind.lastOf "set"}.{Bind.lastOf "set.__contains__"}") = full at g3
 refine check_bound (T := "set") (id := "set.__contains__") (sg:=sg) ho hc hn g1 ks1 ks2 ks3 ?_ hq
 rw [hfull]
 exact g3
theorem b_set_contains {S:Int → Bool} {n:Nat} {k:Int}:OpB prog w F om "set.__contains__" (setv prog w S n) [.int k] (.bool (S k)):=fun R sig tau b x vs s Q E hv hb rx st h=>by
 obtain ⟨v₂,rfl,st'⟩:=one_of hv st
 have r2:=st'.top
 unfold setv at rx
 simp only [Rep] at rx r2
 obtain ⟨t,rfl⟩:=r2
 obtain ⟨a,o,rfl,hV,hd⟩:=rx _ (PH.le.refl _)
 have ho:=st.vget hV
 have hS:=hd _ _ ho
 have hq:Q (.bool (S k)) { s with toks:=s.toks + 1 }:=h _ _ (st'.pop.tok1.push rep_bool)
 clear h st' st hd hV rx
 obtain ⟨o',es,ep,tt,e0,e1,e2,_⟩:=id hS
 have:o' = o:=by rw [ho] at e0; exact (Option.some.inj e0).symm
 subst this
 have hn:notCls o' = true:=by unfold notCls; rw [e2]
 exact call_bound hb (set_check ho e1.1 hn) (ks4 _) entry_set_contains (set_contains_run hS hq)
theorem set0 {led:Bool}:SetP prog w (fun _=>false) 0 { cls:=.type "set",dict:=none,data:=.set #[] 0 (.fresh 0 0 led) }:=fun h a e =>
 ⟨_,#[],0,_,e,⟨rfl,rfl,rfl⟩,rfl,by intro e he; simp at he,by intro k; simp,by decide,by cases led <;> rfl,rfl⟩
theorem c_set (ok:F.Ok):OpC prog w F om (.type "set") [] (setv prog w (fun _=>false) 0):=fun R sig tau vs s Q E hv st h=>by
 obtain rfl:=len0 hv
 refine call_set_0 fun led=>h _ _ ?_
 have st':Sta F R sig om tau s:=by simpa using st
 have k:∀ b o',s.heap.get? b = some o' → (s.heap.push { cls:=.type "set",dict:=none,data:=.set #[] 0 (.fresh 0 0 led) }).get? b = some o':=fun b o' e=>Heap.get?_push_of_some _ e
 refine (st'.grow (tk:=s.toks) k).push ?_
 unfold setv
 simp only [Rep]
 exact fun V' hV=>⟨_,_,rfl,hV _ _ (st'.new_view ok (Nat.le_refl _) (Heap.get?_push_size _ rfl)),set0⟩
end
end
section
noncomputable def tupl (ds:List AV):AV:=.raw fun V v=>∃ a o vs n,v = .ref a ∧ V a = some o ∧ o.cls = .type "tuple" ∧ o.data = .seq vs n ∧ RepL V ds vs.toList
structure SrcT (prog:Program) (w:World) (A:Around) (xs:List AV) (d':AV) (v:Value) (e it:Addr) (Pt:Nat → Array Value → Prop) (St:Nat → Heap → Prop) (Mid:Nat → Addr → Heap → Prop):Prop where
 walks:∃ fp,WalksT prog w A e fp [e,it] xs.length Pt St Mid ∧ ∀ b ∈ fp,b ≠ e → b ≠ it → ∀ V V',Rep V d' v → Rep V' d' v → ∃ o,V b = some o ∧ V' b = some o
 item:∀ V i vals x,Rep V d' v → Pt i vals → xs[i]? = some x → RepL V [.int i,x] vals.toList
 obj:∀ i h,St i h → (∃ o vs,h.get? e = some o ∧ o.data = .fields vs) ∧ (∃ o vs,h.get? it = some o ∧ o.data = .fields vs)
 objM:∀ i T h,Mid i T h → (∃ o vs,h.get? e = some o ∧ o.data = .fields vs) ∧ (∃ o vs,h.get? it = some o ∧ o.data = .fields vs)
section
variable {prog:Program} {w:World} {F:Fn} {R:PH} {sig sig':List (Option AV)} {om om' om₁:Om} {tau:List (Value × AV)} {s:Shared}
noncomputable def PH.put2 (R:PH) (a b:Addr) (o o':Obj):PH:=(R.put a o).put b o'
theorem put2_none {a b c:Addr} {o o':Obj} (h1:c ≠ a) (h2:c ≠ b):R.put2 a b o o' c = R c:=by unfold PH.put2; rw [PH.put_ne h2,PH.put_ne h1]
theorem put2_some {a b c:Addr} {o o':Obj} (hc:c = a ∨ c = b):∃ z,R.put2 a b o o' c = some z:=by
 unfold PH.put2
 by_cases q:c = b
 ·subst q; exact ⟨_,PH.put_self⟩
 ·rw [PH.put_ne q]; rcases hc with rfl | h
  ·exact ⟨_,PH.put_self⟩
  ·exact absurd h q
theorem put2_a {a b:Addr} {o o':Obj} (h:a ≠ b):R.put2 a b o o' a = some o:=by unfold PH.put2; rw [PH.put_ne h,PH.put_self]
theorem put2_b {a b:Addr} {o o':Obj}:R.put2 a b o o' b = some o':=PH.put_self
theorem Sta.rehide2 {a b:Addr} {o o' p p':Obj} (x:Sta F (R.put2 a b o o') sig om tau s) (hne:a ≠ b) {h':Heap} {tk:Nat} (hk:∀ c z,c ∉ [b,a] → s.heap.get? c = some z → h'.get? c = some z) (ha:h'.get? a = some p) (hb:h'.get? b = some p')
  (hc:¬ ∃ v,o.data = .cell v) (hc':¬ ∃ v,o'.data = .cell v):Sta F (R.put2 a b p p') sig om tau { s with heap:=h',toks:=tk }:=by
 have hk':∀ c z,c ≠ a → c ≠ b → s.heap.get? c = some z → h'.get? c = some z:=fun c z h1 h2=>hk c z (by simp [h1,h2])
 have gne:∀ c z,F.G c = some z → c ≠ a ∧ c ≠ b:=fun c z e=>by
  have g:=(x.g c z e).2.2.2
  refine ⟨fun q=>?_,fun q=>?_⟩
  ·obtain ⟨z',hz⟩:=put2_some (R:=R) (a:=a) (b:=b) (o:=o) (o':=o') (.inl q); rw [hz] at g; cases g
  ·obtain ⟨z',hz⟩:=put2_some (R:=R) (a:=a) (b:=b) (o:=o) (o':=o') (.inr q); rw [hz] at g; cases g
 refine x.move (tk:=tk) (fun c z e=>?_) (fun c z e=>?_) (fun c z e=>?_) (fun c z hD e=>?_) fun c z e hcell=>?_
 ·obtain ⟨c1,c2,c3⟩:=view_cases e
  have h1:c ≠ a:=fun q=>by obtain ⟨z',hz⟩:=put2_some (R:=R) (a:=a) (b:=b) (o:=o) (o':=o') (.inl q); rw [hz] at c2; cases c2
  have h2:c ≠ b:=fun q=>by obtain ⟨z',hz⟩:=put2_some (R:=R) (a:=a) (b:=b) (o:=o) (o':=o') (.inr q); rw [hz] at c2; cases c2
  rw [put2_none h1 h2] at c2
  unfold Fn.view
  rw [if_neg (by rw [put2_none h1 h2,c2]; simpa using c1)]
  rcases c3 with ⟨q,y⟩ | ⟨q,y⟩
  ·rw [if_pos q]; exact y
  ·rw [if_neg q]; exact hk' _ _ h1 h2 y
 ·obtain ⟨h1,h2⟩:=gne c z e
  have g:=x.g c z e
  rw [put2_none h1 h2] at g
  exact ⟨hk' _ _ h1 h2 g.2.2.1,by rw [put2_none h1 h2]; exact g.2.2.2⟩
 ·by_cases q1:c = b
  ·subst q1
   rw [put2_b] at e; cases e
   exact ⟨(x.rf c o' put2_b).1,hb⟩
  ·by_cases q2:c = a
   ·subst q2
    rw [put2_a hne] at e; cases e
    exact ⟨(x.rf c o (put2_a hne)).1,ha⟩
   ·rw [put2_none q2 q1] at e
    have:=x.rf c z (by rw [put2_none q2 q1]; exact e)
    exact ⟨this.1,hk' _ _ q2 q1 this.2⟩
 ·exact hk' c z (fun q=>by subst q; exact (x.rf c o (put2_a hne)).1 hD) (fun q=>by subst q; exact (x.rf c o' put2_b).1 hD) e
 ·have h1:c ≠ a:=fun q=>by subst q; rw [put2_a hne] at e; cases e; exact hc hcell
  have h2:c ≠ b:=fun q=>by subst q; rw [put2_b] at e; cases e; exact hc' hcell
  rw [put2_none h1 h2] at e ⊢
  exact e
theorem Sta.unhide2 {a b:Addr} {o o':Obj} (x:Sta F (R.put2 a b o o') sig om tau s) (hne:a ≠ b) (hRa:R a = none) (hRb:R b = none) {h':Heap} {tk:Nat} (hk:∀ c z,c ∉ [b,a] → s.heap.get? c = some z → h'.get? c = some z)
  (hc:¬ ∃ v,o.data = .cell v) (hc':¬ ∃ v,o'.data = .cell v):Sta F R sig om tau { s with heap:=h',toks:=tk }:=by
 have hk':∀ c z,c ≠ a → c ≠ b → s.heap.get? c = some z → h'.get? c = some z:=fun c z h1 h2=>hk c z (by simp [h1,h2])
 have gne:∀ c z,F.G c = some z → c ≠ a ∧ c ≠ b:=fun c z e=>by
  have g:=(x.g c z e).2.2.2
  refine ⟨fun q=>?_,fun q=>?_⟩
  ·obtain ⟨z',hz⟩:=put2_some (R:=R) (a:=a) (b:=b) (o:=o) (o':=o') (.inl q); rw [hz] at g; cases g
  ·obtain ⟨z',hz⟩:=put2_some (R:=R) (a:=a) (b:=b) (o:=o) (o':=o') (.inr q); rw [hz] at g; cases g
 refine x.move (tk:=tk) (fun c z e=>?_) (fun c z e=>?_) (fun c z e=>?_) (fun c z hD e=>?_) fun c z e hcell=>?_
 ·obtain ⟨c1,c2,c3⟩:=view_cases e
  have h1:c ≠ a:=fun q=>by obtain ⟨z',hz⟩:=put2_some (R:=R) (a:=a) (b:=b) (o:=o) (o':=o') (.inl q); rw [hz] at c2; cases c2
  have h2:c ≠ b:=fun q=>by obtain ⟨z',hz⟩:=put2_some (R:=R) (a:=a) (b:=b) (o:=o) (o':=o') (.inr q); rw [hz] at c2; cases c2
  rw [put2_none h1 h2] at c2
  unfold Fn.view
  rw [if_neg (by rw [c2]; simpa using c1)]
  rcases c3 with ⟨q,y⟩ | ⟨q,y⟩
  ·rw [if_pos q]; exact y
  ·rw [if_neg q]; exact hk' _ _ h1 h2 y
 ·obtain ⟨h1,h2⟩:=gne c z e
  have g:=x.g c z e
  rw [put2_none h1 h2] at g
  exact ⟨hk' _ _ h1 h2 g.2.2.1,g.2.2.2⟩
 ·have q1:c ≠ b:=fun q=>by subst q; rw [hRb] at e; cases e
  have q2:c ≠ a:=fun q=>by subst q; rw [hRa] at e; cases e
  have:=x.rf c z (by rw [put2_none q2 q1]; exact e)
  exact ⟨this.1,hk' _ _ q2 q1 this.2⟩
 ·exact hk' c z (fun q=>by subst q; exact (x.rf c o (put2_a hne)).1 hD) (fun q=>by subst q; exact (x.rf c o' put2_b).1 hD) e
 ·have h1:c ≠ a:=fun q=>by subst q; rw [put2_a hne] at e; cases e; exact hc hcell
  have h2:c ≠ b:=fun q=>by subst q; rw [put2_b] at e; cases e; exact hc' hcell
  rw [put2_none h1 h2] at e
  exact e
theorem unpack_tupl (ok:F.Ok) {v:Value} {ds:List AV} {n:Nat} (hn:n = ds.length) (st:Sta F R sig om ((v,tupl ds) :: tau) s) {Q:List Value → Shared → Prop} {E:Value → Shared → Prop}
  (h:∀ vs s',vs.length = ds.length → Sta F R sig om ((vs.zip ds) ++ (v,tupl ds) :: tau) s' → Q vs s'):wpAny (model prog w) F.A (unpackItems v n none) Q E s:=by
 have h1:=st.top
 unfold tupl at h1
 simp only [Rep] at h1
 obtain ⟨a,o,vs,k,rfl,ho,hc,hd,r⟩:=h1 _ (PH.le.refl _)
 have e:=r.length
 simp only [Array.length_toList] at e
 rw [hn,← e]
 refine wpAny_unpackItems_tuple ok.handled ⟨_,st.vget ho,hc,k,hd⟩ fun h' he=>?_
 have st':=st.ext (tk:=s.toks) he
 refine h _ _ (by simpa using e) (st'.temp fun p hp=>?_)
 rcases List.mem_append.mp hp with hp | hp
 ·have r':=r.mono (F.view_grow (R:=R) (om:=om) fun b o e=>he b o (fun q=>Nat.lt_irrefl _ (q ▸ Heap.lt_size e)) e)
  obtain ⟨i,hi,e'⟩:=List.getElem_of_mem hp
  rw [List.getElem_zip] at e'
  subst e'
  obtain ⟨u,hu,ru⟩:=r'.get (i:=i) (d:=ds[i]'(by simp at hi; lia)) (by simp)
  have:u = vs.toList[i]'(by simp at hi ⊢; lia):=by
   rw [List.getElem?_eq_getElem (by simp at hi ⊢; lia)] at hu; exact (Option.some.inj hu).symm
  subst this
  exact ru
 ·exact st'.temps p hp
theorem as_tupl (ok:F.Ok) {ts:List PySem.Expr} {k:Nat} {pos:Pos} {ds:List AV} (h:AsL prog w F om ts ds sig sig') (hl:ts.length = ds.length)
  (hf:(assignEach ts F.env).findIdx? (·.1) = none:=by rfl) (hle:(assignEach ts F.env).length = ts.length:=by rfl):As prog w F om (.Tuple ts k pos) (tupl ds) sig sig':=fun R tau v s Q E st hq=>by
 show wpAny _ _ (do standAt pos; unpack v (assignEach ts F.env)) Q E s
 refine wpAny_bind (wpAny_standAt ?_)
 unfold unpack
 rw [hf,hle]
 refine wpAny_bind (wpAny_holding (unpack_tupl ok hl st fun vs s' hv st'=>?_))
 exact h R _ vs s' _ _ hv st' hq
end
end
section
section
variable {prog:Program} {w:World} {F:Fn} {R:PH} {sig sig':List (Option AV)} {om om' om₁:Om} {tau:List (Value × AV)} {s:Shared}
theorem Sta.hide2 (ok:F.Ok) (x:Sta F R sig om tau s) {a b:Addr} {oa ob:Obj} {h':Heap} {tk:Nat} (ha:s.heap.objs.size ≤ a) (hb:s.heap.objs.size ≤ b) (hne:a ≠ b) (k:∀ c z,s.heap.get? c = some z → h'.get? c = some z) (hoa:h'.get? a = some oa) (hob:h'.get? b = some ob) :
  Sta F (R.put2 a b oa ob) sig om tau { s with heap:=h',toks:=tk }:=by
 have ne:∀ c z,s.heap.get? c = some z → c ≠ a ∧ c ≠ b:=fun c z e=>by
  have:=Heap.lt_size e
  exact ⟨fun q=>absurd this (by rw [q]; exact Nat.not_lt.mpr ha),fun q=>absurd this (by rw [q]; exact Nat.not_lt.mpr hb)⟩
 refine x.move (tk:=tk) (fun c z e=>?_) (fun c z e=>?_) (fun c z e=>?_) (fun c z _ e=>k c z e) fun c z e hcell=>?_
 ·obtain ⟨h1,h2⟩:=ne c z (x.vget e)
  obtain ⟨c1,c2,c3⟩:=view_cases e
  unfold Fn.view
  rw [if_neg (by rw [put2_none h1 h2,c2]; simpa using c1)]
  rcases c3 with ⟨q,y⟩ | ⟨q,y⟩
  ·rw [if_pos q]; exact y
  ·rw [if_neg q]; exact k _ _ y
 ·have g:=x.g c z e
  obtain ⟨h1,h2⟩:=ne c z g.2.2.1
  exact ⟨k _ _ g.2.2.1,by rw [put2_none h1 h2]; exact g.2.2.2⟩
 ·by_cases q1:c = b
  ·subst q1
   rw [put2_b] at e; cases e
   exact ⟨(x.fresh ok hb).1,hob⟩
  ·by_cases q2:c = a
   ·subst q2
    rw [put2_a hne] at e; cases e
    exact ⟨(x.fresh ok ha).1,hoa⟩
   ·rw [put2_none q2 q1] at e
    exact ⟨(x.rf _ _ e).1,k _ _ (x.rf _ _ e).2⟩
 ·obtain ⟨h1,h2⟩:=ne c z (x.rf _ _ e).2
  rw [put2_none h1 h2]; exact e
noncomputable def Enu (prog:Program) (w:World) (F:Fn) (om:Om) (d:AV) (xs:List AV):Prop :=
 ∀ (R:PH) (sig:List (Option AV)) (tau:List (Value × AV)) (v:Value) (s:Shared) (Q:Value → Shared → Prop) (E:Value → Shared → Prop),Sta F R sig om ((v,d) :: tau) s →
  (∀ e it d' Pt St Mid oe oi s',SrcT prog w F.A xs d' v e it Pt St Mid → it ≠ e → R e = none → R it = none → St 0 s'.heap → s'.heap.get? e = some oe → s'.heap.get? it = some oi → Sta F (R.put2 it e oi oe) sig om ((v,d') :: tau) s' → Q (.ref e) s') → wpAny (model prog w) F.A (call (.type "enumerate") [v]) Q E s
theorem enu_list (ok:F.Ok) {l:List AV}:Enu prog w F om (.lst l) l:=fun R sig tau v s Q E st h=>by
 have h1:=st.top
 simp only [Rep] at h1
 obtain ⟨a,vs,n,rfl,o,r⟩:=h1
 have e:=r.length
 simp only [Array.length_toList] at e
 have L:s.heap.IsList a vs:=⟨_,st.vget o,rfl,n,rfl⟩
 have hlt:=Heap.lt_size (st.vget o)
 refine call_enumerate_list L fun h' he hi hsz hk=>?_
 obtain ⟨oi,hoi,hic,hid⟩:=id hi
 have W:=WalksT.enumerate (prog:=prog) (w:=w) (A:=F.A) ok.handled (s.heap.objs.size + 1) s.heap.objs.size a (Nat.succ_ne_self _) (Nat.ne_of_lt (Nat.lt_succ_of_lt hlt)) (Nat.ne_of_lt hlt) vs
 have st':=(st.push (v:=.ref a) (d:=.raw fun V u=>u = .ref a ∧ V a = some { cls:=.type "list",data:=.seq vs n } ∧ RepL V l vs.toList) (by simp only [Rep]; exact fun V' hV=>⟨trivial,hV _ _ o,r.mono hV⟩)).hide2 (tk:=s.toks) ok (Nat.le_refl s.heap.objs.size) (Nat.le_succ _) (Nat.ne_of_lt (Nat.lt_succ_self _)) hk hoi he
 refine h (s.heap.objs.size + 1) s.heap.objs.size (.raw fun V u=>u = .ref a ∧ V a = some { cls:=.type "list",data:=.seq vs n } ∧ RepL V l vs.toList) _ _ _ _ oi _ ⟨⟨_,e ▸ W,?_⟩,?_,?_,?_⟩ (Nat.ne_of_lt (Nat.lt_succ_self _)) (st.freshR (Nat.le_succ _)) (st.freshR (Nat.le_refl _)) ⟨⟨_,he⟩,hi,_,hk _ _ (st.vget o),rfl,n,rfl⟩ he hoi (st'.temp fun p hp=>st'.temps p ?_)
 ·intro b hb h1 h2 V V' q q'
  simp only [Rep] at q q'
  have:b = a:=by simpa [h1,h2] using hb
  subst this
  exact ⟨_,(q V (PH.le.refl _)).2.1,(q' V' (PH.le.refl _)).2.1⟩
 ·rintro V i vals x q ⟨t,y,hy,rfl⟩ hx
  simp only [Rep] at q
  obtain ⟨u,hu,ru⟩:=(q V (PH.le.refl _)).2.2.get hx
  have:u = y:=by
   have hy':vs.toList[i]? = some y:=by simpa using hy
   rw [hy'] at hu; exact (Option.some.inj hu).symm
  subst this
  exact .cons rep_int (.cons ru .nil)
 ·rintro i g ⟨⟨old,h1⟩,⟨oo,h2,_,h3⟩,_⟩
  exact ⟨⟨_,_,h1,rfl⟩,⟨oo,_,h2,h3⟩⟩
 ·rintro i T g ⟨⟨old,h1⟩,⟨oo,h2,_,h3⟩,_⟩
  exact ⟨⟨_,_,h1,rfl⟩,⟨oo,_,h2,h3⟩⟩
 ·rcases List.mem_cons.mp hp with rfl | hp
  ·exact List.mem_cons_self
  ·exact List.mem_cons_of_mem _ (List.mem_cons_of_mem _ hp)
structure OwnT (prog:Program) (w:World) (A:Around) (I:Addr) (fp wr:List Addr) (n:Nat) (Pt:Nat → Array Value → Prop) (St:Nat → Heap → Prop) (Mid:Nat → Addr → Heap → Prop):Prop where
 frame:∀ i h h',St i h → (∀ b ∈ fp,∀ o,h.get? b = some o → h'.get? b = some o) → St i h'
 item:∀ i (s:Shared) (Q:Option Value → Shared → Prop) (E:Value → Shared → Prop),i < n → St i s.heap →
  (∀ T vals h' tk,Pt i vals → s.heap.objs.size ≤ T → h'.IsTuple T vals → Mid i T h' → (∀ b o,b ∉ wr → s.heap.get? b = some o → h'.get? b = some o) → Q (some (.ref T)) { s with heap:=h',toks:=tk }) →
  wpAny (model prog w) A (pyNext (.ref I)) Q E s
 go:∀ (elts:List PySem.Expr) (k:Nat) (pos:Pos) i T (s:Shared) (Q:Unit → Shared → Prop) (E:Value → Shared → Prop),Mid i T s.heap →
  (∀ h',St (i + 1) h' → (∀ b o,b ∉ wr → s.heap.get? b = some o → h'.get? b = some o) → Q () { s with heap:=h' }) →
  wpAny (model prog w) A (letOwnedTupleGo (.Tuple elts k pos) (.ref I) (.ref T)) Q E s
 apart:∀ i T h,Mid i T h → T ∉ wr
 done:∀ (s:Shared) (Q:Option Value → Shared → Prop) (E:Value → Shared → Prop),St n s.heap →
  (∀ h' tk,(∀ b o,b ∉ wr → s.heap.get? b = some o → h'.get? b = some o) → Q none { s with heap:=h',toks:=tk }) → wpAny (model prog w) A (pyNext (.ref I)) Q E s
theorem OwnT.of {prog:Program} {w:World} {A:Around} {I:Addr} {fp wr:List Addr} {n:Nat} {Pt:Nat → Array Value → Prop} {St:Nat → Heap → Prop} {Mid:Nat → Addr → Heap → Prop} (W:WalksT prog w A I fp wr n Pt St Mid):OwnT prog w A I fp wr n Pt St Mid:=⟨W.frame,W.item,W.go,W.apart,W.done⟩
theorem own_loop (ok:F.Ok) {ts:List PySem.Expr} {kk:Nat} {tp:Pos} {body:List Stmt} {P:Out → Prop} {Q:Flow → Shared → Prop} {E:Value → Shared → Prop} {N:Nat} {dss:Nat → List AV} {v:Value} {d':AV} {e it:Addr} {oe oi:Obj} {fp:List Addr} {Pt:Nat → Array Value → Prop} {St:Nat → Heap → Prop} {Mid:Nat → Addr → Heap → Prop}
  (W:OwnT prog w F.A e fp [e,it] N Pt St Mid) (hobj:∀ i h,St i h → (∃ o vs,h.get? e = some o ∧ o.data = .fields vs) ∧ (∃ o vs,h.get? it = some o ∧ o.data = .fields vs)) (hobjM:∀ i T h,Mid i T h → (∃ o vs,h.get? e = some o ∧ o.data = .fields vs) ∧ (∃ o vs,h.get? it = some o ∧ o.data = .fields vs))
  (hne:it ≠ e) (hRe:R e = none) (hRi:R it = none) (Inv:Nat → List (Option AV) → Om → Prop)
  (hfp:∀ b ∈ fp,b ≠ e → b ≠ it → ∀ ob,∀ i oi oe sig om (s:Shared),Inv i sig om → Sta F (R.put2 it e oi oe) sig om ((v,d') :: tau) s → s.heap.get? b = some ob → ∀ i oi oe sig om (s:Shared),Inv i sig om → Sta F (R.put2 it e oi oe) sig om ((v,d') :: tau) s → s.heap.get? b = some ob)
  (hitem:∀ i oi oe sig om (s:Shared) vals,i < N → Inv i sig om → Sta F (R.put2 it e oi oe) sig om ((v,d') :: tau) s → Pt i vals → RepL (F.view (R.put2 it e oi oe) om s.heap) (dss i) vals.toList)
  (turn:∀ (i:Nat) sig om,i < N → Inv i sig om → ∃ sig₁,As prog w F om (.Tuple ts kk tp) (tupl (dss i)) sig sig₁ ∧ Ex prog w F sig₁ om body fun o=>match o with
   | .nxt sig' om'=>Inv (i + 1) sig' om'
   | .cnt sig' om'=>Inv (i + 1) sig' om'
   | .brk sig' om'=>P (.nxt sig' om')
   | .ret d sig' om'=>P (.ret d sig' om'))
  (done:∀ sig om,Inv N sig om → P (.nxt sig om)) (h0:Inv 0 sig om) (hst:St 0 s.heap) (hoe:s.heap.get? e = some oe) (hoi:s.heap.get? it = some oi) (st₃:Sta F (R.put2 it e oi oe) sig om ((v,d') :: tau) s)
  (hq:∀ o f s',P o → Lands F R tau o f s' → Q f s') :
  codeAny (model prog w) F.A (Code.forLoop (.Tuple ts kk tp) (.ref e) body [] F.env) (fun r s'=>match r with | .ok f=>Q f s' | .error e=>cameBackBy (model prog w) F.A F.env E e s') s:=by
 have nc:∀ {o:Obj} {vs:Array Value},o.data = .fields vs → ¬ ∃ v,o.data = .cell v:=fun h=>not_cell h
 refine codeAny_loop' rfl (fun n s'=>∃ i sig om oe oi,i ≤ N ∧ n = N + 1 - i ∧ Inv i sig om ∧ St i s'.heap ∧ s'.heap.get? e = some oe ∧ s'.heap.get? it = some oi ∧ Sta F (R.put2 it e oi oe) sig om ((v,d') :: tau) s') (fun n s' hI'=>?_) (N + 1)
  ⟨0,sig,om,oe,oi,Nat.zero_le _,rfl,h0,hst,hoe,hoi,st₃⟩
 refine ex5 hI' fun i sig om oe oi H=>?_
 have hi:=H.1
 have hn:=H.2.1
 have inv:=H.2.2.1
 have hst:=H.2.2.2.1
 have hoe:=H.2.2.2.2.1
 have hoi:=H.2.2.2.2.2.1
 have st:=H.2.2.2.2.2.2
 clear H hI'
 subst hn
 show wpAny _ _ ((forTurn (.Tuple ts kk tp) (.ref e) body [] F.env).onRaise (fun x=>do noteFrame x F.env; theTreesLotGoes x)) _ _ s'
 refine wpAny_noted ?_
 simp only [forTurn]
 refine wpAny_bind (wpAny_standAt (wpAny_bind (wpAny_onRaise ?_)))
 have cell2:∀ {h:Heap} {oe oi:Obj},((∃ o vs,h.get? e = some o ∧ o.data = .fields vs) ∧ (∃ o vs,h.get? it = some o ∧ o.data = .fields vs)) → h.get? e = some oe → h.get? it = some oi → (¬ ∃ v,oi.data = .cell v) ∧ ¬ ∃ v,oe.data = .cell v:=fun ⟨⟨o1,v1,a1,b1⟩,⟨o2,v2,a2,b2⟩⟩ q1 q2=>by
  rw [q1] at a1; cases a1
  rw [q2] at a2; cases a2
  exact ⟨nc b2,nc b1⟩
 have ci:=(cell2 (hobj i _ hst) hoe hoi).1
 have ce:=(cell2 (hobj i _ hst) hoe hoi).2
 by_cases hlt:i < N
 ·refine W.item i s' _ _ hlt hst fun T vals h' tk hPt hT hTup hMid hk=>?_
  refine ex2 (hobjM _ _ _ hMid).1 fun oe₁ v1 H1=>ex2 (hobjM _ _ _ hMid).2 fun oi₁ v2 H2=>?_
  have a1:=H1.1
  have b1:=H1.2
  have a2:=H2.1
  have b2:=H2.2
  have st₁:=st.rehide2 (tk:=tk) hne hk a2 a1 ci ce
  refine wpAny_bind (W.go ts kk tp i T { s' with heap:=h',toks:=tk } _ _ hMid fun h'' hst'' hk''=>?_)
  refine ex2 (hobj _ _ hst'').1 fun oe₂ v3 H3=>ex2 (hobj _ _ hst'').2 fun oi₂ v4 H4=>?_
  have a3:=H3.1
  have b3:=H3.2
  have a4:=H4.1
  have b4:=H4.2
  have st₂:=st₁.rehide2 (tk:=tk) hne hk'' a4 a3 (nc b2) (nc b1)
  have hTw:=W.apart _ _ _ hMid
  have rx:Rep (F.view (R.put2 it e oi₂ oe₂) om h'') (tupl (dss i)) (.ref T):=by
   obtain ⟨oT,hoT,hTc,nT,hTd⟩:=hTup
   have hoT'':h''.get? T = some oT:=hk'' _ _ hTw hoT
   unfold tupl
   simp only [Rep]
   refine fun V' hV=>⟨T,oT,vals,nT,rfl,hV _ _ ?_,hTc,hTd,(hitem i _ _ _ _ _ vals hlt inv st₂ hPt).mono hV⟩
   have f:=st.fresh ok hT
   have hTe:T ≠ e:=fun q=>hTw (by simp [q])
   have hTi:T ≠ it:=fun q=>hTw (by simp [q])
   have hRT:R T = none:=by
    have:=st.freshR hT
    rw [put2_none hTi hTe] at this; exact this
   unfold Fn.view
   rw [if_neg (by rw [put2_none hTi hTe,hRT]; simpa using f.1),if_neg f.2]
   exact hoT''
  refine ex1 (turn i sig om hlt inv) fun sig₁ HT=>?_
  refine wpAny_bind (HT.1 (R.put2 it e oi₂ oe₂) _ (.ref T) _ _ _ (st₂.push rx) fun s₃ st₃=>?_)
  refine wpAny_bind (HT.2 (R.put2 it e oi₂ oe₂) _ s₃ _ _ st₃.pop fun out f s₄ hout hl=>?_)
  have goes:∀ sig' om',Inv (i + 1) sig' om' → Sta F (R.put2 it e oi₂ oe₂) sig' om' ((v,d') :: tau) s₄ → ∃ m,m < N + 1 - i ∧ ∃ i sig om oe oi,i ≤ N ∧ m = N + 1 - i ∧ Inv i sig om ∧ St i s₄.heap ∧ s₄.heap.get? e = some oe ∧ s₄.heap.get? it = some oi ∧ Sta F (R.put2 it e oi oe) sig om ((v,d') :: tau) s₄:=fun sig' om' hinv st₄=>by
   have he₄:s₄.heap.get? e = some oe₂:=(st₄.rf e oe₂ put2_b).2
   have hi₄:s₄.heap.get? it = some oi₂:=(st₄.rf it oi₂ (put2_a hne)).2
   refine ⟨N + 1 - (i + 1),Nat.sub_lt_sub_left (Nat.lt_succ_of_lt hlt) (Nat.lt_succ_self i),i + 1,sig',om',oe₂,oi₂,hlt,rfl,hinv,W.frame _ _ _ hst'' fun b hb ob q=>?_,he₄,hi₄,st₄⟩
   by_cases hbe:b = e
   ·subst hbe; rw [a3] at q; cases q; exact he₄
   ·by_cases hbi:b = it
    ·subst hbi; rw [a4] at q; cases q; exact hi₄
    ·exact hfp b hb hbe hbi ob _ _ _ _ _ _ inv st₂ q _ _ _ _ _ _ hinv st₄
  have ends:∀ sig' om' tau',Sta F (R.put2 it e oi₂ oe₂) sig' om' tau' s₄ → Sta F R sig' om' tau' s₄:=fun sig' om' tau' st₄=>st₄.unhide2 (tk:=s₄.toks) hne hRi hRe (fun _ _ _ q=>q) (nc b4) (nc b3)
  cases out <;> cases f <;> first | exact False.elim hl | change Sta _ _ _ _ _ _ at hl
  ·exact wpAny_pure (.inl ⟨rfl,goes _ _ hout hl⟩)
  ·exact wpAny_pure (hq (.nxt _ _) .next _ hout (ends _ _ _ hl).pop)
  ·exact wpAny_pure (.inl ⟨rfl,goes _ _ hout hl⟩)
  ·refine wpAny_pure (hq (.ret _ _ _) (.ret _) _ hout ?_)
   show Sta F R _ _ ((_,_) :: tau) s₄
   have:=ends _ _ _ hl
   exact this.temp fun p hp=>this.temps p (by rcases List.mem_cons.mp hp with rfl | hp <;> simp [*])
 ·have hi':i = N:=by omega
  subst hi'
  refine W.done s' _ _ hst fun h' tk hk=>?_
  refine wpAny_pure (.inr ⟨rfl,codeAny_block (wpAny_execs_nil ?_)⟩)
  exact hq (.nxt sig om) .next _ (done _ _ inv) (st.unhide2 (tk:=tk) hne hRi hRe hk ci ce).pop
theorem ex_enum (ok:F.Ok) {ts:List PySem.Expr} {kk:Nat} {tp:Pos} {func b:PySem.Expr} {body:List Stmt} {pos cpos:Pos} {d:AV} {xs:List AV} {P:Out → Prop} (hf:Ev prog w F sig om func (.raw fun _ u=>u = .type "enumerate")) (hb:EvL prog w F sig om [b] [d]) (en:Enu prog w F om d xs)
  (Inv:Nat → List (Option AV) → Om → Prop) (h0:Inv 0 sig om)
  (turn:∀ (i:Nat) (x:AV) sig om,xs[i]? = some x → Inv i sig om → ∃ sig₁,As prog w F om (.Tuple ts kk tp) (tupl [.int i,x]) sig sig₁ ∧ Ex prog w F sig₁ om body fun o=>match o with
   | .nxt sig' om'=>Inv (i + 1) sig' om'
   | .cnt sig' om'=>Inv (i + 1) sig' om'
   | .brk sig' om'=>P (.nxt sig' om')
   | .ret d sig' om'=>P (.ret d sig' om'))
  (done:∀ sig om,Inv xs.length sig om → P (.nxt sig om))
  (hs:∀ x,foldedSetIterable (.Call func [b] [] cpos) F.env x = pure x:=by intro _; rfl)
  (hc:eval (.Call func [b] [] cpos) F.env = (do callWith cpos (← eval func F.env) [] (backTo cpos (starEach [b] F.env)) (backToKw cpos (keywordEach [] F.env))):=by rfl)
  (hp:(backTo cpos (starEach [b] F.env)).any (·.1) = false:=by rfl):Ex1 prog w F sig om (.For (.Tuple ts kk tp) (.Call func [b] [] cpos) body [] pos) P:=fun R tau s Q E st hq=>by
 refine wpAny_For ?_ hs
 rw [hc]
 refine wpAny_bind (hf R tau s _ _ st fun v s₁ st₁=>?_)
 have:=st₁.top
 simp only [Rep] at this
 obtain rfl:=this _ (PH.le.refl _)
 refine callWith_of (P:=fun h=>∀ b o,F.G b = some o → h.get? b = some o) (by show ((backTo cpos (starEach [b] F.env)).any (·.1) || false) = false; rw [hp]; rfl) callee_type (args_run hp (hb cpos R tau s₁ _ _ st₁.pop fun vs s₂ hv st₂=>?_))
 refine ⟨fun b o e=>(st₂.g b o e).2.2.1,?_⟩
 obtain ⟨v,rfl,st₂⟩:=one_of hv st₂
 refine en R sig tau v s₂ _ _ st₂ fun e it d' Pt St Mid oe oi s₃ src hne hRe hRi hst hoe hoi st₃=>?_
 obtain ⟨⟨fp,W,hfp⟩,hitem,hobj,hobjM⟩:=src
 refine W.self 0 _ _ _ hst ?_
 refine own_loop (dss:=fun i=>[.int i,xs.getD i .none]) ok (OwnT.of W) hobj hobjM hne hRe hRi Inv ?_ ?_ ?_ done h0 hst hoe hoi st₃ hq
 ·intro b hb hbe hbi ob i oi oe sig om s _ x q i' oi' oe' sig' om' s' _ x'
  obtain ⟨ob',q1,q2⟩:=hfp b hb hbe hbi _ _ x.top x'.top
  have:=x.vget q1
  rw [q] at this
  cases this
  exact x'.vget q2
 ·intro i oi oe sig om s vals hi _ x hPt
  exact hitem _ i vals _ x.top hPt (by simp [List.getD,hi])
 ·intro i sig om hi inv
  exact turn i _ sig om (by simp [List.getD,hi]) inv
end
end
section
section
variable {prog:Program} {w:World} {F:Fn} {R:PH} {sig sig':List (Option AV)} {om om' om₁:Om} {tau:List (Value × AV)} {s:Shared} {K:Frag}
theorem enu_str0 (ok:F.Ok) {x:PySem.Str} (hx:x.cps.size = 0) (hty:strIterType x = "str_ascii_iterator"):Enu prog w F om (.str x) []:=fun R sig tau v s Q E st h=>by
 have h1:=st.top
 simp only [Rep] at h1
 obtain ⟨t,rfl⟩:=h1
 refine call_enumerate_str fun h' he hi hsz hk=>?_
 rw [hty] at hi
 obtain ⟨oi,hoi,hic,hid⟩:=id hi
 have D:=Draws.strAscii (prog:=prog) (w:=w) (A:=F.A.in1) ok.handled s.heap.objs.size x t
 have W:=WalksT.enumerateD D (s.heap.objs.size + 1) (Nat.succ_ne_self _) (by simp) (by simp)
 rw [hx] at W
 have st':=(st.push (v:=.str x t) (d:=.raw fun V u=>True) (by simp only [Rep]; exact fun V' hV=>trivial)).hide2 (tk:=s.toks) ok (Nat.le_refl s.heap.objs.size) (Nat.le_succ _) (Nat.ne_of_lt (Nat.lt_succ_self _)) hk hoi he
 refine h (s.heap.objs.size + 1) s.heap.objs.size (.raw fun V u=>True) _ _ _ _ oi _ ⟨⟨_,W,?_⟩,?_,?_,?_⟩ (Nat.ne_of_lt (Nat.lt_succ_self _)) (st.freshR (Nat.le_succ _)) (st.freshR (Nat.le_refl _)) ⟨⟨_,he⟩,hi⟩ he hoi (st'.temp fun p hp=>st'.temps p ?_)
 ·intro b hb h1 h2; exact absurd (by simpa [h1] using hb) h2
 ·intro V i vals x q _ hx; cases hx
 ·rintro i g ⟨⟨old,h1⟩,⟨oo,h2,_,h3⟩⟩
  exact ⟨⟨_,_,h1,rfl⟩,⟨oo,_,h2,h3⟩⟩
 ·rintro i T g ⟨⟨old,h1⟩,⟨oo,h2,_,h3⟩,_⟩
  exact ⟨⟨_,_,h1,rfl⟩,⟨oo,_,h2,h3⟩⟩
 ·rcases List.mem_cons.mp hp with rfl | hp
  ·exact List.mem_cons_self
  ·exact List.mem_cons_of_mem _ (List.mem_cons_of_mem _ hp)
theorem gets_inst {C x dx:Addr} {as:List (PySem.Str × AV)} {name:PySem.Str} {f:Addr} (hk:SeesK K F.G) (hp:plainCls K C = true) (hf:findIn K (.ref C) name = some (some (.ref f))) (ht:typeIn K (.ref f) = some (.type "function")) (hm:(dx,AttO as) ∈ om) (hl:as.lookup name = none) :
  Gets prog w F om (inst C x dx) name (.ref f):=fun R sig tau v s pl Q E st h=>by
 obtain ⟨rfl,h1,es,n,h2,h3,I⟩:=st.instAt st.top hm
 have g:=h3.get name
 rw [hl] at g
 exact method_fn (st.inK hk) I (plainCls_out hp).2.1 (plainCls_out hp).2.2.1 hf ht (by show ((lookIn name (dictOf es n)).map (·.isSome)) = some false; rw [lookIn_dict,show getL name es = some none from g]; rfl) h
theorem callee_fn {f:Addr} {o:Obj} {fd:FuncData} (h:F.G f = some o) (hd:o.data = .func fd):Callee prog w F (.ref f):=fun hp hG=>⟨.frame,.inl rfl,fun A Q E s k q=>by
 unfold keeperOf
 refine wpAny_bind (wpAny_load (k _ _ (hG _ _ h)) ?_)
 rw [hd]
 exact wpAny_pure q⟩
end
end
section
noncomputable def tupCls (K:Frag) (C:Addr):Bool:=match K.lookup C with
 | some ⟨_,_,.cls cd,sl⟩=>!cd.abstract && !cd.hasDel && (sl.toList[4]?).join == some .none && cd.mro == [.ref C,.type "tuple",.type "object"] && cd.bases == [.type "tuple"] &&
   specialIn K (.ref C) "__call__" == some (some (.builtin "type.__call__")) && instIn K (.ref C) (.type "type") == some true && findIn K (.ref C) "__init__" == some (some (.builtin "object.__init__"))
 | _=>false
structure TupCls (M:Model) (h:Heap) (C:Addr):Prop where
 obj:∃ oc od cd sl,h.get? C = some ⟨oc,od,.cls cd,sl⟩ ∧ cd.abstract = false ∧ cd.hasDel = false ∧ cd.mro = [.ref C,.type "tuple",.type "object"]
 mro:Looks M h (mroOf (.ref C)) [.ref C,.type "tuple",.type "object"]
 made:Looks M h (Bind.madeBy (.ref C)) none
 base:Looks M h (Bind.staticBase (.ref C)) (.type "tuple")
 self:Looks M h (isSubtype (.ref C) (.ref C)) true
 tup:Looks M h (isSubtype (.ref C) (.type "tuple")) true
 top:Looks M h (isSubtype (.ref C) (.type "object")) true
 call:Looks M h (specialOf (.ref C) "__call__") (some (.builtin "type.__call__"))
 typ:Looks M h (isInstance (.ref C) (.type "type")) true
 init:Looks M h (typeLookup (.ref C) "__init__") (some (.builtin "object.__init__"))
theorem best_tuple:Builtin.Slots.bestBase [.type "tuple"] = pure (.type "tuple"):=by kernel_rfl
theorem tupCls_of {K:Frag} {M:Model} {h:Heap} (X:K.In h) {C:Addr} (e:tupCls K C = true):TupCls M h C:=by
 unfold tupCls at e
 split at e
 ·rename_i oc od cd sl ho
  simp only [Bool.and_eq_true,Bool.not_eq_true',beq_iff_eq] at e
  obtain ⟨⟨⟨⟨⟨⟨⟨e1,e2⟩,e3⟩,e4⟩,e5⟩,e6⟩,e7⟩,e8⟩:=e
  have hc:clsIn K C = some cd:=by unfold clsIn; rw [ho]
  have hm:Looks M h (mroOf (.ref C)) [.ref C,.type "tuple",.type "object"]:=e4 ▸ (looks_clsIn X hc).andThen .now
  have made:Looks M h (Bind.madeBy (.ref C)) none:=by
   intro A Q E s k q
   unfold Bind.madeBy
   refine wpAny_bind (hm A _ E s k ?_)
   rw [List.forIn_cons]
   refine wpAny_bind (wpAny_bind (wpAny_bind (wpAny_bind (wpAny_loadPart (k _ _ (X _ _ ho)) (wpAny_pure ?_)))))
   dsimp only
   rw [← Array.getElem?_toList,e3]
   exact wpAny_pure (wpAny_pure (wpAny_pure q))
  have ne:cd.mro.isEmpty = false:=by rw [e4]; rfl
  refine ⟨⟨oc,od,cd,sl,X _ _ ho,e1,e2,e4⟩,hm,made,?_,looks_mroIn X ?_,looks_mroIn X ?_,looks_mroIn X ?_,looks_specialIn X e6,looks_instIn X e7,looks_findIn X e8⟩
  ·intro A Q E s k q
   unfold Bind.staticBase
   refine wpAny_bind (hm A _ E s k ?_)
   rw [List.forIn_cons]
   refine wpAny_bind (wpAny_bind (wpAny_bind (made A _ E s k ?_)))
   rw [if_neg (by decide)]
   refine wpAny_bind ((looks_clsIn X hc) A _ E s k ?_)
   rw [e5,best_tuple]
   refine wpAny_bind (wpAny_pure (wpAny_pure ?_))
   dsimp only
   rw [List.forIn_cons]
   refine wpAny_bind (wpAny_bind ?_)
   rw [show Bind.madeBy (.type "tuple") = pure (some "tuple.__new__") from F.called_tuple.made]
   exact wpAny_pure (wpAny_pure (wpAny_pure (wpAny_pure q)))
  ·unfold mroIn; rw [hc,Option.bind_some,if_neg (by rw [ne]; decide),e4]; simp
  ·unfold mroIn; rw [hc,Option.bind_some,if_neg (by rw [ne]; decide),e4]; rfl
  ·unfold mroIn; rw [hc,Option.bind_some,if_neg (by rw [ne]; decide),e4]; rfl
 ·cases e
end
section
section
variable {prog:Program} {w:World} {A:Around} {E:Value → Shared → Prop} {s:Shared} {C:Addr}
set_option maxRecDepth 100000 in
theorem made_here {h:Heap} (Y:TupCls (model prog w) h C):Looks (model prog w) h (Bind.madeHere "tuple.__new__" (.ref C)) ():=by
 intro A Q E s k q
 unfold Bind.madeHere
 refine wpAny_bind (Y.base A _ E s k ?_)
 rw [show Bind.madeBy (.type "tuple") = pure (some "tuple.__new__") from F.called_tuple.made]
 refine wpAny_bind (wpAny_pure ?_)
 have e:(Option.map Manifest.canonical (some "tuple.__new__") != some (Manifest.canonical "tuple.__new__")) = false:=by rw [Option.map_some]; exact bne_self_eq_false _
 rw [e]
 exact wpAny_pure q
theorem tn_run {t:Addr} {vs:Array Value} {P:PySem.Fin → Shared → Prop} (Y:TupCls (model prog w) s.heap C) (hh:A.handled = none) (ht:s.heap.IsTuple t vs) (hsz:vs.size ≤ sizeLine)
  (h:∀ h' n,(∀ b o,s.heap.get? b = some o → h'.get? b = some o) → (∀ b o,s.heap.get? b = some o → b < n) → (∃ d,h'.get? n = some { cls:=.ref C,dict:=some d,data:=.seq vs }) → P (.done (.ret (.ref n))) { s with heap:=h' }) :
  wpAny (model prog w) A (Builtin.«tuple.__new__» ⟨[.ref C,.ref t],[]⟩) P E s:=by
 obtain ⟨hp,g,d,tk,os⟩:=s
 obtain ⟨⟨oc,od,cd,sl,hC,e1,e2,e4⟩,mro,made,base,self,tup,top,call,typ,init⟩:=id Y
 have mh:=made_here Y
 unfold Builtin.«tuple.__new__»
 dsimp only at hC mro made base self tup top call typ init mh ⊢
 obtain ⟨ot,hot,hct,nt,hdt⟩:=ht
 repeat (first | (with_reducible refine wpAny_collect_seq (hsz:=hsz) t (.inr rfl) hot hct hdt fun h₁ k₁=>?_) | lk)
 rw [if_neg (by simpa using hsz)]
 have hC':(h₁.push { cls:=Value.type "dict",data:=Data.dict #[] }).get? C = some { cls:=oc,dict:=od,data:=Data.cls cd,slots:=sl }:=Heap.get?_push_of_some _ (k₁ _ _ hC)
 dsimp only
 unfold newObjAsIs
 have hC'':((h₁.push { cls:=Value.type "dict",data:=Data.dict #[] }).push { cls:=Value.ref C,dict:=some h₁.objs.size,data:=Data.seq vs.toList.toArray }).get? C = some { cls:=oc,dict:=od,data:=Data.cls cd,slots:=sl }:=Heap.get?_push_of_some _ hC'
 have k₂:∀ b o,hp.get? b = some o → ((h₁.push { cls:=Value.type "dict",data:=Data.dict #[] }).push { cls:=Value.ref C,dict:=some h₁.objs.size,data:=Data.seq vs.toList.toArray }).get? b = some o:=fun b o e=>Heap.get?_push_of_some _ (Heap.get?_push_of_some _ (k₁ _ _ e))
 repeat lk
 rw [e2]
 exact wpAny_pure (wpAny_pure (h _ _ k₂ (fun b o e=>by rw [Heap.size_push]; exact Nat.lt_succ_of_lt (Heap.lt_size (k₁ _ _ e))) ⟨_,by rw [Heap.get?_push_size _ rfl]⟩))
end
section
variable {prog:Program} {w:World} {F:Fn} {R:PH} {sig sig':List (Option AV)} {om om' om₁:Om} {tau:List (Value × AV)} {s:Shared} {K:Frag}
theorem Sta.new_view' (ok:F.Ok) (x:Sta F R sig om tau s) {h':Heap} {a:Addr} {o:Obj} (ha:∀ b z,s.heap.get? b = some z → b < a) (e:h'.get? a = some o):F.view R om h' a = some o:=by
 have hD:∀ b ∈ F.D om,b < a:=fun b hb=>by
  unfold Fn.D at hb
  rcases List.mem_cons.mp hb with rfl | hb
  ·obtain ⟨m,⟨o,_,_,ho,_⟩,_⟩:=x.slots
   exact ha _ _ ho
  ·rcases List.mem_append.mp hb with hb | hb
   ·obtain ⟨v,o,ho,_⟩:=x.cells b hb
    exact ha _ _ ho
   ·obtain ⟨p,hp,rfl⟩:=List.mem_map.mp hb
    obtain ⟨o,ho,_⟩:=x.opens p hp
    exact ha _ _ ho
 have hL:F.L < a:=hD _ (by simp [Fn.D])
 have hR:R a = none:=by
  cases q:R a with
  | none=>rfl
  | some z=>exact absurd (ha _ _ (x.rf a z q).2) (Nat.lt_irrefl _)
 unfold Fn.view
 rw [if_neg (by rw [hR]; simpa using fun q=>Nat.lt_irrefl _ (hD a q)),if_neg (Nat.not_lt.mpr (Nat.le_of_lt (Nat.lt_of_le_of_lt ok.low hL)))]
 exact e
noncomputable def mat (C:Addr) (ds:List AV):AV:=.raw fun V v=>∃ a d vs n,v = .ref a ∧ V a = some { cls:=.ref C,dict:=some d,data:=.seq vs n } ∧ RepL V ds vs.toList
theorem rep_mat {V:PH} {C a d:Addr} {vs:Array Value} {n:Nat} {ds:List AV} (h:V a = some { cls:=.ref C,dict:=some d,data:=.seq vs n }) (r:RepL V ds vs.toList):Rep V (mat C ds) (.ref a):=by
 unfold mat
 simp only [Rep]
 exact fun V' hV=>⟨a,d,vs,n,rfl,hV _ _ h,r.mono hV⟩
theorem mat_rep {V:PH} {C:Addr} {ds:List AV} {v:Value} (h:Rep V (mat C ds) v):∃ a d vs n,v = .ref a ∧ V a = some { cls:=.ref C,dict:=some d,data:=.seq vs n } ∧ RepL V ds vs.toList:=by
 unfold mat at h
 simp only [Rep] at h
 exact h V (PH.le.refl _)
end
end
section
section
variable {prog:Program} {w:World} {A:Around} {E:Value → Shared → Prop} {s:Shared} {C:Addr}
set_option maxRecDepth 100000 in
theorem getm_tuple_new {pl:Sem Bool} {Q:Value × List Value → Shared → Prop} (h:Q (.builtin "tuple.__new__",[]) { s with toks:=s.toks + 1 }):wpAny (model prog w) A (getMethod (.type "tuple") "__new__" pl) Q E s:=by
 have X:Frag.In [] s.heap:=fun a o e=>by cases e
 have e:findCls [] (.type "tuple") (.type "type") (Str.ofString "__new__") = some (.val (.builtin "tuple.__new__")):=by kernel_rfl
 have hstub:opaqueClassAbove (.type "tuple") = pure none:=by unfold opaqueClassAbove; dsimp only; rw [show Manifest.isStub "tuple" = false by decide +kernel]; rfl
 have ht:typeOf (.type "tuple") = pure (.type "type"):=by first | rfl | kernel_rfl
 have L0:Looks (model prog w) s.heap (typeOf (.type "tuple")) (.type "type"):=Looks.of_pure ht
 have hg:findIn [] (.type "type") "__getattribute__" = some (some (.builtin "type.__getattribute__")):=by kernel_rfl
 unfold getMethod specialOf
 refine wpAny_bind (wpAny_bind (L0.here ((looks_findIn X hg).here ?_)))
 dsimp only
 rw [if_pos canon_tga]
 refine wpAny_bind (wpAny_mono (Q:=fun v=>Q (v,[])) (E:=E) ?_ (fun _ _ z=>wpAny_pure z) fun _ _ z=>z)
 have LO:Looks (model prog w) s.heap (opaqueClassAbove (.type "tuple")) none:=Looks.of_pure hstub
 refine cls_open X LO L0 hg (looks_hook X (r:=none) (by rfl)) (by show subIn [] _ _ = _; rfl) e ?_
 exact wpAny_pure (handed_on rfl h)
end
end
section
section
variable {prog:Program} {w:World} {A:Around} {E:Value → Shared → Prop} {s:Shared} {C:Addr}
theorem tn_kind:builtinKind "tuple.__new__" = some .builtinFn:=by decide +kernel
theorem tn_split:splitId "tuple.__new__" = some ("tuple", "__new__"):=by decide +kernel
theorem tn_sig:∃ sg,Manifest.signature? "tuple.__new__" = some sg ∧ ∀ a t,Bind.checkArgs "tuple.__new__" sg ⟨[.ref a,t],[]⟩ = pure () :=
 ⟨(Manifest.signature? "tuple.__new__").get (by kernel_rfl),by rw [Option.some_get],fun a t=>by kernel_rfl⟩
set_option maxRecDepth 100000 in
theorem tn_check {t:Value} {Q:Unit → Shared → Prop} (Y:TupCls (model prog w) s.heap C) (h:Q () s):wpAny (model prog w) A (checkBuiltinCall "tuple.__new__" ⟨[.ref C,t],[]⟩) Q E s:=by
 obtain ⟨hp,g,d,tk,os⟩:=s
 obtain ⟨⟨oc,od,cd,sl,hC,e1,e2,e4⟩,mro,made,base,self,tup,top,call,typ,init⟩:=id Y
 dsimp only at hC mro made base self tup top call typ init
 obtain ⟨sg,g1,g2⟩:=tn_sig
 unfold checkBuiltinCall
 rw [tn_kind,tn_split,g1]
 have hm:Looks (model prog w) hp (Bind.madeBy (.type "tuple")) (some "tuple.__new__"):=Looks.of_pure F.called_tuple.made
 have hg:Looks (model prog w) hp (Bind.checkArgs "tuple.__new__" sg ⟨[.ref C,t],[]⟩) ():=Looks.of_pure (g2 C t)
 dsimp only
 repeat lk
 exact h
theorem call_tn {t:Addr} {vs:Array Value} {Q:Value → Shared → Prop} (Y:TupCls (model prog w) s.heap C) (hh:A.handled = none) (ht:s.heap.IsTuple t vs) (hsz:vs.size ≤ sizeLine)
  (h:∀ h' n,(∀ b o,s.heap.get? b = some o → h'.get? b = some o) → (∀ b o,s.heap.get? b = some o → b < n) → (∃ d,h'.get? n = some { cls:=.ref C,dict:=some d,data:=.seq vs }) → Q (.ref n) { s with heap:=h' }) :
  wpAny (model prog w) A (call (.builtin "tuple.__new__") [.ref C,.ref t]) Q E s:=by
 refine wpAny_call (codeAny_call_builtin F.plain_tuple_new F.entry_tuple_new (tn_check Y ?_))
 exact tn_run Y hh ht hsz fun h' n k1 k2 k3=>h h' n k1 k2 k3
end
section
variable {prog:Program} {w:World} {F:Fn} {R:PH} {sig sig':List (Option AV)} {om om' om₁:Om} {tau:List (Value × AV)} {s:Shared} {K:Frag}
set_option maxRecDepth 100000 in
theorem ev_tuple_new (ok:F.Ok) {o e1 e2:PySem.Expr} {apos pos:Pos} {C:Addr} {ds:List AV} (hk:SeesK K F.G) (hc:tupCls K C = true) (h₀:Ev prog w F sig om o (.raw fun _ u=>u = .type "tuple")) (h₂:EvL prog w F sig om [e1,e2] [.raw fun _ u=>u = .ref C,.tup ds]) (hsz:ds.length ≤ sizeLine)
  (pl:Sem Bool) (he:eval (.Call (.Attribute o "__new__" apos) [e1,e2] [] pos) F.env = (do
   let ov ← eval o F.env
   standAt apos.atName
   let (f,first) ← holding [ov] (getMethod ov "__new__" pl)
   callWith pos f first (backTo pos (starEach [e1,e2] F.env)) []):=by rfl)
  (hp:(backTo pos (starEach [e1,e2] F.env)).any (·.1) = false:=by rfl):Ev prog w F sig om (.Call (.Attribute o "__new__" apos) [e1,e2] [] pos) (mat C ds):=fun R tau s Q E st hq=>by
 refine MethodCall_ (pl:=pl) (h₀ R tau s _ _ st fun v s₁ st₁=>?_) he
 have:=st₁.top
 simp only [Rep] at this
 obtain rfl:=this _ (PH.le.refl _)
 refine getm_tuple_new ?_
 refine callWith_of (P:=fun h=>∀ b o,F.G b = some o → h.get? b = some o) (by show ((backTo pos (starEach [e1,e2] F.env)).any (·.1) || false) = false; rw [hp]; rfl) callee_builtin (args_run hp (h₂ pos R _ _ _ _ st₁.pop.tok1 fun vs s₂ hv st₂=>?_))
 refine ⟨fun b o e=>(st₂.g b o e).2.2.1,?_⟩
 obtain ⟨v₁,v₂,rfl,st₃⟩:=two_of hv st₂
 have r1:=st₃.top2
 have r2:=st₃.top
 simp only [Rep] at r1 r2
 obtain rfl:=r1 _ (PH.le.refl _)
 obtain ⟨a,vs,n,rfl,ho,r⟩:=r2
 have el:=r.length
 simp only [Array.length_toList] at el
 refine call_tn (tupCls_of (st₃.inK hk) hc) ok.handled ⟨_,st₃.vget ho,rfl,n,rfl⟩ (by lia) fun h' m k1 k2 ⟨d,k3⟩=>hq _ _ ?_
 have st₄:=st₃.pop.pop.grow (tk:=s₂.toks) k1
 exact st₄.push (rep_mat (st₃.new_view' ok k2 k3) (r.mono (F.view_grow k1)))
end
end
section
section
variable {prog:Program} {w:World} {A:Around} {K:Frag} {C:Addr} {R:Result → Shared → Prop} {h:Heap} {g:Array GenState} {d:Drawn} {t:Nat} {os:OsState}
theorem oi_args4 (a b c d:Value):argsOk "object.__init__" ⟨[a,b,c,d],[]⟩:=by unfold argsOk; kernel_rfl
set_option maxRecDepth 100000 in
theorem oi3 {a:Addr} {r1 r2 r3:Value} {s:Shared} {RR:Result → Shared → Prop} (Y:TupCls (model prog w) s.heap C) (t1:Looks (model prog w) s.heap (typeOf (.ref a)) (.ref C)) (h:RR (.ok (.ret .none)) s) :
  codeAny (model prog w) A (.call (.builtin "object.__init__") ⟨[.ref a,r1,r2,r3],[]⟩) RR s:=by
 have sub:Looks (model prog w) s.heap (isInstance (.ref a) (.type "object")) true:=t1.andThen Y.top
 refine codeAny_call_builtin oi_plain entry_oi (@check_slot (model prog w) _ _ s "object.__init__" "object" "__init__" (.ref a) [r1,r2,r3] [] _ oi_kind oi_split sub (oi_args4 _ _ _ _) ?_)
 obtain ⟨hp,g,d,tk,os⟩:=s
 obtain ⟨obj',mro',made',base',self',tup',top',call',typ',init'⟩:=id Y
 dsimp only at mro' made' init' t1
 unfold Builtin.«object.__init__»
 dsimp only
 rw [if_pos (by rfl)]
 refine wpAny_bind (t1.at (wpAny_bind (init'.at (wpAny_bind (made'.at ?_)))))
 dsimp only
 rw [if_neg (by rw [bne_self_eq_false]; decide),if_neg (by decide)]
 exact wpAny_pure h
set_option maxRecDepth 100000 in
set_option maxHeartbeats 400000 in
theorem call_tupcls {f p:Addr} {r1 r2 r3:Value} (X:K.In h) (hc:tupCls K C = true) (hr:readsIn K C (.type "type") = true) (hf:findCls K (.ref C) (.type "type") "__new__" = some (.get (.builtin "staticmethod.__get__") (.ref p) .none (.ref C))) (hp:recIn K p "staticmethod" = some [.ref f])
  (hnew:wpAny (model prog w) (A.under (.builtin "type.__call__" ⟨[.ref C,r1,r2,r3],[]⟩)) (call (.ref f) [.ref C,r1,r2,r3]) (fun v s'=>∃ a o h' tk,v = .ref a ∧ s' = ⟨h',g,d,tk,os⟩ ∧ (∀ b o,h.get? b = some o → h'.get? b = some o) ∧ h'.get? a = some o ∧ o.cls = .ref C ∧ R (.ok (.ret v)) s') (fun e s'=>R (.error e) s') ⟨h,g,d,t + 1,os⟩) :
  codeAny (model prog w) A (.call (.ref C) ⟨[r1,r2,r3],[]⟩) R ⟨h,g,d,t,os⟩:=by
 have Y:=tupCls_of (M:=model prog w) X hc
 obtain ⟨⟨oc,od,cd,sl,hC,e1,e2,e4⟩,mro,made,base,self,tup,top,call,typ,init⟩:=id Y
 refine codeAny_of_tree ?_
 show wpAny _ _ (callAny (.ref C) _) _ _ _
 refine nd_load hC ?_
 show wpAny _ _ (callAny.viaDunder (.ref C) _) _ _ _
 unfold callAny.viaDunder
 refine wpAny_bind (call.at ?_)
 dsimp only
 rw [tc_bind]
 refine wpAny_bind (wpAny_pure (wpAny_bind (wpAny_pure ?_)))
 refine wpAny_pure (a:=Fin.again (.call (.builtin "type.__call__") ⟨[.ref C,r1,r2,r3],[]⟩)) (And.intro rfl ?_)
 refine codeAny_call_builtin_at (Code.quiet_builtin _ (by decide +kernel)) entry_typeCall (check_slot tc_kind tc_split typ (tc_args _ _ _) ?_)
 unfold Builtin.«type.__call__»
 repeat (first | (with_reducible refine cls_bind X hr hf ?_) | (with_reducible show wpAny _ _ (PySem.call (Value.builtin "staticmethod.__get__") _ _) _ _ _; refine wpAny_call (sm_get (s:=⟨h,g,d,t + 1,os⟩) X hp ?_)) | (with_reducible show wpAny _ _ (PySem.call (Value.ref f) _ _) _ _ _; refine wpAny_mono hnew ?_ fun _ _ z=>z) | lk)
 intro v s' z
 obtain ⟨a,o,h',tk,rfl,rfl,k,ho,hoc,hR⟩:=z
 have Y':=tupCls_of (M:=model prog w) (X.keeps k) hc
 obtain ⟨obj',mro',made',base',self',tup',top',call',typ',init'⟩:=id Y'
 have t1:Looks (model prog w) h' (typeOf (.ref a)) (.ref C):=hoc ▸ (Looks.ld ho).andThen .now
 unfold isInstance callSpecial? specialOf
 have hb:=oi_bind (.ref a)
 have b1:Looks (model prog w) h' (bindSpecial (.builtin "object.__init__") (.ref a)) (.builtin "object.__init__",[.ref a]):=Looks.of_pure hb
 refine wpAny_bind (wpAny_bind (t1.at (self'.at ?_)))
 rw [if_neg (by decide)]
 refine wpAny_bind (wpAny_holding (wpAny_bind (wpAny_bind (t1.at (init'.at ?_)))))
 dsimp only
 refine wpAny_holding (wpAny_bind (b1.at ?_))
 dsimp only
 refine wpAny_bind (wpAny_call (oi3 (s:=⟨h',g,d,tk,os⟩) Y' t1 ?_))
 refine wpAny_pure ?_
 dsimp only
 rw [if_neg (by decide)]
 exact wpAny_pure hR
end
end
section
theorem Room.under {A:Around} {n:Nat} {c:Code} (h:Room A (n + 1)) (hw:c.weight ≤ 1) (hu:c.cUnits ≤ 20):Room (A.under c) n :=
 ⟨h.handled,by have:=h.depth; show A.depth + c.weight + n ≤ 600; lia,by have:=h.units; show A.units + c.cUnits + 20 * n ≤ 5000; lia⟩
theorem tc_weight (C:Addr) (r:List Value):(Code.builtin "type.__call__" ⟨.ref C :: r,[]⟩).weight ≤ 1:=by
 have:(Code.builtin "type.__call__" ⟨.ref C :: r,[]⟩).weight = 1:=by kernel_rfl
 lia
theorem tc_units (C:Addr) (r:List Value):(Code.builtin "type.__call__" ⟨.ref C :: r,[]⟩).cUnits ≤ 20:=by
 have:(Code.builtin "type.__call__" ⟨.ref C :: r,[]⟩).cUnits = 1:=by kernel_rfl
 lia
section
variable {prog:Program} {w:World} {F:Fn} {R:PH} {sig sig':List (Option AV)} {om om' om₁:Om} {tau:List (Value × AV)} {s:Shared} {K:Frag}
theorem c_tupcls (ok:F.Ok) {B:PH → Prop} {C f p:Addr} {n:Nat} {d1 d2 d3:AV} {ds:List AV} (hk:SeesK K F.G) (hc:tupCls K C = true) (hr:readsIn K C (.type "type") = true) (hf:findCls K (.ref C) (.type "type") "__new__" = some (.get (.builtin "staticmethod.__get__") (.ref p) .none (.ref C)))
  (hp:recIn K p "staticmethod" = some [.ref f]) (hB:B F.G) (mono:∀ V V',V.le V' → B V → B V') (room:Room F.A (n + 1)) (h:PureFn prog w B n (.ref f) [.raw fun _ u=>u = .ref C,d1,d2,d3] (mat C ds)):OpC prog w F om (.ref C) [d1,d2,d3] (mat C ds):=fun R sig tau vs s Q E hv st hq=>by
 obtain ⟨v1,v2,v3,rfl⟩:=len3 hv
 obtain ⟨r,st'⟩:=st.zip hv
 obtain ⟨hp',g,dr,t,os⟩:=s
 refine wpAny_call (call_tupcls (st.inK hk) hc hr hf hp ?_)
 have st1:=st'.tok (t + 1)
 refine h (F.A.under _) (F.view R om hp') ⟨hp',g,dr,t + 1,os⟩ _ _ _ (room.under (tc_weight _ _) (tc_units _ _)) (mono _ _ (Fn.G_view st') hB) st'.viewIn (.cons (by simp only [Rep]; exact fun _ _=>trivial) r) fun v h' tk k rv=>?_
 obtain ⟨a,d,ws,m,rfl,ho,rl⟩:=mat_rep rv
 have ke:(ext (F.view R om hp') hp'.objs.size h').le (F.view R om h'):=fun b o e=>by
  unfold ext at e
  split at e
  ·exact F.view_grow k b o e
  ·rename_i hlt
   exact st'.new_view ok (Nat.not_lt.mp hlt) e
 have st2:Sta F R sig om ((.ref a,mat C ds) :: tau) ⟨h',g,dr,tk,os⟩:=(st'.grow (tk:=tk) k).push (rv.mono ke)
 exact ⟨a,_,h',tk,rfl,rfl,k,st2.vget (ke _ _ ho),rfl,hq _ _ st2⟩
end
end
section
noncomputable def SeqAt (h:Heap) (t:Addr) (items:Array Value):Prop:=∃ o n,h.get? t = some o ∧ o.data = .seq items n
theorem SeqAt.keeps {h h':Heap} {t:Addr} {items:Array Value} (x:SeqAt h t items) (k:∀ o,h.get? t = some o → h'.get? t = some o):SeqAt h' t items:=let ⟨o,n,ho,r⟩:=x; ⟨o,n,k o ho,r⟩
section
variable {prog:Program} {w:World} {A:Around} {E:Value → Shared → Prop} {s:Shared} {C:Addr}
theorem sub_next {it t:Addr} {i:Nat} {items:Array Value} {x:Value} {Q:Option Value → Shared → Prop} (hit:s.heap.IsTupleIter it t i) (ht:SeqAt s.heap t items) (hx:items[i]? = some x)
  (hQ:∀ h',h'.IsTupleIter it t (i + 1) → Heap.SameBut it s.heap h' → Q (some x) { s with heap:=h' }):wpAny (model prog w) A (pyNext (.ref it)) Q E s:=by
 obtain ⟨o,ho,hc,hd⟩:=id hit
 obtain ⟨ol,nl,hol,hdl⟩:=ht
 unfold pyNext
 refine wpAny_bind (wpAny_attempt (wpAny_callSpecial?_slot (name:=Str.ofString "__next__") hit.typeIs F.slot_tuple_iterator_next
  (wpAny_call_entry F.slot_tuple_iterator_next hit.typeIs F.entry_tuple_iterator_next ?_ (F.args_tuple_iterator_next_1 _))))
 show wpAny _ _ (field (.ref it) 0 >>= _) _ _ s
 refine wpAny_bind (wpAny_field ho hd (x:=.ref t) rfl ?_)
 show wpAny _ _ (if (Value.ref t == Value.none) = true then _ else _) _ _ s
 rw [if_neg (show ¬ ((Value.ref t == Value.none) = true) from Bool.false_ne_true)]
 show wpAny _ _ (field (.ref it) 1 >>= _) _ _ s
 refine wpAny_bind (wpAny_field ho hd (x:=.int i 0) rfl ?_)
 show wpAny _ _ (seqItems? (.ref t) >>= _) _ _ s
 refine wpAny_bind (wpAny_seqItems hol hdl ?_)
 simp only [Int.toNat_natCast,hx]
 refine wpAny_bind (wpAny_setField ho hd (by simp) (wpAny_pure ⟨x,rfl,wpAny_pure (hQ _ ?_ (Heap.SameBut.update ..))⟩))
 exact ⟨_,Heap.get?_update_self _ ho (Obj.isFreed_of_fields (Obj.data_mapFields hd _)),(Obj.cls_mapFields ..).trans hc,by
  rw [Obj.data_mapFields hd]; simp [rawInt]⟩
theorem sub_end {it t:Addr} {i:Nat} {items:Array Value} {Q:Option Value → Shared → Prop} (hh:A.handled = none) (hit:s.heap.IsTupleIter it t i) (ht:SeqAt s.heap t items) (hx:items[i]? = none)
  (hQ:∀ h',Heap.ExtBut it s.heap h' → Q none { s with heap:=h' }):wpAny (model prog w) A (pyNext (.ref it)) Q E s:=by
 obtain ⟨o,ho,hc,hd⟩:=id hit
 obtain ⟨ol,nl,hol,hdl⟩:=ht
 unfold pyNext
 refine wpAny_bind (wpAny_attempt (wpAny_callSpecial?_slot (name:=Str.ofString "__next__") hit.typeIs F.slot_tuple_iterator_next
  (wpAny_call_entry F.slot_tuple_iterator_next hit.typeIs F.entry_tuple_iterator_next ?_ (F.args_tuple_iterator_next_1 _))))
 show wpAny _ _ (field (.ref it) 0 >>= _) _ _ s
 refine wpAny_bind (wpAny_field ho hd (x:=.ref t) rfl ?_)
 show wpAny _ _ (if (Value.ref t == Value.none) = true then _ else _) _ _ s
 rw [if_neg (show ¬ ((Value.ref t == Value.none) = true) from Bool.false_ne_true)]
 show wpAny _ _ (field (.ref it) 1 >>= _) _ _ s
 refine wpAny_bind (wpAny_field ho hd (x:=.int i 0) rfl ?_)
 show wpAny _ _ (seqItems? (.ref t) >>= _) _ _ s
 refine wpAny_bind (wpAny_seqItems hol hdl ?_)
 simp only [Int.toNat_natCast,hx]
 refine wpAny_bind (wpAny_rule (wpAny_bind (wpAny_setField ho hd (by simp) ?_)))
 show wpAny _ _ (newExc (.type "StopIteration") [] >>= _) _ _ _
 refine wpAny_bind ?_
 simp only [newExc,newTuple]
 refine wpAny_bind (wpAny_newObj_type ?_ (by size_fits))
 refine wpAny_bind (m:=firstArgMember _ _) (wpAny_of_eq (a:=Value.none) (by first | rfl | (simp only [firstArgMember]; rfl)) ?_)
 refine wpAny_newObj_type ?_ (by size_fits)
 simp only [raiseNew]
 refine wpAny_bind (wpAny_handled ?_)
 first | rw [show A.in1.handled = none from hh] | rw [hh]
 refine wpAny_bind (wpAny_pure (wpAny_throw ?_))
 refine wpAny_bind (wpAny_isInstance (T := "StopIteration") (b:=true) ⟨_,Heap.get?_push_size _ rfl,rfl⟩ isSubtype_stop ?_)
 exact wpAny_pure (hQ _ (((Heap.SameBut.update ..).extBut.push _).push _))
theorem sub_draw {it t:Addr} {items:Array Value} (hne:t ≠ it):∀ (n i:Nat) (s:Shared) (Q:List Value → Shared → Prop),s.heap.IsTupleIter it t i → SeqAt s.heap t items → i + n ≤ items.size →
  (∀ h',h'.IsTupleIter it t (i + n) → Heap.SameBut it s.heap h' → Q ((items.toList.drop i).take n) { s with heap:=h' }) → wpAny (model prog w) A (draw (.ref it) n) Q E s
 | 0,i,s,Q,hit,_,_,hQ=>by
  show wpAny _ _ (pure []) Q E s
  exact wpAny_pure (by simpa using hQ s.heap hit (Heap.SameBut.refl ..))
 | n + 1,i,s,Q,hit,ht,hle,hQ=>by
  have hlt:i < items.size:=by lia
  show wpAny _ _ (pyNext (.ref it) >>= _) Q E s
  refine wpAny_bind (sub_next hit ht (x:=items[i]) (by simp [hlt]) fun h₁ hit₁ hs₁=>?_)
  refine wpAny_bind (wpAny_holding (sub_draw hne n (i + 1) _ _ hit₁ (ht.keeps fun o e=>hs₁.extBut _ o hne e) (by lia) fun h₂ hit₂ hs₂=>wpAny_pure ?_))
  have hd:items.toList.drop i = items[i] :: items.toList.drop (i + 1):=by simp [List.drop_eq_getElem_cons,hlt]
  have:=hQ h₂ (by rw [show i + (n + 1) = i + 1 + n by lia]; exact hit₂) (hs₁.trans hs₂)
  rw [hd,List.take_succ_cons] at this
  exact this
end
end
section
section
variable {prog:Program} {w:World} {A:Around} {E:Value → Shared → Prop} {s:Shared} {C:Addr}
theorem ti_kind:builtinKind "tuple.__iter__" = some .slot:=by decide +kernel
theorem ti_split:splitId "tuple.__iter__" = some ("tuple", "__iter__"):=by decide +kernel
set_option maxRecDepth 100000 in
theorem sub_iter {t:Addr} {o:Obj} {Q:Value → Shared → Prop} (Y:TupCls (model prog w) s.heap C) (hi:Looks (model prog w) s.heap (typeLookup (.ref C) "__iter__") (some (.builtin "tuple.__iter__"))) (ho:s.heap.get? t = some o) (hc:o.cls = .ref C)
  (hQ:Q (.ref s.heap.objs.size) { s with heap:=s.heap.push { cls:=.type "tuple_iterator",data:=.fields #[.ref t,.int 0 0] } }):wpAny (model prog w) A (pyIter (.ref t)) Q E s:=by
 have t1:Looks (model prog w) s.heap (typeOf (.ref t)) (.ref C):=hc ▸ (Looks.ld ho).andThen .now
 have sp:Looks (model prog w) s.heap (specialOf (.ref t) "__iter__") (some (.builtin "tuple.__iter__")):=t1.andThen hi
 have sub:Looks (model prog w) s.heap (isInstance (.ref t) (.type "tuple")) true:=t1.andThen Y.tup
 have cl:∀ {Q:Value → Shared → Prop},Q (.ref s.heap.objs.size) { s with heap:=s.heap.push { cls:=.type "tuple_iterator",data:=.fields #[.ref t,.int 0 0] } } → wpAny (model prog w) A (call (.builtin "tuple.__iter__") [.ref t]) Q E s:=fun {Q} h=>by
  refine wpAny_call (codeAny_call_builtin F.slot_tuple_iter.plain F.entry_tuple_iter (@check_slot (model prog w) _ _ s "tuple.__iter__" "tuple" "__iter__" (.ref t) [] [] _ ti_kind ti_split sub (F.args_tuple_iter_1 _) ?_))
  show wpAny _ _ (do ret (← newFields "tuple_iterator" [.ref t,rawInt 0])) _ _ s
  exact wpAny_bind (wpAny_newObj_type (wpAny_pure h))
 unfold pyIter
 refine wpAny_bind (sp.here ?_)
 show wpAny _ _ (callSpecialIfBoundUnlessNone? (.ref t) "__iter__" _ >>= _) Q E s
 refine wpAny_bind ?_
 simp only [callSpecialIfBoundUnlessNone?,bindSpecialIfBound?]
 refine wpAny_holding (wpAny_bind (wpAny_bind (sp.here ?_)))
 simp only [F.slot_tuple_iter.bind]
 refine wpAny_bind (wpAny_askSetting (wpAny_ite ?_))
 have fin:∀ {Q':Option Value → Shared → Prop} {refuse:Sem Value},Q' (some (.ref s.heap.objs.size)) { s with heap:=s.heap.push { cls:=.type "tuple_iterator",data:=.fields #[.ref t,.int 0 0] } } → wpAny (model prog w) A (if (Value.builtin "tuple.__iter__" == Value.none) = true then (refuse >>= fun v=>pure (some v)) else (call (.builtin "tuple.__iter__") [.ref t] >>= fun v=>pure (some v))) Q' E s:=fun h=>by
  simp only [builtin_beq_none,Bool.false_eq_true,if_false]
  exact wpAny_bind (cl (wpAny_pure h))
 have nx:wpAny (model prog w) A (specialOf (.ref s.heap.objs.size) "__next__") (fun r s'=>r = some (.builtin "tuple_iterator.__next__") ∧ s' = { s with heap:=s.heap.push { cls:=.type "tuple_iterator",data:=.fields #[.ref t,.int 0 0] } }) E { s with heap:=s.heap.push { cls:=.type "tuple_iterator",data:=.fields #[.ref t,.int 0 0] } } :=
  wpAny_specialOf (T := "tuple_iterator") ⟨_,Heap.get?_push_size _ rfl,rfl⟩ F.slot_tuple_iterator_next.lookup ⟨rfl,rfl⟩
 split
 ·refine wpAny_bind (wpAny_pure (wpAny_pure (fin ?_)))
  exact wpAny_bind (wpAny_mono nx (fun r s' ⟨e1,e2⟩=>by subst e1 e2; exact wpAny_pure hQ) fun _ _ z=>z)
 ·refine wpAny_tryCatch (wpAny_bind (wpAny_pure (wpAny_pure (fin ?_))))
  exact wpAny_bind (wpAny_mono nx (fun r s' ⟨e1,e2⟩=>by subst e1 e2; exact wpAny_pure hQ) fun _ _ z=>z)
end
end
section
section
variable {prog:Program} {w:World} {A:Around} {E:Value → Shared → Prop} {s:Shared} {C:Addr}
theorem sub_unpack {t:Addr} {o:Obj} {items:Array Value} {n:Nat} {Q:List Value → Shared → Prop} (Y:TupCls (model prog w) s.heap C) (hi:Looks (model prog w) s.heap (typeLookup (.ref C) "__iter__") (some (.builtin "tuple.__iter__"))) (hh:A.handled = none) (ho:s.heap.get? t = some o) (hc:o.cls = .ref C) (hd:o.data = .seq items n)
  (hQ:∀ h',Heap.ExtBut s.heap.objs.size s.heap h' → Q items.toList { s with heap:=h' }):wpAny (model prog w) A (unpackItems (.ref t) items.size none) Q E s:=by
 have t1:Looks (model prog w) s.heap (typeOf (.ref t)) (.ref C):=hc ▸ (Looks.ld ho).andThen .now
 have sp:Looks (model prog w) s.heap (specialOf (.ref t) "__iter__") (some (.builtin "tuple.__iter__")):=t1.andThen hi
 have hlt:t ≠ s.heap.objs.size:=Nat.ne_of_lt (Heap.lt_size ho)
 have ht:SeqAt s.heap t items:=⟨o,n,ho,hd⟩
 unfold unpackItems
 refine wpAny_bind ?_
 unfold notIterableAtAll
 refine wpAny_bind (sp.here ?_)
 refine wpAny_pure ?_
 simp only [Bool.false_eq_true,if_false]
 refine wpAny_bind (wpAny_holding (sub_iter Y hi ho hc ?_))
 have ht0:SeqAt (s.heap.push { cls:=.type "tuple_iterator",data:=.fields #[.ref t,.int 0 0] }) t items:=ht.keeps fun o e=>Heap.get?_push_of_some _ e
 refine wpAny_bind (wpAny_holding (sub_draw hlt items.size 0 _ _ ⟨_,Heap.get?_push_size _ rfl,rfl,rfl⟩ ht0 (by lia) fun h₁ hit₁ hs₁=>?_))
 have hall:List.take items.size (List.drop 0 items.toList) = items.toList:=by
  rw [List.drop_zero]; exact List.take_of_length_le (by simp)
 rw [hall]
 rw [if_neg (by simp)]
 have ht₁:SeqAt h₁ t items:=ht0.keeps fun o e=>hs₁.extBut _ o hlt e
 refine wpAny_bind (wpAny_holding (sub_end hh hit₁ ht₁ (by simp) fun h₂ he₂=>?_))
 simp only [Option.isSome_none,Bool.false_eq_true,if_false]
 refine wpAny_pure (hQ h₂ fun b o hb e=>he₂ b o hb (hs₁.extBut b o hb (Heap.get?_push_of_some _ e)))
end
section
variable {prog:Program} {w:World} {F:Fn} {R:PH} {sig sig':List (Option AV)} {om om' om₁:Om} {tau:List (Value × AV)} {s:Shared} {K:Frag}
theorem unpack_mat (ok:F.Ok) {C:Addr} (hk:SeesK K F.G) (hc:tupCls K C = true) (hi:findIn K (.ref C) "__iter__" = some (some (.builtin "tuple.__iter__"))) {v:Value} {ds:List AV} {n:Nat} (hn:n = ds.length) (st:Sta F R sig om ((v,mat C ds) :: tau) s) {Q:List Value → Shared → Prop} {E:Value → Shared → Prop}
  (h:∀ vs s',vs.length = ds.length → Sta F R sig om ((vs.zip ds) ++ (v,mat C ds) :: tau) s' → Q vs s'):wpAny (model prog w) F.A (unpackItems v n none) Q E s:=by
 obtain ⟨a,d,vs,k,rfl,ho,r⟩:=mat_rep st.top
 have e:=r.length
 simp only [Array.length_toList] at e
 rw [hn,← e]
 refine sub_unpack (tupCls_of (st.inK hk) hc) (looks_findIn (st.inK hk) hi) ok.handled (st.vget ho) rfl rfl fun h' he=>?_
 have st':=st.ext (tk:=s.toks) he
 refine h _ _ (by simpa using e) (st'.temp fun p hp=>?_)
 rcases List.mem_append.mp hp with hp | hp
 ·have r':=r.mono (F.view_grow (R:=R) (om:=om) fun b o e=>he b o (fun q=>Nat.lt_irrefl _ (q ▸ Heap.lt_size e)) e)
  obtain ⟨i,hi,e'⟩:=List.getElem_of_mem hp
  rw [List.getElem_zip] at e'
  subst e'
  obtain ⟨u,hu,ru⟩:=r'.get (i:=i) (d:=ds[i]'(by simp at hi; lia)) (by simp)
  have:u = vs.toList[i]'(by simp at hi ⊢; lia):=by
   rw [List.getElem?_eq_getElem (by simp at hi ⊢; lia)] at hu; exact (Option.some.inj hu).symm
  subst this
  exact ru
 ·exact st'.temps p hp
theorem as_mat (ok:F.Ok) {C:Addr} (hk:SeesK K F.G) (hc:tupCls K C = true) (hi:findIn K (.ref C) "__iter__" = some (some (.builtin "tuple.__iter__"))) {ts:List PySem.Expr} {k:Nat} {pos:Pos} {ds:List AV} (h:AsL prog w F om ts ds sig sig') (hl:ts.length = ds.length)
  (hf:(assignEach ts F.env).findIdx? (·.1) = none:=by rfl) (hle:(assignEach ts F.env).length = ts.length:=by rfl):As prog w F om (.Tuple ts k pos) (mat C ds) sig sig':=fun R tau v s Q E st hq=>by
 show wpAny _ _ (do standAt pos; unpack v (assignEach ts F.env)) Q E s
 refine wpAny_bind (wpAny_standAt ?_)
 unfold unpack
 rw [hf,hle]
 refine wpAny_bind (wpAny_holding (unpack_mat ok hk hc hi hl st fun vs s' hv st'=>?_))
 exact h R _ vs s' _ _ hv st' hq
end
end
section
noncomputable def ImpC (prog:Program) (w:World) (B:PH → Prop) (n:Nat) (f:Value) (ds:List AV) (om₁:Om) (P:AV → Om → Prop):Prop :=
 ∀ (A:Around) (G:PH) (s:Shared) (vs:List Value) (Q:Value → Shared → Prop) (E:Value → Shared → Prop),Room A n → B G → ViewIn G s.heap → RepL G ds vs →
  (om₁.map (·.1)).Nodup → (∀ b ∈ om₁.map (·.1),G b = none) → (∀ p ∈ om₁,∃ o,s.heap.get? p.1 = some o ∧ ∀ V',G.le V' → p.2 V' o) →
  (∀ v d om₂ h' tk,P d om₂ → (om₂.map (·.1)).Nodup → (∀ b ∈ om₂.map (·.1),b ∈ om₁.map (·.1) ∨ s.heap.objs.size ≤ b) → (∀ b o,b ∉ om₁.map (·.1) → s.heap.get? b = some o → h'.get? b = some o) →
   (∀ p ∈ om₂,∃ o,h'.get? p.1 = some o ∧ ∀ V',(extO G s.heap.objs.size om₂ h').le V' → p.2 V' o) → Rep (extO G s.heap.objs.size om₂ h') d v → Q v { s with heap:=h',toks:=tk }) →
  codeAny (model prog w) A (.call f ⟨vs,[]⟩) (fun r s'=>match r with | .ok (.ret v)=>Q v s' | .ok _=>False | .error e=>E e s') s
theorem ImpC.fn {prog:Program} {w:World} {B:PH → Prop} {n:Nat} {f:Value} {ds:List AV} {om₁:Om} {P:AV → Om → Prop} (h:ImpC prog w B n f ds om₁ P):ImpFn prog w B n f ds om₁ P:=fun A G s vs Q E hr hB hG r nd hO op hq=>wpAny_call (h A G s vs Q E hr hB hG r nd hO op hq)
section
variable {prog:Program} {w:World} {F:Fn} {R:PH} {sig sig':List (Option AV)} {om om':Om} {tau:List (Value × AV)} {s:Shared}
theorem imp_defC {fd:FuncData} {body:List Stmt} {f:Addr} {ps:List PySem.Str} {ds dd:List AV} {dv:List Value} {om₁:Om} {P:AV → Om → Prop} {n:Nat} {B:PH → Prop} (ok:DefOk fd ps) (hat:∀ V,B V → DefAt fd body f V) (hlen:ps.length = (ds ++ dd).length) (hdv:∀ V,RepL V dd dv)
  (hbind:∀ vs:List Value,vs.length = ds.length → bindArgs fd ⟨vs,[]⟩ = pure (ps.zip (vs ++ dv)))
  (h:∀ (A:Around) (G:PH) (s:Shared),B G → Room (A.deeper (callEnvC fd s.heap.objs.size f)) n → (fnAt fd f A G s).Ok → Ex prog w (fnAt fd f A G s) (sigOf fd.scope.names ps (ds ++ dd)) om₁ body fun o=>match o with | .ret d' _ om'=>P d' om' ∧ (∀ b ∈ om'.map (·.1),b ∈ om₁.map (·.1) ∨ s.heap.objs.size ≤ b) | .nxt _ om'=>P .none om' ∧ (∀ b ∈ om'.map (·.1),b ∈ om₁.map (·.1) ∨ s.heap.objs.size ≤ b) | _=>False)
  (hco:fd.scope.isCoroutine = false:=by rfl) (hgen:fd.scope.isGenerator = false:=by rfl):ImpC prog w B (n + 1) (.ref f) ds om₁ P:=fun A G s vs Q E hr hB hG r nd hO op hq=>by
 obtain ⟨⟨o,ho,hd⟩,⟨c,oc,cvs,t,hc1,hc2,hc3,hc4⟩,⟨ol,es,ep,hl1,hl2,hl3,hl4⟩,hbody,hclo⟩:=hat G hB
 have hvl:=r.length
 refine (codeAny_call_cells (fd:=fd) (by have:=hr.depth; unfold recursionLimit; omega) (hG _ _ ho) hd ⟨_,⟨ol,es,ep,hG _ _ hl1,hl2,hl3,fun _=>rfl⟩,hl4⟩ ⟨c,oc,cvs,t,hc1,hG _ _ hc2,hc3,hc4⟩ hbody (hbind vs hvl) hclo (fun x hx=>?_) (fun s₁ x=>?_) hco hgen ok.kind)
 ·have hx':x.1 ∈ ps:=by
   obtain ⟨i,hi,e⟩:=List.getElem_of_mem hx
   rw [List.getElem_zip] at e
   rw [← e]
   exact List.getElem_mem _
  rcases ok.pk x.1 hx' with q | q
  ·exact .inl q
  ·exact .inr ⟨q,cellsFrom_some fd.scope.names _ [] (.inl q)⟩
 ·have fok:=fn_ok ok hr x.apart x.above (G:=G)
  have st:=entry_staO (A:=A) ok hG (r.append (hdv G)) nd hO op hlen x
  have fin:∀ (v:Value) (d:AV) (sig':List (Option AV)) (om':Om) (s':Shared),P d om' → (∀ b ∈ om'.map (·.1),b ∈ om₁.map (·.1) ∨ s.heap.objs.size ≤ b) → Sta (fnAt fd f A G s) (hidO G om₁ s.heap) sig' om' [(v,d)] s' → Q v s':=fun v d sig' om' s' hPd hnew st'=>by
   have hsame:=st'.same
   obtain ⟨h',tk,rfl⟩:=hsame
   have kv:((fnAt fd f A G s).view (hidO G om₁ s.heap) om' h').le (extO G s.heap.objs.size om' h'):=fun b ob e=>by
    have hv:=st'.vget e
    obtain ⟨c1,c2,c3⟩:=view_cases e
    unfold extO
    rw [if_neg (fun q=>c1 (by unfold Fn.D; rw [List.mem_cons,List.mem_append]; exact .inr (.inr q)))]
    rcases c3 with ⟨q,z⟩ | ⟨q,z⟩
    ·rw [if_pos (show b < s.heap.objs.size from q)]; exact z
    ·rw [if_neg (show ¬ b < s.heap.objs.size from q)]; exact z
   have ndo:=st'.nodup
   unfold Fn.D at ndo
   rw [List.nodup_cons,List.nodup_append] at ndo
   refine hq v d om' h' tk hPd ndo.2.2.1 hnew (fun b ob hb e=>?_) (fun p hp=>?_) (st'.top.mono kv)
   ·cases q:G b with
    | some og =>
     have:=hG _ _ q
     rw [e] at this; cases this
     exact (st'.g b _ q).2.2.1
    | none=>exact (st'.rf b ob (hidO_of q hb e)).2
   ·obtain ⟨o,ho,hP⟩:=st'.opens p hp
    exact ⟨o,ho,fun V' hV=>hP V' (kv.trans hV)⟩
  refine h A G s hB (hr.deeper _) fok (hidO G om₁ s.heap) [] s₁ _ _ st fun out fl s' ho hl=>?_
  cases out <;> cases fl <;> first | exact False.elim hl | change Sta _ _ _ _ _ _ at hl
  ·rename_i sig' om'
   exact fin _ _ sig' om' s' ho.1 ho.2 (hl.push rep_none)
  ·exact ho.elim
  ·exact ho.elim
  ·rename_i d' sig' om' v
   exact fin v d' sig' om' s' ho.1 ho.2 hl
end
end
section
theorem mro_map:mroOf (.type "map") = pure [.type "map",.type "object"]:=by rw [mroOf_type]; kernel_rfl
theorem lookup_map_new:typeLookup (.type "map") "__new__" = pure (some (.builtin "map.__new__")):=by rw [typeLookup_type,builtinLookup_eq_fast]; kernel_rfl
theorem slot_map_init:Slot "map" "__init__" "object.__init__" :=
 .of (owner := "object") (n := "__init__") (by rw [typeLookup_type,builtinLookup_eq_fast]; kernel_rfl) (by decide +kernel) (by decide +kernel) (by decide +kernel)
  (by first | exact .inl (by decide +kernel) | exact .inr (by decide +kernel)) (by rw [isSubtype_type]; kernel_rfl)
theorem called_map:TypeCalled "map" "map.__new__" "object.__init__" :=
 ⟨by decide +kernel,by decide +kernel,⟨_,_,mro_map⟩,madeBy_type mro_map lookup_map_new (by decide +kernel),by decide +kernel,by rw [isSubtype_type]; kernel_rfl,slot_map_init⟩
theorem typeCall_map_2 (a b:Value):checkTypeCall "map" ⟨[a,b],[]⟩ = pure ():=by kernel_rfl
theorem newCall_map_2 (a b:Value):checkBuiltinCall "map.__new__" ⟨[.type "map",a,b],[]⟩ = pure ():=by kernel_rfl
theorem entry_map_new:entryFor table "map.__new__" = some Builtin.«map.__new__»:=entryFor_of_tree (by kernel_rfl)
theorem slot_map_next:Slot "map" "__next__" "map.__next__" :=
 .of (owner := "map") (n := "__next__") (by rw [typeLookup_type,builtinLookup_eq_fast]; kernel_rfl) (by decide +kernel) (by decide +kernel) (by decide +kernel)
  (by first | exact .inl (by decide +kernel) | exact .inr (by decide +kernel)) (by rw [isSubtype_type]; kernel_rfl)
theorem entry_map_next:entryFor table "map.__next__" = some Builtin.«map.__next__»:=entryFor_of_tree (by kernel_rfl)
theorem slot_map_iter:Slot "map" "__iter__" "map.__iter__" :=
 .of (owner := "map") (n := "__iter__") (by rw [typeLookup_type,builtinLookup_eq_fast]; kernel_rfl) (by decide +kernel) (by decide +kernel) (by decide +kernel)
  (by first | exact .inl (by decide +kernel) | exact .inr (by decide +kernel)) (by rw [isSubtype_type]; kernel_rfl)
end
section
section
variable {prog:Program} {w:World} {A:Around} {E:Value → Shared → Prop} {s:Shared}
theorem meets_map_new (f:Value) (l:Addr) (items:Array Value) (n:Nat) :
  Meets (Builtin.«map.__new__» ⟨[.type "map",f,.ref l],[]⟩) (fun _ R s=>s.heap.get? l = some { cls:=.type "list",dict:=none,data:=.seq items n,slots:=#[] } ∧
   ∀ h',(∀ b o,s.heap.get? b = some o → h'.get? b = some o) → h'.IsListIter s.heap.objs.size l 0 → h'.IsTuple (s.heap.objs.size + 1) #[.ref s.heap.objs.size] → h'.get? (s.heap.objs.size + 2) = some { cls:=.type "map",data:=.fields #[.ref (s.heap.objs.size + 1),f] } →
    R (.ok (.ret (.ref (s.heap.objs.size + 2)))) { s with heap:=h' }) :=
 .of_wp fun prog w A R s h=>by
  obtain ⟨hp,g,d,tk,os⟩:=s; obtain ⟨hl,h⟩:=h
  have hL:Heap.IsList (Shared.heap ⟨hp,g,d,tk,os⟩) l items:=⟨_,hl,rfl,n,rfl⟩
  have hsub:isSubtype (.type "map") (.type "map") = pure true:=by rw [isSubtype_type]; kernel_rfl
  unfold Builtin.«map.__new__»
  wp_walk using wpAny_loadPart' hl,wpAny_pyIter_list hL
  refine ⟨_,rfl,?_⟩
  have z1:((hp.push { cls:=Value.type "list_iterator",data:=Data.fields #[Value.ref l,Value.int 0 0] }).push { cls:=Value.type "tuple",data:=Data.seq (#[].push (Value.ref hp.objs.size)).toList.toArray }).objs.size = hp.objs.size + 2:=by rw [Heap.size_push,Heap.size_push]
  have z0:(hp.push { cls:=Value.type "list_iterator",data:=Data.fields #[Value.ref l,Value.int 0 0] }).objs.size = hp.objs.size + 1:=Heap.size_push ..
  have r:=h (((hp.push { cls:=Value.type "list_iterator",data:=Data.fields #[Value.ref l,Value.int 0 0] }).push { cls:=Value.type "tuple",data:=Data.seq (#[].push (Value.ref hp.objs.size)).toList.toArray }).push { cls:=Value.type "map",data:=Data.fields #[.ref (hp.objs.size + 1),f] })
   (fun b o e=>Heap.get?_push_of_some _ (Heap.get?_push_of_some _ (Heap.get?_push_of_some _ e))) ⟨_,Heap.get?_push_of_some _ (Heap.get?_push_of_some _ (Heap.get?_push_size _ rfl)),rfl,rfl⟩
   ⟨_,Heap.get?_push_of_some _ (z0 ▸ Heap.get?_push_size _ rfl),rfl,_,rfl⟩ (z1 ▸ Heap.get?_push_size _ rfl)
  dsimp only at r ⊢
  rw [z1]
  rw [z0]
  exact r
end
end
section
section
variable {prog:Program} {w:World} {A:Around} {E:Value → Shared → Prop} {s:Shared}
theorem oi_args3 (a b c:Value):argsOk "object.__init__" ⟨[a,b,c],[]⟩:=by unfold argsOk; kernel_rfl
theorem call_map {f:Value} {l:Addr} {items:Array Value} {n:Nat} {Q:Value → Shared → Prop} (hl:s.heap.get? l = some { cls:=.type "list",data:=.seq items n })
  (h:∀ h',(∀ b o,s.heap.get? b = some o → h'.get? b = some o) → h'.IsListIter s.heap.objs.size l 0 → h'.IsTuple (s.heap.objs.size + 1) #[.ref s.heap.objs.size] → h'.get? (s.heap.objs.size + 2) = some { cls:=.type "map",data:=.fields #[.ref (s.heap.objs.size + 1),f] } →
   Q (.ref (s.heap.objs.size + 2)) { s with heap:=h' }):wpAny (model prog w) A (call (.type "map") [f,.ref l]) Q E s :=
 callType_new called_map (by decide) (typeCall_map_2 _ _) (newCall_map_2 _ _) (fun obj=>oi_args3 obj _ _) entry_map_new (meets_map_new f l items n)
  ⟨hl,fun h' k hi ht hm=>⟨⟨_,hm,rfl⟩,h h' k hi ht hm⟩⟩
end
end
section
section
variable {prog:Program} {w:World} {A:Around} {E:Value → Shared → Prop} {s:Shared}
theorem map_args (a:Value):argsOk "map.__next__" ⟨[a],[]⟩:=by unfold argsOk; kernel_rfl
theorem map_next {m T it l:Addr} {f x:Value} {items:Array Value} {i:Nat} {Q:Option Value → Shared → Prop} (hm:s.heap.get? m = some { cls:=.type "map",data:=.fields #[.ref T,f] }) (hT:s.heap.IsTuple T #[.ref it]) (hit:s.heap.IsListIter it l i) (hl:s.heap.IsList l items) (hx:items[i]? = some x) (hmi:m ≠ it)
  (h:∀ h' E',h'.IsListIter it l (i + 1) → Heap.SameBut it s.heap h' → wpAny (model prog w) A.in1 (call f [x]) (fun v s'=>Q (some v) s') E' { s with heap:=h' }):wpAny (model prog w) A (pyNext (.ref m)) Q E s:=by
 have hTy:s.TypeIs (.ref m) "map" := ⟨_,hm,rfl⟩
 unfold pyNext
 refine wpAny_bind (wpAny_attempt (wpAny_callSpecial?_slot (name:=Str.ofString "__next__") hTy slot_map_next (wpAny_call_entry slot_map_next hTy entry_map_next ?_ (map_args _))))
 unfold Builtin.«map.__next__»
 refine wpAny_bind (wpAny_of_eq (a:=(.ref m,[])) (by first | rfl | kernel_rfl) ?_)
 dsimp only
 refine wpAny_bind (wpAny_field hm rfl (x:=.ref T) rfl ?_)
 obtain ⟨oT,hoT,_,nT,hdT⟩:=hT
 refine wpAny_bind (wpAny_seqItems hoT hdT ?_)
 dsimp only
 rw [← Array.forIn_toList]
 simp only [List.forIn_cons,List.forIn_nil]
 refine wpAny_bind (wpAny_bind (wpAny_bind (wpAny_holding (wpAny_nextOf_list_item hit hl hx fun h' hit' hs'=>wpAny_pure (wpAny_pure ?_)))))
 have hm':h'.get? m = some { cls:=.type "map",data:=.fields #[.ref T,f] }:=(hs'.2 m hmi).trans hm
 refine wpAny_bind (wpAny_field hm' rfl (x:=f) rfl ?_)
 refine wpAny_bind (wpAny_holding (wpAny_mono (h h' _ hit' hs') (fun v s' z=>wpAny_bind (wpAny_letGo (wpAny_pure ⟨v,rfl,wpAny_pure z⟩))) fun _ _ z=>z))
end
end
section
section
variable {prog:Program} {w:World} {A:Around} {E:Value → Shared → Prop} {s:Shared}
theorem map_done {m T it l:Addr} {f:Value} {items:Array Value} {i:Nat} {Q:Option Value → Shared → Prop} (hh:A.handled = none) (hm:s.heap.get? m = some { cls:=.type "map",data:=.fields #[.ref T,f] }) (hT:s.heap.IsTuple T #[.ref it]) (hit:s.heap.IsListIter it l i) (hl:s.heap.IsList l items) (hx:items[i]? = none)
  (h:∀ h',Heap.ExtBut it s.heap h' → Q none { s with heap:=h' }):wpAny (model prog w) A (pyNext (.ref m)) Q E s:=by
 have hTy:s.TypeIs (.ref m) "map" := ⟨_,hm,rfl⟩
 unfold pyNext
 refine wpAny_bind (wpAny_attempt (wpAny_callSpecial?_slot (name:=Str.ofString "__next__") hTy slot_map_next (wpAny_call_entry slot_map_next hTy entry_map_next ?_ (map_args _))))
 unfold Builtin.«map.__next__»
 refine wpAny_bind (wpAny_of_eq (a:=(.ref m,[])) (by first | rfl | kernel_rfl) ?_)
 dsimp only
 refine wpAny_bind (wpAny_field hm rfl (x:=.ref T) rfl ?_)
 obtain ⟨oT,hoT,_,nT,hdT⟩:=hT
 refine wpAny_bind (wpAny_seqItems hoT hdT ?_)
 dsimp only
 rw [← Array.forIn_toList]
 simp only [List.forIn_cons,List.forIn_nil]
 refine wpAny_bind (wpAny_bind (wpAny_bind (wpAny_holding (wpAny_nextOf_list_end hh hit hl hx fun h' e he ⟨o,ho,hc⟩=>?_))))
 exact wpAny_bind (wpAny_isInstance (T := "StopIteration") (b:=true) ⟨o,ho,hc⟩ isSubtype_stop (wpAny_pure (h _ he)))
end
end
section
section
variable {prog:Program} {w:World} {F:Fn} {R:PH} {sig sig':List (Option AV)} {om om' om₁:Om} {tau:List (Value × AV)} {s:Shared}
theorem Sta.castTemp (ok:F.Ok) {a:Addr} {P:PH → Obj → Prop} (x:Sta F R sig om tau s) {d:AV} (hd:OmDel om a P om₁) (ha:F.n₀ ≤ a) (key:∀ V o,V a = some o → P V o → Rep V d (.ref a)):Sta F R sig om₁ ((.ref a,d) :: tau) s:=by
 obtain ⟨o,hao,hP⟩:=x.opens _ (hd.perm.mem_iff.mpr List.mem_cons_self)
 have nd:=(x.perm hd.perm).nodup
 have haD:a ∈ F.D ((a,P) :: om₁):=by unfold Fn.D; simp
 have hRa:R a = none:=by
  cases e:R a with
  | none=>rfl
  | some o=>exact absurd haD ((x.perm hd.perm).rf a o e).1
 have y:=x.drop ok hd
 have hv:F.view R om₁ s.heap a = some o:=by
  unfold Fn.view
  rw [if_neg,if_neg (Nat.not_lt.mpr ha)]
  ·exact hao
  ·rw [hRa]
   simp only [Option.isSome_none,Bool.false_eq_true,or_false]
   intro q
   unfold Fn.D at nd q
   rw [List.nodup_cons,List.nodup_append] at nd
   rcases List.mem_cons.mp q with q | q
   ·exact nd.1 (List.mem_append.mpr (.inr (by rw [← q]; simp)))
   ·rcases List.mem_append.mp q with q | q
    ·exact nd.2.2.2 a q a (by simp) rfl
    ·have:=nd.2.2.1
     simp only [List.map_cons,List.nodup_cons] at this
     exact this.1 q
 have kv:(F.view R om s.heap).le (F.view R om₁ s.heap):=by
  rw [view_perm hd.perm.symm]
  intro b ob e
  obtain ⟨c1,c2,c3⟩:=view_cases e
  unfold Fn.view
  rw [if_neg]
  ·rcases c3 with ⟨q,z⟩ | ⟨q,z⟩
   ·rw [if_pos q]; exact z
   ·rw [if_neg q]; exact z
  ·rw [c2]
   simp only [Option.isSome_none,Bool.false_eq_true,or_false]
   intro q
   apply c1
   unfold Fn.D at q ⊢
   simp only [List.mem_cons,List.mem_append,List.map_cons] at q ⊢
   rcases q with q | q | q
   ·exact .inl q
   ·exact .inr (.inl q)
   ·exact .inr (.inr (.inr q))
 have kd:Rep (F.view R om₁ s.heap) d (.ref a):=key _ o hv (hP _ kv)
 exact y.push kd
end
end
section
theorem map_no_len:typeLookup (.type "map") "__len__" = pure none:=by rw [typeLookup_type,builtinLookup_eq_fast]; kernel_rfl
theorem map_no_hint:typeLookup (.type "map") "__length_hint__" = pure none:=by rw [typeLookup_type,builtinLookup_eq_fast]; kernel_rfl
theorem entry_map_iter:entryFor table "map.__iter__" = some Builtin.«dict_keyiterator.__iter__» :=
 entryFor_alias (id' := "dict_keyiterator.__iter__") (by kernel_rfl) (by decide +kernel) (by decide +kernel) (by kernel_rfl)
theorem map_iter_args (a:Value):argsOk "map.__iter__" ⟨[a],[]⟩:=by unfold argsOk; kernel_rfl
section
variable {prog:Program} {w:World} {A:Around} {E:Value → Shared → Prop} {s:Shared} {R:Result → Shared → Prop}
theorem map_self {m:Addr} {o:Obj} {Q:Value → Shared → Prop} (hm:s.heap.get? m = some o) (hc:o.cls = .type "map") (h:Q (.ref m) s):wpAny (model prog w) A (pyIter (.ref m)) Q E s:=by
 have hT:s.TypeIs (.ref m) "map" := ⟨_,hm,hc⟩
 refine wpAny_pyIter_slot hT slot_map_iter (wpAny_call_entry slot_map_iter hT entry_map_iter ?_ (map_iter_args _))
 exact wpAny_pure ⟨_,rfl, "map",_,hT,slot_map_next.lookup,h⟩
theorem list_init_map {m S:Addr} {o:Obj} (hm:s.heap.get? m = some o) (hc:o.cls = .type "map") (hSm:S ≠ m) (hS:s.heap.get? S = some { cls:=.type "list",data:=.seq #[] })
  (h:∀ h' n,Heap.SameBut S s.heap h' → h'.get? S = some { cls:=.type "list",data:=.seq #[] n } → codeAny (model prog w) A (.builtin "list.extend.loop" ⟨[.ref S,.ref m,.none],[]⟩) R { s with heap:=h' }) :
  wpAny (model prog w) A.in1 (Builtin.«list.__init__» ⟨[.ref S,.ref m],[]⟩)
   (fun fin s'=>match fin with | .done f=>R (.ok f) s' | .again c'=>c'.quiet = true ∧ codeAny (model prog w) A c' R s') (fun e s'=>R (.error e) s') s:=by
 have hT:s.TypeIs (.ref m) "map" := ⟨_,hm,hc⟩
 show wpAny _ A.in1 (do let old ← Builtin.List.listItems (.ref S); Builtin.List.listUpdate (.ref S) (fun _=>#[]); letGo old.toList.reverse; Builtin.List.listExtendWith (.ref S) (.ref m) .none) _ _ s
 refine wpAny_bind ?_
 unfold Builtin.List.listItems
 refine wpAny_bind (wpAny_seqItems hS rfl (wpAny_pure ?_))
 show wpAny _ A.in1 (updateSeq S (fun _=>#[]) >>= fun _=>letGo (#[]:Array Value).toList.reverse >>= fun _=>Builtin.List.listExtendWith (.ref S) (.ref m) .none) _ _ s
 refine wpAny_bind (wpAny_updateSeq hS rfl ?_)
 have hS₂:=Heap.get?_update_self (Obj.mapSeq (fun _=>(#[]:Array Value))) hS rfl
 have oth:∀ b o,b ≠ S → s.heap.get? b = some o → (s.heap.update S (Obj.mapSeq (fun _=>(#[]:Array Value)))).get? b = some o :=
  fun b o hb e=>(Heap.get?_update_other _ _ (Ne.symm hb)).trans e
 refine wpAny_bind (wpAny_letGo ?_)
 have hm₂:=oth m o (Ne.symm hSm) hm
 have hT₂:Shared.TypeIs { s with heap:=s.heap.update S (Obj.mapSeq (fun _=>(#[]:Array Value))) } (.ref m) "map" := ⟨_,hm₂,hc⟩
 unfold Builtin.List.listExtendWith
 refine wpAny_bind (wpAny_typeOf hT₂ ?_)
 have h1:Builtin.List.listSameRef (.ref S) (.ref m) = false:=by simp [Builtin.List.listSameRef,hSm]
 have h2:(Value.type "map" == Value.type "list") = false:=by decide
 have h3:(Value.type "map" == Value.type "tuple") = false:=by decide
 simp only [h1,h2,h3,Bool.or_false,Bool.false_eq_true,if_false]
 refine wpAny_bind (map_self hm₂ hc ?_)
 refine wpAny_bind (wpAny_holding ?_)
 unfold Builtin.List.listLengthHint
 refine wpAny_bind (wpAny_specialOf hT₂ map_no_len ?_)
 show wpAny _ A.in1 (specialOf (Value.ref m) (Str.ofString "__length_hint__") >>= _) _ _ _
 refine wpAny_bind (wpAny_specialOf hT₂ map_no_hint ?_)
 refine wpAny_pure ?_
 rw [if_pos (by simp)]
 refine wpAny_bind (wpAny_rule ?_)
 refine wpAny_bind ?_
 show wpAny _ A.in1 (updateSeq S (·.push .none) >>= fun _=>updateSeq S (·.pop)) _ _ _
 refine wpAny_bind (wpAny_updateSeq hS₂ rfl ?_)
 have hS₃:=Heap.get?_update_self (Obj.mapSeq (·.push Value.none)) hS₂ rfl
 refine wpAny_updateSeq (hz:=by seq_fits) hS₃ rfl ?_
 have hS₄:=Heap.get?_update_self (Obj.mapSeq (·.pop)) hS₃ rfl
 exact wpAny_pure ⟨plainId_quiet F.plain_extend_loop _,h _ _ (((Heap.SameBut.update ..).trans (Heap.SameBut.update ..)).trans (Heap.SameBut.update ..)) hS₄⟩
end
end
section
section
variable {prog:Program} {w:World} {F:Fn} {R:PH} {sig sig':List (Option AV)} {om om' om₁:Om} {tau:List (Value × AV)} {s:Shared}
theorem Sta.dropBut (ok:F.Ok) (x:Sta F R sig om tau s) {a:Addr} {P:PH → Obj → Prop} (hd:OmDel om a P om') {h':Heap} {tk:Nat} (hk:∀ b o,b ≠ a → s.heap.get? b = some o → h'.get? b = some o):Sta F R sig om' tau { s with heap:=h',toks:=tk }:=by
 have pm:=hd.perm
 have y:=x.perm pm
 clear hd x
 have inD:∀ b (o:Om),b ∈ F.D o ↔ b = F.L ∨ b ∈ F.cs ∨ b ∈ o.map (·.1):=fun b o=>by unfold Fn.D; simp only [List.mem_cons,List.mem_append]
 have sub:∀ b,b ∈ F.D om' → b ∈ F.D ((a,P) :: om'):=fun b hb=>by
  rw [inD] at hb ⊢
  rcases hb with q | q | q
  ·exact .inl q
  ·exact .inr (.inl q)
  ·exact .inr (.inr (List.mem_cons_of_mem _ q))
 have haD:a ∈ F.D ((a,P) :: om'):=by rw [inD]; exact .inr (.inr (by simp))
 have naD:a ∉ F.D om':=by
  have nd:=y.nodup
  unfold Fn.D at nd ⊢
  rw [List.nodup_cons,List.nodup_append] at nd
  intro q
  rcases List.mem_cons.mp q with q | q
  ·exact nd.1 (List.mem_append.mpr (.inr (by rw [← q]; simp)))
  ·rcases List.mem_append.mp q with q | q
   ·exact nd.2.2.2 a q a (by simp) rfl
   ·have:=nd.2.2.1
    simp only [List.map_cons,List.nodup_cons] at this
    exact this.1 q
 have kv:(F.view R ((a,P) :: om') s.heap).le (F.view R om' h'):=fun b o e=>by
  obtain ⟨c1,c2,c3⟩:=view_cases e
  unfold Fn.view
  rw [if_neg (by rw [c2]; simpa using fun q=>c1 (sub b q))]
  rcases c3 with ⟨q,z⟩ | ⟨q,z⟩
  ·rw [if_pos q]; exact z
  ·rw [if_neg q]; exact hk _ _ (fun q=>c1 (q ▸ haD)) z
 obtain ⟨h₀,tk₀,rfl⟩:=y.same
 have ne:∀ b,b ∈ F.D om' → b ≠ a:=fun b hb q=>naD (q ▸ hb)
 refine ⟨⟨h',tk,rfl⟩,?_,fun b o e=>?_,fun b o e=>?_,fun c hc=>?_,fun p hp=>?_,fun p hp=>(y.temps p hp).mono kv,?_⟩
 ·have:=y.nodup
  unfold Fn.D at this ⊢
  refine this.sublist (List.Sublist.cons_cons _ (List.Sublist.append_left (List.Sublist.map _ (List.sublist_cons_self _ _)) _))
 ·obtain ⟨h1,h2,h3,h4⟩:=y.g b o e
  exact ⟨h1,fun q=>h2 (sub b q),hk _ _ (fun q=>h2 (q ▸ haD)) h3,h4⟩
 ·obtain ⟨h1,h2⟩:=y.rf b o e
  exact ⟨fun q=>h1 (sub b q),hk _ _ (fun q=>h1 (q ▸ haD)) h2⟩
 ·obtain ⟨v,o,ho,hd⟩:=y.cells c hc
  exact ⟨v,o,hk _ _ (ne c ((inD _ _).mpr (.inr (.inl hc)))) ho,hd⟩
 ·obtain ⟨o,ho,hP⟩:=y.opens p (List.mem_cons_of_mem _ hp)
  exact ⟨o,hk _ _ (ne _ ((inD _ _).mpr (.inr (.inr (List.mem_map_of_mem hp))))) ho,fun V' hV=>hP V' (kv.trans hV)⟩
 ·obtain ⟨m,hm,sl⟩:=y.slots
  refine ⟨m,hm.at' fun o e=>hk _ _ (ne _ ((inD _ _).mpr (.inl rfl))) e,fun k z kind d h1 h2=>(sl k z kind d h1 h2).mono kv (fun c o q e=>hk _ _ ?_ e) fun _ _ e=>e⟩
  rcases q with q | q
  ·exact ne c ((inD _ _).mpr (.inr (.inl q)))
  ·exact fun z=>(y.rf _ _ q).1 (z ▸ haD)
theorem call_pure (ok:F.Ok) {A:Around} {B:PH → Prop} {n:Nat} {f:Value} {d₁ d:AV} {v₁:Value} {Q:Value → Shared → Prop} {E:Value → Shared → Prop} (h:PureFn prog w B n f [d₁] d) (room:Room A n) (st:Sta F R sig om tau s) (hB:B (F.view R om s.heap)) (r:Rep (F.view R om s.heap) d₁ v₁)
  (hq:∀ v s',Sta F R sig om ((v,d) :: tau) s' → (∀ b o,s.heap.get? b = some o → s'.heap.get? b = some o) → Q v s'):wpAny (model prog w) A (call f [v₁]) Q E s:=by
 refine h A (F.view R om s.heap) s [v₁] _ _ room hB st.viewIn (.cons r .nil) fun v h' tk k rv=>?_
 refine hq _ _ ((st.grow k).push (rv.mono fun b o e=>?_)) k
 unfold ext at e
 split at e
 ·exact F.view_grow k b o e
 ·rename_i hlt
  exact st.new_view ok (Nat.not_lt.mp hlt) e
theorem Sta.openAt (ok:F.Ok) (x:Sta F R sig om tau s) {P:PH → Obj → Prop} {a:Addr} {o:Obj} {h':Heap} {tk:Nat} (ha:s.heap.objs.size ≤ a) (k:∀ b o',s.heap.get? b = some o' → h'.get? b = some o') (ho:h'.get? a = some o) (hP:∀ V',(F.view R om s.heap).le V' → P V' o) :
  Sta F R sig ((a,P) :: om) tau { s with heap:=h',toks:=tk }:=by
 obtain ⟨f1,f2⟩:=x.fresh ok ha
 have hD:∀ b,b ∈ F.D ((a,P) :: om) ↔ b = a ∨ b ∈ F.D om:=fun b=>by
  unfold Fn.D
  simp only [List.map_cons,List.mem_cons,List.mem_append]
  constructor
  ·rintro (h | h | h | h)
   ·exact .inr (.inl h)
   ·exact .inr (.inr (.inl h))
   ·exact .inl h
   ·exact .inr (.inr (.inr h))
  ·rintro (h | h | h | h)
   ·exact .inr (.inr (.inl h))
   ·exact .inl h
   ·exact .inr (.inl h)
   ·exact .inr (.inr (.inr h))
 have hlt:∀ b o',s.heap.get? b = some o' → b ≠ a:=fun b o' e q=>Nat.lt_irrefl _ (Nat.lt_of_lt_of_le (q ▸ Heap.lt_size e) ha)
 have kv:(F.view R om s.heap).le (F.view R ((a,P) :: om) h'):=fun b o' e=>by
  have hb:=x.vget e
  have hn:=x.vnot e
  unfold Fn.view at e ⊢
  split at e
  ·cases e
  ·rename_i q
   rw [if_neg (fun z=>q (z.imp (fun z=>((hD b).mp z).resolve_left (hlt b o' hb)) id))]
   split at e
   ·rename_i z; rw [if_pos z]; exact e
   ·rename_i z; rw [if_neg z]; exact k _ _ e
 obtain ⟨h₀,tk₀,rfl⟩:=x.same
 refine ⟨⟨_,tk,rfl⟩,?_,fun b o' e=>⟨(x.g b o' e).1,fun z=>?_,k _ _ (x.g b o' e).2.2.1,(x.g b o' e).2.2.2⟩,fun b o' e=>⟨fun z=>?_,k _ _ (x.rf b o' e).2⟩,fun c hc=>?_,fun p hp=>?_,fun p hp=>(x.temps p hp).mono kv,?_⟩
 ·have nd:=x.nodup
  unfold Fn.D at nd f1 ⊢
  simp only [List.map_cons,List.nodup_cons,List.mem_append,List.mem_cons,not_or,List.nodup_append] at nd f1 ⊢
  refine ⟨⟨nd.1.1,fun q=>f1.1 q.symm,nd.1.2⟩,nd.2.1,⟨f1.2.2,nd.2.2.1⟩,fun a' ha' b hb=>?_⟩
  rcases hb with rfl | hb
  ·rintro rfl; exact f1.2.1 ha'
  ·exact nd.2.2.2 a' ha' b hb
 ·exact ((hD b).mp z).elim (fun q=>hlt b o' (x.g b o' e).2.2.1 q) (x.g b o' e).2.1
 ·exact ((hD b).mp z).elim (fun q=>hlt b o' (x.rf b o' e).2 q) (x.rf b o' e).1
 ·obtain ⟨v,hv⟩:=x.cells c hc; exact ⟨v,hv.keeps k⟩
 ·rcases List.mem_cons.mp hp with rfl | hp
  ·exact ⟨o,ho,fun V' hV=>hP V' (kv.trans hV)⟩
  ·obtain ⟨o',ho',hP'⟩:=x.opens p hp
   exact ⟨o',k _ _ ho',fun V' hV=>hP' V' (kv.trans hV)⟩
 ·obtain ⟨m,hm,sl⟩:=x.slots
  exact ⟨m,hm.keeps k,fun k' y kind d h1 h2=>(sl k' y kind d h1 h2).mono kv (fun c o' _ e=>k _ _ e) fun _ _ e=>e⟩
theorem Sta.new_view2 (ok:F.Ok) (x:Sta F R sig om tau s) {h':Heap} {P:PH → Obj → Prop} {a b:Addr} {o:Obj} (hb:s.heap.objs.size ≤ b) (hne:b ≠ a) (e:h'.get? b = some o):F.view R ((a,P) :: om) h' b = some o:=by
 obtain ⟨h1,h2⟩:=x.fresh ok hb
 unfold Fn.view
 rw [if_neg,if_neg h2]
 ·exact e
 ·rw [x.freshR hb]
  simp only [Option.isSome_none,Bool.false_eq_true,or_false]
  intro z
  apply h1
  unfold Fn.D at z ⊢
  simp only [List.map_cons,List.mem_cons,List.mem_append] at z ⊢
  rcases z with z | z | z | z
  ·exact .inl z
  ·exact .inr (.inl z)
  ·exact absurd z hne
  ·exact .inr (.inr z)
noncomputable def itO (la:Addr) (i:Nat):PH → Obj → Prop:=fun _ o=>o.cls = .type "list_iterator" ∧ o.data = .fields #[.ref la,.int i 0]
noncomputable def mapA (df:AV) (l:List AV) (it la:Addr):AV:=.raw fun V v=>∃ m T oT fv vs n nT,v = .ref m ∧ V m = some { cls:=.type "map",data:=.fields #[.ref T,fv] } ∧ V T = some oT ∧ oT.cls = .type "tuple" ∧ oT.data = .seq #[.ref it] nT ∧ V la = some { cls:=.type "list",data:=.seq vs n } ∧ RepL V l vs.toList ∧ Rep V df fv
theorem x_map (ok:F.Ok) {df:AV} {l:List AV} {P:AV → Om → Prop} (hp:∀ it la,F.n₀ ≤ it → P (mapA df l it la) ((it,itO la 0) :: om)):OpX prog w F om (.type "map") [df,.lst l] P:=fun R sig tau vs s Q E hv st hq=>by
 obtain ⟨v₁,v₂,rfl,st⟩:=two_of hv st
 have r1:=st.top2
 have r2:=st.top
 simp only [Rep] at r2
 obtain ⟨la,vs,n,rfl,o,r⟩:=r2
 refine call_map (st.vget o) fun h' k hi ht hm=>?_
 obtain ⟨oi,hoi,hci,hdi⟩:=hi
 obtain ⟨oT,hoT,hcT,nT,hdT⟩:=ht
 have n0:F.n₀ ≤ s.heap.objs.size:=Nat.not_lt.mp (st.fresh ok (Nat.le_refl _)).2
 have x:=st.openAt (P:=itO la 0) (a:=s.heap.objs.size) (tk:=s.toks) ok (Nat.le_refl _) k hoi fun V' _=>⟨hci,hdi⟩
 have kv:(F.view R om s.heap).le (F.view R ((s.heap.objs.size,itO la 0) :: om) h'):=fun b ob e=>by
  have hne:b ≠ s.heap.objs.size:=fun q=>Nat.lt_irrefl _ (q ▸ Heap.lt_size (st.vget e))
  obtain ⟨c1,c2,c3⟩:=view_cases e
  unfold Fn.view
  rw [if_neg]
  ·rcases c3 with ⟨q,z⟩ | ⟨q,z⟩
   ·rw [if_pos q]; exact z
   ·rw [if_neg q]; exact k _ _ z
  ·rw [c2]
   simp only [Option.isSome_none,Bool.false_eq_true,or_false]
   intro z
   apply c1
   unfold Fn.D at z ⊢
   simp only [List.map_cons,List.mem_cons,List.mem_append] at z ⊢
   rcases z with z | z | z | z
   ·exact .inl z
   ·exact .inr (.inl z)
   ·exact absurd z hne
   ·exact .inr (.inr z)
 refine hq _ _ _ _ (hp s.heap.objs.size la n0) (x.pop.pop.push ?_)
 unfold mapA
 simp only [Rep]
 intro V' hV
 refine ⟨s.heap.objs.size + 2,s.heap.objs.size + 1,oT,v₁,vs,n,nT,rfl,hV _ _ (st.new_view2 ok (Nat.le_add_right _ _) (Nat.ne_of_gt (Nat.lt_add_of_pos_right (by decide))) hm),hV _ _ (st.new_view2 ok (Nat.le_add_right _ _) (Nat.ne_of_gt (Nat.lt_add_of_pos_right (by decide))) hoT),hcT,hdT,(kv.trans hV) _ _ o,r.mono (kv.trans hV),r1.mono (kv.trans hV)⟩
end
end
section
section
variable {prog:Program} {w:World} {F:Fn} {R:PH} {sig sig':List (Option AV)} {om om' om₁:Om} {tau:List (Value × AV)} {s:Shared} {K:Frag}
theorem mapA_rep {V:PH} {df:AV} {l:List AV} {it la:Addr} {v:Value} (h:Rep V (mapA df l it la) v):∃ m T oT fv vs n nT,v = .ref m ∧ V m = some { cls:=.type "map",data:=.fields #[.ref T,fv] } ∧ V T = some oT ∧ oT.cls = .type "tuple" ∧ oT.data = .seq #[.ref it] nT ∧ V la = some { cls:=.type "list",data:=.seq vs n } ∧ RepL V l vs.toList ∧ Rep V df fv:=by
 unfold mapA at h
 simp only [Rep] at h
 exact h V (PH.le.refl _)
theorem map_loop (ok:F.Ok) {A:Around} {n:Nat} {df:AV} {l ds:List AV} {it la m S:Addr} {RR:Result → Shared → Prop} (hk:SeesK K F.G) (hlen:l.length = ds.length) (hsz:l.length ≤ 1000000) (room:Room A (n + 2))
  (hf:∀ (V:PH) fv,SeesK K V → Rep V df fv → ∃ B:PH → Prop,B V ∧ ∀ (i:Nat) d d',l[i]? = some d → ds[i]? = some d' → PureFn prog w B n fv [d] d') :
  ∀ (k i:Nat) (s:Shared),l.length - i = k → i ≤ l.length → Sta F R sig ((S,LstO (ds.take i)) :: (it,itO la i) :: om) ((.ref m,mapA df l it la) :: tau) s → (∀ s',Sta F R sig ((S,LstO ds) :: om) tau s' → RR (.ok (.ret .none)) s') →
   codeAny (model prog w) A (.builtin "list.extend.loop" ⟨[.ref S,.ref m,.none],[]⟩) RR s:=by
 intro k
 induction k with
 | zero =>
  intro i s hk' hi st hR
  have hin:i = l.length:=by lia
  subst hin
  obtain ⟨m',T,oT,fv,vs,c,cT,e,hm,hT,hcT,hdT,hl,r,rf⟩:=mapA_rep st.top
  cases e
  obtain ⟨oi,hoi,hP⟩:=st.opens (it,itO la l.length) (by simp)
  obtain ⟨hci,hdi⟩:=hP _ (PH.le.refl _)
  have e1:=r.length
  simp only [Array.length_toList] at e1
  refine codeAny_builtin PySem.F.entry_extend_loop ?_
  rw [Around.under_plainId PySem.F.plain_extend_loop _]
  show wpAny _ A.in1 (pyNext (.ref m) >>= _) _ _ s
  refine wpAny_bind (map_done (T:=T) (it:=it) (l:=la) (items:=vs) (i:=l.length) (room.handled) (st.vget hm) ⟨oT,st.vget hT,hcT,cT,hdT⟩ ⟨oi,hoi,hci,hdi⟩ ⟨_,st.vget hl,rfl,c,rfl⟩ (by rw [Array.getElem?_eq_none_iff]; lia) fun h' he=>?_)
  refine wpAny_pure (hR _ ?_)
  have:=st.pop.dropBut (om':=(S,LstO (ds.take l.length)) :: om) (tk:=s.toks) ok (.there .here) (h':=h') fun b o hb e=>he b o hb e
  rw [hlen,List.take_length] at this
  exact this
 | succ k ih =>
  intro i s hk' hi st hR
  have hlt:i < l.length:=by lia
  obtain ⟨m',T,oT,fv,vs,c,cT,e,hm,hT,hcT,hdT,hl,r,rf⟩:=mapA_rep st.top
  cases e
  obtain ⟨oi,hoi,hP⟩:=st.opens (it,itO la i) (by simp)
  obtain ⟨hci,hdi⟩:=hP _ (PH.le.refl _)
  have e1:=r.length
  simp only [Array.length_toList] at e1
  have hx:vs[i]? = some vs[i]:=by rw [Array.getElem?_eq_getElem (by lia)]
  have hmi:m ≠ it:=fun q=>by
   have:=st.vnot hm
   apply this
   unfold Fn.D
   simp [q]
  refine codeAny_builtin PySem.F.entry_extend_loop ?_
  rw [Around.under_plainId PySem.F.plain_extend_loop _]
  show wpAny _ A.in1 (pyNext (.ref m) >>= _) _ _ s
  refine wpAny_bind (map_next (T:=T) (it:=it) (l:=la) (items:=vs) (i:=i) (st.vget hm) ⟨oT,st.vget hT,hcT,cT,hdT⟩ ⟨oi,hoi,hci,hdi⟩ ⟨_,st.vget hl,rfl,c,rfl⟩ hx hmi fun h' E' hit' hs'=>?_)
  obtain ⟨oi',hoi',hci',hdi'⟩:=hit'
  have u1:OmUpd ((S,LstO (ds.take i)) :: (it,itO la i) :: om) it (itO la i) (itO la (i + 1)) ((S,LstO (ds.take i)) :: (it,itO la (i + 1)) :: om):=.there .here
  have st₁:=st.upd (tk:=s.toks) u1 hs' hoi' fun V' _=>⟨hci',hdi'⟩
  obtain ⟨m',T',oT',fv',vs',c',cT',e,hm',hT',hcT',hdT',hl',r',rf'⟩:=mapA_rep st₁.top
  cases e
  have g1:=st₁.vget hm'
  have g2:=st.vget hm
  have g3:h'.get? m = some { cls:=.type "map",data:=.fields #[.ref T,fv] }:=(hs'.2 m hmi).trans g2
  rw [show ({ s with heap:=h',toks:=s.toks }:Shared).heap.get? m = some { cls:=.type "map",data:=.fields #[.ref T,fv] } from g3] at g1
  cases g1
  have g4:=st₁.vget hl'
  have g5:=st.vget hl
  have hla:la ≠ it:=fun q=>by
   have:=st.vnot hl
   apply this
   unfold Fn.D
   simp [q]
  have g6:h'.get? la = some { cls:=.type "list",data:=.seq vs c }:=(hs'.2 la hla).trans g5
  rw [show ({ s with heap:=h',toks:=s.toks }:Shared).heap.get? la = _ from g6] at g4
  cases g4
  obtain ⟨B,hB,hpf⟩:=hf (F.view R ((S,LstO (ds.take i)) :: (it,itO la (i + 1)) :: om) h') fv ((hk.mono (Fn.G_view st₁))) rf'
  obtain ⟨v,hv,rv⟩:=r'.get (i:=i) (d:=l[i]) (by simp [hlt])
  have:v = vs[i]:=by
   rw [show vs.toList[i]? = vs[i]? from by simp] at hv
   rw [hx] at hv; exact (Option.some.inj hv).symm
  subst this
  have hd:ds[i]? = some (ds[i]'(by lia)):=by simp [show i < ds.length by lia]
  refine call_pure ok (hpf i l[i] _ (by simp [hlt]) hd) (⟨room.handled,by have:=room.depth; show A.depth + n ≤ 600; lia,by have:=room.units; show A.units + 1 + 1 + 20 * n ≤ 5000; lia⟩) st₁ hB rv fun u s₂ st₂ k₂=>?_
  obtain ⟨vs₂,n₂,hl₂,r₂,e₂⟩:=st₂.openList (a:=S) (l:=ds.take i) (by simp)
  show wpAny _ A.in1 (updateSeq S (·.push u) >>= _) _ _ s₂
  refine wpAny_bind ?_
  have hsz₂:vs₂.size ≤ 1000000:=by rw [e₂,List.length_take]; lia
  have sl:(1000000:Nat) < sizeLine:=by decide
  obtain ⟨n',ho'⟩:=isL_update hl₂ fun xs=>xs.push u
  have hsb:Heap.SameBut S s₂.heap (s₂.heap.update S (Obj.mapSeq fun xs=>xs.push u)):=Heap.SameBut.update ..
  have u2:OmUpd ((S,LstO (ds.take i)) :: (it,itO la (i + 1)) :: om) S (LstO (ds.take i)) (LstO (ds.take (i + 1))) ((S,LstO (ds.take (i + 1))) :: (it,itO la (i + 1)) :: om):=.here
  have kv:=view_but (F:=F) (R:=R) (om:=(S,LstO (ds.take i)) :: (it,itO la (i + 1)) :: om) u2.inD hsb
  have st₃:=st₂.pop.upd (tk:=s₂.toks) u2 hsb ho' (LstO.upd (by
   rw [Array.toList_push,List.take_succ,hd]
   exact (r₂.mono kv).append (.cons (st₂.top.mono kv) .nil)))
  exact wpAny_updateSeq hl₂ rfl (wpAny_pure ⟨plainId_quiet PySem.F.plain_extend_loop _,ih (i + 1) _ (by lia) hlt st₃ hR⟩) (by lia) (by show (vs₂.push u).size ≤ sizeLine + 1; rw [Array.size_push]; lia)
end
end
section
theorem li_args2 (a b:Value):argsOk "list.__init__" ⟨[a,b],[]⟩:=by unfold argsOk; kernel_rfl
section
variable {prog:Program} {w:World} {F:Fn} {R:PH} {sig sig':List (Option AV)} {om om' om₁:Om} {tau:List (Value × AV)} {s:Shared} {K:Frag}
theorem x_list_map (ok:F.Ok) {n:Nat} {df:AV} {l ds:List AV} {it la:Addr} {P:AV → Om → Prop} (hk:SeesK K F.G) (hlen:l.length = ds.length) (hsz:l.length ≤ 1000000) (room:Room F.A (n + 4))
  (hf:∀ (V:PH) fv,SeesK K V → Rep V df fv → ∃ B:PH → Prop,B V ∧ ∀ (i:Nat) d d',l[i]? = some d → ds[i]? = some d' → PureFn prog w B n fv [d] d')
  (hd:OmDel om it (itO la 0) om') (hp:P (.lst ds) om'):OpX prog w F om (.type "list") [mapA df l it la] P:=fun R sig tau vs s Q E hv st hq=>by
 obtain ⟨v₁,rfl,st⟩:=one_of hv st
 obtain ⟨m,T,oT,fv,vs,c,cT,e,hm,hT,hcT,hdT,hl,r,rf⟩:=mapA_rep st.top
 subst e
 have x:=st.perm hd.perm
 have hmv:=st.vget hm
 have hmlt:=Heap.lt_size hmv
 refine callType_codes PySem.F.called_list (PySem.F.typeCall_list_1 _) PySem.F.entry_list_init (Q₁:=fun obj s₁=>obj = .ref s.heap.objs.size ∧ s₁ = { s with heap:=s.heap.push { cls:=.type "list",data:=.seq #[] } }) (code_list_new _ ⟨rfl,rfl⟩) ?_
 rintro obj s₁ ⟨rfl,rfl⟩
 have hS:(s.heap.push { cls:=.type "list",data:=.seq #[] }).get? s.heap.objs.size = some { cls:=.type "list",data:=.seq #[] }:=Heap.get?_push_size _ rfl
 have x₁:Sta F R sig ((s.heap.objs.size,LstO []) :: (it,itO la 0) :: om') ((.ref m,mapA df l it la) :: tau) { s with heap:=s.heap.push { cls:=.type "list",data:=.seq #[] } }:=x.openNew ok _ rfl fun V' _=>⟨#[],0,rfl,RepL.nil⟩
 refine ⟨⟨_,hS,rfl⟩,li_args2 _ _,?_⟩
 refine list_init_map (o:={ cls:=.type "map",data:=.fields #[.ref T,fv] }) (Heap.get?_push_of_some _ hmv) rfl (Nat.ne_of_gt hmlt) hS fun h' n' hsb hS'=>?_
 have x₂:=x₁.upd (tk:=s.toks) (P':=LstO (ds.take 0)) (om':=(s.heap.objs.size,LstO (ds.take 0)) :: (it,itO la 0) :: om') .here hsb hS' fun V' _=>⟨#[],n',rfl,RepL.nil⟩
 refine map_loop ok hk hlen hsz (A:=F.A.in1) ⟨room.handled,by have:=room.depth; show F.A.depth + (n + 2) ≤ 600; lia,by have:=room.units; show F.A.units + 1 + 20 * (n + 2) ≤ 5000; lia⟩ hf l.length 0 _ rfl (Nat.zero_le _) x₂ fun s' x'=>⟨rfl,?_⟩
 have n0:F.n₀ ≤ s.heap.objs.size:=Nat.not_lt.mp (st.fresh ok (Nat.le_refl _)).2
 exact hq _ _ _ _ hp (x'.castTemp ok .here n0 key_lst)
end
end
section
noncomputable def methA (f C:Addr):AV:=.raw fun V v=>∃ a,v = .ref a ∧ V a = some (methodObj (.ref f) (.ref C))
section
variable {prog:Program} {w:World} {F:Fn} {R:PH} {sig sig':List (Option AV)} {om om' om₁:Om} {tau:List (Value × AV)} {s:Shared} {K:Frag}
theorem ev_clsmeth (ok:F.Ok) {o:PySem.Expr} {x:PySem.Str} {pos:Pos} {C p f:Addr} {mc obj:Value} {rest:List Value} (hk:SeesK K F.G) (h:Ev prog w F sig om o (.raw fun _ u=>u = .ref C)) (hr:readsIn K C mc = true) (e:findCls K (.ref C) mc x = some (.get (.builtin "classmethod.__get__") (.ref p) obj (.ref C))) (hp:recIn K p "classmethod" = some (.ref f :: rest))
  (he:eval (.Attribute o x pos) F.env = (do
   let ov ← eval o F.env
   standAt pos.atName
   let r ← holding [ov] (getAttr ov x true)
   letTemporaryGo o ov r
   pure r):=by with_unfolding_all rfl):Ev prog w F sig om (.Attribute o x pos) (methA f C):=fun R tau s Q E st hq=>by
 refine Attribute_any_ (h R tau s _ _ st fun v s₁ st₁=>?_) he
 have:=st₁.top
 simp only [Rep] at this
 obtain rfl:=this _ (PH.le.refl _)
 have X:=st₁.inK hk
 refine cls_bind X hr e (wpAny_call (cm_get (s:={ s₁ with toks:=s₁.toks + 1 }) X hp ?_))
 refine handed_on rfl (hq _ _ ?_)
 refine ((st₁.pop.tok1.alloc _).push ?_)
 unfold methA
 simp only [Rep]
 exact fun V' hV=>⟨_,rfl,hV _ _ (st₁.pop.tok1.new_view ok (Nat.le_refl _) (Heap.get?_push_size _ rfl))⟩
theorem pure_method {B:PH → Prop} {n:Nat} {a f C:Addr} {d d':AV} (h:PureC prog w B n (.ref f) [.raw fun _ u=>u = .ref C,d] d'):PureFn prog w (fun V=>B V ∧ V a = some (methodObj (.ref f) (.ref C))) n (.ref a) [d] d':=fun A G s vs Q E hr ⟨hB,ha⟩ hG r hq=>by
 obtain ⟨v,rfl⟩:=len1 r.length
 refine wpAny_call (ks_codeAny_call_bound (hG _ _ ha) ?_)
 exact h A G s [.ref C,v] Q E hr hB hG (.cons (by simp only [Rep]; exact fun _ _=>trivial) r) hq
end
end
section
section
variable {prog:Program} {w:World} {F:Fn} {R:PH} {sig sig':List (Option AV)} {om om' om₁:Om} {tau:List (Value × AV)} {s:Shared} {K:Frag}
theorem code_imp (ok:F.Ok) {A:Around} {B:PH → Prop} {n:Nat} {f:Value} {ds:List AV} {vs:List Value} {om₁ rest:Om} {P:AV → Om → Prop} {Q E:Value → Shared → Prop} (h:ImpC prog w B n f ds om₁ P) (hB:B F.G) (mono:∀ V V',V.le V' → B V → B V') (room:Room A n) (hp:om.Perm (om₁ ++ rest))
  (hv:vs.length = ds.length) (st:Sta F R sig om ((vs.zip ds).reverse ++ tau) s) (hq:∀ v d om₂ s',P d om₂ → Sta F R sig (om₂ ++ rest) ((v,d) :: tau) s' → Q v s') :
  codeAny (model prog w) A (.call f ⟨vs,[]⟩) (fun r s'=>match r with | .ok (.ret v)=>Q v s' | .ok _=>False | .error e=>E e s') s:=by
 obtain ⟨r,st'⟩:=st.zip hv
 have x:=st'.perm hp
 have hvw:F.view R om s.heap = F.view R (om₁ ++ rest) s.heap:=(view_perm hp _).symm
 rw [hvw] at r
 have nd:=x.nodup
 unfold Fn.D at nd
 rw [List.nodup_cons,List.nodup_append,List.map_append,List.nodup_append] at nd
 refine h A (F.view R (om₁ ++ rest) s.heap) s vs _ _ room (mono _ _ (Fn.G_view x) hB) x.viewIn r nd.2.2.1.1 (fun b hb=>?_) (fun p hp=>?_) fun v d om₂ h' tk hPd n2 new k op rv=>hq v d _ _ hPd (x.called (tk:=tk) ok n2 new k op rv)
 ·have:b ∈ F.D (om₁ ++ rest):=by
   unfold Fn.D
   rw [List.mem_cons,List.mem_append,List.map_append,List.mem_append]
   exact .inr (.inr (.inl hb))
  unfold Fn.view
  rw [if_pos (.inl this)]
 ·obtain ⟨o,ho,hP⟩:=x.opens p (List.mem_append.mpr (.inl hp))
  exact ⟨o,ho,hP⟩
theorem x_make (ok:F.Ok) {B:PH → Prop} {n:Nat} {C f:Addr} {ds:List AV} {Pm:Addr → Addr → Om → Prop} {P:AV → Om → Prop} (hk:SeesK K F.G) (hm:makesIn K C = true) (hi:findIn K (.ref C) "__init__" = some (some (.ref f))) (ht:typeIn K (.ref f) = some (.type "function"))
  (hB:B F.G) (mono:∀ V V',V.le V' → B V → B V') (room:Room F.A (n + 1)) (h:∀ x dx,ImpC prog w B n (.ref f) (inst C x dx :: ds) [(dx,AttO [])] fun d om₂=>d = .none ∧ Pm x dx om₂)
  (hP:∀ x dx om₂,Pm x dx om₂ → P (inst C x dx) (om₂ ++ om)):OpX prog w F om (.ref C) ds P:=fun R sig tau vs s Q E hv st hq=>by
 have X:=st.inK hk
 obtain ⟨r,st₀⟩:=st.zip hv
 have st₁:=st.openNew (P:=AttO []) ok emptyDict rfl fun V' _=>⟨[],0,rfl,.nil⟩
 have st₂:=st₁.alloc (instObj C s.heap.objs.size)
 have hsz:(s.heap.push emptyDict).objs.size = s.heap.objs.size + 1:=Heap.size_push ..
 have hx:((s.heap.push emptyDict).push (instObj C s.heap.objs.size)).get? (s.heap.objs.size + 1) = some (instObj C s.heap.objs.size):=hsz ▸ Heap.get?_push_size _ rfl
 have rx:Rep (F.view R ((s.heap.objs.size,AttO []) :: om) ((s.heap.push emptyDict).push (instObj C s.heap.objs.size))) (inst C (s.heap.objs.size + 1) s.heap.objs.size) (.ref (s.heap.objs.size + 1)):=by
  unfold inst
  simp only [Rep]
  exact fun V' hV=>⟨trivial,hV _ _ (st.new_view2 ok (Nat.le_succ _) (Nat.ne_of_gt (Nat.lt_succ_self _)) hx)⟩
 have k₂:∀ b o,s.heap.get? b = some o → ((s.heap.push emptyDict).push (instObj C s.heap.objs.size)).get? b = some o:=fun b o e=>Heap.get?_push_of_some _ (Heap.get?_push_of_some _ e)
 have st₃:Sta F R sig ((s.heap.objs.size,AttO []) :: om) (((Value.ref (s.heap.objs.size + 1) :: vs).zip (inst C (s.heap.objs.size + 1) s.heap.objs.size :: ds)).reverse ++ (.ref (s.heap.objs.size + 1),inst C (s.heap.objs.size + 1) s.heap.objs.size) :: tau) { s with heap:=(s.heap.push emptyDict).push (instObj C s.heap.objs.size) }:=by
  refine st₂.temp fun p hp=>?_
  simp only [List.zip_cons_cons,List.reverse_cons,List.append_assoc,List.mem_append,List.mem_cons,List.cons_append,List.nil_append] at hp
  rcases hp with hp | rfl | rfl | hp
  ·exact st₂.temps p (by simp only [List.mem_append]; exact .inl hp)
  ·exact rx
  ·exact rx
  ·exact st₂.temps p (by simp only [List.mem_append]; exact .inr hp)
 obtain ⟨hp,g,d,tk,os⟩:=s
 refine wpAny_call (make_core (init:=.ref f) (makes_of X hm) (looks_findIn X hi) (fun self=>bind_fn X self ht) (.inl (by rfl)) ?_)
 refine codeAny_mono (code_imp ok (A:=F.A.under (.builtin "type.__call__" ⟨.ref C :: vs,[]⟩)) (om₁:=[(hp.objs.size,AttO [])]) (rest:=om) (E:=fun e s'=>E e s') (Q:=fun v s'=>v = .none ∧ Q (.ref (hp.objs.size + 1)) s') (h _ _) hB mono (room.under (tc_weight C vs) (tc_units C vs)) (List.Perm.refl _) (by simp [hv]) st₃ fun v d' om₂ s' ⟨e,hPm⟩ st'=>?_) fun r s' hr=>?_
 ·subst e
  have:=st'.top
  simp only [Rep] at this
  subst this
  exact ⟨rfl,hq _ _ _ _ (hP _ _ _ hPm) st'.pop⟩
 ·cases r with
  | error e=>exact hr
  | ok fl=>cases fl <;> exact hr
end
end
section
theorem tl_kind:builtinKind "tuple.__lt__" = some .slot:=by decide +kernel
theorem tl_split:splitId "tuple.__lt__" = some ("tuple", "__lt__"):=by decide +kernel
noncomputable abbrev T3:=Int × Int × Int
noncomputable def ltT (a b:T3):Bool:=if a.1 == b.1 then (if a.2.1 == b.2.1 then decide (a.2.2 < b.2.2) else decide (a.2.1 < b.2.1)) else decide (a.1 < b.1)
section
variable {prog:Program} {w:World} {A:Around} {E:Value → Shared → Prop} {s:Shared} {C:Addr}
set_option maxRecDepth 100000 in
theorem mat_lt {x y:Addr} {ox oy:Obj} {a b:T3} {t1 t2 t3 u1 u2 u3:Tok} {n n':Nat} {Q:Bool → Shared → Prop} (hu:A.units < cLine) (Y:TupCls (model prog w) s.heap C) (hi:Looks (model prog w) s.heap (typeLookup (.ref C) "__lt__") (some (.builtin "tuple.__lt__")))
  (hx:s.heap.get? x = some ox) (hcx:ox.cls = .ref C) (hdx:ox.data = .seq #[.int a.1 t1,.int a.2.1 t2,.int a.2.2 t3] n) (hy:s.heap.get? y = some oy) (hcy:oy.cls = .ref C) (hdy:oy.data = .seq #[.int b.1 u1,.int b.2.1 u2,.int b.2.2 u3] n')
  (h:Q (ltT a b) s):wpAny (model prog w) A (keyLt' oneType' (.ref x) (.ref y)) Q E s:=by
 have q1:Looks (model prog w) s.heap (typeOf (.ref x)) (.ref C):=hcx ▸ (Looks.ld hx).andThen .now
 have q2:Looks (model prog w) s.heap (typeOf (.ref y)) (.ref C):=hcy ▸ (Looks.ld hy).andThen .now
 have sp:Looks (model prog w) s.heap (specialOf (.ref x) "__lt__") (some (.builtin "tuple.__lt__")):=q1.andThen hi
 have sub:Looks (model prog w) s.heap (isInstance (.ref x) (.type "tuple")) true:=q1.andThen Y.tup
 have sub2:Looks (model prog w) s.heap (isInstance (.ref y) (.type "tuple")) true:=q2.andThen Y.tup
 have cl:∀ {Q:Value → Shared → Prop},Q (.bool (ltT a b)) s → wpAny (model prog w) A (call (.builtin "tuple.__lt__") [.ref x,.ref y]) Q E s:=fun {Q} h=>by
  refine wpAny_call (codeAny_call_builtin F.slot_tuple_lt.plain F.entry_tuple_lt (@check_slot (model prog w) _ _ s "tuple.__lt__" "tuple" "__lt__" (.ref x) [.ref y] [] _ tl_kind tl_split sub (F.args_tuple_lt_2 _ _) ?_))
  show wpAny _ _ (do
   if !(← isInstance (.ref y) (.type "tuple")) then return ← ret .notImplemented
   let xs ← Builtin.Tuple.tupleItemsOf (.ref x)
   let ys ← Builtin.Tuple.tupleItemsOf (.ref y)
   for (x,y) in xs.toList.zip ys.toList do
    if !(← eqBool x y) then
     rule "tuple.compare.by-the-first-pair-that-differs"; return ← ret (← richCompare .Lt x y)
   ret (Builtin.Tuple.tupleCompareSizes .Lt xs.size ys.size)) _ _ s
  refine wpAny_bind (sub2.here ?_)
  simp only [Bool.not_true,Bool.false_eq_true,if_false]
  refine wpAny_bind ?_
  unfold Builtin.Tuple.tupleItemsOf
  refine wpAny_bind (wpAny_seqItems hx hdx (wpAny_pure ?_))
  refine wpAny_bind (wpAny_bind (wpAny_seqItems hy hdy (wpAny_pure ?_)))
  simp only [List.zip_cons_cons,List.zip_nil_left,List.forIn_cons,List.forIn_nil]
  unfold ltT at h
  have rc:∀ {p q:Int} {t u:Tok} {Q':Value → Shared → Prop} {E':Value → Shared → Prop},Q' (.bool (decide (p < q))) s → wpAny (model prog w) A.in1 (richCompare .Lt (.int p t) (.int q u)) Q' E' s:=fun {p q t u Q' E'} h=>(show wpAny (model prog w) A.in1 (compareOp .Lt (.int p t) (.int q u)) Q' E' s from P.lt_int h)
  cases e1:(a.1 == b.1) with
  | false =>
   rw [e1] at h
   simp only [Bool.false_eq_true,if_false] at h
   refine wpAny_bind (wpAny_bind (wpAny_bind (wpAny_eqBool_int ?_)))
   rw [e1]
   simp only [Bool.not_false,if_true]
   exact wpAny_bind (wpAny_rule (wpAny_bind (rc (wpAny_bind (wpAny_pure (wpAny_pure (wpAny_pure (wpAny_pure h))))))))
  | true =>
   rw [e1] at h
   simp only [if_true] at h
   refine wpAny_bind (wpAny_bind (wpAny_bind (wpAny_eqBool_int ?_)))
   rw [e1]
   simp only [Bool.not_true,Bool.false_eq_true,if_false]
   refine wpAny_pure (wpAny_bind (wpAny_bind (wpAny_eqBool_int ?_)))
   cases e2:(a.2.1 == b.2.1) with
   | false =>
    rw [e2] at h
    simp only [Bool.false_eq_true,if_false] at h
    simp only [Bool.not_false,if_true]
    exact wpAny_bind (wpAny_rule (wpAny_bind (rc (wpAny_bind (wpAny_pure (wpAny_pure (wpAny_pure (wpAny_pure h))))))))
   | true =>
    rw [e2] at h
    simp only [if_true] at h
    simp only [Bool.not_true,Bool.false_eq_true,if_false]
    refine wpAny_pure (wpAny_bind (wpAny_bind (wpAny_eqBool_int ?_)))
    cases e3:(a.2.2 == b.2.2) with
    | false =>
     simp only [Bool.not_false,if_true]
     exact wpAny_bind (wpAny_rule (wpAny_bind (rc (wpAny_bind (wpAny_pure (wpAny_pure (wpAny_pure (wpAny_pure h))))))))
    | true =>
     simp only [Bool.not_true,Bool.false_eq_true,if_false]
     have:¬ a.2.2 < b.2.2:=by have:=beq_iff_eq.mp e3; lia
     rw [decide_eq_false this] at h
     exact wpAny_pure (wpAny_pure (wpAny_pure h))
 rw [keyLt'_oneType,oneLt'_eq]
 simp only [if_true]
 refine wpAny_bind (wpAny_cRoomFor hu ?_)
 refine wpAny_bind ?_
 simp only [callSpecialIfBound?,bindSpecialIfBound?]
 refine wpAny_holding (wpAny_bind (wpAny_bind (sp.here ?_)))
 have hb:bindSpecial (.builtin "tuple.__lt__") (.ref x) = pure (.builtin "tuple.__lt__",[.ref x]):=F.slot_tuple_lt.bind _
 simp only [hb]
 refine wpAny_bind (wpAny_askSetting (wpAny_ite ?_))
 split
 ·exact wpAny_bind (wpAny_pure (wpAny_pure (wpAny_bind (cl (wpAny_pure (wpAny_truthy_bool h))))))
 ·exact wpAny_tryCatch (wpAny_bind (wpAny_pure (wpAny_pure (wpAny_bind (cl (wpAny_pure (wpAny_truthy_bool h)))))))
end
end
section
noncomputable def post {α:Type} (n:Nat) (lt:Nat → Nat → Bool):KasT α → (α → Prop) → Prop
 | .ret a,Q=>Q a
 | .ask i j k,Q=>i < n ∧ j < n ∧ post n lt (k (lt i j)) Q
section
variable {n:Nat} {lt:Nat → Nat → Bool} {p:Array Nat}
structure Tot (n:Nat) (lt:Nat → Nat → Bool):Prop where
 tr:∀ i j k,i < n → j < n → k < n → lt i j = true → lt j k = true → lt i k = true
 irr:∀ i,i < n → lt i i = false
 tot:∀ i j,i < n → j < n → i ≠ j → lt i j = false → lt j i = true
structure Pm (n:Nat) (p:Array Nat):Prop where
 size:p.size = n
 perm:p.toList.Perm (List.range n)
noncomputable abbrev g (p:Array Nat) (i:Nat):Nat:=p.getD i 0
noncomputable def SortedP (lt:Nat → Nat → Bool) (p:Array Nat) (k:Nat):Prop:=∀ i j,i < j → j < k → lt (g p i) (g p j) = true
theorem sort_one:kas_sort 1 = .ret (List.toArray [0]):=by with_unfolding_all rfl
theorem sort_two:∃ k,kas_sort 2 = .ask 1 0 k ∧ k true = .ret (List.toArray [1,0]) ∧ k false = .ret (List.toArray [0,1]):=⟨_,by with_unfolding_all rfl,by with_unfolding_all rfl,by with_unfolding_all rfl⟩
theorem sorted_two {q:Array Nat} (h:lt (g q 0) (g q 1) = true):SortedP lt q 2:=fun i j hij hj=>by
 cases j with
 | zero=>exact absurd hij (Nat.not_lt_zero i)
 | succ j=>cases j with
  | zero=>cases i with
   | zero=>exact h
   | succ i=>exact absurd (Nat.lt_of_succ_lt_succ hij) (Nat.not_lt_zero i)
  | succ j=>exact absurd (Nat.lt_of_succ_lt_succ (Nat.lt_of_succ_lt_succ hj)) (Nat.not_lt_zero j)
theorem sort_post (T:Tot n lt) (h1:1 ≤ n) (h2:n ≤ 2):post n lt (kas_sort n) fun q=>Pm n q ∧ SortedP lt q n:=by
 cases n with
 | zero=>exact absurd h1 (Nat.not_succ_le_zero 0)
 | succ n=>cases n with
  | zero =>
   rw [sort_one]
   exact ⟨⟨rfl,by decide⟩,fun i j hij hj=>absurd (Nat.lt_of_lt_of_le hij (Nat.le_of_lt_succ hj)) (Nat.not_lt_zero i)⟩
  | succ n=>cases n with
   | succ n=>exact absurd (Nat.le_of_succ_le_succ (Nat.le_of_succ_le_succ h2)) (Nat.not_succ_le_zero n)
   | zero =>
    obtain ⟨k,e,et,ef⟩:=sort_two
    rw [e]
    refine ⟨by decide,by decide,?_⟩
    cases c:lt 1 0 with
    | true =>
     rw [et]
     exact ⟨⟨rfl,by decide⟩,sorted_two c⟩
    | false =>
     rw [ef]
     exact ⟨⟨rfl,by decide⟩,sorted_two (T.tot 1 0 (by decide) (by decide) (by decide) c)⟩
theorem kasWp_post {α:Type} {cmp:Nat → Nat → (Bool → Shared → Prop) → Shared → Prop} {I:Shared → Prop} (hc:∀ i j C s,i < n → j < n → I s → (∀ s',I s' → C (lt i j) s') → cmp i j C s) {Q:α → Prop} {Q':α → Shared → Prop} (hQ:∀ a s,Q a → I s → Q' a s) :
  ∀ {t:KasT α} {s:Shared},post n lt t Q → I s → t.kasWp cmp Q' s
 | .ret a,s,x,i=>hQ a s x i
 | .ask i j k,s,⟨a,b,x⟩,y=>hc i j _ s a b y fun s' y'=>kasWp_post hc hQ x y'
end
end
section
noncomputable def matT (C:Addr) (t:T3):AV:=mat C [.int t.1,.int t.2.1,.int t.2.2]
theorem ltT_irr (a:T3):ltT a a = false:=by unfold ltT; simp
theorem ltT_tr {a b c:T3} (h1:ltT a b = true) (h2:ltT b c = true):ltT a c = true:=by
 obtain ⟨a1,a2,a3⟩:=a; obtain ⟨b1,b2,b3⟩:=b; obtain ⟨c1,c2,c3⟩:=c
 unfold ltT at *
 dsimp only at *
 repeat' split at h1
 all_goals repeat' split at h2
 all_goals (simp only [beq_iff_eq,decide_eq_true_eq] at *)
 all_goals repeat' split
 all_goals (simp only [beq_iff_eq,decide_eq_true_eq] at *)
 all_goals lia
theorem ltT_tot {a b:T3} (hne:a ≠ b) (h:ltT a b = false):ltT b a = true:=by
 obtain ⟨a1,a2,a3⟩:=a; obtain ⟨b1,b2,b3⟩:=b
 unfold ltT at *
 dsimp only at *
 have hne':¬ (a1 = b1 ∧ a2 = b2 ∧ a3 = b3):=fun ⟨x,y,z⟩=>hne (by rw [x,y,z])
 repeat' split at h
 all_goals (simp only [beq_iff_eq,decide_eq_false_iff_not] at *)
 all_goals repeat' split
 all_goals (simp only [beq_iff_eq,decide_eq_true_eq] at *)
 all_goals lia
theorem ltT_asymm {a b:T3} (h1:ltT a b = true) (h2:ltT b a = true):a = b:=by
 have:=ltT_tr h1 h2
 rw [ltT_irr] at this; cases this
theorem sorted_eq {l l':List T3} (hp:l.Perm l') (h:l.Pairwise fun a b=>ltT a b = true) (h':l'.Pairwise fun a b=>ltT a b = true):l = l' :=
 List.Perm.eq_of_pairwise (fun a b _ _ x y=>ltT_asymm x y) h h' hp
section
variable {prog:Program} {w:World} {F:Fn} {R:PH} {sig sig':List (Option AV)} {om om' om₁:Om} {tau:List (Value × AV)} {s:Shared} {K:Frag}
theorem matT_rep {V:PH} {C:Addr} {t:T3} {v:Value} (h:Rep V (matT C t) v):∃ a o n t1 t2 t3,v = .ref a ∧ V a = some o ∧ o.cls = .ref C ∧ o.data = .seq #[.int t.1 t1,.int t.2.1 t2,.int t.2.2 t3] n:=by
 unfold matT at h
 obtain ⟨a,d,vs,n,rfl,h1,r⟩:=mat_rep h
 simp only [RepL] at r
 obtain ⟨v1,vs1,e1,r1,v2,vs2,e2,r2,v3,vs3,e3,r3,e4⟩:=r
 simp only [Rep] at r1 r2 r3
 obtain ⟨t1,rfl⟩:=r1; obtain ⟨t2,rfl⟩:=r2; obtain ⟨t3,rfl⟩:=r3
 subst e4 e3 e2
 obtain ⟨vl⟩:=vs
 dsimp only at e1
 subst e1
 exact ⟨a,_,n,t1,t2,t3,rfl,h1,rfl,rfl⟩
theorem tot_of {ts ts':List T3} (hp:ts'.Perm ts) (h':ts'.Pairwise fun a b=>ltT a b = true):Tot ts.length fun i j=>ltT (ts.getD i (0,0,0)) (ts.getD j (0,0,0)):=by
 have nd:ts.Nodup:=hp.nodup_iff.mp (by
  rw [List.nodup_iff_pairwise_ne]
  exact h'.imp fun {a b} hab e=>by subst e; rw [ltT_irr] at hab; cases hab)
 refine ⟨fun i j k _ _ _=>ltT_tr,fun i _=>ltT_irr _,fun i j hi hj hne=>ltT_tot fun e=>?_⟩
 have e1:ts.getD i (0,0,0) = ts[i]:=by simp [List.getD,hi]
 have e2:ts.getD j (0,0,0) = ts[j]:=by simp [List.getD,hj]
 rw [e1,e2] at e
 rw [List.nodup_iff_pairwise_ne,List.pairwise_iff_getElem] at nd
 rcases Nat.lt_or_gt_of_ne hne with l | l
 ·exact nd i j hi hj l e
 ·exact nd j i hj hi l e.symm
theorem out_eq {ts ts':List T3} {q:Array Nat} (hp:ts'.Perm ts) (h':ts'.Pairwise fun a b=>ltT a b = true) (hq:Pm ts.length q) (so:SortedP (fun i j=>ltT (ts.getD i (0,0,0)) (ts.getD j (0,0,0))) q ts.length) :
  q.toList.map (fun i=>ts.getD i (0,0,0)) = ts':=by
 refine sorted_eq ?_ ?_ h'
 ·refine List.Perm.trans (hq.perm.map _) (List.Perm.trans ?_ hp.symm)
  have:(List.range ts.length).map (fun i=>ts.getD i (0,0,0)) = ts:=by
   apply List.ext_getElem (by simp)
   intro i h1 h2
   simp [List.getD,h2]
  rw [this]
 ·rw [List.pairwise_iff_getElem]
  intro i j hi hj hij
  simp only [List.length_map,Array.length_toList] at hi hj
  rw [List.getElem_map,List.getElem_map]
  have:=so i j hij (by rw [← hq.size]; exact hj)
  have gi:g q i = q.toList[i]:=by unfold g; simp [Array.getD,hi]
  have gj:g q j = q.toList[j]:=by unfold g; simp [Array.getD,hj]
  rw [gi,gj] at this
  exact this
end
end
section
theorem type_list_sort:typeOf (.builtin "list.sort") = pure (.type "method_descriptor"):=by first | kernel_rfl | rfl
section
variable {prog:Program} {w:World} {F:Fn} {R:PH} {sig sig':List (Option AV)} {om om' om₁:Om} {tau:List (Value × AV)} {s:Shared} {K:Frag}
theorem OmUpd.via {om om':Om} {a:Addr} {P P' P₀:PH → Obj → Prop} (u:OmUpd om a P P' om'):∃ om₀,OmUpd om a P P₀ om₀ ∧ OmUpd om₀ a P₀ P' om':=by
 induction u with
 | here=>exact ⟨_,.here,.here⟩
 | there _ ih=>obtain ⟨om₀,a1,a2⟩:=ih; exact ⟨_,.there a1,.there a2⟩
theorem perm_small {ts ts':List T3} (hp:ts'.Perm ts) (h:ts.length < 2):ts' = ts:=by
 have hl:=hp.length_eq
 cases ts with
 | nil=>exact List.length_eq_zero_iff.mp hl
 | cons x r =>
  have:r = []:=List.length_eq_zero_iff.mp (by simp at h; lia)
  subst this
  cases ts' with
  | nil=>cases hl
  | cons y r' =>
   have:r' = []:=List.length_eq_zero_iff.mp (by simp at hl; simpa using hl)
   subst this
   have:=hp.mem_iff (a:=y)
   simp only [List.mem_singleton,true_iff] at this
   rw [this]
theorem gets_list_sort {a:Addr} {l:List AV} (hm:(a,LstO l) ∈ om):Gets prog w F om (.ptr a) "sort" (.builtin "list.sort"):=fun R sig tau v s pl Q E st h=>by
 have h1:=st.top
 simp only [Rep] at h1
 subst h1
 obtain ⟨vs,n,hl,r,e1⟩:=st.openList hm
 exact getMethod_list_of PyProof.Rows.slot_list_sort type_list_sort hl.isList ⟨_,hl,rfl⟩ h
set_option maxHeartbeats 1000000 in
theorem x_sort (ok:F.Ok) {C a:Addr} {ts ts':List T3} {P:AV → Om → Prop} (hk:SeesK K F.G) (hc:tupCls K C = true) (hi:findIn K (.ref C) "__lt__" = some (some (.builtin "tuple.__lt__"))) (hp:ts'.Perm ts) (hs:ts'.Pairwise fun a b=>ltT a b = true) (h64:ts.length ≤ 2)
  (u:OmUpd om a (LstO (ts.map (matT C))) (LstO (ts'.map (matT C))) om') (hP:P .none om'):OpX prog w F om (.builtin "list.sort") [.ptr a] P:=fun R sig tau vs s Q E hv st hq=>by
 obtain ⟨v,rfl,st⟩:=one_of hv st
 have h1:=st.top
 simp only [Rep] at h1
 subst h1
 obtain ⟨vs,n,hl,r,e1⟩:=st.openList u.mem
 obtain ⟨vs⟩:=vs
 simp only [List.size_toArray,List.length_map] at e1
 have ho:s.heap.get? a = some (seqObj "list" vs.toArray n):=hl
 refine wpAny_call_entry PyProof.Rows.slot_list_sort ⟨_,ho,rfl⟩ PyProof.Rows.entry_list_sort ?_ (PyProof.Rows.args_list_sort _)
 rw [list_sort_plain]
 have x₀:Sta F R sig om ((vs.zip (ts.map (matT C))) ++ tau) s:=st.temp fun p hp'=>by
  rcases List.mem_append.mp hp' with q | q
  ·obtain ⟨i,hi',e'⟩:=List.getElem_of_mem q
   rw [List.getElem_zip] at e'
   subst e'
   simp only [List.length_zip,List.length_map] at hi'
   obtain ⟨v',hv',rv'⟩:=r.get (i:=i) (d:=(ts.map (matT C))[i]'(by simp; lia)) (List.getElem?_eq_getElem _)
   have:v' = vs[i]'(by lia):=by
    rw [show (vs.toArray.toList)[i]? = vs[i]? from rfl,List.getElem?_eq_getElem (by lia)] at hv'
    exact (Option.some.inj hv').symm
   subst this
   exact rv'
  ·exact st.temps p (List.mem_cons_of_mem _ q)
 refine wpAny_bind (listItems_at ho rfl ?_)
 have sl:vs.length ≤ sizeLine:=by rw [sizeLine_eq]; lia
 refine wpAny_bind (listUpdate_at ho rfl ?_ (by rw [List.size_toArray]; exact sl) (Nat.zero_le _))
 obtain ⟨c1,ho1⟩:∃ c1,(s.heap.update a (Obj.mapSeq fun _=>(#[]:Array Value))).get? a = some (seqObj "list" #[] c1):=⟨_,get?_update_seq ho fun _=>#[]⟩
 have hom:=u.via (P₀:=LstO [])
 obtain ⟨om₀,u1,u2⟩:=hom
 have x₁:=x₀.upd (tk:=s.toks) u1 (Heap.SameBut.update s.heap a (Obj.mapSeq fun _=>(#[]:Array Value))) ho1 fun V' _=>⟨#[],c1,rfl,RepL.nil⟩
 refine wpAny_bind (seqEpoch_at ho1 rfl ?_)
 refine wpAny_bind (wpAny_newTuple ?_ (by show vs.length ≤ _; exact sl))
 refine wpAny_bind (wpAny_newList ?_ (Nat.zero_le _))
 refine wpAny_holding ?_
 show wpAny (model prog w) _ _ _ E { s with heap:=((s.heap.update a (Obj.mapSeq fun _=>#[])).push (seqObj "tuple" vs.toArray 0)).push (seqObj "list" #[] 0) }
 have x₂:=(x₁.alloc (seqObj "tuple" vs.toArray 0)).alloc (seqObj "list" #[] 0)
 have ho2:(((s.heap.update a (Obj.mapSeq fun _=>(#[]:Array Value))).push (seqObj "tuple" vs.toArray 0)).push (seqObj "list" #[] 0)).get? a = some (seqObj "list" #[] c1):=Heap.get?_push_of_some _ (Heap.get?_push_of_some _ ho1)
 dsimp only
 have fin:∀ (out:List Value) (s':Shared),RepL (F.view R om₀ s'.heap) (ts'.map (matT C)) out → Sta F R sig om₀ ((vs.zip (ts.map (matT C))) ++ tau) s' → s'.heap.get? a = some (seqObj "list" #[] c1) → Q .none { s' with heap:=s'.heap.update a (Obj.mapSeq fun _=>out.toArray) }:=fun out s' ro x' ho'=>by
  obtain ⟨c2,hc2⟩:∃ c2,(s'.heap.update a (Obj.mapSeq fun _=>out.toArray)).get? a = some (seqObj "list" out.toArray c2):=⟨_,get?_update_seq ho' fun _=>out.toArray⟩
  have hsb:=Heap.SameBut.update s'.heap a (Obj.mapSeq fun _=>out.toArray)
  have kv:=view_but (F:=F) (R:=R) (om:=om₀) u2.inD hsb
  have x₃:=x'.upd (tk:=s'.toks) u2 hsb hc2 (LstO.upd (ro.mono kv))
  refine hq _ _ _ _ hP ((x₃.temp fun p hp'=>x₃.temps p (List.mem_append_right _ hp')).push rep_none)
 have rl:∀ s',Sta F R sig om₀ ((vs.zip (ts.map (matT C))) ++ tau) s' → RepL (F.view R om₀ s'.heap) (ts.map (matT C)) vs:=fun s' x'=>repl_zip (by simp [e1]) fun p hp'=>x'.temps p (List.mem_append_left _ hp')
 by_cases h2:vs.toArray.size < 2
 ·rw [if_pos h2,if_pos h2]
  refine wpAny_bind (wpAny_pure ?_)
  rw [StateT.run_pure]
  refine wpAny_bind (wpAny_pure ?_)
  dsimp only
  refine wpAny_bind (seqEpoch_at ho2 rfl ?_)
  refine wpAny_bind (listUpdate_at ho2 rfl ?_ (Nat.zero_le _) (by rw [Array.size_map]; show (pairsOf vs).size ≤ _; rw [pairsOf_size]; exact Nat.le_succ_of_le sl))
  simp only [bne_self_eq_false,Bool.false_eq_true,if_false]
  refine wpAny_pure ⟨_,rfl,?_⟩
  have e0:ts' = ts:=perm_small hp (by rw [← e1]; simpa using h2)
  have:(arrOf (SortSt.mk' general' (vs.toArray.zip vs.toArray) #[] 7 none)).map (·.2) = vs.toArray:=by
   show (vs.toArray.zip vs.toArray).map (·.2) = vs.toArray
   apply Array.toList_inj.mp
   rw [Array.toList_map,Array.toList_zip]
   exact List.map_snd_zip (by simp)
  have q:=fin vs _ (e0 ▸ rl _ x₂) x₂ ho2
  rw [this]
  exact q
 ·rw [if_neg h2,if_neg h2]
  rw [List.size_toArray] at h2
  have hlk:∀ s',Sta F R sig om₀ ((vs.zip (ts.map (matT C))) ++ tau) s' → ∀ (i:Nat) (hi:i < ts.length),∃ x o nn t1 t2 t3,vs.getD i .none = .ref x ∧ s'.heap.get? x = some o ∧ o.cls = .ref C ∧ o.data = .seq #[.int (ts.getD i (0,0,0)).1 t1,.int (ts.getD i (0,0,0)).2.1 t2,.int (ts.getD i (0,0,0)).2.2 t3] nn:=fun s' x' i hi'=>by
   obtain ⟨v,hv,rv⟩:=(rl s' x').get (i:=i) (d:=matT C ts[i]) (by simp [hi'])
   obtain ⟨x,o,nn,t1,t2,t3,rfl,hV,hc1,hd1⟩:=matT_rep rv
   refine ⟨x,o,nn,t1,t2,t3,by simp [List.getD,hv],x'.vget hV,hc1,?_⟩
   rw [show ts.getD i (0,0,0) = ts[i] by simp [List.getD,hi']]
   exact hd1
  refine wpAny_bind (kas_kind (T:=.ref C) (by lia) (fun v hv=>?_) rfl (by simp) ?_)
  ·obtain ⟨i,hi',e'⟩:=List.getElem_of_mem hv
   obtain ⟨x,o,nn,t1,t2,t3,g1,g2,g3,g4⟩:=hlk _ x₂ i (by lia)
   rw [show vs.getD i .none = vs[i] by simp [List.getD,hi'],e'] at g1
   subst g1
   exact g3 ▸ (Looks.ld g2).andThen .now
  have est:SortSt.mk' oneType' (vs.toArray.zip vs.toArray) #[] 7 none = kas_st oneType' (pairsOf vs) (List.toArray (List.range vs.length)):=by
   have e:=kas_range (pairsOf vs)
   rw [pairsOf_size] at e
   show SortSt.mk' oneType' (pairsOf vs) #[] 7 none = SortSt.mk' oneType' ((List.toArray (List.range vs.length)).map (kas_item (pairsOf vs))) #[] 7 none
   rw [e]
  rw [est]
  have Y:∀ s',Sta F R sig om₀ ((vs.zip (ts.map (matT C))) ++ tau) s' → TupCls (model prog w) s'.heap C:=fun s' x'=>tupCls_of (x'.inK hk) hc
  have run:=kas_runs (prog:=prog) (w:=w) (A:=F.A.in1) (E:=E) (κ:=oneType') (it:=pairsOf vs) (Q:=fun _ st' s'=>∃ p:Array Nat,p.size = vs.length ∧ arrOf st' = p.map (kas_item (pairsOf vs)) ∧ failedOf st' = none ∧ (Pm ts.length p ∧ SortedP (fun i j=>ltT (ts.getD i (0,0,0)) (ts.getD j (0,0,0))) p ts.length) ∧ Sta F R sig om₀ ((vs.zip (ts.map (matT C))) ++ tau) s' ∧ s'.heap.get? a = some (seqObj "list" #[] c1))
   (G:=fun p s'=>(Pm ts.length p ∧ SortedP (fun i j=>ltT (ts.getD i (0,0,0)) (ts.getD j (0,0,0))) p ts.length) ∧ Sta F R sig om₀ ((vs.zip (ts.map (matT C))) ++ tau) s' ∧ s'.heap.get? a = some (seqObj "list" #[] c1))
   (s:={ s with heap:=((s.heap.update a (Obj.mapSeq fun _=>#[])).push (seqObj "tuple" vs.toArray 0)).push (seqObj "list" #[] 0) }) (n:=vs.length) (by lia) (by lia) (fun p' st' s' a1 a2 a3 a4=>⟨p',a1,a2,a3,a4⟩)
   (kasWp_post (n:=ts.length) (lt:=fun i j=>ltT (ts.getD i (0,0,0)) (ts.getD j (0,0,0))) (I:=fun s'=>Sta F R sig om₀ ((vs.zip (ts.map (matT C))) ++ tau) s' ∧ s'.heap.get? a = some (seqObj "list" #[] c1)) (fun i j C' s' hi' hj' hI hC=>?_) (fun p s' hQ hI=>⟨hQ,hI⟩) (by rw [e1]; exact sort_post (tot_of hp hs) (by lia) h64) ⟨x₂,ho2⟩)
  ·refine wpAny_bind (wpAny_mono run ?_ fun _ _ e=>e)
   rintro ⟨⟨⟩,st'⟩ s' ⟨p,hps,har,hf,⟨hpm,hso⟩,x',ho'⟩
   dsimp only
   have hout:(arrOf st').map (·.2) = List.toArray (p.toList.map fun i=>vs.getD i Value.none):=by
    apply Array.toList_inj.mp
    rw [har,Array.map_map,Array.toList_map]
    exact List.map_congr_left fun i _=>by show (kas_item (pairsOf vs) i).2 = _; rw [kas_item_eq]
   rw [hout]
   refine wpAny_bind (seqEpoch_at ho' rfl ?_)
   refine wpAny_bind (listUpdate_at ho' rfl ?_ (Nat.zero_le _) (by rw [List.size_toArray,List.length_map,Array.length_toList,hps]; exact Nat.le_succ_of_le sl))
   rw [hf]
   simp only [bne_self_eq_false,Bool.false_eq_true,if_false]
   refine wpAny_pure ⟨_,rfl,fin _ s' ?_ x' ho'⟩
   have r':=rl s' x'
   rw [← out_eq hp hs hpm hso]
   refine RepL.of_forall (by simp) fun i d v h1 h2'=>?_
   simp only [List.getElem?_map,Option.map_eq_some_iff] at h1 h2'
   obtain ⟨_,⟨k,hk1,rfl⟩,rfl⟩:=h1
   obtain ⟨k',hk2,rfl⟩:=h2'
   rw [hk1] at hk2; cases hk2
   have hkl:k < ts.length:=by
    have:=hpm.perm.mem_iff.mp (List.mem_of_getElem? hk1)
    simpa using this
   obtain ⟨v',hv',rv'⟩:=r'.get (i:=k) (d:=matT C ts[k]) (by simp [hkl])
   rw [show vs.getD k .none = v' by simp [List.getD,hv'],show ts.getD k (0,0,0) = ts[k] by simp [List.getD,hkl]]
   exact rv'
  ·obtain ⟨x,o,nn,t1,t2,t3,g1,g2,g3,g4⟩:=hlk _ hI.1 i hi'
   obtain ⟨y,o',nn',u1,u2,u3,k1,k2,k3,k4⟩:=hlk _ hI.1 j hj'
   show wpAny _ _ (keyLt' oneType' (kas_item (pairsOf vs) i).1 (kas_item (pairsOf vs) j).1) _ _ s'
   rw [kas_item_eq,kas_item_eq]
   dsimp only
   rw [g1,k1]
   exact mat_lt (units_lt ok (n:=1) (by decide)) (Y s' hI.1) (looks_findIn (hI.1.inK hk) hi) g2 g3 g4 k2 k3 k4 (hC _ hI)
end
end
section
theorem tln_kind:builtinKind "tuple.__len__" = some .slot:=by decide +kernel
theorem tln_split:splitId "tuple.__len__" = some ("tuple", "__len__"):=by decide +kernel
section
variable {prog:Program} {w:World} {A:Around} {E:Value → Shared → Prop} {s:Shared} {C:Addr}
set_option maxRecDepth 100000 in
theorem mat_len {x:Addr} {ox:Obj} {vs:Array Value} {n:Nat} {Q:Value → Shared → Prop} (Y:TupCls (model prog w) s.heap C) (hi:Looks (model prog w) s.heap (typeLookup (.ref C) "__len__") (some (.builtin "tuple.__len__")))
  (hx:s.heap.get? x = some ox) (hcx:ox.cls = .ref C) (hdx:ox.data = .seq vs n) (hfit:(vs.size:Int) < 2 ^ 63) (h:Q (.int vs.size (s.toks + 1)) { s with toks:=s.toks + 1 + 1 }):wpAny (model prog w) A (call (.builtin "len") [.ref x]) Q E s:=by
 have q1:Looks (model prog w) s.heap (typeOf (.ref x)) (.ref C):=hcx ▸ (Looks.ld hx).andThen .now
 have sp:Looks (model prog w) s.heap (specialOf (.ref x) "__len__") (some (.builtin "tuple.__len__")):=q1.andThen hi
 have sub:Looks (model prog w) s.heap (isInstance (.ref x) (.type "tuple")) true:=q1.andThen Y.tup
 refine Calls.call_function_entry kind_len plain_len entry_len (args_len1 _) ?_
 unfold Builtin.«len»
 refine wpAny_bind (m:=oneArg "len" _) (wpAny_pure ?_)
 refine wpAny_bind (m:=callSpecial? (.ref x) (Str.ofString "__len__")) ?_
 simp only [callSpecial?]
 refine wpAny_bind (sp.here ?_)
 have hb:bindSpecial (.builtin "tuple.__len__") (.ref x) = pure (.builtin "tuple.__len__",[.ref x]):=F.slot_tuple_len.bind _
 simp only [hb]
 refine wpAny_holding (wpAny_bind (wpAny_pure (wpAny_bind (wpAny_call (codeAny_call_builtin F.slot_tuple_len.plain F.entry_tuple_len (@check_slot (model prog w) _ _ s "tuple.__len__" "tuple" "__len__" (.ref x) [] [] _ tln_kind tln_split sub (F.args_tuple_len_1 _) ?_))))))
 show wpAny _ _ (do retInt (← Builtin.Tuple.tupleItemsOf (.ref x)).size) _ _ s
 unfold Builtin.Tuple.tupleItemsOf
 refine wpAny_bind (wpAny_bind (wpAny_seqItems hx hdx (wpAny_pure ?_)))
 refine wpAny_bind (wpAny_mkInt (wpAny_pure (wpAny_pure ?_)))
 refine wpAny_bind (wpAny_holding (wpAny_pure ?_))
 refine wpAny_bind (wpAny_letGo ?_)
 show wpAny _ _ (if ((vs.size:Nat):Int) < 0 then _ else _) _ _ _
 rw [if_neg (by lia)]
 show wpAny _ _ (if ((vs.size:Nat):Int) ≥ 2 ^ 63 then _ else _) _ _ _
 rw [if_neg (by lia)]
 exact wpAny_bind (wpAny_mkInt (wpAny_pure ⟨_,rfl,h⟩))
end
section
variable {prog:Program} {w:World} {F:Fn} {om:Om} {K:Frag}
theorem c_len_mat {C:Addr} {ds:List AV} (hk:SeesK K F.G) (hc:tupCls K C = true) (hi:findIn K (.ref C) "__len__" = some (some (.builtin "tuple.__len__"))) (hl:ds.length < 2 ^ 62):OpC prog w F om (.builtin "len") [mat C ds] (.int ds.length):=fun R sig tau vs s Q E hv st h=>by
 obtain ⟨v,rfl,st⟩:=one_of hv st
 obtain ⟨a,d,vs,n,rfl,ho,r⟩:=mat_rep st.top
 have e:=r.length
 simp only [Array.length_toList] at e
 refine mat_len (tupCls_of (st.inK hk) hc) (looks_findIn (st.inK hk) hi) (st.vget ho) rfl rfl (by lia) ?_
 rw [e]
 exact h _ _ (st.pop.tok2.push rep_int)
end
end
section
section
variable {prog:Program} {w:World} {A:Around} {s:Shared}
theorem codeAny_call_cellsL {R:Result → Shared → Prop} {a:Addr} {o:Obj} {fd:FuncData} {body:List Stmt} {vals:List Value} {binds:List (PySem.Str × Value)}
  (hroom:A.depth < recursionLimit) (ho:s.heap.get? a = some o) (hdata:o.data = .func fd) (hlim:s.heap.NoLimit) (hcd:s.heap.CodeRec fd.code fd.qualname)
  (hbody:fd.body = .stmts body) (hbind:Looks (model prog w) s.heap (bindArgs fd ⟨vals,[]⟩) binds) (hclo:fd.closure = [])
  (hkind:∀ x ∈ binds,fd.scope.names.lookup x.1 = some .local ∨ (fd.scope.names.lookup x.1 = some .cell ∧ ((cellsFrom (s.heap.objs.size + 1) fd.scope.names []).lookup x.1).isSome = true))
  (h:∀ s₁,InCallC s (callEnvC fd s.heap.objs.size a).locals (bindL (callEnvC fd s.heap.objs.size a).kindOf binds fun _=>none) (callEnvC fd s.heap.objs.size a).cells
    (bindC (callEnvC fd s.heap.objs.size a).kindOf binds fun _=>none) s₁ →
   wpAny (model prog w) (A.deeper (callEnvC fd s.heap.objs.size a)) (execs body (callEnvC fd s.heap.objs.size a)) (fun f s'=>R (.ok (.ret (match f with | .ret v=>v | _=>.none))) s')
    (fun e s'=>wpAny (model prog w) (A.deeper (callEnvC fd s.heap.objs.size a)) («leaving» (callEnvC fd s.heap.objs.size a) e) (fun _ s''=>R (.error e) s'') (fun e' s''=>R (.error e') s'') s') s₁)
  (hco:fd.scope.isCoroutine = false:=by rfl) (hgen:fd.scope.isGenerator = false:=by rfl) (hk:fd.scope.kind = .function:=by rfl) :
  codeAny (model prog w) A (.call (.ref a) ⟨vals,[]⟩) R s:=by
 refine codeAny_call_function hroom ho hdata hco hgen hbody hcd ?_
 rw [hclo]
 refine hbind.here (wpAny_newFunctionEnv_cells hk hkind fun env he s' x=>?_)
 subst he
 exact ⟨hlim.keeps x.toInCall.keep,codeAny_func (h s' x)⟩
end
section
variable {prog:Program} {w:World} {F:Fn} {R:PH} {sig sig':List (Option AV)} {om om':Om} {tau:List (Value × AV)} {s:Shared}
theorem imp_defL {K:Frag} {fd:FuncData} {body:List Stmt} {f:Addr} {ps:List PySem.Str} {ds dd:List AV} {dv:List Value} {om₁:Om} {P:AV → Om → Prop} {n:Nat} (ok:DefOk fd ps) (hat:∀ V,SeesK K V → DefAt fd body f V) (hlen:ps.length = (ds ++ dd).length) (hdv:∀ V,RepL V dd dv)
  (hbind:∀ (h:Heap) (vs:List Value),K.In h → vs.length = ds.length → Looks (model prog w) h (bindArgs fd ⟨vs,[]⟩) (ps.zip (vs ++ dv)))
  (h:∀ (A:Around) (G:PH) (s:Shared),SeesK K G → Room (A.deeper (callEnvC fd s.heap.objs.size f)) n → (fnAt fd f A G s).Ok → Ex prog w (fnAt fd f A G s) (sigOf fd.scope.names ps (ds ++ dd)) om₁ body fun o=>match o with | .ret d' _ om'=>P d' om' ∧ (∀ b ∈ om'.map (·.1),b ∈ om₁.map (·.1) ∨ s.heap.objs.size ≤ b) | .nxt _ om'=>P .none om' ∧ (∀ b ∈ om'.map (·.1),b ∈ om₁.map (·.1) ∨ s.heap.objs.size ≤ b) | _=>False)
  (hco:fd.scope.isCoroutine = false:=by rfl) (hgen:fd.scope.isGenerator = false:=by rfl):ImpC prog w (SeesK K) (n + 1) (.ref f) ds om₁ P:=fun A G s vs Q E hr hB hG r nd hO op hq=>by
 obtain ⟨⟨o,ho,hd⟩,⟨c,oc,cvs,t,hc1,hc2,hc3,hc4⟩,⟨ol,es,ep,hl1,hl2,hl3,hl4⟩,hbody,hclo⟩:=hat G hB
 have hvl:=r.length
 refine (codeAny_call_cellsL (fd:=fd) (by have:=hr.depth; unfold recursionLimit; omega) (hG _ _ ho) hd ⟨_,⟨ol,es,ep,hG _ _ hl1,hl2,hl3,fun _=>rfl⟩,hl4⟩ ⟨c,oc,cvs,t,hc1,hG _ _ hc2,hc3,hc4⟩ hbody (hbind s.heap vs (fun a o e=>hG _ _ (hB a o e)) hvl) hclo (fun x hx=>?_) (fun s₁ x=>?_) hco hgen ok.kind)
 ·have hx':x.1 ∈ ps:=by
   obtain ⟨i,hi,e⟩:=List.getElem_of_mem hx
   rw [List.getElem_zip] at e
   rw [← e]
   exact List.getElem_mem _
  rcases ok.pk x.1 hx' with q | q
  ·exact .inl q
  ·exact .inr ⟨q,cellsFrom_some fd.scope.names _ [] (.inl q)⟩
 ·have fok:=fn_ok ok hr x.apart x.above (G:=G)
  have st:=entry_staO (A:=A) ok hG (r.append (hdv G)) nd hO op hlen x
  have fin:∀ (v:Value) (d:AV) (sig':List (Option AV)) (om':Om) (s':Shared),P d om' → (∀ b ∈ om'.map (·.1),b ∈ om₁.map (·.1) ∨ s.heap.objs.size ≤ b) → Sta (fnAt fd f A G s) (hidO G om₁ s.heap) sig' om' [(v,d)] s' → Q v s':=fun v d sig' om' s' hPd hnew st'=>by
   have hsame:=st'.same
   obtain ⟨h',tk,rfl⟩:=hsame
   have kv:((fnAt fd f A G s).view (hidO G om₁ s.heap) om' h').le (extO G s.heap.objs.size om' h'):=fun b ob e=>by
    have hv:=st'.vget e
    obtain ⟨c1,c2,c3⟩:=view_cases e
    unfold extO
    rw [if_neg (fun q=>c1 (by unfold Fn.D; rw [List.mem_cons,List.mem_append]; exact .inr (.inr q)))]
    rcases c3 with ⟨q,z⟩ | ⟨q,z⟩
    ·rw [if_pos (show b < s.heap.objs.size from q)]; exact z
    ·rw [if_neg (show ¬ b < s.heap.objs.size from q)]; exact z
   have ndo:=st'.nodup
   unfold Fn.D at ndo
   rw [List.nodup_cons,List.nodup_append] at ndo
   refine hq v d om' h' tk hPd ndo.2.2.1 hnew (fun b ob hb e=>?_) (fun p hp=>?_) (st'.top.mono kv)
   ·cases q:G b with
    | some og =>
     have:=hG _ _ q
     rw [e] at this; cases this
     exact (st'.g b _ q).2.2.1
    | none=>exact (st'.rf b ob (hidO_of q hb e)).2
   ·obtain ⟨o,ho,hP⟩:=st'.opens p hp
    exact ⟨o,ho,fun V' hV=>hP V' (kv.trans hV)⟩
  refine h A G s hB (hr.deeper _) fok (hidO G om₁ s.heap) [] s₁ _ _ st fun out fl s' ho hl=>?_
  cases out <;> cases fl <;> first | exact False.elim hl | change Sta _ _ _ _ _ _ at hl
  ·rename_i sig' om'
   exact fin _ _ sig' om' s' ho.1 ho.2 (hl.push rep_none)
  ·exact ho.elim
  ·exact ho.elim
  ·rename_i d' sig' om' v
   exact fin v d' sig' om' s' ho.1 ho.2 hl
end
end
section
section
variable {prog:Program} {w:World} {F:Fn} {R:PH} {sig sig':List (Option AV)} {om om':Om} {tau:List (Value × AV)} {s:Shared}
theorem ex_forX (ok:F.Ok) {target iter:PySem.Expr} {body:List Stmt} {pos:Pos} {PE:AV → Om → Prop} {P:Out → Prop} (h₁:EvX prog w F sig om iter PE)
  (hr:∀ d om₀,PE d om₀ → ∃ (xs:List AV) (Inv:Nat → List (Option AV) → Om → Prop),Itr prog w F om₀ d xs ∧ Inv 0 sig om₀ ∧
   (∀ (i:Nat) (x:AV) sig om,xs[i]? = some x → Inv i sig om → ∃ sig₁,As prog w F om target x sig sig₁ ∧ Ex prog w F sig₁ om body fun o=>match o with
    | .nxt sig' om'=>Inv (i + 1) sig' om'
    | .cnt sig' om'=>Inv (i + 1) sig' om'
    | .brk sig' om'=>P (.nxt sig' om')
    | .ret d sig' om'=>P (.ret d sig' om')) ∧
   (∀ sig om,Inv xs.length sig om → P (.nxt sig om)))
  (hs:∀ x,foldedSetIterable iter F.env x = pure x):Ex1 prog w F sig om (.For target iter body [] pos) P:=fun R tau s Q E st hq =>
 wpAny_For (h₁ R tau s _ _ st fun v d om₀ s₁ hpe st₁=>by
  obtain ⟨xs,Inv,it,h0,turn,done⟩:=hr d om₀ hpe
  exact for_core ok it Inv h0 turn done st₁ hq) hs
end
end
section
section
variable {prog:Program} {w:World} {A:Around} {K:Type} [DecidableEq K] {knd:KeyKind prog w K}
theorem own_items (hh:A.handled = none) {I d vw:Addr} {ov:Obj} (hdI:d ≠ I) (hvI:vw ≠ I) (kvs:List (K × Value)) (ep:Nat) :
  OwnT prog w A I [I,vw,d] [I,vw] kvs.length (fun i vals=>∃ key k x,vals = #[key,x] ∧ kvs[i]? = some (k,x) ∧ knd.is k key = true)
   (fun i h=>(∃ ok o,IsItemIter h I d i kvs.length ep ok o) ∧ h.DictAt knd d kvs ep ∧ h.get? vw = some ov)
   (fun i T h=>(∃ ok o,IsItemIterOut h I d (i + 1) kvs.length ep ok o T) ∧ h.DictAt knd d kvs ep ∧ h.get? vw = some ov ∧ T ≠ I ∧ T ≠ vw) where
 frame:=fun i h h' st hk=>by
  obtain ⟨⟨ok,o,he⟩,hm,hv⟩:=st
  exact ⟨⟨ok,o,hk I (by simp) _ he⟩,hm.at' fun o e=>hk d (by simp) o e,hk vw (by simp) _ hv⟩
 item:=fun i s Q E hi st hQ=>by
  obtain ⟨⟨ok,o,he⟩,hm,hv⟩:=st
  obtain ⟨⟨k,x⟩,hx⟩:∃ p,kvs[i]? = some p:=⟨kvs[i],by simp [hi]⟩
  refine wpAny_pyNext_items_item he hm hx fun key h' hkey ho hT hsz hk=>?_
  exact hQ s.heap.objs.size _ h' s.toks ⟨key,k,x,rfl,hx,hkey⟩ (Nat.le_refl _) ⟨_,hT,rfl,_,rfl⟩ ⟨⟨_,_,ho⟩,hm.at' (fun o e=>hk d o hdI e),hk vw _ hvI hv,Nat.ne_of_gt (Heap.lt_size he),Nat.ne_of_gt (Heap.lt_size hv)⟩ fun b o hb e=>hk b o (fun h=>hb (by simp [h])) e
 go:=fun elts k pos i T s Q E hm hQ=>by
  obtain ⟨⟨ok,o,ho⟩,hd,hv,hTI,hTv⟩:=hm
  refine wpAny_letOwnedTupleGo_items ho fun h' he hs=>?_
  exact hQ h' ⟨⟨ok,o,he⟩,hd.extBut hs.extBut hdI,hs.extBut vw _ hvI hv⟩ fun b o hb e=>hs.extBut b o (fun h=>hb (by simp [h])) e
 apart:=fun i T h hm=>by simp [hm.2.2.2.1,hm.2.2.2.2]
 done:=fun s Q E st hQ=>by
  obtain ⟨⟨ok,o,he⟩,hm,hv⟩:=st
  exact wpAny_pyNext_items_end hh he hm (by simp) fun h' hx=>hQ h' s.toks fun b o hb e=>hx b o (fun h=>hb (by simp [h])) e
end
end
section
theorem keys_perm:∀ {l L:List Int},l.Nodup → (∀ k ∈ l,k ∈ L) → L.length ≤ l.length → L.Perm l
 | [],L,_,_,h=>by rw [List.length_eq_zero_iff.mp (Nat.le_zero.mp h)]
 | a :: l,L,hn,hs,h=>by
  have hn:=List.nodup_cons.mp hn
  have ha:a ∈ L:=hs a List.mem_cons_self
  have p:=List.perm_cons_erase ha
  refine p.trans (List.Perm.cons a (keys_perm hn.2 (fun k hk=>?_) ?_))
  ·exact (List.mem_erase_of_ne (fun e=>hn.1 (by rw [← e]; exact hk))).mpr (hs k (List.mem_cons_of_mem _ hk))
  ·rw [List.length_erase_of_mem ha]
   rw [List.length_cons] at h
   exact Nat.sub_le_of_le_add h
section
variable {prog:Program} {w:World} {F:Fn} {R:PH} {sig sig':List (Option AV)} {om om' om₁:Om} {tau:List (Value × AV)} {s:Shared}
theorem pairs_of:∀ {es:List DictEntry},(∀ e ∈ es,∃ k,(intKind prog w).is k e.key = true ∧ e.hash = (intKind prog w).hash k) → ∃ kvs,Pairs (intKind prog w) es kvs
 | [],_=>⟨[],.nil⟩
 | e :: es,h=>by
  obtain ⟨k,hk,_⟩:=h e List.mem_cons_self
  obtain ⟨kvs,hp⟩:=pairs_of fun e he=>h e (List.mem_cons_of_mem _ he)
  exact ⟨(k,e.val) :: kvs,.cons hk rfl hp⟩
theorem valueAt_at:∀ {kvs:List (Int × Value)} {i:Nat} {k:Int} {x:Value},(kvs.map (·.1)).Nodup → kvs[i]? = some (k,x) → valueAt kvs k = some x
 | [],i,k,x,_,h=>by cases h
 | (a,y) :: kvs,0,k,x,_,h=>by
  cases h
  unfold valueAt
  rw [List.find?_cons_of_pos (by simp)]
  rfl
 | (a,y) :: kvs,i + 1,k,x,hn,h=>by
  have hn:=List.nodup_cons.mp hn
  have hk:k ∈ kvs.map (·.1):=List.mem_map.mpr ⟨(k,x),List.mem_of_getElem? h,rfl⟩
  have ih:=valueAt_at hn.2 (show kvs[i]? = some (k,x) from h)
  unfold valueAt at ih ⊢
  rw [List.find?_cons_of_neg (by simpa using fun e:a = k=>hn.1 (e ▸ hk))]
  exact ih
theorem dict_keys {V:PH} {h:Heap} {D:Addr} {oD:Obj} {f:Int → Option AV} {m:Nat} {l:List Int} (ho:h.get? D = some oD) (hd:DctO f m V oD) (hl:l.Nodup) (hlm:m ≤ l.length) (hf:∀ k,k ∈ l → ∃ d,f k = some d) :
  ∃ kvs ep,h.DictAt (intKind prog w) D kvs ep ∧ (kvs.map (·.1)).Perm l ∧ ∀ V',DctO f m V' oD → ∀ (i:Nat) (k:Int) (x:Value) (d:AV),kvs[i]? = some (k,x) → f k = some d → Rep V' d x:=by
 obtain ⟨h1,es,ep,h2,h3,h4,h5⟩:=hd
 have hk:KeysOf (intKind prog w) es:=fun e he=>by
  obtain ⟨k,t,e1,e2⟩:=h3 e he
  exact ⟨k,by rw [e1]; show Value.isInt k (.int k t) = true; simp [Value.isInt],e2⟩
 obtain ⟨kvs,hp⟩:=pairs_of (prog:=prog) (w:=w) (es:=es.toList) fun e he=>hk e (by simpa using he)
 have hfind:∀ k,findBy (intKind prog w).is es k = valueAt kvs k:=fun k=>by
  rw [← hp.find k]
  unfold findBy
  rw [← Array.find?_toList]
 have hmem:∀ k ∈ l,k ∈ kvs.map (·.1):=fun k hk'=>by
  obtain ⟨d,e⟩:=hf k hk'
  have:=h5 k
  rw [e] at this
  obtain ⟨x,e',_⟩:=this
  rw [show findBy Value.isInt es k = findBy (intKind prog w).is es k from rfl,hfind k] at e'
  unfold valueAt at e'
  rw [Option.map_eq_some_iff] at e'
  obtain ⟨kv,q,_⟩:=e'
  have q1:=List.find?_some q
  have q2:=List.mem_of_find?_eq_some q
  exact List.mem_map.mpr ⟨kv,q2,of_decide_eq_true q1⟩
 have hperm:(kvs.map (·.1)).Perm l:=keys_perm hl hmem (by
  rw [List.length_map,← hp.length,Array.length_toList]; exact Nat.le_trans h4 hlm)
 have hnd:(kvs.map (·.1)).Nodup:=hperm.nodup_iff.mpr hl
 refine ⟨kvs,ep,⟨oD,es,ho,h1,h2,hk,hp,hnd⟩,hperm,fun V' hd' i k x d hi hfk=>?_⟩
 obtain ⟨_,es',ep',h2',_,_,h5'⟩:=hd'
 rw [h2] at h2'
 cases h2'
 have:=h5' k
 rw [hfk] at this
 obtain ⟨x',e',r⟩:=this
 rw [show findBy Value.isInt es k = findBy (intKind prog w).is es k from rfl,hfind k] at e'
 rw [valueAt_at hnd hi] at e'
 cases e'
 exact r
end
end
section
noncomputable def PinO (oD:Obj) (P:PH → Obj → Prop):PH → Obj → Prop:=fun V o=>o = oD ∧ P V o
section
variable {prog:Program} {w:World} {F:Fn} {R:PH} {sig sig':List (Option AV)} {om om' om₁:Om} {tau:List (Value × AV)} {s:Shared}
theorem pin_get {D:Addr} {oD:Obj} {P:PH → Obj → Prop} (x:Sta F R sig om tau s) (h:(D,PinO oD P) ∈ om):s.heap.get? D = some oD ∧ P (F.view R om s.heap) oD:=by
 obtain ⟨o,h1,h2⟩:=x.opens _ h
 have:=h2 _ (PH.le.refl _)
 obtain ⟨e,hp⟩:=this
 subst e
 exact ⟨h1,hp⟩
theorem isInt_int {k:Int} {key:Value} (h:Value.isInt k key = true):∃ t,key = .int k t:=by
 cases key <;> simp [Value.isInt] at h
 exact ⟨_,by rw [h]⟩
theorem ex_items (ok:F.Ok) {ts:List PySem.Expr} {kk:Nat} {tp apos cpos pos:Pos} {o:PySem.Expr} {body:List Stmt} {D:Addr} {f:Int → Option AV} {m:Nat} {l:List Int} {P:Out → Prop} (pl:Sem Bool) (ho:Ev prog w F sig om o (.ptr D)) (hDs:(D == sysModules) = false) (hmem:(D,DctO f m) ∈ om) (hl:l.Nodup) (hlm:m ≤ l.length) (hf:∀ k,k ∈ l → ∃ d,f k = some d)
  (turns:∀ (ks:List Int) (oD:Obj),ks.Perm l → ∃ (Inv:Nat → List (Option AV) → Om → Prop) (om₁:Om),OmUpd om D (DctO f m) (PinO oD (DctO f m)) om₁ ∧ Inv 0 sig om₁ ∧ (∀ i sig om,Inv i sig om → (D,PinO oD (DctO f m)) ∈ om) ∧
   (∀ (i:Nat) (k:Int) (d:AV) sig om,ks[i]? = some k → f k = some d → Inv i sig om → ∃ sig₁,As prog w F om (.Tuple ts kk tp) (tupl [.int k,d]) sig sig₁ ∧ Ex prog w F sig₁ om body fun o=>match o with
    | .nxt sig' om'=>Inv (i + 1) sig' om'
    | .cnt sig' om'=>Inv (i + 1) sig' om'
    | .brk sig' om'=>P (.nxt sig' om')
    | .ret d sig' om'=>P (.ret d sig' om')) ∧ ∀ sig om,Inv ks.length sig om → P (.nxt sig om))
  (hc:eval (.Call (.Attribute o "items" apos) [] [] cpos) F.env = (do
   let ov ← eval o F.env
   standAt apos.atName
   let (f,first) ← holding [ov] (getMethod ov "items" pl)
   callWith cpos f first (backTo cpos (starEach [] F.env)) []):=by rfl)
  (hs:∀ x,foldedSetIterable (.Call (.Attribute o "items" apos) [] [] cpos) F.env x = pure x:=by intro _; rfl) :
  Ex1 prog w F sig om (.For (.Tuple ts kk tp) (.Call (.Attribute o "items" apos) [] [] cpos) body [] pos) P:=fun R tau s Q E st hq=>by
 refine wpAny_For ?_ hs
 refine MethodCall_ (pl:=pl) (ho R tau s _ _ st fun v s₁ st₁=>gets_dcto PySem.F.slot_dict_items PySem.F.type_dict_items hmem R sig tau v s₁ pl _ _ st₁ ?_) hc
 have r1:=st₁.top
 simp only [Rep] at r1
 subst r1
 obtain ⟨oD,hoD,hP⟩:=st₁.opens _ hmem
 obtain ⟨kvs,ep,hat,hpm,hrep⟩:=dict_keys (prog:=prog) (w:=w) hoD (hP _ (PH.le.refl _)) hl hlm hf
 obtain ⟨Inv,om₁,u,h0,hin,turn,done⟩:=turns (kvs.map (·.1)) oD hpm
 have st₂:=st₁.upd u (tk:=s₁.toks) (h':=s₁.heap) (Heap.SameBut.refl _ _) hoD fun V' hV=>⟨rfl,hP V' hV⟩
 show wpAny _ _ (callWith cpos (.builtin "dict.items") [.ref D] [] []) _ _ s₁
 refine method_meetsIn PySem.F.slot_dict_items PySem.F.entry_dict_items rfl (PySem.evalArgs_none ⟨rfl,⟨_,hoD,(hP _ (PH.le.refl _)).1.1⟩,PySem.F.args_dict_items_1 _,_,meets_dict_items (intKind prog w) D hDs,⟨kvs,hat.dictOf⟩,?_⟩)
 have hDlt:=Heap.lt_size hoD
 show wpAny _ _ (pyIter (.ref s₁.heap.objs.size)) _ _ _
 refine wpAny_pyIter_items (knd:=intKind prog w) (d:=D) ⟨_,Heap.get?_push_size _ rfl,rfl,rfl⟩ (hat.push _) ?_
 have hsz:(s₁.heap.push { cls:=.type "dict_items",data:=.fields #[.ref D] }).objs.size = s₁.heap.objs.size + 1:=by simp [Heap.push]
 have hv0:((s₁.heap.push { cls:=.type "dict_items",data:=.fields #[.ref D] }).push { cls:=.type "dict_itemiterator",data:=.fields #[.none,.bool false,.ref D,.int 0 0,.int kvs.length 0,.int ep 0,.none,.none] }).get? s₁.heap.objs.size = some { cls:=.type "dict_items",data:=.fields #[.ref D] }:=Heap.get?_push_of_some _ (Heap.get?_push_size _ rfl)
 have hi0:((s₁.heap.push { cls:=.type "dict_items",data:=.fields #[.ref D] }).push { cls:=.type "dict_itemiterator",data:=.fields #[.none,.bool false,.ref D,.int 0 0,.int kvs.length 0,.int ep 0,.none,.none] }).get? (s₁.heap.objs.size + 1) = some { cls:=.type "dict_itemiterator",data:=.fields #[.none,.bool false,.ref D,.int 0 0,.int kvs.length 0,.int ep 0,.none,.none] }:=by
  rw [← hsz]; exact Heap.get?_push_size _ rfl
 rw [show ({ s₁ with heap:=s₁.heap.push { cls:=.type "dict_items",data:=.fields #[.ref D] } }:Shared).heap.objs.size = s₁.heap.objs.size + 1 from hsz]
 have st₃:=st₂.hide2 (tk:=s₁.toks) ok (Nat.le_refl s₁.heap.objs.size) (Nat.le_succ _) (Nat.ne_of_lt (Nat.lt_succ_self _)) (fun c z e=>Heap.get?_push_of_some _ (Heap.get?_push_of_some _ e)) hv0 hi0
 have hks:∀ i k x,kvs[i]? = some (k,x) → (kvs.map (·.1))[i]? = some k:=fun i k x e=>by rw [List.getElem?_map,e]; rfl
 refine own_loop (N:=kvs.length) (dss:=fun i=>[.int ((kvs.map (·.1)).getD i 0),(f ((kvs.map (·.1)).getD i 0)).getD .none]) ok (own_items (knd:=intKind prog w) (ov:={ cls:=.type "dict_items",data:=.fields #[.ref D] }) ok.handled (Nat.ne_of_lt (Nat.lt_succ_of_lt hDlt)) (Nat.ne_of_lt (Nat.lt_succ_self _)) kvs ep)
  (fun i h st=>⟨⟨_,_,st.1.choose_spec.choose_spec,rfl⟩,⟨_,_,st.2.2,rfl⟩⟩) (fun i T h st=>⟨⟨_,_,st.1.choose_spec.choose_spec,rfl⟩,⟨_,_,st.2.2.1,rfl⟩⟩) (Nat.ne_of_lt (Nat.lt_succ_self _)) (st₂.freshR (Nat.le_succ _)) (st₂.freshR (Nat.le_refl _)) Inv ?_ ?_ ?_ ?_ h0 ⟨⟨_,_,hi0⟩,(hat.push _).push _,hv0⟩ hi0 hv0 st₃ hq
 ·intro b hb hbe hbi ob i oi oe sig om s inv x q i' oi' oe' sig' om' s' inv' x'
  have:b = D:=by simpa [hbe,hbi] using hb
  subst this
  have e1:=(pin_get x (hin _ _ _ inv)).1
  rw [q] at e1
  cases e1
  exact (pin_get x' (hin _ _ _ inv')).1
 ·rintro i oi oe sig om s vals hi inv x ⟨key,k,y,rfl,hx,hkey⟩
  obtain ⟨t,rfl⟩:=isInt_int hkey
  have e1:(kvs.map (·.1)).getD i 0 = k:=by rw [List.getD_eq_getElem?_getD,hks i k y hx]; rfl
  obtain ⟨d,hd⟩:=hf k (hpm.mem_iff.mp (List.mem_of_getElem? (hks i k y hx)))
  show RepL _ [.int ((kvs.map (·.1)).getD i 0),(f ((kvs.map (·.1)).getD i 0)).getD .none] [.int k t,y]
  rw [e1,hd]
  exact .cons rep_int (.cons (hrep _ (pin_get x (hin _ _ _ inv)).2 i k y d hx hd) .nil)
 ·intro i sig om hi inv
  obtain ⟨⟨k,y⟩,hx⟩:∃ p,kvs[i]? = some p:=⟨kvs[i],by simp [hi]⟩
  have e1:(kvs.map (·.1)).getD i 0 = k:=by rw [List.getD_eq_getElem?_getD,hks i k y hx]; rfl
  obtain ⟨d,hd⟩:=hf k (hpm.mem_iff.mp (List.mem_of_getElem? (hks i k y hx)))
  have:=turn i k d sig om (hks i k y hx) hd inv
  rw [e1,hd]
  exact this
 ·intro sig om inv
  exact done sig om (by rw [List.length_map]; exact inv)
end
end
section
theorem valueAt_without {kvs:List (Int × Value)} {k x:Int}:valueAt (without kvs k) x = if x = k then none else valueAt kvs x:=by
 induction kvs with
 | nil=>unfold without valueAt; simp
 | cons p kvs ih =>
  obtain ⟨a,y⟩:=p
  unfold without valueAt at ih ⊢
  by_cases q:a = k
  ·rw [List.filter_cons_of_neg (by simpa using q),ih]
   split
   ·rfl
   ·rename_i hx
    rw [List.find?_cons_of_neg (by simpa using fun e:a = x=>hx (e ▸ q))]
  ·rw [List.filter_cons_of_pos (by simpa using q)]
   by_cases r:a = x
   ·rw [List.find?_cons_of_pos (by simpa using r),List.find?_cons_of_pos (by simpa using r),if_neg (fun e=>q (r.trans e))]
   ·rw [List.find?_cons_of_neg (by simpa using r),List.find?_cons_of_neg (by simpa using r)]
    exact ih
section
variable {prog:Program} {w:World} {F:Fn} {R:PH} {sig sig':List (Option AV)} {om om' om₁:Om} {tau:List (Value × AV)} {s:Shared}
noncomputable def delF (f:Int → Option AV) (k:Int):Int → Option AV:=fun x=>if x = k then none else f x
theorem ex_delitem (ok:F.Ok) {o i:PySem.Expr} {spos pos:Pos} {D:Addr} {f:Int → Option AV} {m:Nat} {k:Int} {l:List Int} (h₁:Ev prog w F sig om o (.ptr D)) (h₂:Ev prog w F sig om i (.int k)) (hDs:(D == sysModules) = false) (hm:m ≤ sizeLine) (hl:l.Nodup) (hlm:m ≤ l.length) (hf:∀ k,k ∈ l → ∃ d,f k = some d) (hkl:k ∈ l)
  (u:OmUpd om D (DctO f m) (DctO (delF f k) m) om'):Ex1 prog w F sig om (.Delete [.Subscript o i spos] pos) (· = .nxt sig om'):=fun R tau s Q E st hq=>by
 refine wpAny_Delete (wpAny_deleteEach_cons (delete_Subscript (h₁ R tau s _ _ st fun ov s₁ st₁=>h₂ R _ s₁ _ _ st₁ fun iv s₂ st₂=>?_)))
 have r1:=st₂.top2
 have r2:=st₂.top
 simp only [Rep] at r1 r2
 obtain ⟨t,rfl⟩:=r2
 subst r1
 obtain ⟨oD,hoD,hP⟩:=st₂.opens _ u.mem
 obtain ⟨kvs,ep,hat,hpm,hrep⟩:=dict_keys (prog:=prog) (w:=w) hoD (hP _ (PH.le.refl _)) hl hlm hf
 have hD:=hat.dictOf
 have hkey:(intKind prog w).is k (.int k t) = true:=by show Value.isInt k (.int k t) = true; simp [Value.isInt]
 have hT:s₂.TypeIs (.ref D) "dict" := ⟨_,hoD,(hP _ (PH.le.refl _)).1.1⟩
 obtain ⟨⟨e1,es,ep',e2,e3,e4,e5⟩,hlen⟩:DctO f m (F.view R om s₂.heap) oD ∧ kvs.length ≤ m:=⟨hP _ (PH.le.refl _),by
  obtain ⟨o',es,g1,g2,g3,g4,g5,_⟩:=hat
  rw [hoD] at g1
  cases g1
  obtain ⟨_,es',ep',h2,_,h4,_⟩:=hP _ (PH.le.refl _)
  rw [g3] at h2
  cases h2
  rw [← g5.length,Array.length_toList]; exact h4⟩
 have hin:(valueAt kvs k).isSome = true:=by
  obtain ⟨kv,hkv,e⟩:=List.mem_map.mp (hpm.mem_iff.mpr hkl)
  obtain ⟨j,hj,ej⟩:=List.getElem_of_mem hkv
  obtain ⟨a,y⟩:=kv
  have e:a = k:=e
  subst e
  rw [valueAt_at (hpm.nodup_iff.mpr hl) (i:=j) (x:=y) (by rw [List.getElem?_eq_getElem hj,ej])]
  rfl
 unfold delItem
 refine wpAny_holding ?_
 refine wpAny_bind (wpAny_sequenceKey hT (by decide) ?_)
 refine wpAny_bind (wpAny_callSpecial?_slot (name:=Str.ofString "__delitem__") hT PySem.F.slot_dict_delitem
  (call_meetsIn PySem.F.slot_dict_delitem hT PySem.F.entry_dict_delitem (PySem.F.args_dict_delitem_2 _ _) (meets_dict_delitem_pairs (intKind prog w) D hkey) ⟨kvs,hD,Nat.le_trans hlen hm,hin,fun h' hmm hs=>?_⟩))
 obtain ⟨o',es',ep'',g1,g2,g3,g4,g5,g6⟩:=id hmm
 have hfind:∀ x,findBy (intKind prog w).is es' x = valueAt (without kvs k) x:=fun x=>by
  rw [← g5.find x]
  unfold findBy
  rw [← Array.find?_toList]
 refine wpAny_pure (wpAny_deleteEach_nil ?_)
 refine hq (.nxt sig om') .next _ rfl ?_
 have bv:=view_but (F:=F) (R:=R) (om:=om) u.inD hs
 refine (st₂.pop.pop.upd u (tk:=s₂.toks + 1) hs g1 fun V' hV=>⟨g2,es',ep'',g3,fun e he=>?_,?_,fun x=>?_⟩)
 ·obtain ⟨k',q1,q2⟩:=g4 e he
  obtain ⟨t',e'⟩:=isInt_int q1
  exact ⟨k',t',e',q2⟩
 ·rw [← Array.length_toList,g5.length]
  exact Nat.le_trans (List.length_filter_le _ _) hlen
 ·rw [show findBy Value.isInt es' x = findBy (intKind prog w).is es' x from rfl,hfind x,valueAt_without]
  unfold delF
  by_cases q:x = k
  ·rw [if_pos q,if_pos q]
   rfl
  ·rw [if_neg q,if_neg q]
   have hv:=hP V' (PH.le.trans bv hV)
   obtain ⟨_,es₀,ep₀,h2,_,_,h5⟩:=hv
   obtain ⟨o₀,es₁,w1,w2,w3,w4,w5,_⟩:=id hat
   rw [hoD] at w1
   cases w1
   rw [h2] at w3
   cases w3
   have:=h5 x
   rw [show findBy Value.isInt es₀ x = valueAt kvs x from by
    rw [← w5.find x]
    unfold findBy
    rw [← Array.find?_toList]
    rfl] at this
   exact this
end
end
section
noncomputable def tab1 (led:Bool):SetTable:={ mask:=7,place:=#[6],dummies:=#[],finger:=0,led,moves:=0,plain:=true }
noncomputable def setOb (led:Bool):Option Tok → Obj
 | none=>{ cls:=.type "set",dict:=none,data:=.set #[] 0 (.fresh 0 0 led) }
 | some tk=>{ cls:=.type "set",dict:=none,data:=.set #[(-2,.int (-1) tk)] 1 (tab1 led) }
noncomputable abbrev ledOf (w:World):Bool:=!w.params.followText "set-order"
section
variable {prog:Program} {w:World} {A:Around} {E:Value → Shared → Prop} {s:Shared}
theorem code_setled {Q₁:Value → Shared → Prop} (h:Q₁ (.ref s.heap.objs.size) { s with heap:=s.heap.push (setOb (ledOf w) none) }) :
  codeAny (model prog w) A (.call (.builtin "set.__new__") ⟨[.type "set"],[]⟩) (wants Q₁ E) s:=by
 refine codeAny_of_tree ?_
 show wpAny _ A.in1 (do checkBuiltinCall "set.__new__" ⟨[.type "set"],[]⟩; again (.builtin "set.__new__" ⟨[.type "set"],[]⟩)) _ _ s
 refine wpAny_bind (wpAny_of_eq F.newCall_set_0 (wpAny_pure ⟨plainId_quiet F.plain_set_new _,codeAny_builtin F.entry_set_new ?_⟩))
 rw [Around.under_plainId F.plain_set_new _]
 unfold Builtin.«set.__new__» Builtin.Frozenset.newClass
 have hsub:=sub_set_self
 obtain ⟨hp,g,d,tk,os⟩:=s
 dsimp only
 wp_walk
 refine wpAny_askSetting (wpAny_pure ?_)
 dsimp only
 simp only [newObj]
 refine wpAny_bind (wpAny_alloc (wpAny_pure ?_))
 exact wpAny_pure h
theorem lay1 (led:Bool) (x:Value):layNew (.fresh 0 0 led) #[] (-2) x = (#[(-2,x)],tab1 led,false,false):=by
 cases led <;> kernel_rfl
theorem full1 (led:Bool):(tab1 led).tooFull = false:=by cases led <;> kernel_rfl
theorem scan0 (tk:Tok):byScan (.int (-1) tk) #[] = true:=by
 unfold byScan
 rw [show (Value.int (-1) tk).scannable = true from rfl]
 simp [scanBound]
end
section
variable {prog:Program} {w:World} {A:Around} {E:Value → Shared → Prop} {s:Shared}
set_option maxRecDepth 100000 in
set_option maxHeartbeats 1000000 in
theorem call_setled {Q:Value → Shared → Prop} (h:Q (.ref s.heap.objs.size) { s with heap:=s.heap.push (setOb (ledOf w) none) }):wpAny (model prog w) A (call (.type "set") []) Q E s:=by
 obtain ⟨c,tl,hmro⟩:=F.called_set.mro
 have hmade:=F.called_set.made
 have hsub:=F.called_set.sub
 refine wpAny_call (codeAny_of_tree ?_)
 show wpAny _ _ (callAny (.type "set") _) _ _ _
 refine wpAny_pure ⟨Code.quiet_builtin _ (by decide +kernel),codeAny_builtin F.entry_type_call ?_⟩
 rw [Around.under_plain (weight_type_call_type "set" [] []) rfl]
 have h1:=F.called_set.notType
 have h2:=F.called_set.canCreate
 have hct:=F.typeCall_set_0
 repeat (any_goals (first | assumption | wp_step))
 refine codeAny_mono (code_setled (E:=E) (Q₁:=fun obj s₁=>obj = .ref s.heap.objs.size ∧ s₁ = { s with heap:=s.heap.push (setOb (ledOf w) none) }) ⟨rfl,rfl⟩) fun r s₁ hr=>?_
 cases r with
 | error e=>exact hr
 | ok fl =>
  cases fl with
  | ret obj =>
   obtain ⟨rfl,rfl⟩:=hr
   have hT:Shared.TypeIs { s with heap:=s.heap.push (setOb (ledOf w) none) } (.ref s.heap.objs.size) "set" := ⟨_,Heap.get?_push_size _ rfl,rfl⟩
   have hli:=F.called_set.init.lookup
   have hbi:=F.called_set.init.bind (.ref s.heap.objs.size)
   repeat (any_goals (first | assumption | wp_step))
   refine codeAny_mono (codeAny_call_builtin (R:=wants (fun r s₂=>r = .none ∧ Q (.ref s.heap.objs.size) s₂) E) F.called_set.init.plain F.entry_set_init (check_set_init hT ?_)) fun r₂ s₂ hr₂=>?_
   ·unfold Builtin.«set.__init__» noKeywords
    wp_walk
    exact ⟨rfl,h⟩
   ·cases r₂ with
    | error e=>exact hr₂
    | ok fl₂ =>
     cases fl₂ with
     | ret r =>
      obtain ⟨rfl,hq⟩:=hr₂
      repeat (any_goals (first | assumption | wp_step))
     | _=>exact hr₂.elim
  | _=>exact hr.elim
theorem set_typ {a:Addr} {led:Bool} {k:Option Tok} (ho:s.heap.get? a = some (setOb led k)):s.TypeIs (.ref a) "set" := ⟨_,ho,by cases k <;> rfl⟩
theorem call_setadd1 {a:Addr} {led:Bool} {tk:Tok} {Q:Value → Shared → Prop} (ho:s.heap.get? a = some (setOb led none))
  (h:∀ h',Heap.SameBut a s.heap h' → h'.get? a = some (setOb led (some tk)) → Q .none { s with heap:=h',toks:=s.toks + 1 }) :
  wpAny (model prog w) A (call (.builtin "set.add") [.ref a,.int (-1) tk]) Q E s:=by
 have hkey:(intKind prog w).is (-1) (.int (-1) tk) = true:=by show Value.isInt (-1) (.int (-1) tk) = true; simp [Value.isInt]
 have hh:(intKind prog w).hash (-1) = -2:=by kernel_rfl
 refine wpAny_call_entry F.slot_set_add (set_typ ho) F.entry_set_add ?_ (F.args_set_add_2 _ _)
 unfold Builtin.«set.add» Builtin.Frozenset.oneOther
 simp only [List.isEmpty_nil,bind_assoc]
 unfold Builtin.Frozenset.addrOf setAdd
 refine wpAny_bind (wpAny_pure ?_)
 try dsimp only
 refine wpAny_bind (wpAny_pure ?_)
 try dsimp only
 refine wpAny_bind ?_
 refine wpAny_holding ?_
 refine wpAny_bind ((intKind prog w).pyHash hkey ?_)
 rw [hh]
 unfold setAddHashed setAddHashedIn
 refine wpAny_holding (wpAny_bind (wpAny_setState_of (s:={ s with toks:=s.toks + 1 }) ho rfl (by cases led <;> rfl) ?_))
 dsimp only
 rw [scan0]
 simp only [↓reduceIte]
 unfold setAddByScan
 refine wpAny_bind ?_
 refine wpAny_bind (wpAny_rule ?_)
 refine wpAny_bind (wpAny_pure ?_)
 dsimp only
 rw [lay1]
 dsimp only
 refine wpAny_bind (wpAny_pure ?_)
 refine wpAny_bind ?_
 refine wpAny_pure ?_
 simp only [↓reduceIte]
 refine wpAny_bind (wpAny_storeSet_of (o:=setOb led none) ho rfl ?_ (by simp [sizeLine_eq]))
 have hg:=Heap.get?_update_self (Obj.putSet #[(-2,.int (-1) tk)] (tab1 led)) ho rfl
 rw [full1]
 refine wpAny_pure ?_
 refine wpAny_pure ?_
 show wpAny _ _ (ret Value.none) _ _ _
 exact wpAny_pure ⟨_,rfl,h _ (Heap.SameBut.update ..) hg⟩
end
theorem slot_setiter_next:Slot "set_iterator" "__next__" "set_iterator.__next__" :=
 .of (owner := "set_iterator") (n := "__next__") (by rw [typeLookup_type,builtinLookup_eq_fast]; kernel_rfl) (by decide +kernel) (by decide +kernel) (by decide +kernel)
  (by first | exact .inl (by decide +kernel) | exact .inr (by decide +kernel)) (by rw [isSubtype_type]; kernel_rfl)
theorem slot_setiter_iter:Slot "set_iterator" "__iter__" "set_iterator.__iter__" :=
 .of (owner := "set_iterator") (n := "__iter__") (by rw [typeLookup_type,builtinLookup_eq_fast]; kernel_rfl) (by decide +kernel) (by decide +kernel) (by decide +kernel)
  (by first | exact .inl (by decide +kernel) | exact .inr (by decide +kernel)) (by rw [isSubtype_type]; kernel_rfl)
theorem entry_setiter_next:entryFor table "set_iterator.__next__" = some Builtin.«set_iterator.__next__»:=entryFor_of_tree (by kernel_rfl)
theorem entry_setiter_iter:entryFor table "set_iterator.__iter__" = some Builtin.«dict_keyiterator.__iter__» :=
 entryFor_alias (id' := "dict_keyiterator.__iter__") (by kernel_rfl) rfl (by decide +kernel) (by kernel_rfl)
theorem entry_set_iter:entryFor table "set.__iter__" = some Builtin.«frozenset.__iter__» :=
 entryFor_alias (id' := "frozenset.__iter__") (by kernel_rfl) rfl (by decide +kernel) (by kernel_rfl)
theorem args_setiter_next (a:Value):argsOk "set_iterator.__next__" ⟨[a],[]⟩:=by unfold argsOk; kernel_rfl
theorem args_setiter_iter (a:Value):argsOk "set_iterator.__iter__" ⟨[a],[]⟩:=by unfold argsOk; kernel_rfl
noncomputable def setN:Option Tok → Nat
 | none=>0
 | some _=>1
noncomputable def sitOb (a:Addr) (k:Option Tok) (slot i:Nat):Obj:={ cls:=.type "set_iterator",data:=.fields #[.int slot 0,.int i 0,.ref a,.int (setN k) 0,.int (setN k) 0] }
section
variable {prog:Program} {w:World} {A:Around} {E:Value → Shared → Prop} {s:Shared} {a I:Addr} {k:Option Tok}
theorem set_state {led:Bool} {Q:(Array (Int × Value) × Nat × SetTable) → Shared → Prop} (ho:s.heap.get? a = some (setOb led k))
  (h:∀ es t,es.size = setN k → (setOb led k).data = .set es (setN k) t → Q (es,setN k,t) s):wpAny (model prog w) A (setState a) Q E s:=by
 cases k with
 | none=>exact wpAny_setState_of ho rfl (by cases led <;> rfl) (h _ _ rfl rfl)
 | some tk=>exact wpAny_setState_of ho rfl (by cases led <;> rfl) (h _ _ rfl rfl)
theorem set_byText {Q:Bool → Shared → Prop} (h:Q (w.params.followText "set-order") s):wpAny (model prog w) A setsByText Q E s:=by
 unfold setsByText
 exact wpAny_bind (wpAny_askSetting (wpAny_pure h))
theorem drawn_no {b:Bool} {n:Nat} (h:n ≤ 1):(b && decide (n > 1)) = false:=by
 rw [decide_eq_false (Nat.not_lt.mpr h),Bool.and_false]
theorem setN_le:setN k ≤ 1:=by
 cases k
 ·exact Nat.zero_le 1
 ·exact Nat.le_refl 1
theorem set_drawn {Q:Bool → Shared → Prop} (ho:s.heap.get? a = some (setOb (ledOf w) k)) (h:Q false s):wpAny (model prog w) A (setDrawn a) Q E s:=by
 unfold setDrawn
 refine wpAny_bind (set_state ho fun es t hz hd=>?_)
 refine wpAny_bind (set_byText ?_)
 refine wpAny_pure ?_
 show Q (_ && (!t.plain && decide (es.size > 1))) s
 rw [drawn_no (hz ▸ setN_le),Bool.and_false]
 exact h
theorem iter_set {Q:Value → Shared → Prop} (ho:s.heap.get? a = some (setOb (ledOf w) k)) (h:Q (.ref s.heap.objs.size) { s with heap:=s.heap.push (sitOb a k 0 0) }):wpAny (model prog w) A (pyIter (.ref a)) Q E s:=by
 refine wpAny_pyIter_slot (set_typ ho) F.slot_set_iter (wpAny_call_entry F.slot_set_iter (set_typ ho) entry_set_iter ?_ (F.args_set_iter_1 _))
 unfold Builtin.«frozenset.__iter__» Builtin.Frozenset.slot0 slotArgs
 simp only [List.isEmpty_nil,Bool.not_true,Bool.false_eq_true,↓reduceIte,bind_assoc,List.length_nil,bne_self_eq_false]
 unfold Builtin.Frozenset.addrOf Builtin.Frozenset.sizeOf setEntries setEpoch
 refine wpAny_bind (wpAny_pure ?_)
 try dsimp only
 refine wpAny_bind (wpAny_pure ?_)
 refine wpAny_bind (wpAny_bind (wpAny_bind (set_state ho fun es t hz hd=>?_)))
 refine wpAny_pure (wpAny_pure ?_)
 refine wpAny_bind (set_drawn ho ?_)
 dsimp only
 simp only [Bool.false_eq_true,↓reduceIte]
 refine wpAny_bind (wpAny_pure ?_)
 refine wpAny_bind (wpAny_bind (set_state ho fun es' t' hz' hd'=>wpAny_pure ?_))
 dsimp only
 rw [hz]
 exact wpAny_bind (wpAny_newObj_type (wpAny_pure ⟨_,rfl, "set_iterator",_,⟨_,Heap.get?_push_size _ rfl,rfl⟩,slot_setiter_next.lookup,h⟩))
end
section
variable {prog:Program} {w:World} {A:Around} {E:Value → Shared → Prop} {s:Shared} {a I:Addr} {k:Option Tok}
noncomputable def slotAt (byText:Bool):Nat → Nat
 | 0=>0
 | _ + 1=>if byText then 0 else 7
noncomputable abbrev sitAt (w:World) (a:Addr) (k:Option Tok) (i:Nat):Obj:=sitOb a k (slotAt (w.params.followText "set-order") i) i
theorem sit_typ {sl i:Nat} (ho:s.heap.get? I = some (sitOb a k sl i)):s.TypeIs (.ref I) "set_iterator" := ⟨_,ho,rfl⟩
theorem led_true (hb:w.params.followText "set-order" = false):ledOf w = true:=by unfold ledOf; rw [hb]; rfl
theorem pick1 {α:Type} {f:Nat → Nat} {x:α}:pickOrder f #[x] = #[x]:=by
 unfold pickOrder pickOrder.go
 simp [Nat.mod_one,pickOrder.go]
theorem set_next1 {tk:Tok} {Q:Option (Value × Nat) → Shared → Prop} (ho:s.heap.get? a = some (setOb (ledOf w) (some tk))) (h:Q (some (.int (-1) tk,slotAt (w.params.followText "set-order") 1)) s) :
  wpAny (model prog w) A (setNext a (slotAt (w.params.followText "set-order") 0) 0 1) Q E s:=by
 unfold setNext
 refine wpAny_bind (wpAny_setState_of ho rfl (by cases (ledOf w) <;> rfl) ?_)
 refine wpAny_bind (set_byText ?_)
 cases hb:w.params.followText "set-order" with
 | true =>
  rw [hb] at h
  simp only [↓reduceIte,bne_self_eq_false,Bool.false_eq_true] at h ⊢
  unfold setWalk
  refine wpAny_bind (wpAny_bind (wpAny_setState_of ho rfl (by cases (ledOf w) <;> rfl) ?_))
  refine wpAny_bind (set_byText ?_)
  rw [hb]
  simp only [↓reduceIte]
  refine wpAny_bind (wpAny_askSetting (wpAny_pure (wpAny_pure ?_)))
  rw [pick1]
  exact h
 | false =>
  rw [hb] at h
  rw [led_true hb]
  exact wpAny_of_eq (a:=some (.int (-1) tk,7)) (by kernel_rfl) h
theorem set_nextE {Q:Option (Value × Nat) → Shared → Prop} (ho:s.heap.get? a = some (setOb (ledOf w) k)) (h:Q none s) :
  wpAny (model prog w) A (setNext a (slotAt (w.params.followText "set-order") (setN k)) (setN k) (setN k)) Q E s:=by
 unfold setNext
 cases k with
 | none =>
  refine wpAny_bind (wpAny_setState_of ho rfl (by cases (ledOf w) <;> rfl) ?_)
  refine wpAny_bind (set_byText ?_)
  cases hb:w.params.followText "set-order" with
  | true =>
   show wpAny _ _ (do let x ← setWalk a; pure (Option.map (fun e=>(e.2,0)) x[0]?)) _ _ _
   unfold setWalk
   refine wpAny_bind (wpAny_bind (wpAny_setState_of ho rfl (by cases (ledOf w) <;> rfl) ?_))
   refine wpAny_bind (set_byText ?_)
   rw [hb]
   simp only [↓reduceIte]
   refine wpAny_bind (wpAny_askSetting (wpAny_pure (wpAny_pure ?_)))
   exact h
  | false =>
   rw [led_true hb]
   exact wpAny_of_eq (a:=none) (by kernel_rfl) h
 | some tk =>
  refine wpAny_bind (wpAny_setState_of ho rfl (by cases (ledOf w) <;> rfl) ?_)
  refine wpAny_bind (set_byText ?_)
  cases hb:w.params.followText "set-order" with
  | true =>
   show wpAny _ _ (do let x ← setWalk a; pure (Option.map (fun e=>(e.2,0)) x[1]?)) _ _ _
   unfold setWalk
   refine wpAny_bind (wpAny_bind (wpAny_setState_of ho rfl (by cases (ledOf w) <;> rfl) ?_))
   refine wpAny_bind (set_byText ?_)
   rw [hb]
   simp only [↓reduceIte]
   refine wpAny_bind (wpAny_askSetting (wpAny_pure (wpAny_pure ?_)))
   rw [pick1]
   exact h
  | false =>
   rw [led_true hb]
   exact wpAny_of_eq (a:=none) (by kernel_rfl) h
theorem next_set_item {tk:Tok} {Q:Option Value → Shared → Prop} (ho:s.heap.get? a = some (setOb (ledOf w) (some tk))) (hI:s.heap.get? I = some (sitAt w a (some tk) 0))
  (h:∀ h',h'.get? I = some (sitAt w a (some tk) 1) → Heap.SameBut I s.heap h' → Q (some (.int (-1) tk)) { s with heap:=h' }):wpAny (model prog w) A (pyNext (.ref I)) Q E s:=by
 unfold pyNext
 refine wpAny_bind (wpAny_attempt (wpAny_callSpecial?_slot (name:=Str.ofString "__next__") (sit_typ hI) slot_setiter_next
  (wpAny_call_entry slot_setiter_next (sit_typ hI) entry_setiter_next ?_ (args_setiter_next _))))
 show wpAny _ _ (fieldsOf (.ref I) >>= _) _ _ s
 refine wpAny_bind (wpAny_fieldsOf hI rfl ?_)
 show wpAny _ _ (setEntries a >>= _) _ _ s
 refine wpAny_bind (wpAny_setEntries_of ho rfl (by cases (ledOf w) <;> rfl) ?_)
 show wpAny _ _ (setNext a (slotAt (w.params.followText "set-order") 0) 0 1 >>= _) _ _ _
 refine wpAny_bind (set_next1 ho ?_)
 show wpAny _ _ (setField (.ref I) 0 (rawInt (slotAt (w.params.followText "set-order") 1)) >>= _) _ _ _
 refine wpAny_bind (wpAny_setField hI rfl (by simp) ?_)
 have hI₁:=Heap.get?_update_self (Obj.mapFields (·.setIfInBounds 0 (rawInt (slotAt (w.params.followText "set-order") 1)))) hI rfl
 refine wpAny_bind (wpAny_setField hI₁ rfl (by simp) ?_)
 have hI₂:=Heap.get?_update_self (Obj.mapFields (·.setIfInBounds 1 (rawInt (0 + 1)))) hI₁ rfl
 exact wpAny_pure ⟨_,rfl,wpAny_pure (h _ hI₂ ((Heap.SameBut.update ..).trans (Heap.SameBut.update ..)))⟩
theorem next_set_end {Q:Option Value → Shared → Prop} (hh:A.handled = none) (ho:s.heap.get? a = some (setOb (ledOf w) k)) (hI:s.heap.get? I = some (sitAt w a k (setN k)))
  (h:∀ h',Heap.ExtBut I s.heap h' → Q none { s with heap:=h' }):wpAny (model prog w) A (pyNext (.ref I)) Q E s:=by
 unfold pyNext
 refine wpAny_bind (wpAny_attempt (wpAny_callSpecial?_slot (name:=Str.ofString "__next__") (sit_typ hI) slot_setiter_next
  (wpAny_call_entry slot_setiter_next (sit_typ hI) entry_setiter_next ?_ (args_setiter_next _))))
 show wpAny _ _ (fieldsOf (.ref I) >>= _) _ _ s
 refine wpAny_bind (wpAny_fieldsOf hI rfl ?_)
 show wpAny _ _ (setEntries a >>= _) _ _ s
 refine wpAny_bind (wpAny_bind (set_state ho fun es t hz hd=>wpAny_pure ?_))
 show wpAny _ _ (if (((es.size:Nat):Int) != ((setN k:Nat):Int)) = true then _ else _) _ _ _
 rw [hz,bne_self_eq_false,if_neg Bool.false_ne_true]
 show wpAny _ _ (setNext a (slotAt (w.params.followText "set-order") (setN k)) (setN k) (setN k) >>= _) _ _ _
 refine wpAny_bind (set_nextE ho ?_)
 show wpAny _ _ (setField (.ref I) 2 .none >>= _) _ _ _
 refine wpAny_bind (wpAny_setField hI rfl (by simp) ?_)
 show wpAny _ _ (newExc (.type "StopIteration") [] >>= _) _ _ _
 refine wpAny_bind ?_
 simp only [newExc,newTuple]
 refine wpAny_bind (wpAny_newObj_type ?_ (by size_fits))
 refine wpAny_bind (m:=firstArgMember _ _) (wpAny_of_eq (a:=Value.none) (by first | rfl | (simp only [firstArgMember]; rfl)) ?_)
 refine wpAny_newObj_type ?_ (by size_fits)
 unfold raiseNew
 refine wpAny_bind (wpAny_handled ?_)
 rw [show A.in1.handled = none from hh]
 refine wpAny_bind (wpAny_pure (wpAny_throw ?_))
 refine wpAny_bind (wpAny_isInstance (T := "StopIteration") (b:=true) ⟨_,Heap.get?_push_size _ rfl,rfl⟩ isSubtype_stop ?_)
 exact wpAny_pure (h _ (((Heap.SameBut.update ..).extBut.push _).push _))
end
end
section
noncomputable def SetM (w:World) (b:Bool):PH → Obj → Prop:=fun _ o=>∃ k:Option Tok,k.isSome = b ∧ o = setOb (ledOf w) k
noncomputable def setM (w:World) (b:Bool):AV:=.raw fun V v=>∃ a k,v = .ref a ∧ V a = some (setOb (ledOf w) k) ∧ k.isSome = b
theorem key_setM {w:World} {a:Addr} {b:Bool}:∀ V o,V a = some o → SetM w b V o → Rep V (setM w b) (.ref a):=fun V o h ⟨k,e,eo⟩=>by
 subst eo
 unfold setM
 simp only [Rep]
 exact fun V' hV=>⟨a,k,rfl,hV _ _ h,e⟩
theorem walks_set {prog:Program} {w:World} {A:Around} (hh:A.handled = none) (I a:Addr) (hne:a ≠ I) (k:Option Tok) :
  Walks prog w A I [I,a] [I] (setN k) (fun _ v=>∃ tk,k = some tk ∧ v = .int (-1) tk) (fun i h=>h.get? I = some (sitAt w a k i) ∧ h.get? a = some (setOb (ledOf w) k)) where
 sub:=fun b hb=>by simp at hb; simp [hb]
 frame:=fun _ _ _ st hk=>⟨hk I (by simp) _ st.1,hk a (by simp) _ st.2⟩
 item:=fun i s Q E hi st hQ=>by
  cases k with
  | none=>exact absurd hi (Nat.not_lt_zero _)
  | some tk =>
   obtain rfl:i = 0:=Nat.lt_one_iff.mp hi
   exact next_set_item st.2 st.1 fun h' q1 q2=>hQ _ h' s.toks ⟨tk,rfl,rfl⟩ ⟨q1,q2.extBut a _ hne st.2⟩ fun b o hb e=>q2.extBut b o (fun h=>hb (by simp [h])) e
 done:=fun s Q E st hQ=>next_set_end hh st.2 st.1 fun h' he'=>hQ h' s.toks fun b o hb e=>he' b o (fun h=>hb (by simp [h])) e
 self:=fun i s Q E st hQ=>by
  refine wpAny_pyIter_slot (sit_typ st.1) slot_setiter_iter (wpAny_call_entry slot_setiter_iter (sit_typ st.1) entry_setiter_iter ?_ (args_setiter_iter _))
  show wpAny _ _ (ret (.ref I)) _ _ s
  exact wpAny_pure ⟨_,rfl, "set_iterator",_,sit_typ st.1,slot_setiter_next.lookup,hQ⟩
section
variable {prog:Program} {w:World} {F:Fn} {R:PH} {sig sig':List (Option AV)} {om om' om₁:Om} {tau:List (Value × AV)} {s:Shared}
theorem itr_setM (ok:F.Ok) {b:Bool}:Itr prog w F om (setM w b) (if b then [.int (-1)] else []):=fun R sig tau v s Q E st h=>by
 have h1:=st.top
 unfold setM at h1
 simp only [Rep] at h1
 obtain ⟨a,k,rfl,o,e⟩:=h1 _ (PH.le.refl _)
 have ho:=st.vget o
 have hlt:=Heap.lt_size ho
 have hl:(if b then [AV.int (-1)] else []).length = setN k:=by subst e; cases k <;> rfl
 refine iter_set ho ?_
 refine h s.heap.objs.size (.raw fun V u=>u = .ref a ∧ V a = some (setOb (ledOf w) k)) _ _ _ _ ⟨⟨_,hl ▸ walks_set ok.handled s.heap.objs.size a (Nat.ne_of_lt hlt) k,?_⟩,?_,?_⟩ (st.freshR (Nat.le_refl _)) (Nat.le_refl _) ⟨Heap.get?_push_size _ rfl,Heap.get?_push_of_some _ ho⟩ (Heap.get?_push_size _ rfl)
  ((st.push (v:=.ref a) ?_).hide ok _ rfl)
 ·intro b hb hne V V' q q'
  simp only [Rep] at q q'
  have:b = a:=by simpa [hne] using hb
  subst this
  exact ⟨_,(q V (PH.le.refl _)).2,(q' V' (PH.le.refl _)).2⟩
 ·rintro V i v' x _ ⟨tk,hk,rfl⟩ hx
  subst hk
  subst e
  have hx:[AV.int (-1)][i]? = some x:=hx
  cases i with
  | zero=>cases hx; exact rep_int
  | succ i=>cases hx
 ·intro i h st'
  exact ⟨_,_,_,st'.1,rfl,rfl,by decide⟩
 ·simp only [Rep]
  exact fun V' hV=>⟨trivial,hV _ _ o⟩
theorem x_setM (ok:F.Ok) {P:AV → Om → Prop} (hp:∀ a,F.n₀ ≤ a → P (.ptr a) ((a,SetM w false) :: om)):OpX prog w F om (.type "set") [] P:=fun R sig tau vs s Q E hv st hq=>by
 obtain rfl:=len0 hv
 refine call_setled ?_
 have st':Sta F R sig om tau s:=by simpa using st
 refine hq _ _ _ _ (hp _ ?_) ((st'.openNew ok (P:=SetM w false) _ rfl ?_).push ?_)
 ·exact Nat.not_lt.mp (st'.fresh ok (Nat.le_refl _)).2
 ·exact fun V' hV=>⟨none,rfl,rfl⟩
 ·simp only [Rep]
theorem setM_of {a:Addr} {led:Bool} {h:Heap} (ho:h.get? a = some (setOb led none)):h.SetOf (intKind prog w) a (fun _=>false) 0 :=
 ⟨_,#[],0,_,ho,⟨rfl,rfl,rfl⟩,rfl,fun e he=>by simp at he,fun k=>by simp,by decide,by cases led <;> rfl,rfl⟩
theorem gets_setM {a:Addr} (hmem:(a,SetM w false) ∈ om):Gets prog w F om (.ptr a) "add" (.builtin "set.add"):=fun R sig tau v s pl Q E st h=>by
 have r1:=st.top
 simp only [Rep] at r1
 subst r1
 obtain ⟨o,ho,hP⟩:=st.opens _ hmem
 obtain ⟨k,hk,e⟩:=hP _ (PH.le.refl _)
 subst e
 cases k with
 | some tk=>cases hk
 | none=>exact getMethod_set_add (knd:=intKind prog w) (setM_of ho) h
theorem x_setaddM {a:Addr} {P:AV → Om → Prop} (u:OmUpd om a (SetM w false) (SetM w true) om') (hp:P .none om'):OpX prog w F om (.builtin "set.add") [.ptr a,.int (-1)] P:=fun R sig tau vs s Q E hv st hq=>by
 obtain ⟨v₁,v₂,rfl,st⟩:=two_of hv st
 have r1:=st.top2
 have r2:=st.top
 simp only [Rep] at r1 r2
 obtain ⟨t,rfl⟩:=r2
 subst r1
 obtain ⟨o,ho,hP⟩:=st.opens _ u.mem
 obtain ⟨k,hk,e⟩:=hP _ (PH.le.refl _)
 subst e
 cases k with
 | some tk=>cases hk
 | none=>exact call_setadd1 ho fun h' hs hS=>hq _ _ _ _ hp ((st.pop.pop.upd u (tk:=s.toks + 1) hs hS fun V' hV=>⟨some t,rfl,rfl⟩).push rep_none)
end
end
section
noncomputable def Sub:List (Option AV) → List (Option AV) → Prop
 | [],_=>True
 | none :: r,_ :: t=>Sub r t
 | none :: r,[]=>Sub r []
 | some d :: r,o :: t=>o = some d ∧ Sub r t
 | some _ :: _,[]=>False
theorem Sub.out:∀ {a b:List (Option AV)},Sub a b → ∀ (k:Nat) d,a[k]? = some (some d) → b[k]? = some (some d)
 | [],_,_,k,d,e=>by simp at e
 | none :: r,_ :: t,h,0,d,e=>by simp at e
 | none :: r,_ :: t,h,k + 1,d,e=>by simpa using Sub.out (a:=r) (b:=t) h k d (by simpa using e)
 | none :: r,[],h,0,d,e=>by simp at e
 | none :: r,[],h,k + 1,d,e=>by have:=Sub.out (a:=r) (b:=[]) h k d (by simpa using e); simp at this
 | some d' :: r,o :: t,h,0,d,e=>by simp at e; subst e; simpa using h.1
 | some d' :: r,o :: t,h,k + 1,d,e=>by simpa using Sub.out (a:=r) (b:=t) h.2 k d (by simpa using e)
theorem Sub.refl:∀ {a:List (Option AV)},Sub a a
 | []=>trivial
 | none :: r=>Sub.refl (a:=r)
 | some _ :: r=>⟨rfl,Sub.refl (a:=r)⟩
section
variable {prog:Program} {w:World} {F:Fn} {R:PH} {sig sig' sig₀:List (Option AV)} {om om':Om} {tau:List (Value × AV)} {s:Shared} {K:Frag}
theorem Sta.forget (x:Sta F R sig om tau s) (h:Sub sig₀ sig):Sta F R sig₀ om tau s :=
 ⟨x.same,x.nodup,x.g,x.rf,x.cells,x.opens,x.temps,let ⟨m,hm,sl⟩:=x.slots; ⟨m,hm,fun k y kind d h1 h2=>sl k y kind d h1 (h.out k d h2)⟩⟩
theorem ex_sub {sts:List Stmt} {P:Out → Prop} (h:Sub sig₀ sig) (e:Ex prog w F sig₀ om sts P):Ex prog w F sig om sts P:=fun R tau s Q E st hq=>e R tau s Q E (st.forget h) hq
theorem as_sub {t:PySem.Expr} {d:AV} (h:Sub sig₀ sig) (e:As prog w F om t d sig₀ sig'):As prog w F om t d sig sig':=fun R tau v s Q E st hq=>e R tau v s Q E (st.forget h) hq
noncomputable def OutSub:Out → Out → Prop
 | .nxt s o,.nxt s' o'=>Sub s s' ∧ o = o'
 | .brk s o,.brk s' o'=>Sub s s' ∧ o = o'
 | .cnt s o,.cnt s' o'=>Sub s s' ∧ o = o'
 | .ret d s o,.ret d' s' o'=>d = d' ∧ Sub s s' ∧ o = o'
 | _,_=>False
theorem lands_sub {o o':Out} {f:Flow} (h:OutSub o o') (l:Lands F R tau o' f s):Lands F R tau o f s:=by
 cases o <;> cases o' <;> (try exact False.elim h) <;> cases f <;> (try exact False.elim l)
 ·obtain ⟨h,rfl⟩:=h; exact Sta.forget l h
 ·obtain ⟨h,rfl⟩:=h; exact Sta.forget l h
 ·obtain ⟨h,rfl⟩:=h; exact Sta.forget l h
 ·obtain ⟨rfl,h,rfl⟩:=h; exact Sta.forget l h
theorem ex1_out {st:Stmt} {P P':Out → Prop} (h:Ex1 prog w F sig om st P') (k:∀ o,P' o → ∃ o₀,P o₀ ∧ OutSub o₀ o):Ex1 prog w F sig om st P:=fun R tau s Q E x hq =>
 h R tau s Q E x fun o f s' ho hl=>by
  obtain ⟨o₀,h1,h2⟩:=k o ho
  exact hq o₀ f s' h1 (lands_sub h2 hl)
theorem ex_for2 (ok:F.Ok) {target iter:PySem.Expr} {body:List Stmt} {pos:Pos} {d:AV} {xs:List AV} {P:Out → Prop} (h₁:Ev prog w F sig om iter d) (it:Itr prog w F om d xs) (Inv:Nat → List (Option AV) → Om → Prop) (h0:∃ sig₀,Sub sig₀ sig ∧ Inv 0 sig₀ om)
  (turn:∀ (i:Nat) (x:AV) sig om,xs[i]? = some x → Inv i sig om → ∃ sig₁,As prog w F om target x sig sig₁ ∧ Ex prog w F sig₁ om body fun o=>match o with
   | .nxt sig' om'=>∃ sig₀,Sub sig₀ sig' ∧ Inv (i + 1) sig₀ om'
   | .cnt sig' om'=>∃ sig₀,Sub sig₀ sig' ∧ Inv (i + 1) sig₀ om'
   | .brk sig' om'=>∃ sig₀,Sub sig₀ sig' ∧ P (.nxt sig₀ om')
   | .ret d sig' om'=>P (.ret d sig' om'))
  (done:∀ sig om,Inv xs.length sig om → P (.nxt sig om))
  (hs:∀ x,foldedSetIterable iter F.env x = pure x:=by intro _; rfl):Ex1 prog w F sig om (.For target iter body [] pos) P:=by
 refine ex1_out (P':=fun o=>match o with | .nxt sig om=>∃ sig₀,Sub sig₀ sig ∧ P (.nxt sig₀ om) | o=>P o) (ex_for ok h₁ it (fun i sig om=>∃ sig₀,Sub sig₀ sig ∧ Inv i sig₀ om) h0 (fun i x sig om hx hI=>?_) (fun sig om ⟨sig₀,h1,h2⟩=>⟨sig₀,h1,done _ _ h2⟩) hs) fun o ho=>?_
 ·obtain ⟨sig₀,hs,hI⟩:=hI
  obtain ⟨sig₁,h1,h2⟩:=turn i x sig₀ om hx hI
  refine ⟨sig₁,as_sub hs h1,ex_mono h2 fun o ho=>?_⟩
  cases o <;> exact ho
 ·cases o with
  | nxt sig om=>obtain ⟨sig₀,h1,h2⟩:=ho; exact ⟨.nxt sig₀ om,h2,h1,rfl⟩
  | brk sig om=>exact ⟨_,ho,Sub.refl,rfl⟩
  | cnt sig om=>exact ⟨_,ho,Sub.refl,rfl⟩
  | ret d sig om=>exact ⟨_,ho,rfl,Sub.refl,rfl⟩
theorem ex_while2 {test:PySem.Expr} {body:List Stmt} {pos:Pos} {P:Out → Prop} (Inv:Nat → List (Option AV) → Om → Prop) (n:Nat) (h0:∃ sig₀,Sub sig₀ sig ∧ Inv n sig₀ om)
  (turn:∀ n sig om,Inv n sig om → ∃ b,Tst prog w F sig om test b ∧ (b = false → P (.nxt sig om)) ∧ (b = true → Ex prog w F sig om body fun o=>match o with
   | .nxt sig' om'=>∃ m,m < n ∧ ∃ sig₀,Sub sig₀ sig' ∧ Inv m sig₀ om'
   | .cnt sig' om'=>∃ m,m < n ∧ ∃ sig₀,Sub sig₀ sig' ∧ Inv m sig₀ om'
   | .brk sig' om'=>∃ sig₀,Sub sig₀ sig' ∧ P (.nxt sig₀ om')
   | .ret d sig' om'=>P (.ret d sig' om'))):Ex1 prog w F sig om (.While test body [] pos) P:=fun R tau s Q E st hq=>by
 refine wpAny_While (codeAny_whileLoop (fun n s'=>∃ sig om,Inv n sig om ∧ Sta F R sig om tau s') (fun n s' hI=>?_) n (let ⟨sig₀,h1,h2⟩:=h0; ⟨sig₀,om,h2,st.forget h1⟩))
 obtain ⟨sig,om,inv,st⟩:=hI
 obtain ⟨b,ht,hf,htr⟩:=turn n sig om inv
 refine ht R tau s' _ _ st fun s₂ st₂=>?_
 cases b with
 | false =>
  simp only [Bool.false_eq_true,if_false]
  exact wpAny_execs_nil (hq (.nxt sig om) .next _ (hf rfl) st₂)
 | true =>
  simp only [if_true]
  refine htr rfl R tau s₂ _ _ st₂ fun out f s₄ hout hl=>?_
  cases out <;> cases f <;> first | exact False.elim hl | change Sta _ _ _ _ _ _ at hl
  ·obtain ⟨m,hm,sig₀,h1,hi⟩:=hout; exact ⟨m,hm,_,_,hi,hl.forget h1⟩
  ·obtain ⟨sig₀,h1,hi⟩:=hout; exact hq (.nxt _ _) .next _ hi (hl.forget h1)
  ·obtain ⟨m,hm,sig₀,h1,hi⟩:=hout; exact ⟨m,hm,_,_,hi,hl.forget h1⟩
  ·exact hq (.ret _ _ _) (.ret _) _ hout hl
theorem ev_nm (ok:F.Ok) {x:PySem.Str} {pos:Pos} (k:Nat) {kind:NameKind} {d:AV} (e:F.names[k]? = some (x,kind)) (hd:((x == ("__debug__" : PySem.Str)) || (x == ("__classdict__" : PySem.Str))) = false) (hs:sig[k]? = some (some d)):Ev prog w F sig om (.Name x pos) d :=
 ev_name ok (At.of ok e hd) hs
theorem glo_top (hk:SeesK K F.G) (hg:F.env.globals = mainGlobals) (h1:nsOkIn K mainGlobals = true) {x:PySem.Str} {v:Value} (h2:nsIn K mainGlobals x = some (some v)):Glo F x v:=fun h hG=>by
 have X:K.In h:=fun a o e=>hG _ _ (hk a o e)
 rw [hg]
 have N:h.Ns mainGlobals (h.nsMap mainGlobals):=.of_isNs (isNs_of_in X h1)
 exact ⟨_,N,.inl (mg_of X N h2)⟩
theorem ns_some_of {h:Heap} {N:Addr} {mg:PySem.Str → Option Value} {n:PySem.Str} {v:Value} (X:K.In h) (G:h.Ns N mg) (e:nsIn K N n = some (some v)):mg n = some v:=by
 obtain ⟨o,es,ep,ho,hd,_,hf⟩:=G
 unfold nsIn at e
 split at e
 ·rename_i c d es' n' sl q
  have:=X _ _ q
  rw [ho] at this
  cases this
  cases hd
  split at e
  ·rename_i en he
   cases e
   rw [← hf]
   unfold nsFind findBy
   rw [← Array.find?_toList,he]
   rfl
  ·split at e <;> cases e
 ·cases e
theorem glo_blt (hk:SeesK K F.G) (hg:F.env.globals = mainGlobals) (hb:F.env.builtins = builtinsNs) (h1:nsOkIn K mainGlobals = true) (h3:nsOkIn K builtinsNs = true) {x:PySem.Str} {v:Value} (h2:nsIn K mainGlobals x = some none) (h4:nsIn K builtinsNs x = some (some v)):Glo F x v:=fun h hG=>by
 have X:K.In h:=fun a o e=>hG _ _ (hk a o e)
 rw [hg,hb]
 have N:h.Ns mainGlobals (h.nsMap mainGlobals):=.of_isNs (isNs_of_in X h1)
 have N':h.Ns builtinsNs (h.nsMap builtinsNs):=.of_isNs (isNs_of_in X h3)
 exact ⟨_,N,.inr ⟨ns_none_of X N h2,_,N',ns_some_of X N' h4⟩⟩
noncomputable def fdOf (o:Obj):FuncData:=match o.data with | .func fd=>fd | _=>{ (default:FuncData) with }
noncomputable def defIn (K:Frag) (f:Addr) (fd:FuncData):Prop:=∃ o c oc vs t,K.lookup f = some o ∧ o.data = .func fd ∧ fd.code = .ref c ∧ K.lookup c = some oc ∧ oc.data = .fields vs ∧ vs[1]? = some (.str fd.qualname t)
noncomputable def statIn (K:Frag):Prop:=∃ o es ep,K.lookup cStatics = some o ∧ o.data = .dict es ep ∧ StrKeys es ∧ nsFind es "sys.recursionlimit" = none
theorem defAt_of {f:Addr} {fd:FuncData} {body:List Stmt} {V:PH} (h:SeesK K V) (d:defIn K f fd) (t:statIn K) (hb:fd.body = .stmts body) (hc:fd.closure = []):DefAt fd body f V:=by
 obtain ⟨o,c,oc,vs,t',h1,h2,h3,h4,h5,h6⟩:=d
 obtain ⟨ol,es,ep,g1,g2,g3,g4⟩:=t
 exact ⟨⟨o,h _ _ h1,h2⟩,⟨c,oc,vs,t',h3,h _ _ h4,h5,h6⟩,⟨ol,es,ep,h _ _ g1,g2,g3,g4⟩,hb,hc⟩
theorem defOk_of {fd:FuncData} {ps:List PySem.Str} (h1:fd.scope.kind = .function) (h2:(fd.scope.names.map (·.1)).Nodup) (h3:fd.scope.names.all (fun y=>y.2 != .free) = true) (h4:ps.Nodup)
  (h5:ps.all (fun x=>fd.scope.names.lookup x == some .local || fd.scope.names.lookup x == some .cell) = true):DefOk fd ps :=
 ⟨h1,h2,fun y hy=>by have:=List.all_eq_true.mp h3 y hy; simpa using this,h4,fun x hx=>by have:=List.all_eq_true.mp h5 x hx; simpa using this⟩
noncomputable def isFnO (o:Obj):Bool:=match o.data with | .func _=>true | _=>false
noncomputable def codeOkB (K:Frag) (fd:FuncData):Bool:=match fd.code with
 | .ref c=>(match K.lookup c with
  | some ⟨_,_,.fields vs,_⟩=>(match (vs[1]?:Option Value) with
   | some (.str q t)=>q == fd.qualname
   | _=>false)
  | _=>false)
 | _=>false
theorem defIn_of {f:Addr} (o:Obj) (h1:K.lookup f = some o) (h2:isFnO o = true) (h3:codeOkB K (fdOf o) = true):defIn K f (fdOf o):=by
 have e:o.data = .func (fdOf o):=by
  unfold isFnO at h2
  unfold fdOf
  split at h2
  ·rename_i fd hd; rw [hd]
  ·cases h2
 unfold codeOkB at h3
 split at h3
 ·rename_i c hc
  split at h3
  ·rename_i a b vs sl ho
   split at h3
   ·rename_i q t hv
    have:q = (fdOf o).qualname:=by simpa using h3
    subst this
    exact ⟨o,c,_,vs,t,h1,e,hc,ho,rfl,hv⟩
   ·cases h3
  ·cases h3
 ·cases h3
theorem statIn_of (o:Obj) {es:Array DictEntry} {ep:Nat} (h1:K.lookup cStatics = some o) (h2:o.data = .dict es ep) (h3:es.all (fun e=>match e.key with | .str _ _=>true | _=>false) = true) (h4:nsFind es "sys.recursionlimit" = none):statIn K :=
 ⟨o,es,ep,h1,h2,(show StrKeys es from fun e he=>by
  rw [Array.all_eq_true_iff_forall_mem] at h3
  have h:=h3 e he
  cases q:e.key <;> simp only [q,Bool.false_eq_true] at h
  exact ⟨_,_,rfl⟩),h4⟩
theorem ev_eq {e:PySem.Expr} {d d':AV} (h:Ev prog w F sig om e d) (q:d = d'):Ev prog w F sig om e d':=q ▸ h
theorem tst_eq {e:PySem.Expr} {d d':Bool} (h:Tst prog w F sig om e d) (q:d = d'):Tst prog w F sig om e d':=q ▸ h
end
end
section
noncomputable abbrev il (l:List Int):AV:=.lst (l.map .int)
theorem beq_cons_int {a b:Int} {l r:List Int}:((a :: l) == (b :: r)) = ((a == b) && (l == r)):=rfl
theorem cmpL_il:∀ {a b:List Int},a.length = b.length → CmpL 0 (a.map .int) (b.map .int) (a == b)
 | [],[],_=>.nil
 | x :: a,y :: b,h=>by
  rw [beq_cons_int]
  exact .cons (.int x y) (cmpL_il (by simpa using h))
 | [],_ :: _,h=>by cases h
 | _ :: _,[],h=>by cases h
theorem cmp_il {a b:List Int}:Cmp 1 (il a) (il b) (a == b):=by
 by_cases h:a.length = b.length
 ·exact .lst (cmpL_il h)
 ·have:(a == b) = false:=by simp only [beq_eq_false_iff_ne,ne_eq]; rintro rfl; exact h rfl
  rw [this]
  exact .len (by simpa using h)
section
variable {prog:Program} {w:World} {F:Fn} {R:PH} {sig sig' sig₀:List (Option AV)} {om om':Om} {tau:List (Value × AV)} {s:Shared} {K:Frag}
theorem op_ne_il (ok:F.Ok) {a b:List Int}:Op2 prog w F om (compareOp .NotEq) (il a) (il b) (.bool (a != b)):=op_ne ok cmp_il
theorem op_cat_il (ok:F.Ok) {a b:List Int} (hsz:a.length + b.length ≤ sizeLine):Op2 prog w F om (binaryOp .Add) (il a) (il b) (il (a ++ b)):=by
 have:=op_cat (prog:=prog) (w:=w) (om:=om) ok (l:=a.map .int) (l':=b.map .int) (by simpa using hsz)
 rwa [← List.map_append] at this
theorem c_len_il {l:List Int} (hl:l.length < 2 ^ 62):OpC prog w F om (.builtin "len") [il l] (.int l.length):=by
 have:=c_len_list (prog:=prog) (w:=w) (F:=F) (om:=om) (l:=l.map .int) (by simpa using hl)
 rwa [List.length_map] at this
theorem pick_upto_il {b:Nat} {l:List Int}:∀ V (vs:Array Value),RepL V (l.map .int) vs.toList → RepL V ((l.take b).map .int) (slicePick vs none (some (b:Int)) none).toList:=fun V vs r=>by
 rw [List.map_take]; exact pick_upto V vs r
theorem pick_from_il {b:Nat} {l:List Int}:∀ V (vs:Array Value),RepL V (l.map .int) vs.toList → RepL V ((l.drop b).map .int) (slicePick vs (some (b:Int)) none none).toList:=fun V vs r=>by
 rw [List.map_drop]; exact pick_from V vs r
theorem pick_between_il {a b:Nat} {l:List Int}:∀ V (vs:Array Value),RepL V (l.map .int) vs.toList → RepL V (((l.take b).drop a).map .int) (slicePick vs (some (a:Int)) (some (b:Int)) none).toList:=fun V vs r=>by
 rw [List.map_drop,List.map_take]; exact pick_between V vs r
theorem item_il {value slice:PySem.Expr} {l:List Int} {k:Int} {d:Int} (hn:NoSlice slice) (h0:0 ≤ k) (hk:k < 2 ^ 63) (hd:l[k.toNat]? = some d):Op2 prog w F om (subscriptTail value slice) (il l) (.int k) (.int d) :=
 item_list hn h0 hk (by rw [List.getElem?_map,hd]; rfl)
theorem sl_upto (ok:F.Ok) {value slice:PySem.Expr} {l:List Int} {b:Int} (hn:IsSl slice) (h0:0 ≤ b) (hsz:l.length ≤ sizeLine):Op2 prog w F om (subscriptTail value slice) (il l) (sliceAV none (some b) none) (il (l.take b.toNat)):=by
 obtain ⟨n,rfl⟩:=Int.eq_ofNat_of_zero_le h0
 exact item_slice ok hn (by simp) (by simpa using hsz) pick_upto_il
theorem sl_from (ok:F.Ok) {value slice:PySem.Expr} {l:List Int} {b:Int} (hn:IsSl slice) (h0:0 ≤ b) (hsz:l.length ≤ sizeLine):Op2 prog w F om (subscriptTail value slice) (il l) (sliceAV (some b) none none) (il (l.drop b.toNat)):=by
 obtain ⟨n,rfl⟩:=Int.eq_ofNat_of_zero_le h0
 exact item_slice ok hn (by simp) (by simpa using hsz) pick_from_il
theorem sl_between (ok:F.Ok) {value slice:PySem.Expr} {l:List Int} {a b:Int} (hn:IsSl slice) (ha:0 ≤ a) (hb:0 ≤ b) (hsz:l.length ≤ sizeLine):Op2 prog w F om (subscriptTail value slice) (il l) (sliceAV (some a) (some b) none) (il ((l.take b.toNat).drop a.toNat)):=by
 obtain ⟨n,rfl⟩:=Int.eq_ofNat_of_zero_le ha
 obtain ⟨m,rfl⟩:=Int.eq_ofNat_of_zero_le hb
 exact item_slice ok hn (by simp) (by simpa using hsz) pick_between_il
theorem sl_rev (ok:F.Ok) {value slice:PySem.Expr} {l:List AV} (hn:IsSl slice) (hsz:l.length ≤ sizeLine):Op2 prog w F om (subscriptTail value slice) (.lst l) (sliceAV none none (some (-1))) (.lst l.reverse) :=
 item_slice ok hn (by simp) hsz pick_rev
theorem evp_none:EvP prog w F sig om none none:=trivial
theorem evp_some {e:PySem.Expr} {k:Int} (h:Ev prog w F sig om e (.int k)):EvP prog w F sig om (some e) (some k):=h
inductive IsK:AV → AV → Prop
 | ll {l l':List AV}:IsK (.lst l) (.lst l')
 | ln {l:List AV}:IsK (.lst l) .none
 | ls {l:List AV} {x:PySem.Str}:IsK (.lst l) (.str x)
 | sn {x:PySem.Str}:IsK (.str x) .none
theorem is_run {V:PH} {A:Around} {d₁ d₂:AV} {v₁ v₂:Value} {Q:Value → Shared → Prop} {E:Value → Shared → Prop} (k:IsK d₁ d₂) (hv:ViewIn V s.heap) (r₁:Rep V d₁ v₁) (r₂:Rep V d₂ v₂) (h:∀ b,(b = true → v₁ = v₂) → Q (.bool b) s) :
  wpAny (model prog w) A (compareOp .Is v₁ v₂) Q E s:=by
 cases k with
 | ll =>
  simp only [Rep] at r₁ r₂
  obtain ⟨a,vs,n,rfl,o,r⟩:=r₁
  obtain ⟨a',vs',n',rfl,o',r'⟩:=r₂
  by_cases e:a = a'
  ·subst e
   show wpAny _ _ (do return .bool (← isSame (.ref a) (.ref a))) Q E s
   refine wpAny_bind ?_
   unfold isSame
   show wpAny _ _ (if (a == a) = true then pure true else _) _ _ _
   rw [if_pos (beq_self_eq_true a)]
   exact wpAny_pure (wpAny_pure (h true fun _=>rfl))
  ·exact wpAny_is_ref_other e (hv _ _ o) (hv _ _ o') (by intro z; simp at z) (h false fun z=>by cases z)
 | ln =>
  simp only [Rep] at r₁ r₂
  obtain ⟨a,vs,n,rfl,o,r⟩:=r₁
  subst r₂
  exact is_none (h _ fun z=>by cases z)
 | ls =>
  simp only [Rep] at r₁ r₂
  obtain ⟨a,vs,n,rfl,o,r⟩:=r₁
  obtain ⟨t,rfl⟩:=r₂
  exact wpAny_bind (wpAny_pure (wpAny_pure (h _ fun z=>by cases z)))
 | sn =>
  simp only [Rep] at r₁ r₂
  obtain ⟨t,rfl⟩:=r₁
  subst r₂
  exact is_none (h _ fun z=>by cases z)
theorem ex_if_is {l r:PySem.Expr} {p pos:Pos} {body orelse:List Stmt} {d₁ d₂:AV} {P:Out → Prop} (k:IsK d₁ d₂) (h₁:Ev prog w F sig om l d₁) (h₂:Ev prog w F sig om r d₂) (ht:(∃ V v,Rep V d₁ v ∧ Rep V d₂ v) → Ex prog w F sig om body P) (hf:Ex prog w F sig om orelse P)
  (hm:behindInMarks .Is r = false:=by with_unfolding_all rfl):Ex1 prog w F sig om (.If (.Compare l [.Is] [r] p) body orelse pos) P:=fun R tau s Q E x hq =>
 wpAny_If (wpAny_isTrue_Compare1 (h₁ R tau s _ _ x fun v₁ s₁ x₁=>h₂ R _ _ _ _ x₁ fun v₂ s₂ x₂=>is_run k x₂.viewIn x₂.top2 x₂.top fun b hb=>wpAny_truthy_bool (by
  cases b with
  | true=>exact ht ⟨_,_,x₂.top2,(hb rfl) ▸ x₂.top⟩ R tau s₂ _ _ x₂.pop.pop hq
  | false=>exact hf R tau s₂ _ _ x₂.pop.pop hq)) hm)
theorem repl_ints {V:PH}:∀ {a b:List Int} {vs:List Value},RepL V (a.map .int) vs → RepL V (b.map .int) vs → a = b
 | [],[],_,_,_=>rfl
 | [],b :: bs,vs,h,h'=>by have h1:=h.length; have h2:=h'.length; rw [h1] at h2; simp at h2
 | a :: as,[],vs,h,h'=>by have h1:=h.length; have h2:=h'.length; rw [h1] at h2; simp at h2
 | a :: as,b :: bs,vs,h,h'=>by
  simp only [List.map_cons,RepL] at h h'
  obtain ⟨v,vs₁,rfl,r,rs⟩:=h
  obtain ⟨v',vs₂,e,r',rs'⟩:=h'
  cases e
  simp only [Rep] at r r'
  obtain ⟨t,rfl⟩:=r
  obtain ⟨u,e⟩:=r'
  cases e
  rw [repl_ints rs rs']
theorem same_il {a b:List Int} (h:∃ V v,Rep V (il a) v ∧ Rep V (il b) v):a = b:=by
 obtain ⟨V,v,h1,h2⟩:=h
 simp only [Rep] at h1 h2
 obtain ⟨x,vs,n,rfl,o,r⟩:=h1
 obtain ⟨x',vs',n',e,o',r'⟩:=h2
 cases e
 rw [o] at o'
 cases o'
 exact repl_ints r r'
end
section
variable {prog:Program} {w:World} {F:Fn} {sig:List (Option AV)} {om:Om} {N:List (PySem.Str × NameKind)}
theorem at_nl (ok:F.Ok) (hN:F.names = N) (k:Nat) {x:PySem.Str} {kind:NameKind} (e:N[k]? = some (x,kind)) (hd:((x == ("__debug__" : PySem.Str)) || (x == ("__classdict__" : PySem.Str))) = false):At F x k kind:=At.of ok (hN ▸ e) hd
theorem st_loc {x:PySem.Str} {k:Nat} (a:At F x k .local):Store F x k:=.inl a
theorem st_cel {x:PySem.Str} {k:Nat} (a:At F x k .cell) (hc:∃ c,F.env.cells.lookup x = some c ∧ c ∈ F.cs):Store F x k:=.inr ⟨a,hc⟩
end
section
variable {prog:Program} {w:World} {F:Fn} {R:PH} {sig sig' sig₀:List (Option AV)} {om om':Om} {tau:List (Value × AV)} {s:Shared} {K:Frag}
theorem ev_cmpX {l r:PySem.Expr} {op:CmpOp} {pos:Pos} {d₁ d₂ d:AV} (h₁:Ev prog w F sig om l d₁) (h₂:Ev prog w F sig om r d₂) (o:Op2 prog w F om (compareOp op) d₁ d₂ d)
  (hm:behindInMarks op r = false):Ev prog w F sig om (.Compare l [op] [r] pos) d:=ev_cmp h₁ h₂ o hm
theorem tst_cmpX {l r:PySem.Expr} {op:CmpOp} {pos:Pos} {d₁ d₂:AV} {b:Bool} (h₁:Ev prog w F sig om l d₁) (h₂:Ev prog w F sig om r d₂) (o:Op2 prog w F om (compareOp op) d₁ d₂ (.bool b))
  (hm:behindInMarks op r = false):Tst prog w F sig om (.Compare l [op] [r] pos) b:=tst_cmp h₁ h₂ o hm
theorem tst_valueX {e:PySem.Expr} {d:AV} {b:Bool} (h₁:Ev prog w F sig om e d) (t:Tru prog w F om d b)
  (he:∀ whole,isTrue e F.env whole = (do let v ← whole; standAt e.pos; holding [v] (truthy v))):Tst prog w F sig om e b:=tst_value h₁ t he
theorem evl_consX {e:PySem.Expr} {es:List PySem.Expr} {d:AV} {ds:List AV} (h₁:Ev prog w F sig om e d) (h₂:EvL prog w F sig om es ds)
  (he:starEach (e :: es) F.env = (false,eval e F.env) :: starEach es F.env):EvL prog w F sig om (e :: es) (d :: ds):=evl_cons h₁ h₂ he
theorem ev_callX {func:PySem.Expr} {args:List PySem.Expr} {pos:Pos} {f:Value} {ds:List AV} {d:AV} (h₁:Ev prog w F sig om func (.raw fun _ u=>u = f)) (c:Callee prog w F f) (h₂:EvL prog w F sig om args ds) (o:OpC prog w F om f ds d)
  (hc:eval (.Call func args [] pos) F.env = (do callWith pos (← eval func F.env) [] (backTo pos (starEach args F.env)) (backToKw pos (keywordEach [] F.env))))
  (hp:(backTo pos (starEach args F.env)).any (·.1) = false):Ev prog w F sig om (.Call func args [] pos) d:=ev_call h₁ c h₂ o hc hp
theorem ex_assignX (ok:F.Ok) {x:PySem.Str} {p pos:Pos} {e:PySem.Expr} {k:Nat} {d:AV} {rest:List Stmt} {P:Out → Prop} (a:Store F x k) (h:Ev prog w F sig om e d)
  (hs:swapsWith e (some (.Name x p)) pos.line F.env = pure false) (hr:Ex prog w F (sig.set k (some d)) om rest P):Ex prog w F sig om (.Assign [.Name x p] e pos :: rest) P:=ex_seq (ex_assign ok a h hs) hr
theorem ex_returnX {e:PySem.Expr} {pos:Pos} {d:AV} {P:Out → Prop} {rest:List Stmt} (h:Ev prog w F sig om e d) (hp:P (.ret d sig om)):Ex prog w F sig om (.Return (some e) pos :: rest) P :=
 ex_cons (P₁:=(· = .ret d sig om)) (ex_return h rfl) fun o ho=>by subst ho; exact hp
noncomputable def Then (prog:Program) (w:World) (F:Fn) (rest:List Stmt) (P:Out → Prop):Out → Prop
 | .nxt sig om=>Ex prog w F sig om rest P
 | o=>P o
theorem ex_thenX {st:Stmt} {rest:List Stmt} {P:Out → Prop} (h:Ex1 prog w F sig om st (Then prog w F rest P)):Ex prog w F sig om (st :: rest) P:=ex_cons h fun o ho=>by cases o <;> exact ho
theorem ex_ifX {t:PySem.Expr} {body orelse rest:List Stmt} {pos:Pos} {b:Bool} {P:Out → Prop} (ht:Tst prog w F sig om t b) (h₁:b = true → Ex prog w F sig om body (Then prog w F rest P)) (h₂:b = false → Ex prog w F sig om orelse (Then prog w F rest P)):Ex prog w F sig om (.If t body orelse pos :: rest) P :=
 ex_thenX (ex_if ht h₁ h₂)
theorem ex_nilX {rest:List Stmt} {P:Out → Prop} (h:Ex prog w F sig om rest P):Ex prog w F sig om [] (Then prog w F rest P):=ex_nil h
end
section
variable {prog:Program} {w:World} {F:Fn} {sig:List (Option AV)} {om:Om} {N:List (PySem.Str × NameKind)}
theorem ex_docX {x:PySem.Str} {k:Nat} {p pos:Pos} {rest:List Stmt} {P:Out → Prop} (hi:interactive F.env = false) (h:Ex prog w F sig om rest P):Ex prog w F sig om (.Expr (.Constant (.str x) k p) pos :: rest) P :=
 ex_seq (ex_doc (P:=(· = .nxt sig om)) rfl hi) h
theorem ex_ifT {t:PySem.Expr} {body orelse rest:List Stmt} {pos:Pos} {P:Out → Prop} (ht:Tst prog w F sig om t true) (h₁:Ex prog w F sig om body (Then prog w F rest P)):Ex prog w F sig om (.If t body orelse pos :: rest) P :=
 ex_ifX ht (fun _=>h₁) (fun h=>by cases h)
theorem ex_ifF {t:PySem.Expr} {body orelse rest:List Stmt} {pos:Pos} {P:Out → Prop} (ht:Tst prog w F sig om t false) (h₂:Ex prog w F sig om orelse (Then prog w F rest P)):Ex prog w F sig om (.If t body orelse pos :: rest) P :=
 ex_ifX ht (fun h=>by cases h) (fun _=>h₂)
end
end
section
section
variable {prog:Program} {w:World} {F:Fn} {R:PH} {sig sig':List (Option AV)} {om om' om₁:Om} {tau:List (Value × AV)} {s:Shared} {K:Frag}
theorem asx_attr' {o:PySem.Expr} {x:PySem.Str} {pos:Pos} {C a dx:Addr} {as as':List (PySem.Str × AV)} {d:AV} (hk:SeesK K F.G) (hp:plainCls K C = true) (hx:ownName K C x = true) (h:Ev prog w F sig om o (inst C a dx)) (hd:Handed d) (hz:as.length ≤ 1000) (hput:putA x d as = as')
  (u:OmUpd om dx (AttO as) (AttO as') om'):AsX prog w F (.Attribute o x pos) d sig om sig om':=by
 subst hput; exact asx_attr hk hp hx h hd hz u
theorem ex_attr1 {o e:PySem.Expr} {x:PySem.Str} {ap pos:Pos} {C a dx:Addr} {as as':List (PySem.Str × AV)} {d:AV} {rest:List Stmt} {P:Out → Prop} (hk:SeesK K F.G) (hp:plainCls K C = true) (hx:ownName K C x = true) (he:Ev prog w F sig om e d) (h:Ev prog w F sig om o (inst C a dx)) (hd:Handed d) (hz:as.length ≤ 1000) (hput:putA x d as = as')
  (u:OmUpd om dx (AttO as) (AttO as') om') (hr:Ex prog w F sig om' rest P)
  (hs:swapsWithSole [.Attribute o x ap] e pos.line F.env = pure false) (hw:swappedStores [.Attribute o x ap] e F.env = pure none) (ha:(assignEach [.Attribute o x ap] F.env).map (·.2) = [assign (.Attribute o x ap) F.env]):Ex prog w F sig om (.Assign [.Attribute o x ap] e pos :: rest) P :=
 ex_cons (P₁:=(· = .nxt sig om')) (exx_one (P:=fun d' om₁=>d' = d ∧ om₁ = om) (evx_of he ⟨rfl,rfl⟩) (fun d' om₁ ⟨e1,e2⟩=>by subst e1 e2; exact ⟨sig,om',asx_attr' hk hp hx h hd hz hput u,rfl⟩) hs hw ha) fun o ho=>by subst ho; exact hr
theorem ex_attr2 {o o₂ e:PySem.Expr} {x y:PySem.Str} {ap ap₂ pos:Pos} {C a dx:Addr} {as as' as₂:List (PySem.Str × AV)} {d:AV} {om₂:Om} {rest:List Stmt} {P:Out → Prop} (hk:SeesK K F.G) (hp:plainCls K C = true) (hx:ownName K C x = true) (hy:ownName K C y = true) (he:Ev prog w F sig om e d) (h:Ev prog w F sig om o (inst C a dx)) (h₂:Ev prog w F sig om' o₂ (inst C a dx)) (hd:Handed d) (hz:as.length ≤ 1000) (hz':as'.length ≤ 1000) (hput:putA x d as = as') (hput₂:putA y d as' = as₂)
  (u:OmUpd om dx (AttO as) (AttO as') om') (u₂:OmUpd om' dx (AttO as') (AttO as₂) om₂) (hr:Ex prog w F sig om₂ rest P)
  (hw:swappedStores [.Attribute o x ap,.Attribute o₂ y ap₂] e F.env = pure none) (ha:(assignEach [.Attribute o x ap,.Attribute o₂ y ap₂] F.env).map (·.2) = [assign (.Attribute o x ap) F.env,assign (.Attribute o₂ y ap₂) F.env]):Ex prog w F sig om (.Assign [.Attribute o x ap,.Attribute o₂ y ap₂] e pos :: rest) P :=
 ex_cons (P₁:=(· = .nxt sig om₂)) (exx_two (P:=fun d' om₁=>d' = d ∧ om₁ = om) (evx_of he ⟨rfl,rfl⟩) (fun d' om₁ ⟨e1,e2⟩=>by subst e1 e2; exact ⟨sig,om',sig,om₂,asx_attr' hk hp hx h hd hz hput u,asx_attr' hk hp hy h₂ hd hz' hput₂ u₂,rfl⟩) hw ha) fun o ho=>by subst ho; exact hr
theorem ex_attrn (ok:F.Ok) {o e:PySem.Expr} {x n:PySem.Str} {ap np pos:Pos} {C a dx:Addr} {k:Nat} {PE:AV → Om → Prop} {rest:List Stmt} {P:Out → Prop} (hk:SeesK K F.G) (hp:plainCls K C = true) (hx:ownName K C x = true) (hn:Store F n k) (he:EvX prog w F sig om e PE)
  (hr:∀ d om₁,PE d om₁ → Handed d ∧ ∃ as as' om',Ev prog w F sig om₁ o (inst C a dx) ∧ as.length ≤ 1000 ∧ putA x d as = as' ∧ OmUpd om₁ dx (AttO as) (AttO as') om' ∧ Ex prog w F (sig.set k (some d)) om' rest P)
  (hw:swappedStores [.Attribute o x ap,.Name n np] e F.env = pure none) (ha:(assignEach [.Attribute o x ap,.Name n np] F.env).map (·.2) = [assign (.Attribute o x ap) F.env,assign (.Name n np) F.env]):Ex prog w F sig om (.Assign [.Attribute o x ap,.Name n np] e pos :: rest) P :=
 ex_cons (P₁:=fun o=>∃ sig' om',o = .nxt sig' om' ∧ Ex prog w F sig' om' rest P) (exx_two he (fun d om₁ hp'=>by
  obtain ⟨hd,as,as',om',h1,h2,h3,h4,h5⟩:=hr d om₁ hp'
  exact ⟨sig,om',_,om',asx_attr' hk hp hx h1 hd h2 h3 h4,asx_of (as_name ok hn),_,_,rfl,h5⟩) hw ha) fun o ho=>by obtain ⟨sig',om',rfl,h⟩:=ho; exact h
theorem ex_exprX {e:PySem.Expr} {pos:Pos} {PE:AV → Om → Prop} {rest:List Stmt} {P:Out → Prop} (hi:interactive F.env = false) (h:EvX prog w F sig om e PE) (hr:∀ d om',PE d om' → Ex prog w F sig om' rest P)
  (hs:swapsWith e none pos.line F.env = pure false):Ex prog w F sig om (.Expr e pos :: rest) P :=
 ex_cons (exx_expr h hi hs) fun o ho=>by obtain ⟨d,om',hp,rfl⟩:=ho; exact hr d om' hp
theorem ex_assignO (ok:F.Ok) {x:PySem.Str} {p pos:Pos} {e:PySem.Expr} {k:Nat} {PE:AV → Om → Prop} {rest:List Stmt} {P:Out → Prop} (a:Store F x k) (h:EvX prog w F sig om e PE) (hr:∀ d om',PE d om' → Ex prog w F (sig.set k (some d)) om' rest P)
  (hs:swapsWith e (some (.Name x p)) pos.line F.env = pure false):Ex prog w F sig om (.Assign [.Name x p] e pos :: rest) P :=
 ex_cons (exx_assign ok a h hs) fun o ho=>by obtain ⟨d,om',hp,rfl⟩:=ho; exact hr d om' hp
theorem evx_methX {o:PySem.Expr} {name:PySem.Str} {apos pos:Pos} {args:List PySem.Expr} {d₀:AV} {f:Value} {P:AV → Om → Prop} (pl:Sem Bool) (h₁:Ev prog w F sig om o d₀) (hm:Gets prog w F om d₀ name f) (c:Callee prog w F f) (h₂:EvXL prog w F sig om args fun ds om'=>OpX prog w F om' f (d₀ :: ds) P)
  (he:eval (.Call (.Attribute o name apos) args [] pos) F.env = (do
   let ov ← eval o F.env
   standAt apos.atName
   let (f,first) ← holding [ov] (getMethod ov name pl)
   callWith pos f first (backTo pos (starEach args F.env)) []))
  (hp:(backTo pos (starEach args F.env)).any (·.1) = false):EvX prog w F sig om (.Call (.Attribute o name apos) args [] pos) P:=evx_meth h₁ hm c h₂ pl he hp
end
end
section
noncomputable def idxL (b:List Int) (x:Int):List Int:=((List.range b.length).filter fun i=>b[i]? == some x).map fun (i:Nat)=>(i:Int)
theorem idxL_snoc (b:List Int) (y x:Int):idxL (b ++ [y]) x = idxL b x ++ if y = x then [(b.length:Int)] else []:=by
 unfold idxL
 rw [List.length_append,List.length_singleton,List.range_succ,List.filter_append,List.map_append]
 congr 1
 ·congr 1
  apply List.filter_congr
  intro i hi
  rw [List.getElem?_append_left (by simpa using hi)]
 ·rw [List.filter_cons,List.filter_nil]
  by_cases h:y = x
  ·subst h; simp
  ·simp [h]
theorem idxL_len (b:List Int) (x:Int):(idxL b x).length ≤ b.length:=by
 unfold idxL
 rw [List.length_map]
 exact Nat.le_trans (List.length_filter_le _ _) (by simp)
theorem mem_idxL {b:List Int} {x i:Int}:i ∈ idxL b x ↔ 0 ≤ i ∧ b[i.toNat]? = some x:=by
 unfold idxL
 simp only [List.mem_map,List.mem_filter,List.mem_range,beq_iff_eq]
 constructor
 ·rintro ⟨n,⟨h1,h2⟩,rfl⟩
  exact ⟨by lia,by simpa using h2⟩
 ·rintro ⟨h1,h2⟩
  refine ⟨i.toNat,⟨?_,h2⟩,by lia⟩
  exact (List.getElem?_eq_some_iff.mp h2).1
theorem idxL_eq_nil {b:List Int} {x:Int}:idxL b x = [] ↔ x ∉ b:=by
 constructor
 ·intro h hx
  obtain ⟨i,hi,e⟩:=List.getElem_of_mem hx
  have:(i:Int) ∈ idxL b x:=mem_idxL.mpr ⟨by lia,by simp [hi,e]⟩
  rw [h] at this; cases this
 ·intro h
  cases q:idxL b x with
  | nil=>rfl
  | cons i r =>
   have:i ∈ idxL b x:=by rw [q]; exact List.mem_cons_self
   exact absurd (List.mem_of_getElem? (mem_idxL.mp this).2) h
theorem mem_lookupI {y:Int} {a:Addr}:∀ {l:List (Int × Addr)},l.lookup y = some a → (y,a) ∈ l
 | [],h=>by cases h
 | (x,b) :: r,h=>by
  rw [List.lookup_cons] at h
  cases q:y == x with
  | true=>rw [q] at h; cases h; rw [show y = x by simpa using q]; exact List.mem_cons_self
  | false=>rw [q] at h; exact List.mem_cons_of_mem _ (mem_lookupI h)
noncomputable abbrev Cs:=List (Int × Addr)
noncomputable def csOm (cs:Cs) (pre:List Int):Om:=cs.map fun c=>(c.2,LstO ((idxL pre c.1).map .int))
noncomputable def csF (cs:Cs):Int → Option AV:=fun x=>(cs.lookup x).map .ptr
theorem csOm_same {cs:Cs} {pre:List Int} {y:Int} (h:cs.lookup y = none):csOm cs (pre ++ [y]) = csOm cs pre:=by
 induction cs with
 | nil=>rfl
 | cons c cs ih =>
  obtain ⟨x,a⟩:=c
  rw [List.lookup_cons] at h
  have hne:(y == x) = false:=by cases q:y == x with | false=>rfl | true=>rw [q] at h; cases h
  rw [hne] at h
  show (a,LstO ((idxL (pre ++ [y]) x).map .int)) :: csOm cs (pre ++ [y]) = (a,LstO ((idxL pre x).map .int)) :: csOm cs pre
  rw [ih h,idxL_snoc,if_neg (by simpa using hne),List.append_nil]
theorem csOm_upd {cs:Cs} {pre:List Int} {y:Int} {a:Addr} {rest:Om} (hn:(cs.map (·.1)).Nodup) (h:cs.lookup y = some a) :
  OmUpd (csOm cs pre ++ rest) a (LstO ((idxL pre y).map .int)) (LstO ((idxL pre y).map .int ++ [.int pre.length])) (csOm cs (pre ++ [y]) ++ rest):=by
 induction cs with
 | nil=>cases h
 | cons c cs ih =>
  obtain ⟨x,b⟩:=c
  rw [List.map_cons,List.nodup_cons] at hn
  rw [List.lookup_cons] at h
  cases q:y == x with
  | true =>
   rw [q] at h
   cases h
   have:y = x:=by simpa using q
   subst this
   have h2:cs.lookup y = none:=by
    cases e:cs.lookup y with
    | none=>rfl
    | some z =>
     refine absurd ?_ hn.1
     have:=mem_lookupI e
     exact List.mem_map.mpr ⟨_,this,rfl⟩
   show OmUpd ((a,_) :: (csOm cs pre ++ rest)) a _ _ ((a,LstO ((idxL (pre ++ [y]) y).map .int)) :: (csOm cs (pre ++ [y]) ++ rest))
   rw [csOm_same h2,idxL_snoc,if_pos rfl,List.map_append]
   exact .here
  | false =>
   rw [q] at h
   have hne:¬ y = x:=by simpa using q
   show OmUpd ((b,_) :: (csOm cs pre ++ rest)) a _ _ ((b,LstO ((idxL (pre ++ [y]) x).map .int)) :: (csOm cs (pre ++ [y]) ++ rest))
   rw [idxL_snoc pre y x,if_neg hne,List.append_nil]
   exact .there (ih hn.2 h)
section
variable {prog:Program} {w:World} {F:Fn} {R:PH} {sig sig':List (Option AV)} {om om' om₁:Om} {tau:List (Value × AV)} {s:Shared} {K:Frag}
theorem ex_low {sts:List Stmt} {P:Out → Prop} {b:Addr} {o:Obj} (hg:F.G b = some o) (h:b < F.n₀ → Ex prog w F sig om sts P):Ex prog w F sig om sts P:=fun R tau s Q E st hq=>h (st.g b o hg).1 R tau s Q E st hq
noncomputable def csV (cs:Cs) (pre:List Int) (f:Int → Option AV):Int → Option AV:=fun x=>if (cs.lookup x).isSome then some (il (idxL pre x)) else f x
theorem ex_freezeCs (ok:F.Ok) {D:Addr} {pre:List Int} {m:Nat} {rest:Om} {sts:List Stmt} {P:Out → Prop}:∀ (cs:Cs) (f:Int → Option AV),(cs.map (·.1)).Nodup → (∀ x a,cs.lookup x = some a → f x = some (.ptr a)) → (∀ c ∈ cs,F.n₀ ≤ c.2) →
  Ex prog w F sig ((D,DctO (csV cs pre f) m) :: rest) sts P → Ex prog w F sig (csOm cs pre ++ (D,DctO f m) :: rest) sts P
 | [],f,_,_,_,h=>h
 | (x,a) :: cs,f,hn,hf,hl,h=>by
  rw [List.map_cons,List.nodup_cons] at hn
  have hx:cs.lookup x = none:=by
   cases e:cs.lookup x with
   | none=>rfl
   | some z=>exact absurd (List.mem_map.mpr ⟨_,mem_lookupI e,rfl⟩) hn.1
  have hfx:f x = some (.ptr a):=hf x a (by rw [List.lookup_cons]; simp)
  have hc:∀ {o₁:Om},OmCast a (.lst ((idxL pre x).map .int)) (o₁ ++ (D,DctO f m) :: rest) (o₁ ++ (D,DctO (upd f x (.lst ((idxL pre x).map .int))) m) :: rest):=fun {o₁}=>by
   induction o₁ with
   | nil =>
    refine .cons (DctO.weak fun k=>?_) OmCast.refl
    unfold upd
    by_cases q:k = x
    ·subst q; rw [if_pos rfl]; exact .inr ⟨hfx,rfl⟩
    ·rw [if_neg q]; exact .inl rfl
   | cons p o₁ ih=>exact .cons weak_refl ih
  refine ex_cast ok (om₁:=csOm cs pre ++ (D,DctO f m) :: rest) (om':=csOm cs pre ++ (D,DctO (upd f x (.lst ((idxL pre x).map .int))) m) :: rest) (OmDel.here) (hl (x,a) List.mem_cons_self) key_lst SigCast.refl hc ?_
  refine ex_freezeCs ok cs _ hn.2 (fun y b e=>?_) (fun c hc=>hl c (List.mem_cons_of_mem _ hc)) ?_
  ·unfold upd
   have hne:y ≠ x:=fun q=>by subst q; rw [hx] at e; cases e
   rw [if_neg hne]
   refine hf y b ?_
   rw [List.lookup_cons,show (y == x) = false by simpa using hne]; exact e
  ·have:csV cs pre (upd f x (.lst ((idxL pre x).map .int))) = csV ((x,a) :: cs) pre f:=by
    funext y
    unfold csV upd
    rw [List.lookup_cons]
    by_cases q:y = x
    ·subst q; simp [hx]
    ·rw [show (y == x) = false by simpa using q]; simp [q]
   rw [this]; exact h
theorem ex_enum2 (ok:F.Ok) {ts:List PySem.Expr} {kk:Nat} {tp:Pos} {func b:PySem.Expr} {body:List Stmt} {pos cpos:Pos} {d:AV} {xs:List AV} {P:Out → Prop} (hf:Ev prog w F sig om func (.raw fun _ u=>u = .type "enumerate")) (hb:EvL prog w F sig om [b] [d]) (en:Enu prog w F om d xs)
  (Inv:Nat → List (Option AV) → Om → Prop) (h0:∃ sig₀,Sub sig₀ sig ∧ Inv 0 sig₀ om)
  (turn:∀ (i:Nat) (x:AV) sig om,xs[i]? = some x → Inv i sig om → ∃ sig₁,As prog w F om (.Tuple ts kk tp) (tupl [.int i,x]) sig sig₁ ∧ Ex prog w F sig₁ om body fun o=>match o with
   | .nxt sig' om'=>∃ sig₀,Sub sig₀ sig' ∧ Inv (i + 1) sig₀ om'
   | .cnt sig' om'=>∃ sig₀,Sub sig₀ sig' ∧ Inv (i + 1) sig₀ om'
   | .brk sig' om'=>∃ sig₀,Sub sig₀ sig' ∧ P (.nxt sig₀ om')
   | .ret d sig' om'=>P (.ret d sig' om'))
  (done:∀ sig om,Inv xs.length sig om → P (.nxt sig om))
  (hs:∀ x,foldedSetIterable (.Call func [b] [] cpos) F.env x = pure x)
  (hc:eval (.Call func [b] [] cpos) F.env = (do callWith cpos (← eval func F.env) [] (backTo cpos (starEach [b] F.env)) (backToKw cpos (keywordEach [] F.env))))
  (hp:(backTo cpos (starEach [b] F.env)).any (·.1) = false):Ex1 prog w F sig om (.For (.Tuple ts kk tp) (.Call func [b] [] cpos) body [] pos) P:=by
 refine ex1_out (P':=fun o=>match o with | .nxt sig om=>∃ sig₀,Sub sig₀ sig ∧ P (.nxt sig₀ om) | o=>P o) (ex_enum ok hf hb en (fun i sig om=>∃ sig₀,Sub sig₀ sig ∧ Inv i sig₀ om) h0 (fun i x sig om hx hI=>?_) (fun sig om ⟨sig₀,h1,h2⟩=>⟨sig₀,h1,done _ _ h2⟩) hs hc hp) fun o ho=>?_
 ·obtain ⟨sig₀,hs,hI⟩:=hI
  obtain ⟨sig₁,h1,h2⟩:=turn i x sig₀ om hx hI
  refine ⟨sig₁,as_sub hs h1,ex_mono h2 fun o ho=>?_⟩
  cases o <;> exact ho
 ·cases o with
  | nxt sig om=>obtain ⟨sig₀,h1,h2⟩:=ho; exact ⟨.nxt sig₀ om,h2,h1,rfl⟩
  | brk sig om=>exact ⟨_,ho,Sub.refl,rfl⟩
  | cnt sig om=>exact ⟨_,ho,Sub.refl,rfl⟩
  | ret d sig om=>exact ⟨_,ho,rfl,Sub.refl,rfl⟩
end
end
section
noncomputable abbrev N3:=Nat × Nat × Nat
noncomputable def rl (A B:List Int) (ok:Int → Bool) (alo blo bhi:Nat):Nat → Nat → Nat
 | 0,j=>if alo = 0 ∧ blo ≤ j ∧ j < bhi ∧ ∃ x,A[0]? = some x ∧ B[j]? = some x ∧ ok x = true then 1 else 0
 | i + 1,0=>if alo ≤ i + 1 ∧ blo = 0 ∧ 0 < bhi ∧ ∃ x,A[i + 1]? = some x ∧ B[0]? = some x ∧ ok x = true then 1 else 0
 | i + 1,j + 1=>if alo ≤ i + 1 ∧ blo ≤ j + 1 ∧ j + 1 < bhi ∧ ∃ x,A[i + 1]? = some x ∧ B[j + 1]? = some x ∧ ok x = true then rl A B ok alo blo bhi i j + 1 else 0
section
variable {A B:List Int} {ok:Int → Bool} {alo blo bhi:Nat}
noncomputable def hit (A B:List Int) (ok:Int → Bool) (alo blo bhi i j:Nat):Prop:=alo ≤ i ∧ blo ≤ j ∧ j < bhi ∧ ∃ x,A[i]? = some x ∧ B[j]? = some x ∧ ok x = true
theorem rl_zero {i j:Nat} (h:¬ hit A B ok alo blo bhi i j):rl A B ok alo blo bhi i j = 0:=by
 unfold hit at h
 cases i with
 | zero=>unfold rl; rw [if_neg]; rintro ⟨a,b⟩; exact h ⟨by lia,b⟩
 | succ i=>cases j with
  | zero=>unfold rl; rw [if_neg]; rintro ⟨a,b,c⟩; exact h ⟨a,by lia,c⟩
  | succ j=>unfold rl; rw [if_neg]; exact h
noncomputable def rlp (A B:List Int) (ok:Int → Bool) (alo blo bhi:Nat):Nat → Nat → Nat
 | i + 1,j + 1=>rl A B ok alo blo bhi i j
 | _,_=>0
theorem rl_hit {i j:Nat} (h:hit A B ok alo blo bhi i j):rl A B ok alo blo bhi i j = rlp A B ok alo blo bhi i j + 1:=by
 unfold hit at h
 cases i with
 | zero=>unfold rl rlp; rw [if_pos ⟨by lia,h.2⟩]
 | succ i=>cases j with
  | zero=>unfold rl rlp; rw [if_pos ⟨h.1,by lia,h.2.2⟩]
  | succ j=>unfold rl rlp; rw [if_pos h]
theorem rl_pos {i j:Nat}:0 < rl A B ok alo blo bhi i j ↔ hit A B ok alo blo bhi i j:=by
 constructor
 ·intro h; apply Classical.byContradiction; intro q; rw [rl_zero q] at h; lia
 ·intro h; rw [rl_hit h]; lia
theorem rl_le:∀ i j:Nat,rl A B ok alo blo bhi i j ≤ i + 1 - alo ∧ rl A B ok alo blo bhi i j ≤ j + 1 - blo
 | i,j=>by
  by_cases h:hit A B ok alo blo bhi i j
  ·rw [rl_hit h]
   have h1:=h.1
   have h2:=h.2.1
   cases i with
   | zero =>
    have e:rlp A B ok alo blo bhi 0 j = 0:=by cases j <;> rfl
    rw [e]; exact ⟨one_le' h1,one_le' h2⟩
   | succ i=>cases j with
    | zero =>
     have e:rlp A B ok alo blo bhi (i + 1) 0 = 0:=rfl
     rw [e]; exact ⟨one_le' h1,one_le' h2⟩
    | succ j =>
     have:=rl_le i j
     have e:rlp A B ok alo blo bhi (i + 1) (j + 1) = rl A B ok alo blo bhi i j:=rfl
     rw [e]; exact ⟨suc_le' h1 this.1,suc_le' h2 this.2⟩
  ·rw [rl_zero h]; exact ⟨Nat.zero_le _,Nat.zero_le _⟩
noncomputable def jsAt (A:List Int) (idx:Int → List Nat) (blo bhi i:Nat):List Nat:=(idx (A.getD i 0)).filter fun j=>decide (blo ≤ j) && decide (j < bhi)
noncomputable def up1 (A B:List Int) (ok:Int → Bool) (alo blo bhi:Nat) (b:N3) (c:Nat × Nat):N3 :=
 if rl A B ok alo blo bhi c.1 c.2 > b.2.2 then (c.1 + 1 - rl A B ok alo blo bhi c.1 c.2,c.2 + 1 - rl A B ok alo blo bhi c.1 c.2,rl A B ok alo blo bhi c.1 c.2) else b
noncomputable def cands (A:List Int) (idx:Int → List Nat) (alo blo bhi n:Nat):List (Nat × Nat):=(List.range' alo n).flatMap fun i=>(jsAt A idx blo bhi i).map fun j=>(i,j)
theorem cands_succ {idx:Int → List Nat} {n:Nat}:cands A idx alo blo bhi (n + 1) = cands A idx alo blo bhi n ++ (jsAt A idx blo bhi (alo + n)).map fun j=>(alo + n,j):=by
 unfold cands
 rw [List.range'_concat,List.flatMap_append]
 simp
noncomputable def bestOf (A B:List Int) (ok:Int → Bool) (alo blo bhi:Nat) (cs:List (Nat × Nat)):N3:=cs.foldl (up1 A B ok alo blo bhi) (alo,blo,0)
theorem bestOf_snoc {cs:List (Nat × Nat)} {c:Nat × Nat}:bestOf A B ok alo blo bhi (cs ++ [c]) = up1 A B ok alo blo bhi (bestOf A B ok alo blo bhi cs) c:=by
 unfold bestOf; rw [List.foldl_append]; rfl
noncomputable def extD (A B:List Int) (alo blo:Nat):Nat → N3 → N3
 | 0,b=>b
 | f + 1,(i,j,k)=>if alo < i ∧ blo < j ∧ A[i - 1]? = B[j - 1]? then extD A B alo blo f (i - 1,j - 1,k + 1) else (i,j,k)
noncomputable def extU (A B:List Int) (ahi bhi:Nat):Nat → N3 → N3
 | 0,b=>b
 | f + 1,(i,j,k)=>if i + k < ahi ∧ j + k < bhi ∧ A[i + k]? = B[j + k]? then extU A B ahi bhi f (i,j,k + 1) else (i,j,k)
noncomputable def flm (A B:List Int) (ok:Int → Bool) (idx:Int → List Nat) (alo ahi blo bhi:Nat):N3 :=
 let b:=extD A B alo blo A.length (bestOf A B ok alo blo bhi (cands A idx alo blo bhi (ahi - alo)))
 extU A B ahi bhi A.length b
end
noncomputable def natD (p:Nat → Option Nat):Int → Option AV:=fun k=>if 0 ≤ k then (p k.toNat).map (fun (n:Nat)=>AV.int (n:Int)) else none
noncomputable def updN (p:Nat → Option Nat) (j k:Nat):Nat → Option Nat:=fun x=>if x = j then some k else p x
theorem natD_upd {p:Nat → Option Nat} {j k:Nat}:upd (natD p) (j:Int) (.int (k:Int)) = natD (updN p j k):=by
 funext x
 unfold upd natD updN
 by_cases h:x = (j:Int)
 ·subst h; simp
 ·rw [if_neg h]
  by_cases h0:0 ≤ x
  ·rw [if_pos h0,if_pos h0,if_neg (by lia)]
  ·rw [if_neg h0,if_neg h0]
noncomputable def pget (p:Nat → Option Nat):Nat → Nat
 | 0=>0
 | j + 1=>(p j).getD 0
theorem natD_get {p:Nat → Option Nat} {j:Nat}:(natD p ((j:Int) - 1)).getD (.int 0) = .int ((pget p j:Nat):Int):=by
 unfold natD
 cases j with
 | zero=>simp [pget]
 | succ j =>
  rw [if_pos (by lia),show (((j + 1:Nat):Int) - 1).toNat = j by first | rfl | exact Int.toNat_sub _ _ | lia]
  show ((p j).map (fun (n:Nat)=>AV.int (n:Int))).getD (.int 0) = .int (((p j).getD 0:Nat):Int)
  cases p j <;> rfl
theorem natD_none:natD (fun _=>none) = fun _=>none:=by
 funext x; unfold natD; split <;> rfl
noncomputable abbrev nl (l:List Nat):AV:=.lst (l.map fun (n:Nat)=>AV.int (n:Int))
section
variable {prog:Program} {w:World} {F:Fn} {R:PH} {sig sig':List (Option AV)} {om om' om₁:Om} {tau:List (Value × AV)} {s:Shared} {K:Frag}
theorem ex_augX (okF:F.Ok) {x:PySem.Str} {p pos:Pos} {e:PySem.Expr} {k:Nat} {kind:NameKind} {a b:Int} {rest:List Stmt} {P:Out → Prop} (hx:At F x k kind) (hs:sig[k]? = some (some (.int a))) (st:Store F x k) (he:Ev prog w F sig om e (.int b)) (hr:Ex prog w F (sig.set k (some (.int (a + b)))) om rest P) :
  Ex prog w F sig om (.AugAssign (.Name x p) .Add e pos :: rest) P:=by
 refine ex_cons (P₁:=(· = .nxt (sig.set k (some (.int (a + b)))) om)) (fun R tau s Q E x₀ hq=>?_) fun o ho=>by subst ho; exact hr
 refine wpAny_AugAssign_Name ?_
 have ld:∀ {Q:Value → Shared → Prop},(∀ v s',Sta F R sig om ((v,.int a) :: tau) s' → Q v s') → wpAny (model prog w) F.A (loadName F.env x) Q E s:=fun {Q} h=>by
  obtain ⟨m,hm,sl⟩:=x₀.slots
  have:=sl k x kind _ hx.1 hs
  have hk:=hx.2.1
  cases this with
  | loc e r=>exact wpAny_loadName_local okF.kind hk hm e (h _ _ (x₀.push r))
  | cel hc ho hd r _=>exact wpAny_loadName_cell okF.kind hk hc ⟨_,ho,hd⟩ (h _ _ (x₀.push r))
  | fre hc ho hd r _=>exact wpAny_loadName_free okF.kind hk hc ⟨_,ho,hd⟩ (h _ _ (x₀.push r)) hx.2.2.2
 refine ld fun v₁ s₁ x₁=>he R _ s₁ _ _ x₁ fun v₂ s₂ x₂=>?_
 have h1:=x₂.top2; have h2:=x₂.top
 simp only [Rep] at h1 h2
 obtain ⟨t,rfl⟩:=h1; obtain ⟨u,rfl⟩:=h2
 refine wpAny_iadd_int (store_name okF st (tau:=tau) x₂.pop.pop.tok1 rep_int fun s' x'=>hq _ _ _ rfl x')
noncomputable def envS (sc:Scope):Env:={ scope:=sc,locals:=0,globals:=0,cells:=[] }
theorem swS {env:Env} {sc:Scope} (h:env.scope = sc) (ts:List PySem.Expr) (v:PySem.Expr):swappedStores ts v env = swappedStores ts v (envS sc):=by subst h; rfl
theorem ex_swap2 (okF:F.Ok) {x y:PySem.Str} {p q tp pos:Pos} {kk k₁ k₂:Nat} {e:PySem.Expr} {d₁ d₂:AV} {rest:List Stmt} {P:Out → Prop} (s₁:Store F x k₁) (s₂:Store F y k₂) (h:Ev prog w F sig om e (.tup [d₁,d₂]))
  (hs:swapsWithSole [.Tuple [.Name x p,.Name y q] kk tp] e pos.line F.env = pure false) (hw:swappedStores [.Tuple [.Name x p,.Name y q] kk tp] e F.env = pure (some [x,y]))
  (hr:Ex prog w F ((sig.set k₂ (some d₂)).set k₁ (some d₁)) om rest P):Ex prog w F sig om (.Assign [.Tuple [.Name x p,.Name y q] kk tp] e pos :: rest) P :=
 ex_seq (ex_assign_swapped okF (names:=[x,y]) (ds:=[d₁,d₂]) h rfl (.cons s₂ (.cons s₁ .nil)) hs hw) hr
theorem ex_swap3 (okF:F.Ok) {x y z:PySem.Str} {p q r tp pos:Pos} {kk k₁ k₂ k₃:Nat} {e:PySem.Expr} {d₁ d₂ d₃:AV} {rest:List Stmt} {P:Out → Prop} (s₁:Store F x k₁) (s₂:Store F y k₂) (s₃:Store F z k₃) (h:Ev prog w F sig om e (.tup [d₁,d₂,d₃]))
  (hs:swapsWithSole [.Tuple [.Name x p,.Name y q,.Name z r] kk tp] e pos.line F.env = pure false) (hw:swappedStores [.Tuple [.Name x p,.Name y q,.Name z r] kk tp] e F.env = pure (some [x,y,z]))
  (hr:Ex prog w F (((sig.set k₃ (some d₃)).set k₂ (some d₂)).set k₁ (some d₁)) om rest P):Ex prog w F sig om (.Assign [.Tuple [.Name x p,.Name y q,.Name z r] kk tp] e pos :: rest) P :=
 ex_seq (ex_assign_swapped okF (names:=[x,y,z]) (ds:=[d₁,d₂,d₃]) h rfl (.cons s₃ (.cons s₂ (.cons s₁ .nil))) hs hw) hr
theorem ex_breakX {pos:Pos} {rest:List Stmt} {P:Out → Prop} (h:P (.brk sig om)):Ex prog w F sig om (.Break pos :: rest) P:=ex_cons (P₁:=(· = .brk sig om)) (ex_break rfl) fun o ho=>by subst ho; exact h
theorem ex_continueX {pos:Pos} {rest:List Stmt} {P:Out → Prop} (h:P (.cnt sig om)):Ex prog w F sig om (.Continue pos :: rest) P:=ex_cons (P₁:=(· = .cnt sig om)) (ex_continue rfl) fun o ho=>by subst ho; exact h
end
end
section
noncomputable abbrev N4:=Nat × Nat × Nat × Nat
noncomputable abbrev FL:=Nat → Nat → Nat → Nat → N3
structure FlOk (f:FL):Prop where
 inside:∀ alo ahi blo bhi,alo ≤ ahi → blo ≤ bhi → 0 < (f alo ahi blo bhi).2.2 → alo ≤ (f alo ahi blo bhi).1 ∧ (f alo ahi blo bhi).1 + (f alo ahi blo bhi).2.2 ≤ ahi ∧ blo ≤ (f alo ahi blo bhi).2.1 ∧ (f alo ahi blo bhi).2.1 + (f alo ahi blo bhi).2.2 ≤ bhi
noncomputable def mbs (f:FL):Nat → N4 → List N3
 | 0,_=>[]
 | n + 1,(alo,ahi,blo,bhi) =>
  if (f alo ahi blo bhi).2.2 = 0 then [] else
   (if alo < (f alo ahi blo bhi).1 ∧ blo < (f alo ahi blo bhi).2.1 then mbs f n (alo,(f alo ahi blo bhi).1,blo,(f alo ahi blo bhi).2.1) else []) ++ f alo ahi blo bhi ::
   (if (f alo ahi blo bhi).1 + (f alo ahi blo bhi).2.2 < ahi ∧ (f alo ahi blo bhi).2.1 + (f alo ahi blo bhi).2.2 < bhi then mbs f n ((f alo ahi blo bhi).1 + (f alo ahi blo bhi).2.2,ahi,(f alo ahi blo bhi).2.1 + (f alo ahi blo bhi).2.2,bhi) else [])
noncomputable def qOk (q:N4):Prop:=q.1 ≤ q.2.1 ∧ q.2.2.1 ≤ q.2.2.2
theorem mbs_fuel {f:FL} (hf:FlOk f):∀ (n m:Nat) (q:N4),qOk q → q.2.1 - q.1 < n → q.2.1 - q.1 < m → mbs f n q = mbs f m q
 | 0,_,_,_,h,_=>by lia
 | _,0,_,_,_,h=>by lia
 | n + 1,m + 1,(alo,ahi,blo,bhi),hq,h1,h2=>by
  unfold mbs
  by_cases e:(f alo ahi blo bhi).2.2 = 0
  ·rw [if_pos e,if_pos e]
  ·rw [if_neg e,if_neg e]
   obtain ⟨a1,a2,a3,a4⟩:=hf.inside alo ahi blo bhi hq.1 hq.2 (by lia)
   dsimp only at h1 h2
   have q1:qOk (alo,(f alo ahi blo bhi).1,blo,(f alo ahi blo bhi).2.1):=⟨a1,a3⟩
   have q2:qOk ((f alo ahi blo bhi).1 + (f alo ahi blo bhi).2.2,ahi,(f alo ahi blo bhi).2.1 + (f alo ahi blo bhi).2.2,bhi):=⟨a2,a4⟩
   congr 1
   ·split
    ·exact mbs_fuel hf n m _ q1 (by rename_i c; exact meas_lo h1 c.1 e a2) (by rename_i c; exact meas_lo h2 c.1 e a2)
    ·rfl
   ·congr 1
    split
    ·exact mbs_fuel hf n m _ q2 (by rename_i c; exact meas_hi h1 a1 e c.1) (by rename_i c; exact meas_hi h2 a1 e c.1)
    ·rfl
noncomputable def mb (f:FL) (q:N4):List N3:=mbs f (q.2.1 - q.1 + 1) q
theorem mb_zero {f:FL} {alo ahi blo bhi:Nat} (e:(f alo ahi blo bhi).2.2 = 0):mb f (alo,ahi,blo,bhi) = []:=by
 unfold mb mbs; rw [if_pos e]
theorem mb_step {f:FL} (hf:FlOk f) {alo ahi blo bhi:Nat} (hq:qOk (alo,ahi,blo,bhi)) (e:¬ (f alo ahi blo bhi).2.2 = 0):mb f (alo,ahi,blo,bhi) =
  (if alo < (f alo ahi blo bhi).1 ∧ blo < (f alo ahi blo bhi).2.1 then mb f (alo,(f alo ahi blo bhi).1,blo,(f alo ahi blo bhi).2.1) else []) ++ f alo ahi blo bhi ::
   (if (f alo ahi blo bhi).1 + (f alo ahi blo bhi).2.2 < ahi ∧ (f alo ahi blo bhi).2.1 + (f alo ahi blo bhi).2.2 < bhi then mb f ((f alo ahi blo bhi).1 + (f alo ahi blo bhi).2.2,ahi,(f alo ahi blo bhi).2.1 + (f alo ahi blo bhi).2.2,bhi) else []):=by
 have hstep:mb f (alo,ahi,blo,bhi) = mbs f (ahi - alo + 1) (alo,ahi,blo,bhi):=rfl
 rw [hstep]
 unfold mbs
 rw [if_neg e]
 obtain ⟨a1,a2,a3,a4⟩:=hf.inside alo ahi blo bhi hq.1 hq.2 (by lia)
 have q1:qOk (alo,(f alo ahi blo bhi).1,blo,(f alo ahi blo bhi).2.1):=⟨a1,a3⟩
 have q2:qOk ((f alo ahi blo bhi).1 + (f alo ahi blo bhi).2.2,ahi,(f alo ahi blo bhi).2.1 + (f alo ahi blo bhi).2.2,bhi):=⟨a2,a4⟩
 congr 1
 ·split
  ·exact mbs_fuel hf _ _ _ q1 (by rename_i c; exact meas_lo (Nat.lt_succ_self _) c.1 e a2) (Nat.lt_succ_self _)
  ·rfl
 ·congr 1
  split
  ·exact mbs_fuel hf _ _ _ q2 (by rename_i c; exact meas_hi (Nat.lt_succ_self _) a1 e c.1) (Nat.lt_succ_self _)
  ·rfl
theorem mbs_in {f:FL} (hf:FlOk f):∀ (n:Nat) (q:N4),qOk q → (∀ b ∈ mbs f n q,0 < b.2.2 ∧ q.1 ≤ b.1 ∧ b.1 + b.2.2 ≤ q.2.1 ∧ q.2.2.1 ≤ b.2.1 ∧ b.2.1 + b.2.2 ≤ q.2.2.2) ∧ (mbs f n q).Pairwise fun a b=>a.1 + a.2.2 ≤ b.1 ∧ a.2.1 + a.2.2 ≤ b.2.1
 | 0,q,_=>⟨fun b h=>(by cases h),List.Pairwise.nil⟩
 | n + 1,(alo,ahi,blo,bhi),hq=>by
  unfold mbs
  by_cases e:(f alo ahi blo bhi).2.2 = 0
  ·rw [if_pos e]; exact ⟨fun b h=>(by cases h),List.Pairwise.nil⟩
  ·rw [if_neg e]
   obtain ⟨a1,a2,a3,a4⟩:=hf.inside alo ahi blo bhi hq.1 hq.2 (by lia)
   have i1:=mbs_in hf n (alo,(f alo ahi blo bhi).1,blo,(f alo ahi blo bhi).2.1) ⟨a1,a3⟩
   have i2:=mbs_in hf n ((f alo ahi blo bhi).1 + (f alo ahi blo bhi).2.2,ahi,(f alo ahi blo bhi).2.1 + (f alo ahi blo bhi).2.2,bhi) ⟨a2,a4⟩
   dsimp only at i1 i2 ⊢
   have L1:∀ b ∈ (if alo < (f alo ahi blo bhi).1 ∧ blo < (f alo ahi blo bhi).2.1 then mbs f n (alo,(f alo ahi blo bhi).1,blo,(f alo ahi blo bhi).2.1) else []),0 < b.2.2 ∧ alo ≤ b.1 ∧ b.1 + b.2.2 ≤ (f alo ahi blo bhi).1 ∧ blo ≤ b.2.1 ∧ b.2.1 + b.2.2 ≤ (f alo ahi blo bhi).2.1:=fun b h=>by
    split at h
    ·exact i1.1 b h
    ·cases h
   have L2:∀ b ∈ (if (f alo ahi blo bhi).1 + (f alo ahi blo bhi).2.2 < ahi ∧ (f alo ahi blo bhi).2.1 + (f alo ahi blo bhi).2.2 < bhi then mbs f n ((f alo ahi blo bhi).1 + (f alo ahi blo bhi).2.2,ahi,(f alo ahi blo bhi).2.1 + (f alo ahi blo bhi).2.2,bhi) else []),0 < b.2.2 ∧ (f alo ahi blo bhi).1 + (f alo ahi blo bhi).2.2 ≤ b.1 ∧ b.1 + b.2.2 ≤ ahi ∧ (f alo ahi blo bhi).2.1 + (f alo ahi blo bhi).2.2 ≤ b.2.1 ∧ b.2.1 + b.2.2 ≤ bhi:=fun b h=>by
    split at h
    ·exact i2.1 b h
    ·cases h
   refine ⟨fun b h=>?_,?_⟩
   ·rcases List.mem_append.mp h with h | h
    ·have:=L1 b h
     exact ⟨this.1,this.2.1,Nat.le_trans this.2.2.1 (Nat.le_trans (Nat.le_add_right _ _) a2),this.2.2.2.1,Nat.le_trans this.2.2.2.2 (Nat.le_trans (Nat.le_add_right _ _) a4)⟩
    ·rcases List.mem_cons.mp h with rfl | h
     ·exact ⟨Nat.pos_of_ne_zero e,a1,a2,a3,a4⟩
     ·have:=L2 b h
      exact ⟨this.1,Nat.le_trans (Nat.le_trans a1 (Nat.le_add_right _ _)) this.2.1,this.2.2.1,Nat.le_trans (Nat.le_trans a3 (Nat.le_add_right _ _)) this.2.2.2.1,this.2.2.2.2⟩
   ·rw [List.pairwise_append,List.pairwise_cons]
    refine ⟨?_,⟨fun b h=>?_,?_⟩,fun a ha b hb=>?_⟩
    ·split
     ·exact i1.2
     ·exact List.Pairwise.nil
    ·have:=L2 b h
     exact ⟨this.2.1,this.2.2.2.1⟩
    ·split
     ·exact i2.2
     ·exact List.Pairwise.nil
    ·have ha:=L1 a ha
     rcases List.mem_cons.mp hb with rfl | hb
     ·exact ⟨ha.2.2.1,ha.2.2.2.2⟩
     ·have:=L2 b hb
      exact ⟨Nat.le_trans ha.2.2.1 (Nat.le_trans (Nat.le_add_right _ _) this.2.1),Nat.le_trans ha.2.2.2.2 (Nat.le_trans (Nat.le_add_right _ _) this.2.2.2.1)⟩
noncomputable def n3T (n:N3):T3:=((n.1:Int),(n.2.1:Int),(n.2.2:Int))
theorem mb_sorted {f:FL} (hf:FlOk f) {q:N4} (hq:qOk q):((mb f q).map n3T).Pairwise fun a b=>ltT a b = true:=by
 rw [List.pairwise_map]
 obtain ⟨h1,h2⟩:=mbs_in hf (q.2.1 - q.1 + 1) q hq
 refine List.Pairwise.imp_of_mem ?_ h2
 intro a b ha hb hab
 have:=(h1 a ha).1
 unfold ltT n3T
 dsimp only
 rw [if_neg (by simp; lia)]
 simp; lia
noncomputable def mrgStep (s:N3 × List N3) (b:N3):N3 × List N3 :=
 if s.1.1 + s.1.2.2 = b.1 ∧ s.1.2.1 + s.1.2.2 = b.2.1 then ((s.1.1,s.1.2.1,s.1.2.2 + b.2.2),s.2) else (b,if s.1.2.2 = 0 then s.2 else s.2 ++ [s.1])
noncomputable def mrg (l:List N3) (s:N3 × List N3):N3 × List N3:=l.foldl mrgStep s
noncomputable def blocks (f:FL) (la lb:Nat):List N3 :=
 let s:=mrg (mb f (0,la,0,lb)) ((0,0,0),[])
 (if s.1.2.2 = 0 then s.2 else s.2 ++ [s.1]) ++ [(la,lb,0)]
noncomputable abbrev OpN:=PySem.Str × Nat × Nat × Nat × Nat
noncomputable abbrev opN (o:OpN):AV:=.tup [.str o.1,.int (o.2.1:Nat),.int (o.2.2.1:Nat),.int (o.2.2.2.1:Nat),.int (o.2.2.2.2:Nat)]
noncomputable abbrev opsN (l:List OpN):AV:=.lst (l.map opN)
noncomputable def gapTag (i ai j bj:Nat):PySem.Str:=if i < ai ∧ j < bj then "replace" else if i < ai then "delete" else if j < bj then "insert" else ""
noncomputable def opStep (s:(Nat × Nat) × List OpN) (b:N3):(Nat × Nat) × List OpN :=
 let out:=if s.1.1 < b.1 ∨ s.1.2 < b.2.1 then s.2 ++ [(gapTag s.1.1 b.1 s.1.2 b.2.1,s.1.1,b.1,s.1.2,b.2.1)] else s.2
 ((b.1 + b.2.2,b.2.1 + b.2.2),if b.2.2 = 0 then out else out ++ [((("equal" : PySem.Str),b.1,b.1 + b.2.2,b.2.1,b.2.1 + b.2.2):OpN)])
noncomputable def opcodes (f:FL) (la lb:Nat):List OpN:=((blocks f la lb).foldl opStep ((0,0),[])).2
section
variable {prog:Program} {w:World} {F:Fn} {sig:List (Option AV)} {om om':Om}
theorem ex_ifO {t:PySem.Expr} {body orelse rest:List Stmt} {pos:Pos} {b:Bool} {P:Out → Prop} (om':Om) (ht:Tst prog w F sig om t b) (h₁:b = true → Ex prog w F sig om body (· = .nxt sig om')) (h₂:b = false → Ex prog w F sig om orelse (· = .nxt sig om')) (hr:Ex prog w F sig om' rest P):Ex prog w F sig om (.If t body orelse pos :: rest) P :=
 ex_cons (P₁:=(· = .nxt sig om')) (ex_if ht h₁ h₂) fun o ho=>by subst ho; exact hr
end
end
section
noncomputable def idxN (B:List Int) (x:Int):List Nat:=(List.range B.length).filter fun i=>B[i]? == some x
theorem idxL_N (B:List Int) (x:Int):idxL B x = (idxN B x).map fun (n:Nat)=>(n:Int):=rfl
theorem mem_idxN {B:List Int} {x:Int} {j:Nat}:j ∈ idxN B x ↔ B[j]? = some x:=by
 unfold idxN
 simp only [List.mem_filter,List.mem_range,beq_iff_eq]
 constructor
 ·exact fun h=>h.2
 ·exact fun h=>⟨(List.getElem?_eq_some_iff.mp h).1,h⟩
theorem idxN_sorted (B:List Int) (x:Int):(idxN B x).Pairwise (· < ·):=List.Pairwise.filter _ List.pairwise_lt_range
section
variable {A B:List Int} {okx:Int → Bool} {alo ahi blo bhi:Nat}
theorem rl_sound:∀ (i j t:Nat),t < rl A B okx alo blo bhi i j → A[i - t]? = B[j - t]? ∧ t ≤ i ∧ t ≤ j
 | i,j,t,h=>by
  have hh:hit A B okx alo blo bhi i j:=rl_pos.mp (by lia)
  cases t with
  | zero =>
   obtain ⟨_,_,_,x,h1,h2,_⟩:=hh
   exact ⟨by rw [Nat.sub_zero,Nat.sub_zero,h1,h2],by lia,by lia⟩
  | succ t =>
   rw [rl_hit hh] at h
   cases i with
   | zero =>
    have e:rlp A B okx alo blo bhi 0 j = 0:=by cases j <;> rfl
    lia
   | succ i=>cases j with
    | zero =>
     have e:rlp A B okx alo blo bhi (i + 1) 0 = 0:=rfl
     lia
    | succ j =>
     have e:rlp A B okx alo blo bhi (i + 1) (j + 1) = rl A B okx alo blo bhi i j:=rfl
     have:=rl_sound i j t (by lia)
     rw [show i + 1 - (t + 1) = i - t by lia,show j + 1 - (t + 1) = j - t by lia]
     exact ⟨this.1,by lia,by lia⟩
structure Snd (A B:List Int) (alo ahi blo bhi:Nat) (b:N3):Prop where
 a1:alo ≤ b.1
 a2:b.1 + b.2.2 ≤ ahi
 b1:blo ≤ b.2.1
 b2:b.2.1 + b.2.2 ≤ bhi
 eq:∀ t,t < b.2.2 → A[b.1 + t]? = B[b.2.1 + t]?
theorem up1_snd {b:N3} {c:Nat × Nat} (h:Snd A B alo ahi blo bhi b) (hc:c.1 < ahi ∧ c.2 < bhi):Snd A B alo ahi blo bhi (up1 A B okx alo blo bhi b c):=by
 unfold up1
 split
 ·rename_i h1
  have hl:=rl_le (A:=A) (B:=B) (ok:=okx) (alo:=alo) (blo:=blo) (bhi:=bhi) c.1 c.2
  have hs:=rl_sound (A:=A) (B:=B) (okx:=okx) (alo:=alo) (blo:=blo) (bhi:=bhi) c.1 c.2
  generalize rl A B okx alo blo bhi c.1 c.2 = r at h1 hl hs
  have h0:0 < r:=Nat.lt_of_le_of_lt (Nat.zero_le _) h1
  have h2:=hs (r - 1) (Nat.sub_lt h0 Nat.one_pos)
  refine ⟨back_lo h0 hl.1,back_hi hl.1 hc.1,back_lo h0 hl.2,back_hi hl.2 hc.2,fun t ht=>?_⟩
  dsimp only at ht ⊢
  have:=(hs (r - 1 - t) (Nat.lt_of_le_of_lt (Nat.sub_le _ _) (Nat.sub_lt h0 Nat.one_pos))).1
  rw [back_at h2.2.1 ht,back_at h2.2.2 ht] at this
  exact this
 ·exact h
theorem best_snd {cs:List (Nat × Nat)} (h:∀ c ∈ cs,c.1 < ahi ∧ c.2 < bhi) (ha:alo ≤ ahi) (hb:blo ≤ bhi):Snd A B alo ahi blo bhi (bestOf A B okx alo blo bhi cs):=by
 unfold bestOf
 suffices ∀ b:N3,Snd A B alo ahi blo bhi b → Snd A B alo ahi blo bhi (cs.foldl (up1 A B okx alo blo bhi) b) from this _ ⟨Nat.le_refl _,ha,Nat.le_refl _,hb,fun t h=>by cases h⟩
 induction cs with
 | nil=>exact fun b h=>h
 | cons c cs ih=>exact fun b hb=>ih (fun c hc=>h c (List.mem_cons_of_mem _ hc)) _ (up1_snd hb (h c List.mem_cons_self))
theorem best_grow {cs:List (Nat × Nat)} {b:N3}:b.2.2 ≤ (cs.foldl (up1 A B okx alo blo bhi) b).2.2 ∧ ∀ c ∈ cs,rl A B okx alo blo bhi c.1 c.2 ≤ (cs.foldl (up1 A B okx alo blo bhi) b).2.2:=by
 induction cs generalizing b with
 | nil=>exact ⟨Nat.le_refl _,fun c h=>by cases h⟩
 | cons c cs ih =>
  rw [List.foldl_cons]
  obtain ⟨h1,h2⟩:=ih (b:=up1 A B okx alo blo bhi b c)
  have h3:b.2.2 ≤ (up1 A B okx alo blo bhi b c).2.2 ∧ rl A B okx alo blo bhi c.1 c.2 ≤ (up1 A B okx alo blo bhi b c).2.2:=by
   unfold up1; split
   ·exact ⟨by dsimp only; lia,Nat.le_refl _⟩
   ·exact ⟨Nat.le_refl _,by lia⟩
  refine ⟨by lia,fun d hd=>?_⟩
  rcases List.mem_cons.mp hd with rfl | hd
  ·lia
  ·exact h2 d hd
theorem extD_snd:∀ (f:Nat) (b:N3),Snd A B alo ahi blo bhi b → Snd A B alo ahi blo bhi (extD A B alo blo f b) ∧ b.2.2 ≤ (extD A B alo blo f b).2.2
 | 0,b,h=>⟨h,Nat.le_refl _⟩
 | f + 1,(i,j,k),h=>by
  unfold extD
  split
  ·rename_i c
   obtain ⟨c1,c2,c3⟩:=c
   obtain ⟨a1,a2,b1,b2,e⟩:=h
   dsimp only at a1 a2 b1 b2 e
   obtain ⟨h1,h2⟩:=extD_snd f (i - 1,j - 1,k + 1) ⟨by dsimp only; lia,by dsimp only; lia,by dsimp only; lia,by dsimp only; lia,fun t ht=>by
    dsimp only at ht ⊢
    cases t with
    | zero=>rw [Nat.add_zero,Nat.add_zero]; exact c3
    | succ t =>
     rw [show i - 1 + (t + 1) = i + t by lia,show j - 1 + (t + 1) = j + t by lia]
     exact e t (by lia)⟩
   exact ⟨h1,by dsimp only at h2 ⊢; lia⟩
  ·exact ⟨h,Nat.le_refl _⟩
theorem extU_snd:∀ (f:Nat) (b:N3),Snd A B alo ahi blo bhi b → Snd A B alo ahi blo bhi (extU A B ahi bhi f b) ∧ b.2.2 ≤ (extU A B ahi bhi f b).2.2
 | 0,b,h=>⟨h,Nat.le_refl _⟩
 | f + 1,(i,j,k),h=>by
  unfold extU
  split
  ·rename_i c
   obtain ⟨c1,c2,c3⟩:=c
   obtain ⟨a1,a2,b1,b2,e⟩:=h
   dsimp only at a1 a2 b1 b2 e
   obtain ⟨h1,h2⟩:=extU_snd f (i,j,k + 1) ⟨by dsimp only; lia,by dsimp only; lia,by dsimp only; lia,by dsimp only; lia,fun t ht=>by
    dsimp only at ht ⊢
    by_cases q:t = k
    ·subst q; exact c3
    ·exact e t (by lia)⟩
   exact ⟨h1,by dsimp only at h2 ⊢; lia⟩
  ·exact ⟨h,Nat.le_refl _⟩
theorem flm_snd {idx:Int → List Nat} (ha:alo ≤ ahi) (hb:blo ≤ bhi):Snd A B alo ahi blo bhi (flm A B okx idx alo ahi blo bhi) ∧ (bestOf A B okx alo blo bhi (cands A idx alo blo bhi (ahi - alo))).2.2 ≤ (flm A B okx idx alo ahi blo bhi).2.2:=by
 unfold flm
 have h0:Snd A B alo ahi blo bhi (bestOf A B okx alo blo bhi (cands A idx alo blo bhi (ahi - alo))):=best_snd (fun c hc=>by
  unfold cands at hc
  rw [List.mem_flatMap] at hc
  obtain ⟨i,h1,h2⟩:=hc
  rw [List.mem_map] at h2
  obtain ⟨j,h3,rfl⟩:=h2
  unfold jsAt at h3
  rw [List.mem_filter] at h3
  rw [List.mem_range'_1] at h1
  simp only [Bool.and_eq_true,decide_eq_true_eq] at h3
  exact ⟨by dsimp only; lia,h3.2.2⟩) ha hb
 obtain ⟨h1,h2⟩:=extD_snd A.length _ h0
 obtain ⟨h3,h4⟩:=extU_snd A.length _ h1
 exact ⟨h3,Nat.le_trans h2 h4⟩
end
end
section
noncomputable def freesOf (names:List (PySem.Str × NameKind)):List PySem.Str:=(names.filter fun y=>y.2 == .free).map (·.1)
theorem closure_run {sc:Scope} {env:Env} (g:PySem.Str → Addr) (h:∀ x ∈ freesOf sc.names,env.cells.lookup x = some (g x)):closureFor sc env = pure ((freesOf sc.names).reverse.map fun x=>(x,g x)):=by
 unfold closureFor
 suffices ∀ (names:List (PySem.Str × NameKind)) (acc:List (PySem.Str × Addr)),(∀ x ∈ freesOf names,env.cells.lookup x = some (g x)) →
   (forIn names acc fun (y:PySem.Str × NameKind) (cs:List (PySem.Str × Addr))=>(if (y.2 == NameKind.free) = true then (do let c ← cellOf env y.1; pure (ForInStep.yield ((y.1,c) :: cs))) else pure (ForInStep.yield cs):Sem (ForInStep (List (PySem.Str × Addr))))) = pure ((freesOf names).reverse.map (fun x=>(x,g x)) ++ acc) by
  have:=this sc.names [] h
  rw [List.append_nil] at this
  exact (congrArg (fun t=>t >>= fun cs=>pure cs) this).trans rfl
 intro names
 induction names with
 | nil=>intro acc _; rfl
 | cons y names ih =>
  intro acc h
  rw [List.forIn_cons]
  obtain ⟨n,k⟩:=y
  by_cases hk:(k == NameKind.free) = true
  ·have hf:freesOf ((n,k) :: names) = n :: freesOf names:=by unfold freesOf; rw [List.filter_cons_of_pos (by simpa using hk)]; rfl
   rw [hf] at h ⊢
   have hc:cellOf env n = pure (g n):=by unfold cellOf; rw [h n List.mem_cons_self]
   have:=ih ((n,g n) :: acc) fun x hx=>h x (List.mem_cons_of_mem _ hx)
   simp only [hk,if_true,hc]
   refine Eq.trans ?_ (this.trans ?_)
   ·rfl
   ·simp
  ·have hf:freesOf ((n,k) :: names) = freesOf names:=by unfold freesOf; rw [List.filter_cons_of_neg (by simpa using hk)]
   rw [hf] at h ⊢
   have:=ih acc h
   simp only [hk]
   exact this
structure CapE where
 j:Nat
 k:Nat
 x:PySem.Str
 d:AV
theorem cap_of {F:Fn} {sig:List (Option AV)} {scope:Scope} {cl:List (PySem.Str × Addr)} {cap:List (Option AV)} (es:List CapE) (h1:∀ j d,cap[j]? = some (some d) → ∃ e ∈ es,e.j = j ∧ e.d = d)
  (h2:∀ e ∈ es,scope.names[e.j]? = some (e.x,.free) ∧ (F.names[e.k]? = some (e.x,.cell) ∨ F.names[e.k]? = some (e.x,.free)) ∧ sig[e.k]? = some (some e.d) ∧ cl.lookup e.x = F.env.cells.lookup e.x):CapOk F sig scope cl cap:=by
 intro j x kind d hj hc
 obtain ⟨e,he,rfl,rfl⟩:=h1 j d hc
 obtain ⟨g1,g2,g3,g4⟩:=h2 e he
 have hx:x = e.x ∧ (kind = .cell ∨ kind = .free):=by
  unfold relabel at hj
  simp only [List.getElem?_map,g1,Option.map_some] at hj
  split at hj
  ·cases hj; exact ⟨rfl,.inl rfl⟩
  ·cases hj; exact ⟨rfl,.inr rfl⟩
 obtain ⟨rfl,hk⟩:=hx
 refine ⟨hk,?_⟩
 rcases g2 with g2 | g2
 ·exact ⟨e.k,.cell,g2,.inl rfl,g3,g4⟩
 ·exact ⟨e.k,.free,g2,.inr rfl,g3,g4⟩
section
variable {prog:Program} {w:World} {F:Fn} {sig:List (Option AV)} {om:Om} {scope:Scope} {cl:List (PySem.Str × Addr)} {V:PH} {n C:Addr}
theorem cnm_loc (ok:(compFn F scope cl V n C).Ok) {x:PySem.Str} {pos:Pos} (k:Nat) {d:AV} (e:scope.names[k]? = some (x,.local)) (hd:((x == ("__debug__" : PySem.Str)) || (x == ("__classdict__" : PySem.Str))) = false) (hs:sig[k]? = some (some d)):Ev prog w (compFn F scope cl V n C) sig om (.Name x pos) d :=
 ev_nm ok k (relabel_at e) hd hs
theorem cnm_fre (ok:(compFn F scope cl V n C).Ok) {x:PySem.Str} {pos:Pos} (k:Nat) {d:AV} (e:scope.names[k]? = some (x,.free)) (hd:((x == ("__debug__" : PySem.Str)) || (x == ("__classdict__" : PySem.Str))) = false) (hs:sig[k]? = some (some d)):Ev prog w (compFn F scope cl V n C) sig om (.Name x pos) d:=by
 have:∃ kind,(compFn F scope cl V n C).names[k]? = some (x,kind):=by
  show ∃ kind,(relabel scope F.env).names[k]? = _
  unfold relabel
  simp only [List.getElem?_map,e,Option.map_some]
  split
  ·exact ⟨_,rfl⟩
  ·exact ⟨_,rfl⟩
 obtain ⟨kind,hk⟩:=this
 exact ev_nm ok k hk hd hs
theorem swW {env:Env} {sc:Scope} (h:env.scope = sc) (v:PySem.Expr) (t:Option PySem.Expr) (l:Nat):swapsWith v t l env = swapsWith v t l (envS sc):=by subst h; rfl
end
section
variable {prog:Program} {w:World} {F:Fn} {sig:List (Option AV)} {om:Om}
end
end
section
section
variable {prog:Program} {w:World} {F:Fn} {R:PH} {sig sig':List (Option AV)} {om om' om₁:Om} {tau:List (Value × AV)} {s:Shared}
theorem ex_weakO {a:Addr} {P P':PH → Obj → Prop} {sts:List Stmt} {Q:Out → Prop} (u:OmUpd om a P P' om') (h:∀ V o,P V o → P' V o) (e:Ex prog w F sig om' sts Q):Ex prog w F sig om sts Q:=fun R tau s Q' E st hq=>by
 obtain ⟨o,ho,hP⟩:=st.opens _ u.mem
 exact e R tau s Q' E (st.upd u (tk:=s.toks) (h':=s.heap) (Heap.SameBut.refl _ _) ho fun V' hV=>h V' o (hP V' hV)) hq
theorem ex_items2 (ok:F.Ok) {ts:List PySem.Expr} {kk:Nat} {tp apos cpos pos:Pos} {o:PySem.Expr} {body:List Stmt} {D:Addr} {f:Int → Option AV} {m:Nat} {l:List Int} {P:Out → Prop} (pl:Sem Bool) (ho:Ev prog w F sig om o (.ptr D)) (hDs:(D == sysModules) = false) (hmem:(D,DctO f m) ∈ om) (hl:l.Nodup) (hlm:m ≤ l.length) (hf:∀ k,k ∈ l → ∃ d,f k = some d)
  (turns:∀ (ks:List Int) (oD:Obj),ks.Perm l → ∃ (Inv:Nat → List (Option AV) → Om → Prop) (om₁:Om),OmUpd om D (DctO f m) (PinO oD (DctO f m)) om₁ ∧ (∃ sig₀,Sub sig₀ sig ∧ Inv 0 sig₀ om₁) ∧ (∀ i sig om,Inv i sig om → (D,PinO oD (DctO f m)) ∈ om) ∧
   (∀ (i:Nat) (k:Int) (d:AV) sig om,ks[i]? = some k → f k = some d → Inv i sig om → ∃ sig₁,As prog w F om (.Tuple ts kk tp) (tupl [.int k,d]) sig sig₁ ∧ Ex prog w F sig₁ om body fun o=>match o with
    | .nxt sig' om'=>∃ sig₀,Sub sig₀ sig' ∧ Inv (i + 1) sig₀ om'
    | .cnt sig' om'=>∃ sig₀,Sub sig₀ sig' ∧ Inv (i + 1) sig₀ om'
    | .brk sig' om'=>∃ sig₀,Sub sig₀ sig' ∧ P (.nxt sig₀ om')
    | .ret d sig' om'=>P (.ret d sig' om')) ∧ ∀ sig om,Inv ks.length sig om → P (.nxt sig om))
  (hc:eval (.Call (.Attribute o "items" apos) [] [] cpos) F.env = (do
   let ov ← eval o F.env
   standAt apos.atName
   let (f,first) ← holding [ov] (getMethod ov "items" pl)
   callWith cpos f first (backTo cpos (starEach [] F.env)) []))
  (hs:∀ x,foldedSetIterable (.Call (.Attribute o "items" apos) [] [] cpos) F.env x = pure x) :
  Ex1 prog w F sig om (.For (.Tuple ts kk tp) (.Call (.Attribute o "items" apos) [] [] cpos) body [] pos) P:=by
 refine ex1_out (P':=fun o=>match o with | .nxt sig om=>∃ sig₀,Sub sig₀ sig ∧ P (.nxt sig₀ om) | o=>P o) (ex_items ok pl ho hDs hmem hl hlm hf (fun ks oD hp=>?_) hc hs) fun o ho=>?_
 ·obtain ⟨Inv,om₁,u,h0,hin,turn,done⟩:=turns ks oD hp
  refine ⟨fun i sig om=>∃ sig₀,Sub sig₀ sig ∧ Inv i sig₀ om,om₁,u,h0,fun i sig om ⟨s0,_,h⟩=>hin i s0 om h,fun i k d sig om h1 h2 ⟨s0,hs,hI⟩=>?_,fun sig om ⟨s0,h1,h2⟩=>⟨s0,h1,done _ _ h2⟩⟩
  obtain ⟨sig₁,q1,q2⟩:=turn i k d s0 om h1 h2 hI
  refine ⟨sig₁,as_sub hs q1,ex_mono q2 fun o ho=>?_⟩
  cases o <;> exact ho
 ·cases o with
  | nxt sig om=>obtain ⟨sig₀,h1,h2⟩:=ho; exact ⟨.nxt sig₀ om,h2,h1,rfl⟩
  | brk sig om=>exact ⟨_,ho,Sub.refl,rfl⟩
  | cnt sig om=>exact ⟨_,ho,Sub.refl,rfl⟩
  | ret d sig om=>exact ⟨_,ho,rfl,Sub.refl,rfl⟩
end
end
section
section
variable {prog:Program} {w:World} {F:Fn} {R:PH} {sig sig' sig₀:List (Option AV)} {om om':Om} {tau:List (Value × AV)} {s:Shared}
end
section
variable {prog:Program} {w:World} {F:Fn} {sig:List (Option AV)} {om:Om}
theorem ev_compB {elt iter target:PySem.Expr} {ifs:List PySem.Expr} {gs:List Comprehension} {scope:Scope} {pos:Pos} {cl:List (PySem.Str × Addr)} {res:List AV} (c:CompOk F scope cl) (h:CompOk F scope cl → Comp prog w F sig om elt iter (⟨target,iter,ifs,0⟩ :: gs) scope pos cl res)
  (hs:∀ x,foldedSetIterable iter F.env x = pure x:=by intro _; rfl):Ev prog w F sig om (.ListComp elt (⟨target,iter,ifs,0⟩ :: gs) scope pos) (.lst res):=ev_comp c (h c) hs
theorem ex_assign_compB (ok:F.Ok) {x:PySem.Str} {p spos:Pos} {k:Nat} {elt iter target:PySem.Expr} {ifs:List PySem.Expr} {gs:List Comprehension} {scope:Scope} {pos:Pos} {cl:List (PySem.Str × Addr)} {res:List AV} (c:CompOk F scope cl) (a:Store F x k)
  (h:CompOk F scope cl → Comp prog w F sig om elt iter (⟨target,iter,ifs,0⟩ :: gs) scope pos cl res)
  (hsw:swapsWith (.ListComp elt (⟨target,iter,ifs,0⟩ :: gs) scope pos) (some (.Name x p)) spos.line F.env = pure true)
  (hs:∀ x,foldedSetIterable iter F.env x = pure x:=by intro _; rfl):Ex1 prog w F sig om (.Assign [.Name x p] (.ListComp elt (⟨target,iter,ifs,0⟩ :: gs) scope pos) spos) (· = .nxt (sig.set k (some (.lst res))) om):=ex_assign_comp ok c a (h c) hsw hs
end
noncomputable def CapIn (L:List CapE):Nat → List (Option AV) → Prop
 | _,[]=>True
 | j,none :: r=>CapIn L (j + 1) r
 | j,some d :: r=>(∃ e ∈ L,e.j = j ∧ e.d = d) ∧ CapIn L (j + 1) r
theorem capO_at {L:List CapE}:∀ {cap:List (Option AV)} {b:Nat},CapIn L b cap → ∀ j d,cap[j]? = some (some d) → ∃ e ∈ L,e.j = b + j ∧ e.d = d
 | [],b,_,j,d,h=>by cases h
 | none :: r,b,q,0,d,h=>by cases h
 | none :: r,b,q,j + 1,d,h=>by
  have:=capO_at (b:=b + 1) (show CapIn L (b + 1) r from q) j d h
  rwa [Nat.add_right_comm] at this
 | some e :: r,b,q,0,d,h=>by cases h; exact q.1
 | some e :: r,b,q,j + 1,d,h=>by
  have:=capO_at (b:=b + 1) (show CapIn L (b + 1) r from q.2) j d h
  rwa [Nat.add_right_comm] at this
theorem capO_of {L:List CapE} {cap:List (Option AV)} (q:CapIn L 0 cap):∀ j d,cap[j]? = some (some d) → ∃ e ∈ L,e.j = j ∧ e.d = d:=fun j d h=>by
 have:=capO_at q j d h
 rwa [Nat.zero_add] at this
theorem rngL_len {a b:Int}:(rngL a b).length = (b - a).toNat:=by unfold rngL; rw [List.length_map,List.length_range]
theorem rngL_nat {a b:Nat}:(rngL (a:Int) (b:Int)).length = b - a:=rngL_len.trans (Int.toNat_sub b a)
theorem rngL_zero {b:Nat}:(rngL 0 (b:Int)).length = b:=rngL_len.trans (by rw [Int.sub_zero]; exact Int.toNat_natCast b)
theorem neg1_nat (n:Nat):((-1:Int) + (n:Nat)).toNat = n - 1:=by rw [Int.add_comm]; exact Int.toNat_sub n 1
theorem le_line {a b:Nat} (h1:a ≤ 1000) (h2:b ≤ 1000):a + b ≤ sizeLine:=Nat.le_trans (Nat.add_le_add h1 h2) (by decide)
theorem le_line1 {a:Nat} (h1:a ≤ 1000):a ≤ sizeLine:=Nat.le_trans h1 (by decide)
theorem lt_62 {a:Nat} (h1:a ≤ 1000):a < 2 ^ 62:=Nat.lt_of_le_of_lt h1 (by decide)
theorem lt_63 {a:Nat} (h1:a ≤ 1000):(a:Int) < 2 ^ 63:=by omega
theorem nat0 {a:Nat}:(0:Int) ≤ (a:Nat):=Int.natCast_nonneg a
theorem rng_lo {a:Nat}:-(2 ^ 62) ≤ (a:Int):=by omega
theorem rng_hi {a:Nat} (h:a ≤ 1000):(a:Int) < 2 ^ 62:=by omega
section
variable {prog:Program} {w:World} {F:Fn} {om:Om}
theorem itr_rngN (ok:F.Ok) {a b:Nat} (ha:a ≤ 1000) (hb:b ≤ 1000):Itr prog w F om (.rng (a:Int) (b:Int)) (rngL (a:Int) (b:Int)):=itr_rng ok rng_lo (rng_hi ha) rng_lo (rng_hi hb)
theorem itr_rng0 (ok:F.Ok) {b:Nat} (hb:b ≤ 1000):Itr prog w F om (.rng 0 (b:Int)) (rngL 0 (b:Int)):=itr_rng ok (by decide) (by decide) rng_lo (rng_hi hb)
theorem itr_rng1 (ok:F.Ok) {b:Nat} (hb:b ≤ 1000):Itr prog w F om (.rng 1 (b:Int)) (rngL 1 (b:Int)):=itr_rng ok (by decide) (by decide) rng_lo (rng_hi hb)
end
theorem nat_p1 {g:Nat}:((g:Int) + 1).toNat = g + 1:=Int.toNat_natCast (g + 1)
theorem nat_b {g:Nat} (h:g ≤ 1000):(0:Int) ≤ (g:Int) + 1 ∧ (0:Int) ≤ (g:Int) + 2 ∧ (g:Int) < 2 ^ 63 ∧ (g:Int) + 1 < 2 ^ 63 ∧ (g:Int) + 2 < 2 ^ 63:=by omega
theorem rng0_lt {i b:Nat} (h:i < ((b:Int) - 0).toNat):i < b:=by rwa [Int.sub_zero,Int.toNat_natCast] at h
theorem rng1_lt {i b:Nat} (h:i < ((b:Int) - 1).toNat):i + 1 < b:=by rw [show ((b:Int) - 1).toNat = b - 1 from Int.toNat_sub b 1] at h; exact Nat.add_lt_of_lt_sub h
theorem le_lineS {a b:Nat} (h:a ≤ 1000):a - b ≤ sizeLine:=le_line1 (Nat.le_trans (Nat.sub_le _ _) h)
end
section
structure RdS where
 told:List Int
 gone:List Int
 last:PySem.Str
 i:Nat
 j:Nat
noncomputable def sliceN (l:List Int) (a b:Nat):List Int:=(l.take b).drop a
noncomputable def Rd (old new notes:List Int) (now:Int) (s0:RdS) (c:OpN) (s1:RdS):Prop :=
 (c.2.1 = s0.i ∧ c.2.2.2.1 = s0.j) ∧
 ((c.1 = "equal" ∧ c.2.1 < c.2.2.1 ∧ c.2.2.2.1 < c.2.2.2.2 ∧ sliceN old c.2.1 c.2.2.1 = sliceN new c.2.2.2.1 c.2.2.2.2 ∧ s0.last ≠ "equal" ∧ s1 = ⟨s0.told ++ sliceN notes c.2.1 c.2.2.1,s0.gone, "equal",c.2.2.1,c.2.2.2.2⟩) ∨
  (((c.1 = "replace" ∧ c.2.1 < c.2.2.1 ∧ c.2.2.2.1 < c.2.2.2.2) ∨ (c.1 = "delete" ∧ c.2.1 < c.2.2.1 ∧ ¬ c.2.2.2.1 < c.2.2.2.2) ∨ (c.1 = "insert" ∧ ¬ c.2.1 < c.2.2.1 ∧ c.2.2.2.1 < c.2.2.2.2)) ∧ (s0.last = "" ∨ s0.last = "equal") ∧
   s1 = ⟨s0.told ++ List.replicate (c.2.2.2.2 - c.2.2.2.1) now,s0.gone ++ (List.range' c.2.1 (c.2.2.1 - c.2.1)).map (fun (n:Nat)=>(n:Int)),c.1,c.2.2.1,c.2.2.2.2⟩))
section
variable {old new notes:List Int} {now:Int} {told gone:List Int} {last tag:PySem.Str} {i1 i2 j1 j2:Nat}
theorem Rd.eq (h1:i1 < i2) (h2:j1 < j2) (h3:sliceN old i1 i2 = sliceN new j1 j2) (h4:last ≠ "equal"):Rd old new notes now ⟨told,gone,last,i1,j1⟩ ("equal",i1,i2,j1,j2) ⟨told ++ sliceN notes i1 i2,gone, "equal",i2,j2⟩:=⟨⟨rfl,rfl⟩,.inl ⟨rfl,h1,h2,h3,h4,rfl⟩⟩
theorem Rd.change (h1:(tag = "replace" ∧ i1 < i2 ∧ j1 < j2) ∨ (tag = "delete" ∧ i1 < i2 ∧ ¬ j1 < j2) ∨ (tag = "insert" ∧ ¬ i1 < i2 ∧ j1 < j2)) (h2:last = "" ∨ last = "equal") :
  Rd old new notes now ⟨told,gone,last,i1,j1⟩ (tag,i1,i2,j1,j2) ⟨told ++ List.replicate (j2 - j1) now,gone ++ (List.range' i1 (i2 - i1)).map (fun (n:Nat)=>(n:Int)),tag,i2,j2⟩:=⟨⟨rfl,rfl⟩,.inr ⟨h1,h2,rfl⟩⟩
end
noncomputable def rdWord (i1 i2 j1 j2:Nat):PySem.Str:=if i1 < i2 then (if j1 < j2 then "replace" else "delete") else (if j1 < j2 then "insert" else "nothing")
theorem side2 {a b:AV}:[a,b].length ≤ sizeLine:=show 2 ≤ sizeLine by decide
theorem str_ne {a b:PySem.Str} (h:a ≠ b):(a.cps.toList == b.cps.toList) = false:=by
 rw [beq_eq_false_iff_ne]
 intro e
 apply h
 cases a; cases b
 exact congrArg PySem.Str.mk (Array.toList_inj.mp e)
theorem change_ne {tag:PySem.Str} {p q r:Prop} (h1:(tag = "replace" ∧ p) ∨ (tag = "delete" ∧ q) ∨ (tag = "insert" ∧ r)):tag ≠ "equal" := by
 rcases h1 with ⟨e,_⟩ | ⟨e,_⟩ | ⟨e,_⟩ <;> rw [e] <;> decide
theorem Rd.t1 {old new notes:List Int} {now:Int} {s0 s1:RdS} {tag:PySem.Str} {i1 i2 j1 j2:Nat} (h:Rd old new notes now s0 (tag,i1,i2,j1,j2) s1) :
  ((!(((i1:Int) == (s0.i:Int)) && (((j1:Int) == (s0.j:Int)) && true))) || (((s0.last.cps.toList != ("" : PySem.Str).cps.toList) && (((tag.cps.toList == ("equal" : PySem.Str).cps.toList) == (s0.last.cps.toList == ("equal" : PySem.Str).cps.toList)) && true)) || false)) = false:=by
 obtain ⟨⟨hi,hj⟩,h⟩:=h
 dsimp only at hi hj h
 rw [hi,hj,beq_self_eq_true,beq_self_eq_true]
 rcases h with ⟨ht,h⟩ | ⟨h1,h2,_⟩
 ·rw [ht,beq_self_eq_true,str_ne h.2.2.2.1]
  cases (s0.last.cps.toList != ("" : PySem.Str).cps.toList) <;> rfl
 ·rcases h2 with e | e
  ·rw [e,bne_self_eq_false]; rfl
  ·rw [e,str_ne (change_ne h1),beq_self_eq_true]; rfl
noncomputable def rd0:RdS:=⟨[],[], "",0,0⟩
end
section
theorem repl_intsAre {V:PH}:∀ {l:List Int} {vs:List Value},RepL V (l.map .int) vs → IntsAre vs l
 | [],vs,h=>by
  unfold RepL at h; simp only [List.map_nil] at h; subst h; exact .nil
 | a :: l,vs,h=>by
  rw [List.map_cons] at h
  unfold RepL at h
  obtain ⟨v,vs',rfl,h1,h2⟩:=h
  simp only [Rep] at h1
  obtain ⟨t,rfl⟩:=h1
  exact .cons _ _ (repl_intsAre h2)
theorem c_sum {prog:Program} {w:World} {F:Fn} {om:Om} {l:List Int} (ok:F.Ok):OpC prog w F om (.builtin "sum") [il l] (.int l.sum):=fun R sig tau vs s Q E hv st h=>by
 obtain ⟨v,rfl,st⟩:=one_of hv st
 have h1:=st.top
 simp only [Rep] at h1
 obtain ⟨a,vs,n,rfl,o,r⟩:=h1
 have hi:IntsAre vs.toList l:=repl_intsAre r
 have hl:s.heap.IsList a vs:=⟨_,st.vget o,rfl,n,rfl⟩
 have e:=hi.numsOf
 obtain ⟨xs,hx⟩:=hi.allInts.items
 rw [Array.toArray_toList] at hx
 subst hx
 refine sum_intListG ok.handled hl fun h' tk t' hk=>?_
 rw [preSum_eq,List.take_of_length_le (by simp),← nums_intItems,e]
 exact h _ _ ((st.pop.grow hk).push rep_int)
end
section
section
variable {prog:Program} {w:World} {F:Fn} {R:PH} {sig sig':List (Option AV)} {om om':Om} {tau:List (Value × AV)} {s:Shared}
theorem tst_chain2 {l m r:PySem.Expr} {op₁ op₂:CmpOp} {pos:Pos} {d₁ d₂ d₃:AV} {b₁ b₂:Bool} (h₁:Ev prog w F sig om l d₁) (h₂:Ev prog w F sig om m d₂) (h₃:Ev prog w F sig om r d₃) (o₁:Op2 prog w F om (compareOp op₁) d₁ d₂ (.bool b₁)) (o₂:Op2 prog w F om (compareOp op₂) d₂ d₃ (.bool b₂))
  (hm:lastMarks [op₁,op₂] [m,r] = false):Tst prog w F sig om (.Compare l [op₁,op₂] [m,r] pos) (b₁ && b₂):=fun R tau s Q E st hq=>by
 refine isTrue_chain (h₁ R tau s _ _ st fun v₁ s₁ st₁=>test_link (h₂ R _ s₁ _ _ st₁ fun v₂ s₂ st₂=>?_)) hm
 have r1:=st₂.top2
 have r2:=st₂.top
 have st₂':Sta F R sig om ((v₂,d₂) :: (v₁,d₁) :: (v₂,d₂) :: tau) s₂:=st₂.temp fun p hp=>by
  rcases List.mem_cons.mp hp with rfl | hp
  ·exact r2
  ·rcases List.mem_cons.mp hp with rfl | hp
   ·exact r1
   ·rcases List.mem_cons.mp hp with rfl | hp
    ·exact r2
    ·exact st₂.temps p (List.mem_cons_of_mem _ (List.mem_cons_of_mem _ hp))
 refine o₁ R sig _ _ _ _ _ _ st₂' fun c s₃ st₃=>?_
 have rc:=st₃.top
 simp only [Rep] at rc
 subst rc
 refine wpAny_truthy_bool ?_
 cases b₁ with
 | false=>exact hq s₃ st₃.pop.pop
 | true =>
  refine test_last (h₃ R _ s₃ _ _ st₃.pop fun v₃ s₄ st₄=>o₂ R sig tau _ _ _ _ _ st₄ fun c' s₅ st₅=>?_)
  have rc:=st₅.top
  simp only [Rep] at rc
  subst rc
  exact wpAny_truthy_bool (hq s₅ st₅.pop)
end
end
section
section
variable {A B:List Int} {alo ahi blo bhi:Nat}
structure Run (A B:List Int) (alo ahi blo bhi i j k:Nat):Prop where
 a1:alo ≤ i
 a2:i + k ≤ ahi
 b1:blo ≤ j
 b2:j + k ≤ bhi
 eq:∀ t,t < k → ∃ x,A[i + t]? = some x ∧ B[j + t]? = some x
noncomputable def lexL (a b:Nat × Nat):Prop:=a.1 < b.1 ∨ (a.1 = b.1 ∧ a.2 < b.2)
end
end
section
section
variable {A B:List Int} {alo ahi blo bhi P Q:Nat}
theorem two_gap {R T la lb:Nat} (s1:R + T ≤ la) (s2:R + T ≤ lb) (hn:¬ (R + T = la ∧ R + T = lb)):R < la - T ∨ R < lb - T:=by
 rcases Nat.lt_or_eq_of_le (Nat.le_sub_of_add_le s1) with l | e
 ·exact .inl l
 ·rcases Nat.lt_or_eq_of_le (Nat.le_sub_of_add_le s2) with l | e'
  ·exact .inr l
  ·exact (hn ⟨by rw [e,Nat.sub_add_cancel (Nat.le_trans (Nat.le_add_left _ _) s1)],by rw [e',Nat.sub_add_cancel (Nat.le_trans (Nat.le_add_left _ _) s2)]⟩).elim
theorem two_sep {R T la lb:Nat} (g:R < la - T ∨ R < lb - T):¬ (0 + R = la - T ∧ 0 + R = lb - T):=fun ⟨a,b⟩=>by
 rw [Nat.zero_add] at a b
 rcases g with l | l
 ·exact Nat.ne_of_lt l a
 ·exact Nat.ne_of_lt l b
theorem blocks_eq {la lb:Nat} {f:FL}:blocks f la lb = (fun s:N3 × List N3=>(if s.1.2.2 = 0 then s.2 else s.2 ++ [s.1]) ++ [(la,lb,0)]) (mrg (mb f (0,la,0,lb)) ((0,0,0),[])):=rfl
theorem opcodes_eq {la lb:Nat} {f:FL} {l:List N3} (h:blocks f la lb = l):opcodes f la lb = (l.foldl opStep ((0,0),[])).2:=by rw [← h]; rfl
noncomputable abbrev eqO (i ai j bj:Nat):OpN:=((("equal" : PySem.Str),i,ai,j,bj):OpN)
theorem ops_two {R T la lb:Nat} {f:FL} (h:mb f (0,la,0,lb) = [(0,0,R),(la - T,lb - T,T)]) (r0:0 < R) (t0:0 < T) (s1:R + T ≤ la) (s2:R + T ≤ lb) (hn:¬ (R + T = la ∧ R + T = lb)) :
  opcodes f la lb = [eqO 0 R 0 R,(gapTag R (la - T) R (lb - T),R,la - T,R,lb - T),eqO (la - T) la (lb - T) lb]:=by
 have hb:blocks f la lb = [(0,0,R),(la - T,lb - T,T),(la,lb,0)]:=by
  have e1:mrgStep ((0,0,0),[]) (0,0,R) = ((0,0,R),[]):=by unfold mrgStep; simp
  have e2:mrgStep ((0,0,R),[]) (la - T,lb - T,T) = ((la - T,lb - T,T),[(0,0,R)]):=by
   unfold mrgStep
   dsimp only
   rw [if_neg (two_sep (two_gap s1 s2 hn)),if_neg (Nat.ne_of_gt r0)]
   rfl
  have em:mrg [(0,0,R),(la - T,lb - T,T)] ((0,0,0),[]) = ((la - T,lb - T,T),[(0,0,R)]):=by
   show mrgStep (mrgStep _ _) _ = _
   rw [e1,e2]
  rw [blocks_eq,h,em]
  dsimp only
  rw [if_neg (Nat.ne_of_gt t0)]
  rfl
 rw [opcodes_eq hb]
 have e1:opStep ((0,0),[]) (0,0,R) = ((R,R),[eqO 0 R 0 R]):=by
  unfold opStep
  dsimp only
  rw [if_neg (Nat.ne_of_gt r0),if_neg (by simp),Nat.zero_add]
  rfl
 have e2:opStep ((R,R),[eqO 0 R 0 R]) (la - T,lb - T,T) = ((la,lb),[eqO 0 R 0 R,(gapTag R (la - T) R (lb - T),R,la - T,R,lb - T),eqO (la - T) la (lb - T) lb]):=by
  unfold opStep
  dsimp only
  rw [if_neg (Nat.ne_of_gt t0),if_pos (two_gap s1 s2 hn),Nat.sub_add_cancel (Nat.le_trans (Nat.le_add_left _ _) s1),Nat.sub_add_cancel (Nat.le_trans (Nat.le_add_left _ _) s2)]
  rfl
 show (opStep (opStep (opStep _ _) _) _).2 = _
 rw [e1,e2]
 unfold opStep
 dsimp only
 rw [if_pos rfl,if_neg (fun c=>c.elim (Nat.lt_irrefl _) (Nat.lt_irrefl _))]
theorem ops_one {la:Nat} {f:FL} (h:mb f (0,la,0,la) = [(0,0,la)]) (h0:0 < la):opcodes f la la = [eqO 0 la 0 la]:=by
 have hb:blocks f la la = [(0,0,la),(la,la,0)]:=by
  have e1:mrgStep ((0,0,0),[]) (0,0,la) = ((0,0,la),[]):=by unfold mrgStep; simp
  have em:mrg [(0,0,la)] ((0,0,0),[]) = ((0,0,la),[]):=e1
  rw [blocks_eq,h,em]
  dsimp only
  rw [if_neg (Nat.ne_of_gt h0)]
  rfl
 rw [opcodes_eq hb]
 have e1:opStep ((0,0),[]) (0,0,la) = ((la,la),[eqO 0 la 0 la]):=by
  unfold opStep
  dsimp only
  rw [if_neg (Nat.ne_of_gt h0),if_neg (by simp),Nat.zero_add]
  rfl
 show (opStep (opStep _ _) _).2 = _
 rw [e1]
 unfold opStep
 dsimp only
 rw [if_pos rfl,if_neg (fun c=>c.elim (Nat.lt_irrefl _) (Nat.lt_irrefl _))]
end
end
section
structure Mid where
 a:Nat
 o:Option Int
 b:Nat
noncomputable def VN (V:Int → Bool) (l:List Int):Prop:=l.Pairwise fun x y=>V x = true → x ≠ y
theorem VN.inj {V:Int → Bool} {l:List Int} (h:VN V l) {p q:Nat} {x:Int} (hp:l[p]? = some x) (hq:l[q]? = some x) (hv:V x = true):p = q:=by
 obtain ⟨a1,rfl⟩:=List.getElem?_eq_some_iff.mp hp
 obtain ⟨b1,b2⟩:=List.getElem?_eq_some_iff.mp hq
 have hh:=List.pairwise_iff_getElem.mp h
 rcases Nat.lt_trichotomy p q with c | c | c
 ·exact absurd b2.symm (hh p q a1 b1 c hv)
 ·exact c
 ·exact absurd b2 (hh q p b1 a1 c (by rw [b2]; exact hv))
structure Fr (V:Int → Bool) (ref h:List Int) (X Y:Mid) (t:List Int):Prop where
 rv:∀ x ∈ ref,V x = false
 r0:0 < ref.length
 hh:h = [] ∨ ∃ h' v,h = h' ++ [v] ∧ V v = true
 ht:t = [] ∨ ∃ v t',t = v :: t' ∧ V v = true
 wX:X.o = none → X.a = X.b
 wY:Y.o = none → Y.a = Y.b
 w:X.o = none ∨ Y.o = none ∨ X.a = Y.a ∨ X.b = Y.b
 vn:VN V (h ++ t)
 vX:∀ v,X.o = some v → V v = true ∧ v ∉ h ∧ v ∉ t ∧ Y.o ≠ some v
 vY:∀ v,Y.o = some v → V v = true ∧ v ∉ h ∧ v ∉ t ∧ X.o ≠ some v
 ne:¬ (X.o = none ∧ Y.o = none ∧ X.a = Y.a)
 h0:h = [] → X.a = 0 ∨ Y.a = 0
 t0:t = [] → X.b = 0 ∨ Y.b = 0
section
variable {V:Int → Bool} {ref h t:List Int} {X Y:Mid}
end
end
section
section
variable {V:Int → Bool} {ref h t:List Int} {X Y:Mid}
end
end
section
section
variable {V:Int → Bool} {ref h t:List Int} {X Y:Mid}
theorem run_pre {hp M N:List Int} {la lb:Nat} (h1:hp.length ≤ la) (h2:hp.length ≤ lb):Run (hp ++ M) (hp ++ N) 0 la 0 lb 0 0 hp.length :=
 ⟨Nat.le_refl _,by omega,Nat.le_refl _,by omega,fun u hu=>⟨hp[u],by rw [Nat.zero_add,List.getElem?_append_left hu,List.getElem?_eq_getElem hu],by rw [Nat.zero_add,List.getElem?_append_left hu,List.getElem?_eq_getElem hu]⟩⟩
theorem run_suf {M N tp:List Int} {alo blo:Nat} (h1:alo ≤ M.length) (h2:blo ≤ N.length):Run (M ++ tp) (N ++ tp) alo (M ++ tp).length blo (N ++ tp).length ((M ++ tp).length - tp.length) ((N ++ tp).length - tp.length) tp.length:=by
 rw [List.length_append,List.length_append,Nat.add_sub_cancel,Nat.add_sub_cancel]
 exact ⟨h1,Nat.le_refl _,h2,Nat.le_refl _,fun u hu=>⟨tp[u],by rw [List.getElem?_append_right (Nat.le_add_right _ _),Nat.add_sub_cancel_left,List.getElem?_eq_getElem hu],by rw [List.getElem?_append_right (Nat.le_add_right _ _),Nat.add_sub_cancel_left,List.getElem?_eq_getElem hu]⟩⟩
end
end
section
section
variable {A B:List Int} {alo ahi blo bhi:Nat} {okx:Int → Bool} {idx:Int → List Nat}
structure RunO (okx:Int → Bool) (A B:List Int) (alo ahi blo bhi i j k:Nat):Prop extends Run A B alo ahi blo bhi i j k where
 ok:∀ t,t < k → ∀ x,A[i + t]? = some x → okx x = true
theorem RunO.hit {i j k t:Nat} (h:RunO okx A B alo ahi blo bhi i j k) (ht:t < k):hit A B okx alo blo bhi (i + t) (j + t):=by
 obtain ⟨x,e1,e2⟩:=h.eq t ht
 exact ⟨Nat.le_trans h.a1 (Nat.le_add_right _ _),Nat.le_trans h.b1 (Nat.le_add_right _ _),Nat.lt_of_lt_of_le (Nat.add_lt_add_left ht j) h.b2,x,e1,e2,h.ok t ht x e1⟩
theorem RunO.rl {i j k:Nat} (h:RunO okx A B alo ahi blo bhi i j k):∀ t,t < k → t + 1 ≤ rl A B okx alo blo bhi (i + t) (j + t)
 | 0,ht=>rl_pos.mpr (h.hit ht)
 | t + 1,ht=>by
  have ih:=h.rl t (Nat.lt_of_succ_lt ht)
  exact Nat.le_trans (Nat.succ_le_succ ih) (Nat.le_of_eq (rl_hit (h.hit ht)).symm)
theorem jsO_sorted (hs:∀ x,(idx x).Pairwise (· < ·)) (i:Nat):(jsAt A idx blo bhi i).Pairwise (· < ·):=List.Pairwise.filter _ (hs _)
theorem candsO_lex (hs:∀ x,(idx x).Pairwise (· < ·)):∀ n,(cands A idx alo blo bhi n).Pairwise lexL ∧ ∀ c ∈ cands A idx alo blo bhi n,c.1 < alo + n
 | 0=>⟨List.Pairwise.nil,fun c h=>by cases h⟩
 | n + 1=>by
  obtain ⟨h1,h2⟩:=candsO_lex hs n
  rw [cands_succ]
  refine ⟨List.pairwise_append.mpr ⟨h1,?_,fun a ha b hb=>?_⟩,fun c hc=>?_⟩
  ·rw [List.pairwise_map]
   exact (jsO_sorted hs (alo + n)).imp fun h=>.inr ⟨rfl,h⟩
  ·obtain ⟨j,_,rfl⟩:=List.mem_map.mp hb
   exact .inl (h2 a ha)
  ·rcases List.mem_append.mp hc with h | h
   ·exact Nat.lt_of_lt_of_le (h2 c h) (Nat.add_le_add_left (Nat.le_succ n) alo)
   ·obtain ⟨j,_,rfl⟩:=List.mem_map.mp h
    exact Nat.lt_succ_self _
theorem bestO_first {cs:List (Nat × Nat)} (hs:cs.Pairwise lexL):(bestOf A B okx alo blo bhi cs = (alo,blo,0)) ∨ ∃ c ∈ cs,bestOf A B okx alo blo bhi cs = (c.1 + 1 - rl A B okx alo blo bhi c.1 c.2,c.2 + 1 - rl A B okx alo blo bhi c.1 c.2,rl A B okx alo blo bhi c.1 c.2) ∧
  ∀ c' ∈ cs,rl A B okx alo blo bhi c.1 c.2 ≤ rl A B okx alo blo bhi c'.1 c'.2 → c = c' ∨ lexL c c':=by
 suffices H:∀ (n:Nat) (cs:List (Nat × Nat)),cs.length = n → cs.Pairwise lexL → ((bestOf A B okx alo blo bhi cs = (alo,blo,0)) ∨ ∃ c ∈ cs,bestOf A B okx alo blo bhi cs = (c.1 + 1 - rl A B okx alo blo bhi c.1 c.2,c.2 + 1 - rl A B okx alo blo bhi c.1 c.2,rl A B okx alo blo bhi c.1 c.2) ∧
  ∀ c' ∈ cs,rl A B okx alo blo bhi c.1 c.2 ≤ rl A B okx alo blo bhi c'.1 c'.2 → c = c' ∨ lexL c c') from H _ cs rfl hs
 intro n
 induction n with
 | zero=>intro cs hn _; rw [List.length_eq_zero_iff.mp hn]; exact .inl rfl
 | succ n ih =>
  intro cs hn hs
  have hne:cs ≠ []:=by rintro rfl; cases hn
  obtain ⟨l,a,rfl⟩:∃ l a,cs = l ++ [a]:=⟨cs.dropLast,cs.getLast hne,(List.dropLast_concat_getLast hne).symm⟩
  rw [List.length_append] at hn
  obtain ⟨hs1,_,hs3⟩:=List.pairwise_append.mp hs
  rw [bestOf_snoc]
  have ih:=ih l (Nat.succ.inj hn) hs1
  unfold up1
  have gr:=@best_grow A B okx alo blo bhi l (alo,blo,0)
  split
  ·rename_i hgt
   refine .inr ⟨a,List.mem_append_right _ (List.mem_singleton.mpr rfl),rfl,fun c' hc' hle=>?_⟩
   rcases List.mem_append.mp hc' with h | h
   ·have:=gr.2 c' h
    exact absurd (Nat.lt_of_lt_of_le hgt (Nat.le_trans hle this)) (Nat.lt_irrefl _)
   ·exact .inl (List.mem_singleton.mp h).symm
  ·rename_i hgt
   rcases ih with h | ⟨c,hc,he,hf⟩
   ·exact .inl h
   ·refine .inr ⟨c,List.mem_append_left _ hc,he,fun c' hc' hle=>?_⟩
    rcases List.mem_append.mp hc' with h | h
    ·exact hf c' h hle
    ·exact .inr (hs3 c hc c' h)
theorem RunO.cand (hm:∀ x j,j ∈ idx x ↔ okx x = true ∧ B[j]? = some x) {i j k:Nat} (h:RunO okx A B alo ahi blo bhi i j (k + 1)):(i + k,j + k) ∈ cands A idx alo blo bhi (ahi - alo):=by
 obtain ⟨x,e1,e2⟩:=h.eq k (Nat.lt_succ_self k)
 unfold cands
 rw [List.mem_flatMap]
 have a1:=h.a1
 have a2:=h.a2
 refine ⟨i + k,by rw [List.mem_range'_1]; omega,List.mem_map.mpr ⟨j + k,?_,rfl⟩⟩
 unfold jsAt
 rw [List.mem_filter,hm]
 have:A.getD (i + k) 0 = x:=by simp [List.getD,e1]
 rw [this]
 have b1:=h.b1
 have b2:=h.b2
 exact ⟨⟨h.ok k (Nat.lt_succ_self k) x e1,e2⟩,by simp only [Bool.and_eq_true,decide_eq_true_eq]; omega⟩
theorem rl_hits:∀ (i j t:Nat),t < rl A B okx alo blo bhi i j → hit A B okx alo blo bhi (i - t) (j - t) ∧ t ≤ i ∧ t ≤ j
 | i,j,t,h=>by
  have hh:hit A B okx alo blo bhi i j:=rl_pos.mp (Nat.lt_of_le_of_lt (Nat.zero_le _) h)
  cases t with
  | zero=>exact ⟨hh,Nat.zero_le _,Nat.zero_le _⟩
  | succ t =>
   rw [rl_hit hh] at h
   cases i with
   | zero =>
    have e:rlp A B okx alo blo bhi 0 j = 0:=by cases j <;> rfl
    rw [e] at h
    exact absurd (Nat.lt_of_succ_lt_succ h) (Nat.not_lt_zero t)
   | succ i=>cases j with
    | zero =>
     have e:rlp A B okx alo blo bhi (i + 1) 0 = 0:=rfl
     rw [e] at h
     exact absurd (Nat.lt_of_succ_lt_succ h) (Nat.not_lt_zero t)
    | succ j =>
     have e:rlp A B okx alo blo bhi (i + 1) (j + 1) = rl A B okx alo blo bhi i j:=rfl
     rw [e] at h
     have:=rl_hits i j t (Nat.lt_of_succ_lt_succ h)
     rw [Nat.add_sub_add_right,Nat.add_sub_add_right]
     exact ⟨this.1,Nat.succ_le_succ this.2.1,Nat.succ_le_succ this.2.2⟩
theorem back1 {c k t:Nat} (h:k ≤ c) (ht:t ≤ k):c - (k - t) = c - k + t:=by
 obtain ⟨d,rfl⟩:=Nat.exists_eq_add_of_le ht
 obtain ⟨e,rfl⟩:=Nat.exists_eq_add_of_le h
 rw [Nat.add_sub_cancel_left,Nat.add_sub_cancel_left,Nat.add_right_comm,Nat.add_sub_cancel,Nat.add_comm]
theorem rl_run {c1 c2 k:Nat} (hl:rl A B okx alo blo bhi c1 c2 = k + 1) (h1:c1 < ahi):RunO okx A B alo ahi blo bhi (c1 - k) (c2 - k) (k + 1):=by
 have H:∀ t,t < k + 1 → hit A B okx alo blo bhi (c1 - t) (c2 - t) ∧ t ≤ c1 ∧ t ≤ c2:=fun t ht=>rl_hits c1 c2 t (by rw [hl]; exact ht)
 have hk:=H k (Nat.lt_succ_self k)
 have h0:=(H 0 (Nat.succ_pos k)).1
 have at':∀ t,t < k + 1 → hit A B okx alo blo bhi (c1 - k + t) (c2 - k + t):=fun t ht=>by
  have:=(H (k - t) (Nat.lt_succ_of_le (Nat.sub_le _ _))).1
  have ht:=Nat.le_of_lt_succ ht
  rw [back1 hk.2.1 ht,back1 hk.2.2 ht] at this
  exact this
 refine ⟨⟨hk.1.1,?_,hk.1.2.1,?_,fun t ht=>?_⟩,fun t ht x hx=>?_⟩
 ·rw [← Nat.add_assoc,Nat.sub_add_cancel hk.2.1]; exact h1
 ·rw [← Nat.add_assoc,Nat.sub_add_cancel hk.2.2]; exact h0.2.2.1
 ·obtain ⟨_,_,_,x,e1,e2,_⟩:=at' t ht
  exact ⟨x,e1,e2⟩
 ·obtain ⟨_,_,_,y,e1,e2,e3⟩:=at' t ht
  rw [hx] at e1
  cases e1
  exact e3
end
end
section
section
variable {A B:List Int} {alo ahi blo bhi:Nat}
theorem extD_run:∀ (n f lo lo' k:Nat),n ≤ f → alo ≤ lo → blo ≤ lo' → (∀ t,t < n → A[lo + t]? = B[lo' + t]?) → (alo = lo ∨ blo = lo' ∨ A[lo - 1]? ≠ B[lo' - 1]?) → extD A B alo blo f (lo + n,lo' + n,k) = (lo,lo',k + n)
 | 0,0,lo,lo',k,_,_,_,_,_=>rfl
 | 0,f + 1,lo,lo',k,_,_,_,_,h3=>by
  show (if alo < lo ∧ blo < lo' ∧ A[lo - 1]? = B[lo' - 1]? then _ else _) = _
  rw [if_neg]
  ·rfl
  ·rintro ⟨c1,c2,c3⟩
   rcases h3 with e | e | e
   ·exact Nat.ne_of_lt c1 e
   ·exact Nat.ne_of_lt c2 e
   ·exact e c3
 | n + 1,0,lo,lo',k,h,_,_,_,_=>absurd h (Nat.not_succ_le_zero n)
 | n + 1,f + 1,lo,lo',k,h,h1,h2,he,h3=>by
  show (if alo < lo + n + 1 ∧ blo < lo' + n + 1 ∧ A[lo + n]? = B[lo' + n]? then extD A B alo blo f (lo + n,lo' + n,k + 1) else _) = _
  rw [if_pos ⟨Nat.lt_succ_of_le (Nat.le_trans h1 (Nat.le_add_right _ _)),Nat.lt_succ_of_le (Nat.le_trans h2 (Nat.le_add_right _ _)),he n (Nat.lt_succ_self n)⟩,extD_run n f lo lo' (k + 1) (Nat.le_of_succ_le_succ h) h1 h2 (fun t ht=>he t (Nat.lt_succ_of_lt ht)) h3,Nat.add_right_comm]
  rfl
theorem sw {a b c:Nat}:a + (b + 1) + c = a + b + (c + 1):=Nat.add_right_comm (a + b) 1 c
theorem extU_run:∀ (n f i j k:Nat),n ≤ f → (∀ t,t < n → A[i + k + t]? = B[j + k + t]?) → i + k + n ≤ ahi → j + k + n ≤ bhi → (i + k + n = ahi ∨ j + k + n = bhi ∨ A[i + k + n]? ≠ B[j + k + n]?) → extU A B ahi bhi f (i,j,k) = (i,j,k + n)
 | 0,0,i,j,k,_,_,_,_,_=>rfl
 | 0,f + 1,i,j,k,_,_,h1,h2,h3=>by
  unfold extU
  rw [if_neg]
  ·rfl
  ·rintro ⟨c1,c2,c3⟩
   rcases h3 with e | e | e
   ·exact Nat.ne_of_lt c1 e
   ·exact Nat.ne_of_lt c2 e
   ·exact e c3
 | n + 1,0,i,j,k,h,_,_,_,_=>absurd h (Nat.not_succ_le_zero n)
 | n + 1,f + 1,i,j,k,h,he,h1,h2,h3=>by
  unfold extU
  rw [if_pos ⟨Nat.lt_of_lt_of_le (Nat.lt_add_of_pos_right (Nat.succ_pos n)) h1,Nat.lt_of_lt_of_le (Nat.lt_add_of_pos_right (Nat.succ_pos n)) h2,he 0 (Nat.succ_pos n)⟩]
  have:=extU_run n f i j (k + 1) (Nat.le_of_succ_le_succ h) (fun t ht=>by
   have:=he (t + 1) (Nat.succ_lt_succ ht)
   rw [sw,sw]
   exact this) (by rw [sw]; exact h1) (by rw [sw]; exact h2) (by
   rcases h3 with e | e | e
   ·exact .inl (by rw [sw]; exact e)
   ·exact .inr (.inl (by rw [sw]; exact e))
   ·exact .inr (.inr (by rw [sw,sw]; exact e)))
  rw [this,Nat.add_right_comm]
  rfl
end
end
section
section
variable {A B:List Int} {alo ahi blo bhi P Q:Nat} {okx:Int → Bool} {idx:Int → List Nat}
theorem bestO (hs:∀ x,(idx x).Pairwise (· < ·)) (hm:∀ x j,j ∈ idx x ↔ okx x = true ∧ B[j]? = some x) (ha:alo ≤ ahi) {ih jh kh:Nat} (hh:RunO okx A B alo ahi blo bhi ih jh (kh + 1)) :
  ∃ i j k,bestOf A B okx alo blo bhi (cands A idx alo blo bhi (ahi - alo)) = (i,j,k + 1) ∧ RunO okx A B alo ahi blo bhi i j (k + 1) ∧ ∀ i' j' k',RunO okx A B alo ahi blo bhi i' j' (k' + 1) → k' ≤ k ∧ (k' = k → i ≤ i'):=by
 have lx:=candsO_lex (A:=A) (alo:=alo) (blo:=blo) (bhi:=bhi) hs (ahi - alo)
 have top:∀ {i j k:Nat},RunO okx A B alo ahi blo bhi i j (k + 1) → k + 1 ≤ (bestOf A B okx alo blo bhi (cands A idx alo blo bhi (ahi - alo))).2.2:=fun h =>
  Nat.le_trans (h.rl _ (Nat.lt_succ_self _)) ((best_grow (A:=A) (B:=B) (okx:=okx) (alo:=alo) (blo:=blo) (bhi:=bhi) (cs:=cands A idx alo blo bhi (ahi - alo)) (b:=(alo,blo,0))).2 _ (h.cand hm))
 rcases bestO_first (A:=A) (B:=B) (alo:=alo) (blo:=blo) (bhi:=bhi) (okx:=okx) lx.1 with q | ⟨c,hc,q,hf⟩
 ·have:=top hh
  rw [q] at this
  exact absurd this (Nat.not_succ_le_zero _)
 ·have t0:=top hh
  rw [q] at t0 top ⊢
  dsimp only at t0 top
  obtain ⟨k,hk⟩:=Nat.exists_eq_add_one_of_ne_zero (Nat.ne_of_gt (Nat.lt_of_lt_of_le (Nat.succ_pos kh) t0))
  rw [hk] at top hf ⊢
  have hca:c.1 < ahi:=by have:=lx.2 c hc; rwa [Nat.add_sub_of_le ha] at this
  refine ⟨c.1 - k,c.2 - k,k,by rw [Nat.add_sub_add_right,Nat.add_sub_add_right],rl_run hk hca,fun i' j' k' h=>⟨Nat.le_of_succ_le_succ (top h),fun e=>?_⟩⟩
  subst e
  have hle:c.1 ≤ i' + k':=by
   rcases hf _ (h.cand hm) (h.rl k' (Nat.lt_succ_self k')) with e | l | ⟨e,_⟩
   ·rw [e]; exact Nat.le_refl _
   ·exact Nat.le_of_lt l
   ·exact Nat.le_of_eq e
  exact Nat.sub_le_of_le_add hle
theorem flmO_head (hs:∀ x,(idx x).Pairwise (· < ·)) (hm:∀ x j,j ∈ idx x ↔ okx x = true ∧ B[j]? = some x) (ha:alo ≤ ahi) (hA:ahi ≤ A.length) (hP:Run A B alo ahi blo bhi alo blo P) (hend:alo + P = ahi ∨ blo + P = bhi ∨ A[alo + P]? ≠ B[blo + P]?)
  {ih jh kh:Nat} (hh:RunO okx A B alo ahi blo bhi ih jh (kh + 1))
  (loc:∀ i j k,RunO okx A B alo ahi blo bhi i j (k + 1) → (i + blo = j + alo ∧ i + (k + 1) ≤ alo + P) ∨ (k ≤ kh ∧ ih < i)):flm A B okx idx alo ahi blo bhi = (alo,blo,P):=by
 obtain ⟨i,j,k,e,hr,hf⟩:=bestO hs hm ha hh
 unfold flm
 rw [e]
 rcases loc i j k hr with ⟨q1,q2⟩ | ⟨q1,q2⟩
 ·obtain ⟨u,rfl⟩:=Nat.exists_eq_add_of_le hr.a1
  obtain rfl:j = blo + u:=Nat.add_left_cancel (n:=alo) (by rw [Nat.add_comm alo j,← q1,Nat.add_assoc,Nat.add_comm u])
  rw [Nat.add_assoc] at q2
  obtain ⟨v,rfl⟩:=Nat.exists_eq_add_of_le (Nat.le_of_add_le_add_left q2)
  rw [Nat.add_comm u (k + 1)] at hP hend ⊢
  have p2:=hP.a2
  have p4:=hP.b2
  have hl:k + 1 + u + v ≤ A.length:=Nat.le_trans (Nat.le_trans (Nat.le_add_left _ _) p2) hA
  rw [← Nat.add_assoc] at p2 p4
  have d:=extD_run (A:=A) (B:=B) (alo:=alo) (blo:=blo) u A.length alo blo (k + 1) (Nat.le_trans (Nat.le_trans (Nat.le_add_left _ _) (Nat.le_add_right _ v)) hl) (Nat.le_refl _) (Nat.le_refl _) (fun t ht=>by
   obtain ⟨x,x1,x2⟩:=hP.eq t (Nat.lt_of_lt_of_le ht (Nat.le_trans (Nat.le_add_left _ _) (Nat.le_add_right _ v)))
   exact x1.trans x2.symm) (.inl rfl)
  dsimp only
  rw [d]
  rw [← Nat.add_assoc alo,← Nat.add_assoc blo] at hend
  exact extU_run v A.length alo blo (k + 1 + u) (Nat.le_trans (Nat.le_add_left _ _) hl) (fun t ht=>by
   obtain ⟨x,x1,x2⟩:=hP.eq (k + 1 + u + t) (Nat.add_lt_add_left ht _)
   rw [← Nat.add_assoc] at x1 x2
   exact x1.trans x2.symm) p2 p4 hend
 ·have:=hf _ _ _ hh
  exact absurd (this.2 (Nat.le_antisymm this.1 q1)) (Nat.not_le.mpr q2)
theorem flmO_tail (hs:∀ x,(idx x).Pairwise (· < ·)) (hm:∀ x j,j ∈ idx x ↔ okx x = true ∧ B[j]? = some x) (ha:alo ≤ ahi) (hA:ahi ≤ A.length) (hQ:Run A B alo ahi blo bhi (ahi - Q) (bhi - Q) Q) (hq1:Q ≤ ahi) (hq2:Q ≤ bhi) (hend:alo + Q = ahi ∨ blo + Q = bhi ∨ A[ahi - Q - 1]? ≠ B[bhi - Q - 1]?)
  {ih jh kh:Nat} (hh:RunO okx A B alo ahi blo bhi ih jh (kh + 1))
  (loc:∀ i j k,RunO okx A B alo ahi blo bhi i j (k + 1) → (i + bhi = j + ahi ∧ ahi ≤ i + Q) ∨ k < kh):flm A B okx idx alo ahi blo bhi = (ahi - Q,bhi - Q,Q):=by
 obtain ⟨i,j,k,e,hr,hf⟩:=bestO hs hm ha hh
 unfold flm
 rw [e]
 rcases loc i j k hr with ⟨q1,q2⟩ | q1
 ·obtain ⟨a,rfl⟩:=Nat.exists_eq_add_of_le' hq1
  obtain ⟨b,rfl⟩:=Nat.exists_eq_add_of_le' hq2
  rw [Nat.add_sub_cancel,Nat.add_sub_cancel] at hQ hend ⊢
  obtain ⟨u,rfl⟩:=Nat.exists_eq_add_of_le (Nat.le_of_add_le_add_right q2)
  rw [← Nat.add_assoc,← Nat.add_assoc] at q1
  have q1:=Nat.add_right_cancel q1
  obtain rfl:j = b + u:=Nat.add_left_cancel (n:=a) (by rw [Nat.add_comm a j,← q1,Nat.add_assoc,Nat.add_comm u])
  have q3:=hr.a2
  rw [Nat.add_assoc] at q3
  obtain ⟨v,rfl⟩:=Nat.exists_eq_add_of_le (Nat.le_of_add_le_add_left q3)
  rw [Nat.add_comm u (k + 1)] at *
  have hl:k + 1 + u + v ≤ A.length:=Nat.le_trans (Nat.le_add_left _ _) hA
  have d:=extD_run (A:=A) (B:=B) (alo:=alo) (blo:=blo) u A.length a b (k + 1) (Nat.le_trans (Nat.le_trans (Nat.le_add_left _ _) (Nat.le_add_right _ v)) hl) hQ.a1 hQ.b1 (fun t ht=>by
   obtain ⟨x,x1,x2⟩:=hQ.eq t (Nat.lt_of_lt_of_le ht (Nat.le_trans (Nat.le_add_left _ _) (Nat.le_add_right _ v)))
   exact x1.trans x2.symm) (hend.imp Nat.add_right_cancel (Or.imp_left Nat.add_right_cancel))
  dsimp only
  rw [d]
  exact extU_run v A.length a b (k + 1 + u) (Nat.le_trans (Nat.le_add_left _ _) hl) (fun t ht=>by
   obtain ⟨x,x1,x2⟩:=hQ.eq (k + 1 + u + t) (Nat.add_lt_add_left ht _)
   rw [← Nat.add_assoc] at x1 x2
   exact x1.trans x2.symm) (Nat.le_of_eq (Nat.add_assoc _ _ _)) (Nat.le_of_eq (Nat.add_assoc _ _ _)) (.inl (Nat.add_assoc _ _ _))
 ·exact absurd (hf _ _ _ hh).1 (Nat.not_le.mpr q1)
end
end
section
section
variable {A B:List Int} {alo ahi blo bhi P Q:Nat} {okx:Int → Bool} {idx:Int → List Nat}
noncomputable abbrev flO (A B:List Int) (okx:Int → Bool) (idx:Int → List Nat):FL:=fun alo ahi blo bhi=>flm A B okx idx alo ahi blo bhi
theorem flO_ok:FlOk (flO A B okx idx):=⟨fun alo ahi blo bhi ha hb _=>by
 have h:=(flm_snd (A:=A) (B:=B) (okx:=okx) (idx:=idx) ha hb).1
 exact ⟨h.a1,h.a2,h.b1,h.b2⟩⟩
theorem no_room {P R l:Nat} (e:P + R = l) (h:P < l - R):False:=by rw [← e,Nat.add_sub_cancel] at h; exact Nat.lt_irrefl _ h
theorem mbO_head {f:FL} (hf:FlOk f) {la lb R:Nat} (e1:f 0 la 0 lb = (0,0,P)) (p0:0 < P) (e2:f P la P lb = (la - R,lb - R,R)) (r0:0 < R) (s1:P + R ≤ la) (s2:P + R ≤ lb) (hz:P + R = la ∨ P + R = lb) :
  mb f (0,la,0,lb) = [(0,0,P),(la - R,lb - R,R)]:=by
 rw [mb_step hf ⟨Nat.zero_le _,Nat.zero_le _⟩ (by rw [e1]; exact Nat.ne_of_gt p0),e1]
 dsimp only
 rw [if_neg (fun h=>Nat.lt_irrefl 0 h.1),List.nil_append,Nat.zero_add,if_pos ⟨Nat.lt_of_lt_of_le (Nat.lt_add_of_pos_right r0) s1,Nat.lt_of_lt_of_le (Nat.lt_add_of_pos_right r0) s2⟩,mb_step hf ⟨Nat.le_trans (Nat.le_add_right P R) s1,Nat.le_trans (Nat.le_add_right P R) s2⟩ (by rw [e2]; exact Nat.ne_of_gt r0),e2]
 dsimp only
 rw [if_neg (fun h=>hz.elim (fun e=>no_room e h.1) (fun e=>no_room e h.2)),if_neg (fun h=>Nat.lt_irrefl la (by have:=h.1; rwa [Nat.sub_add_cancel (Nat.le_trans (Nat.le_add_left R P) s1)] at this))]
 rfl
theorem mbO_tail {f:FL} (hf:FlOk f) {la lb R:Nat} (e1:f 0 la 0 lb = (la - Q,lb - Q,Q)) (q0:0 < Q) (e2:f 0 (la - Q) 0 (lb - Q) = (0,0,R)) (r0:0 < R) (s1:R + Q ≤ la) (s2:R + Q ≤ lb) (hz:R + Q = la ∨ R + Q = lb) :
  mb f (0,la,0,lb) = [(0,0,R),(la - Q,lb - Q,Q)]:=by
 rw [mb_step hf ⟨Nat.zero_le _,Nat.zero_le _⟩ (by rw [e1]; exact Nat.ne_of_gt q0),e1]
 dsimp only
 rw [if_pos ⟨Nat.sub_pos_of_lt (Nat.lt_of_lt_of_le (Nat.lt_add_of_pos_left r0) s1),Nat.sub_pos_of_lt (Nat.lt_of_lt_of_le (Nat.lt_add_of_pos_left r0) s2)⟩,if_neg (c:=la - Q + Q < la ∧ lb - Q + Q < lb) (fun h=>Nat.lt_irrefl la (by have:=h.1; rwa [Nat.sub_add_cancel (Nat.le_trans (Nat.le_add_left Q R) s1)] at this)),mb_step hf ⟨Nat.zero_le _,Nat.zero_le _⟩ (by rw [e2]; exact Nat.ne_of_gt r0),e2]
 dsimp only
 rw [if_neg (fun h=>Nat.lt_irrefl 0 h.1),Nat.zero_add,if_neg (fun h=>hz.elim (fun e=>no_room e h.1) (fun e=>no_room e h.2))]
 rfl
end
end
section
noncomputable def lgStep (V:Int → Bool) (s:Nat × Nat) (x:Int):Nat × Nat:=(max s.1 (if V x then s.2 + 1 else 0),if V x then s.2 + 1 else 0)
noncomputable def lgst (V:Int → Bool) (l:List Int):Nat × Nat:=l.foldl (lgStep V) (0,0)
theorem lgst_snoc {V:Int → Bool} {l:List Int} {x:Int}:lgst V (l ++ [x]) = lgStep V (lgst V l) x:=List.foldl_append
noncomputable def WR (V:Int → Bool) (l:List Int) (i n:Nat):Prop:=i + n ≤ l.length ∧ ∀ t,t < n → ∀ x,l[i + t]? = some x → V x = true
structure LgOk (V:Int → Bool) (l:List Int):Prop where
 suf:WR V l (l.length - (lgst V l).2) (lgst V l).2 ∧ (lgst V l).2 ≤ l.length
 sufMax:∀ n,WR V l (l.length - n) n → n ≤ l.length → n ≤ (lgst V l).2
 ex:∃ i,WR V l i (lgst V l).1
 max:∀ i n,WR V l i n → n ≤ (lgst V l).1
theorem WR.mono {V:Int → Bool} {l:List Int} {i n:Nat} {x:Int} (h:WR V l i n):WR V (l ++ [x]) i n :=
 ⟨Nat.le_trans h.1 (by rw [List.length_append]; exact Nat.le_add_right _ _),fun t ht y hy=>h.2 t ht y (by
  rwa [List.getElem?_append_left (Nat.lt_of_lt_of_le (Nat.add_lt_add_left ht i) h.1)] at hy)⟩
theorem WR.init {V:Int → Bool} {l:List Int} {i n:Nat} {x:Int} (h:WR V (l ++ [x]) i n) (hi:i + n ≤ l.length):WR V l i n :=
 ⟨hi,fun t ht y hy=>h.2 t ht y (by rwa [List.getElem?_append_left (Nat.lt_of_lt_of_le (Nat.add_lt_add_left ht i) hi)])⟩
theorem lg_ok {V:Int → Bool} {l:List Int}:LgOk V l:=by
 suffices H:∀ (n:Nat) (l:List Int),l.length = n → LgOk V l from H _ l rfl
 intro n
 induction n with
 | zero =>
  intro l hl
  rw [List.length_eq_zero_iff.mp hl]
  exact ⟨⟨⟨Nat.le_refl _,fun t ht=>by cases ht⟩,Nat.le_refl _⟩,fun n _ h=>h,⟨0,Nat.le_refl _,fun t ht=>by cases ht⟩,fun i n h=>Nat.le_trans (Nat.le_add_left n i) h.1⟩
 | succ n ih =>
  intro l hl
  have hne:l ≠ []:=by rintro rfl; cases hl
  obtain ⟨l,x,rfl⟩:∃ l' a,l = l' ++ [a]:=⟨l.dropLast,l.getLast hne,(List.dropLast_concat_getLast hne).symm⟩
  have hlen:(l ++ [x]).length = l.length + 1:=by rw [List.length_append]; rfl
  have ih:=ih l (by rw [hlen] at hl; exact Nat.succ.inj hl)
  have last:(l ++ [x])[l.length]? = some x:=by rw [List.getElem?_append_right (Nat.le_refl _),Nat.sub_self]; rfl
  have reach:∀ n,WR V (l ++ [x]) (l.length + 1 - (n + 1)) (n + 1) → n + 1 ≤ l.length + 1 → V x = true ∧ WR V l (l.length - n) n:=fun n h hn=>by
   have hn:=Nat.le_of_succ_le_succ hn
   rw [Nat.add_sub_add_right] at h
   refine ⟨h.2 n (Nat.lt_succ_self n) x (by rw [Nat.sub_add_cancel hn]; exact last),WR.init ⟨?_,fun t ht=>h.2 t (Nat.lt_succ_of_lt ht)⟩ (Nat.le_of_eq (Nat.sub_add_cancel hn))⟩
   rw [Nat.sub_add_cancel hn,hlen]; exact Nat.le_succ _
  have hmax:∀ B H,(∀ n,WR V l (l.length - n) n → n ≤ l.length → V x = true → n + 1 ≤ H) → (∀ i n,WR V l i n → n ≤ B) → ∀ i n,WR V (l ++ [x]) i n → n ≤ max B H:=fun B H h1 h2 i n hw=>by
   by_cases c:i + n ≤ l.length
   ·exact Nat.le_trans (h2 i n (hw.init c)) (Nat.le_max_left _ _)
   ·cases n with
    | zero=>exact Nat.zero_le _
    | succ m =>
     have h0:=hw.1
     rw [hlen] at h0
     have hi:i = l.length + 1 - (m + 1):=by omega
     subst hi
     have hm:m + 1 ≤ l.length + 1:=Nat.le_trans (Nat.le_add_left _ _) h0
     obtain ⟨q1,q2⟩:=reach m hw hm
     exact Nat.le_trans (h1 m q2 (Nat.le_of_succ_le_succ hm) q1) (Nat.le_max_right _ _)
  have e:=@lgst_snoc V l x
  unfold lgStep at e
  cases q:V x with
  | true =>
   rw [q,if_pos rfl] at e
   have hs:WR V (l ++ [x]) ((l ++ [x]).length - ((lgst V l).2 + 1)) ((lgst V l).2 + 1):=by
    rw [hlen,Nat.add_sub_add_right]
    refine ⟨by rw [hlen,← Nat.add_assoc,Nat.sub_add_cancel ih.suf.2]; exact Nat.le_refl _,fun t ht y hy=>?_⟩
    rcases Nat.lt_or_eq_of_le (Nat.le_of_lt_succ ht) with l' | l'
    ·exact ih.suf.1.mono.2 t l' y hy
    ·rw [l',Nat.sub_add_cancel ih.suf.2,last] at hy
     cases hy; exact q
   refine ⟨⟨?_,?_⟩,fun n hw hn=>?_,?_,fun i n hw=>?_⟩
   ·rw [e]; exact hs
   ·rw [e,hlen]; exact Nat.succ_le_succ ih.suf.2
   ·rw [e]
    cases n with
    | zero=>exact Nat.zero_le _
    | succ n =>
     rw [hlen] at hw hn
     exact Nat.succ_le_succ (ih.sufMax n (reach n hw hn).2 (Nat.le_of_succ_le_succ hn))
   ·rw [e]
    dsimp only
    rcases Nat.le_total (lgst V l).1 ((lgst V l).2 + 1) with c | c
    ·rw [Nat.max_eq_right c]; exact ⟨_,hs⟩
    ·rw [Nat.max_eq_left c]
     obtain ⟨i,hi⟩:=ih.ex
     exact ⟨i,hi.mono⟩
   ·rw [e]
    exact hmax _ _ (fun n h1 h2 _=>Nat.succ_le_succ (ih.sufMax n h1 h2)) ih.max i n hw
  | false =>
   rw [q,if_neg (by simp),Nat.max_zero] at e
   refine ⟨⟨?_,?_⟩,fun n hw hn=>?_,?_,fun i n hw=>?_⟩
   ·rw [e]; exact ⟨Nat.le_refl _,fun t ht=>by cases ht⟩
   ·rw [e]; exact Nat.zero_le _
   ·rw [e]
    cases n with
    | zero=>exact Nat.le_refl _
    | succ n =>
     rw [hlen] at hw hn
     rw [(reach n hw hn).1] at q; cases q
   ·rw [e]
    obtain ⟨i,hi⟩:=ih.ex
    exact ⟨i,hi.mono⟩
   ·rw [e]
    have:=hmax (lgst V l).1 0 (fun n _ _ h=>by rw [q] at h; cases h) ih.max i n hw
    rwa [Nat.max_zero] at this
end
section
section
variable {V:Int → Bool} {ref h t:List Int} {X Y:Mid}
theorem word_of_h {W W':List Int} {alo ahi blo bhi i n:Nat} (hw:WR V h i n) (h1:alo ≤ i) (h2:h.length ≤ ahi) (h3:blo ≤ i) (h4:h.length ≤ bhi):RunO V (h ++ W) (h ++ W') alo ahi blo bhi i i n :=
 ⟨⟨h1,Nat.le_trans hw.1 h2,h3,Nat.le_trans hw.1 h4,fun u hu=>by
  have hl:i + u < h.length:=Nat.lt_of_lt_of_le (Nat.add_lt_add_left hu i) hw.1
  exact ⟨h[i + u],by rw [List.getElem?_append_left hl,List.getElem?_eq_getElem hl],by rw [List.getElem?_append_left hl,List.getElem?_eq_getElem hl]⟩⟩,
  fun u hu x hx=>by
   have hl:i + u < h.length:=Nat.lt_of_lt_of_le (Nat.add_lt_add_left hu i) hw.1
   rw [List.getElem?_append_left hl] at hx
   exact hw.2 u hu x hx⟩
theorem word_of_t {W W':List Int} {alo ahi blo bhi i n:Nat} (hw:WR V t i n) (h1:alo ≤ W.length) (h2:(W ++ t).length ≤ ahi) (h3:blo ≤ W'.length) (h4:(W' ++ t).length ≤ bhi):RunO V (W ++ t) (W' ++ t) alo ahi blo bhi (W.length + i) (W'.length + i) n :=
 ⟨⟨Nat.le_trans h1 (Nat.le_add_right _ _),by rw [List.length_append] at h2; rw [Nat.add_assoc]; exact Nat.le_trans (Nat.add_le_add_left hw.1 _) h2,Nat.le_trans h3 (Nat.le_add_right _ _),by rw [List.length_append] at h4; rw [Nat.add_assoc]; exact Nat.le_trans (Nat.add_le_add_left hw.1 _) h4,fun u hu=>by
  have hl:i + u < t.length:=Nat.lt_of_lt_of_le (Nat.add_lt_add_left hu i) hw.1
  exact ⟨t[i + u],by rw [Nat.add_assoc,List.getElem?_append_right (Nat.le_add_right _ _),Nat.add_sub_cancel_left,List.getElem?_eq_getElem hl],by rw [Nat.add_assoc,List.getElem?_append_right (Nat.le_add_right _ _),Nat.add_sub_cancel_left,List.getElem?_eq_getElem hl]⟩⟩,
  fun u hu x hx=>by
   rw [Nat.add_assoc,List.getElem?_append_right (Nat.le_add_right _ _),Nat.add_sub_cancel_left] at hx
   exact hw.2 u hu x hx⟩
theorem h_of_word {W:List Int} {i n:Nat} (hl:i + n ≤ h.length) (hw:∀ u,u < n → ∀ x,(h ++ W)[i + u]? = some x → V x = true):WR V h i n :=
 ⟨hl,fun u hu x hx=>hw u hu x (by rw [List.getElem?_append_left (Nat.lt_of_lt_of_le (Nat.add_lt_add_left hu i) hl)]; exact hx)⟩
theorem t_of_word {W:List Int} {i n:Nat} (hi:W.length ≤ i) (hl:i + n ≤ (W ++ t).length) (hw:∀ u,u < n → ∀ x,(W ++ t)[i + u]? = some x → V x = true):WR V t (i - W.length) n:=by
 obtain ⟨d,rfl⟩:=Nat.exists_eq_add_of_le hi
 rw [Nat.add_sub_cancel_left]
 rw [List.length_append,Nat.add_assoc] at hl
 exact ⟨Nat.le_of_add_le_add_left hl,fun u hu x hx=>hw u hu x (by rw [Nat.add_assoc,List.getElem?_append_right (Nat.le_add_right _ _),Nat.add_sub_cancel_left]; exact hx)⟩
end
end
section
theorem nsg (P:Params):nsOkIn (frag P) mainGlobals = true:=by kernel_rfl
theorem nsb (P:Params):nsOkIn (frag P) builtinsNs = true:=by kernel_rfl
theorem stat (P:Params):statIn (frag P):=statIn_of (boot_o_2 P) (by kernel_rfl) rfl (by kernel_rfl) (by kernel_rfl)
theorem g_len {F:Fn} {P:Params} (hk:SeesK (frag P) F.G) (hg:F.env.globals = mainGlobals) (hb:F.env.builtins = builtinsNs):Glo F "len" (.builtin "len"):=glo_blt hk hg hb (nsg P) (nsb P) (by kernel_rfl) (by kernel_rfl)
theorem g_range {F:Fn} {P:Params} (hk:SeesK (frag P) F.G) (hg:F.env.globals = mainGlobals) (hb:F.env.builtins = builtinsNs):Glo F "range" (.type "range"):=glo_blt hk hg hb (nsg P) (nsb P) (by kernel_rfl) (by kernel_rfl)
theorem g_enumerate {F:Fn} {P:Params} (hk:SeesK (frag P) F.G) (hg:F.env.globals = mainGlobals) (hb:F.env.builtins = builtinsNs):Glo F "enumerate" (.type "enumerate"):=glo_blt hk hg hb (nsg P) (nsb P) (by kernel_rfl) (by kernel_rfl)
theorem g_set {F:Fn} {P:Params} (hk:SeesK (frag P) F.G) (hg:F.env.globals = mainGlobals) (hb:F.env.builtins = builtinsNs):Glo F "set" (.type "set"):=glo_blt hk hg hb (nsg P) (nsb P) (by kernel_rfl) (by kernel_rfl)
theorem g_map {F:Fn} {P:Params} (hk:SeesK (frag P) F.G) (hg:F.env.globals = mainGlobals) (hb:F.env.builtins = builtinsNs):Glo F "map" (.type "map"):=glo_blt hk hg hb (nsg P) (nsb P) (by kernel_rfl) (by kernel_rfl)
theorem g_list {F:Fn} {P:Params} (hk:SeesK (frag P) F.G) (hg:F.env.globals = mainGlobals) (hb:F.env.builtins = builtinsNs):Glo F "list" (.type "list"):=glo_blt hk hg hb (nsg P) (nsb P) (by kernel_rfl) (by kernel_rfl)
theorem g_tuple {F:Fn} {P:Params} (hk:SeesK (frag P) F.G) (hg:F.env.globals = mainGlobals) (hb:F.env.builtins = builtinsNs):Glo F "tuple" (.type "tuple"):=glo_blt hk hg hb (nsg P) (nsb P) (by kernel_rfl) (by kernel_rfl)
theorem g_max {F:Fn} {P:Params} (hk:SeesK (frag P) F.G) (hg:F.env.globals = mainGlobals) (hb:F.env.builtins = builtinsNs):Glo F "max" (.builtin "max"):=glo_blt hk hg hb (nsg P) (nsb P) (by kernel_rfl) (by kernel_rfl)
theorem g_min {F:Fn} {P:Params} (hk:SeesK (frag P) F.G) (hg:F.env.globals = mainGlobals) (hb:F.env.builtins = builtinsNs):Glo F "min" (.builtin "min"):=glo_blt hk hg hb (nsg P) (nsb P) (by kernel_rfl) (by kernel_rfl)
theorem g_Match {F:Fn} {P:Params} (hk:SeesK (frag P) F.G) (hg:F.env.globals = mainGlobals):Glo F "Match" (.ref 135):=glo_top hk hg (nsg P) (by kernel_rfl)
theorem g_SequenceMatcher {F:Fn} {P:Params} (hk:SeesK (frag P) F.G) (hg:F.env.globals = mainGlobals):Glo F "SequenceMatcher" (.ref 242):=glo_top hk hg (nsg P) (by kernel_rfl)
theorem mc_tup (P:Params):tupCls (frag P) 135 = true:=by kernel_rfl
theorem mc_reads (P:Params):readsIn (frag P) 135 (.type "type") = true:=by kernel_rfl
theorem mc_new (P:Params):findCls (frag P) (.ref 135) (.type "type") "__new__" = some (.get (.builtin "staticmethod.__get__") (.ref 136) .none (.ref 135)):=by kernel_rfl
theorem mc_stat (P:Params):recIn (frag P) 136 "staticmethod" = some [.ref 82]:=by kernel_rfl
theorem mc_make (P:Params):findCls (frag P) (.ref 135) (.type "type") "_make" = some (.get (.builtin "classmethod.__get__") (.ref 91) .none (.ref 135)):=by kernel_rfl
theorem mc_clsm (P:Params):recIn (frag P) 91 "classmethod" = some [.ref 89,.bool false]:=by kernel_rfl
theorem mc_iter (P:Params):findIn (frag P) (.ref 135) "__iter__" = some (some (.builtin "tuple.__iter__")):=by kernel_rfl
theorem mc_len (P:Params):findIn (frag P) (.ref 135) "__len__" = some (some (.builtin "tuple.__len__")):=by kernel_rfl
theorem mc_lt (P:Params):findIn (frag P) (.ref 135) "__lt__" = some (some (.builtin "tuple.__lt__")):=by kernel_rfl
theorem sm_plain (P:Params):plainCls (frag P) 242 = true:=by kernel_rfl
theorem sm_makes (P:Params):makesIn (frag P) 242 = true:=by kernel_rfl
theorem sm_init (P:Params):findIn (frag P) (.ref 242) "__init__" = some (some (.ref 160)):=by kernel_rfl
end
section
example:True:=by
 k_with "m r" => (with_unfolding_all rfl)
 k_with "m nm" => (first | with_reducible exact ev_name fok (by assumption) (by walk_at "m r") | with_reducible exact ev_glob fok (by assumption) (by walk_at "m glo"))
 k_with "m st" => (first | with_reducible exact st_loc (by assumption) | with_reducible exact st_cel (by assumption) (by assumption))
 k_with "m side" => (first | with_reducible assumption | with_reducible exact side2 | lia | with_unfolding_all omega | with_unfolding_all (simp only [List.length_nil,List.length_cons,List.length_append,List.length_map,List.length_take,List.length_drop,sizeLine_eq] at *; omega) | with_unfolding_all (simp; done))
 k_with "m ev" => (first
  | ((with_reducible show Ev _ _ _ _ _ (PySem.Expr.Constant _ _ _) _); first | with_reducible exact ev_int | with_reducible exact ev_none | with_reducible exact ev_bool | with_reducible exact ev_str)
  | ((with_reducible show Ev _ _ _ _ _ (PySem.Expr.Name _ _) _); walk_at "m nm")
  | ((with_reducible show Ev _ _ _ _ _ (PySem.Expr.BinOp _ _ _ _) _); with_reducible exact ev_binop (by walk_at "m ev") (by walk_at "m ev") (by walk_at "m bin"))
  | ((with_reducible show Ev _ _ _ _ _ (PySem.Expr.Subscript _ _ _) _); with_reducible exact ev_sub (by walk_at "m ev") (by walk_at "m ev") (by walk_at "m sub"))
  | ((with_reducible show Ev _ _ _ _ _ (PySem.Expr.Call _ _ _ _) _); with_reducible exact ev_callX (by walk_at "m ev") (by walk_at "m callee") (by walk_at "m evl") (by walk_at "m call") (by with_unfolding_all rfl) (by with_unfolding_all rfl))
  | ((with_reducible show Ev _ _ _ _ _ (PySem.Expr.Tuple _ _ _) _); with_reducible exact ev_tuple (by assumption) (by walk_at "m evl") (by walk_at "m side"))
  | ((with_reducible show Ev _ _ _ _ _ (PySem.Expr.List _ _) _); with_reducible exact ev_list (by assumption) (by walk_at "m evl") (by walk_at "m side"))
  | ((with_reducible show Ev _ _ _ _ _ (PySem.Expr.Slice _ _ _ _) _); with_reducible exact ev_slice (by assumption) (by walk_at "m evp") (by walk_at "m evp") (by walk_at "m evp"))
  | ((with_reducible show Ev _ _ _ _ _ (PySem.Expr.Compare _ _ _ _) _); with_reducible exact ev_cmpX (by walk_at "m ev") (by walk_at "m ev") (by walk_at "m cmp") (by with_unfolding_all rfl))
  | ((with_reducible show Ev _ _ _ _ _ (PySem.Expr.UnaryOp _ _ _) _); with_reducible exact ev_unop (by walk_at "m ev") (by exact op_neg)))
 k_with "m evp" => (first | with_reducible exact evp_none | ((with_reducible show EvP _ _ _ _ _ (some _) _); with_reducible exact evp_some (by walk_at "m ev")))
 k_with "m evl" => (first | with_reducible exact evl_nil | ((with_reducible show EvL _ _ _ _ _ (_ :: _) _); with_reducible exact evl_consX (by walk_at "m ev") (by walk_at "m evl") (by with_unfolding_all rfl)))
 k_with "m bin" => (first
  | with_reducible exact op_add
  | with_reducible exact op_sub
  | ((with_reducible refine' op_cat_il (by assumption) ?_); walk_at "m side")
  | ((with_reducible refine' op_cat (by assumption) ?_); walk_at "m side")
  | ((with_reducible refine' op_mod ?_); walk_at "m side")
  | ((with_reducible refine' op_fdiv ?_ ?_) <;> walk_at "m side")
  | ((with_reducible refine' op_mul ?_); walk_at "m side"))
 k_with "m cmp" => (first
  | with_reducible exact op_eq_int
  | with_reducible exact op_ne_int
  | with_reducible exact op_lt_int
  | with_reducible exact op_le_int
  | with_reducible exact op_gt_int
  | with_reducible exact op_ge_int
  | with_reducible exact op_eq_str
  | with_reducible exact op_ne_str
  | with_reducible exact op_eq_nil (by assumption)
  | with_reducible exact op_ne_nil (by assumption)
  | with_reducible exact op_eq_il (by assumption)
  | with_reducible exact op_ne_il (by assumption))
 k_with "m sub" => (first
  | ((with_reducible refine' sl_upto (by assumption) (by with_unfolding_all exact fun _ _=>⟨_,rfl⟩) ?_ ?_) <;> walk_at "m side")
  | ((with_reducible refine' sl_from (by assumption) (by with_unfolding_all exact fun _ _=>⟨_,rfl⟩) ?_ ?_) <;> walk_at "m side")
  | ((with_reducible refine' sl_between (by assumption) (by with_unfolding_all exact fun _ _=>⟨_,rfl⟩) ?_ ?_ ?_) <;> walk_at "m side")
  | ((with_reducible refine' sl_rev (by assumption) (by with_unfolding_all exact fun _ _=>⟨_,rfl⟩) ?_) <;> walk_at "m side")
  | with_reducible exact item_il (by with_unfolding_all exact fun _ _=>rfl) (by walk_at "m side") (by walk_at "m side") (by with_reducible assumption)
  | with_reducible exact item_list (by with_unfolding_all exact fun _ _=>rfl) (by walk_at "m side") (by walk_at "m side") (by with_reducible assumption))
 k_with "m callee" => (first | with_reducible exact callee_builtin | with_reducible exact callee_type)
 k_with "m call" => (first
  | ((with_reducible refine' c_len_il ?_); walk_at "m side")
  | ((with_reducible refine' c_len_list ?_); walk_at "m side")
  | with_reducible exact c_max (by assumption)
  | with_reducible exact c_min (by assumption)
  | with_reducible exact c_range1 (by assumption)
  | with_reducible exact c_range2 (by assumption)
  | ((with_reducible refine' c_divmod (by assumption) ?_ ?_) <;> walk_at "m side"))
 k_with "m tst" => (first
  | ((with_reducible show Tst _ _ _ _ _ (PySem.Expr.Compare _ _ _ _) _); with_reducible exact tst_cmpX (by walk_at "m ev") (by walk_at "m ev") (by walk_at "m cmp") (by with_unfolding_all rfl))
  | ((with_reducible show Tst _ _ _ _ _ (PySem.Expr.UnaryOp PySem.UnaryOp.Not _ _) _); with_reducible exact tst_not (by walk_at "m tst"))
  | ((with_reducible show Tst _ _ _ _ _ (PySem.Expr.BoolOp _ _ _) _); with_reducible exact tst_bool (by walk_at "m all"))
  | with_reducible exact tst_valueX (by walk_at "m ev") (by walk_at "m tru") (by intro _; with_unfolding_all rfl))
 k_with "m tru" => (first | with_reducible exact tru_int | with_reducible exact tru_bool)
 k_with "m all" => (first
  | with_reducible exact all_nil
  | with_reducible exact any_nil
  | ((with_reducible show TstAll _ _ _ _ _ PySem.BoolOp.And (_ :: _) _); with_reducible exact all_cons (by walk_at "m tst") (fun ht=>by walk_at "m all"))
  | ((with_reducible show TstAll _ _ _ _ _ PySem.BoolOp.Or (_ :: _) _); with_reducible exact any_cons (by walk_at "m tst") (fun ht=>by walk_at "m all")))
 k_with "m assign" => (((with_reducible show Ex _ _ _ _ _ (PySem.Stmt.Assign [PySem.Expr.Name _ _] _ _ :: _) _); with_reducible refine' ex_assignX (by assumption) (by walk_at "m st") (by walk_at "m ev") (by with_unfolding_all rfl) ?_))
 k_with "m if" => (((with_reducible show Ex _ _ _ _ _ (PySem.Stmt.If _ _ _ _ :: _) _); with_reducible refine' ex_ifX (by walk_at "m tst") ?_ ?_))
 k_with "m ret" => (((with_reducible show Ex _ _ _ _ _ (PySem.Stmt.Return (some _) _ :: _) _); with_reducible refine' ex_returnX (by walk_at "m ev") ?_))
 k_with "m doc" => (((with_reducible show Ex _ _ _ _ _ (PySem.Stmt.Expr (PySem.Expr.Constant _ _ _) _ :: _) _); with_reducible refine' ex_docX (by assumption) ?_))
 k_with "m glo" => (first
  | with_reducible exact g_len (by assumption) (by assumption) (by assumption)
  | with_reducible exact g_tuple (by assumption) (by assumption) (by assumption))
 trivial
noncomputable abbrev isV (v:Value):AV:=.raw fun _ u=>u = v
noncomputable def fd_mnew (P:Params):FuncData:=fdOf (fo82 P)
theorem def_mnew (P:Params):defIn (frag P) 82 (fd_mnew P):=defIn_of (fo82 P) (by kernel_rfl) (by kernel_rfl) (by kernel_rfl)
theorem sig_mnew {P:Params} {a0 a1 a2 a3:AV}:sigOf (fd_mnew P).scope.names ["_cls", "a", "b", "size"] [a0,a1,a2,a3] = [some a0,some a1,some a2,some a3,none]:=by kernel_rfl
theorem ok_mnew (P:Params):DefOk (fd_mnew P) ["_cls", "a", "b", "size"]:=defOk_of rfl (of_decide_eq_true (by kernel_rfl)) (by kernel_rfl) (of_decide_eq_true (by kernel_rfl)) (by kernel_rfl)
noncomputable def nl_mnew:List (PySem.Str × NameKind):=[("_cls",.local),("a",.local),("b",.local),("size",.local),("tuple",.globalImplicit)]
theorem names_mnew (P:Params):(fd_mnew P).scope.names = nl_mnew:=by kernel_rfl
theorem mnew_spec {prog:Program} {w:World} {d1 d2 d3:AV}:PureC prog w (SeesK (frag w.params)) 2 (.ref 82) [isV (.ref 135),d1,d2,d3] (mat 135 [d1,d2,d3]):=by
 refine pure_defC (ok_mnew w.params) (fun V hV=>defAt_of hV (def_mnew w.params) (stat w.params) rfl rfl) rfl (fun vs hv=>?_) (fun xAr xG xs xB room fok=>?_)
 ·obtain ⟨v0,v1,v2,v3,rfl⟩:=len4 hv
  kernel_rfl
 rw [sig_mnew]
 have xg:(fnAt (fd_mnew w.params) 82 xAr xG xs).env.globals = mainGlobals:=rfl
 have xb:(fnAt (fd_mnew w.params) 82 xAr xG xs).env.builtins = builtinsNs:=rfl
 have hk:SeesK (frag w.params) (fnAt (fd_mnew w.params) 82 xAr xG xs).G:=xB
 have xN:(fnAt (fd_mnew w.params) 82 xAr xG xs).names = (fd_mnew w.params).scope.names:=rfl
 have xA:Room (fnAt (fd_mnew w.params) 82 xAr xG xs).A _:=room
 have xn:(fnAt (fd_mnew w.params) 82 xAr xG xs).n₀ = xs.heap.objs.size:=rfl
 have xi:interactive (fnAt (fd_mnew w.params) 82 xAr xG xs).env = false:=rfl
 have xS:(fnAt (fd_mnew w.params) 82 xAr xG xs).env.scope = (fd_mnew w.params).scope:=rfl
 generalize fnAt (fd_mnew w.params) 82 xAr xG xs = F at fok xg xb hk xN xA xn xi xS ⊢
 have xN1:=xN.trans (names_mnew w.params)
 have xn0:At F "_cls" 0 .local:=at_nl fok xN1 0 rfl (by kernel_rfl)
 have xn1:At F "a" 1 .local:=at_nl fok xN1 1 rfl (by kernel_rfl)
 have xn2:At F "b" 2 .local:=at_nl fok xN1 2 rfl (by kernel_rfl)
 have xn3:At F "size" 3 .local:=at_nl fok xN1 3 rfl (by kernel_rfl)
 have xn4:At F "tuple" 4 .globalImplicit:=at_nl fok xN1 4 rfl (by kernel_rfl)
 walk_at "m doc"
 refine ex_returnX (d:=mat 135 [d1,d2,d3]) ?_ rfl
 refine ev_tuple_new fok hk (mc_tup w.params) ?_ ?_ (show 3 ≤ sizeLine by decide) _
 ·walk_at "m ev"
 ·walk_at "m evl"
noncomputable def fd_mmake (P:Params):FuncData:=fdOf (fo89 P)
theorem def_mmake (P:Params):defIn (frag P) 89 (fd_mmake P):=defIn_of (fo89 P) (by kernel_rfl) (by kernel_rfl) (by kernel_rfl)
theorem sig_mmake {P:Params} {a0 a1:AV}:sigOf (fd_mmake P).scope.names ["cls", "iterable"] [a0,a1] = [some a0,some a1,none,none,none,none]:=by kernel_rfl
theorem ok_mmake (P:Params):DefOk (fd_mmake P) ["cls", "iterable"]:=defOk_of rfl (of_decide_eq_true (by kernel_rfl)) (by kernel_rfl) (of_decide_eq_true (by kernel_rfl)) (by kernel_rfl)
noncomputable def nl_mmake:List (PySem.Str × NameKind):=[("cls",.local),("iterable",.local),("result",.local),("tuple",.globalImplicit),("len",.globalImplicit),("TypeError",.globalImplicit)]
theorem names_mmake (P:Params):(fd_mmake P).scope.names = nl_mmake:=by kernel_rfl
theorem mmake_spec {prog:Program} {w:World} {d1 d2 d3:AV}:PureC prog w (SeesK (frag w.params)) 2 (.ref 89) [isV (.ref 135),.tup [d1,d2,d3]] (mat 135 [d1,d2,d3]):=by
 refine pure_defC (ok_mmake w.params) (fun V hV=>defAt_of hV (def_mmake w.params) (stat w.params) rfl rfl) rfl (fun vs hv=>?_) (fun xAr xG xs xB room fok=>?_)
 ·obtain ⟨v0,v1,rfl⟩:=len2 hv
  kernel_rfl
 rw [sig_mmake]
 have xg:(fnAt (fd_mmake w.params) 89 xAr xG xs).env.globals = mainGlobals:=rfl
 have xb:(fnAt (fd_mmake w.params) 89 xAr xG xs).env.builtins = builtinsNs:=rfl
 have hk:SeesK (frag w.params) (fnAt (fd_mmake w.params) 89 xAr xG xs).G:=xB
 have xN:(fnAt (fd_mmake w.params) 89 xAr xG xs).names = (fd_mmake w.params).scope.names:=rfl
 have xA:Room (fnAt (fd_mmake w.params) 89 xAr xG xs).A _:=room
 have xn:(fnAt (fd_mmake w.params) 89 xAr xG xs).n₀ = xs.heap.objs.size:=rfl
 have xi:interactive (fnAt (fd_mmake w.params) 89 xAr xG xs).env = false:=rfl
 have xS:(fnAt (fd_mmake w.params) 89 xAr xG xs).env.scope = (fd_mmake w.params).scope:=rfl
 generalize fnAt (fd_mmake w.params) 89 xAr xG xs = F at fok xg xb hk xN xA xn xi xS ⊢
 have xN1:=xN.trans (names_mmake w.params)
 have xn0:At F "cls" 0 .local:=at_nl fok xN1 0 rfl (by kernel_rfl)
 have xn1:At F "iterable" 1 .local:=at_nl fok xN1 1 rfl (by kernel_rfl)
 have xn2:At F "result" 2 .local:=at_nl fok xN1 2 rfl (by kernel_rfl)
 have xn3:At F "tuple" 3 .globalImplicit:=at_nl fok xN1 3 rfl (by kernel_rfl)
 have xn4:At F "len" 4 .globalImplicit:=at_nl fok xN1 4 rfl (by kernel_rfl)
 have xn5:At F "TypeError" 5 .globalImplicit:=at_nl fok xN1 5 rfl (by kernel_rfl)
 walk_at "m doc"
 refine ex_assignX (k:=2) (d:=mat 135 [d1,d2,d3]) fok ?_ ?_ rfl ?_
 ·walk_at "m st"
 ·refine ev_tuple_new fok hk (mc_tup w.params) ?_ ?_ (show 3 ≤ sizeLine by decide) _
  ·walk_at "m ev"
  ·walk_at "m evl"
 refine ex_ifF ?_ (ex_nilX ?_)
 ·refine tst_eq (tst_cmpX (d₁:=.int 3) (d₂:=.int 3) ?_ ?_ op_ne_int rfl) rfl
  ·refine ev_callX ?_ callee_builtin ?_ (c_len_mat (ds:=[d1,d2,d3]) hk (mc_tup w.params) (mc_len w.params) (show 3 < 2 ^ 62 by decide)) rfl rfl
   ·walk_at "m ev"
   ·walk_at "m evl"
  ·exact ev_int
 ·walk_at "m ret"
  rfl
end
section
noncomputable def mAtt (aj:Bool) (a b mb op fb bj bjunk bp:AV):List (PySem.Str × AV):=[("isjunk",.none),("a",a),("b",b),("autojunk",.bool aj),("matching_blocks",mb),("opcodes",op),("fullbcount",fb),("b2j",bj),("bjunk",bjunk),("bpopular",bp)]
section
variable {aj:Bool} {a b mb op fb bj bjunk bp d:AV}
theorem mAtt_len:(mAtt aj a b mb op fb bj bjunk bp).length ≤ 1000:=by show 10 ≤ 1000; decide
theorem get_isjunk:(mAtt aj a b mb op fb bj bjunk bp).lookup (Str.ofString "isjunk") = some .none:=by kernel_rfl
theorem get_a:(mAtt aj a b mb op fb bj bjunk bp).lookup (Str.ofString "a") = some a:=by kernel_rfl
theorem get_b:(mAtt aj a b mb op fb bj bjunk bp).lookup (Str.ofString "b") = some b:=by kernel_rfl
theorem get_autojunk:(mAtt aj a b mb op fb bj bjunk bp).lookup (Str.ofString "autojunk") = some (.bool aj):=by kernel_rfl
theorem get_mb:(mAtt aj a b mb op fb bj bjunk bp).lookup (Str.ofString "matching_blocks") = some mb:=by kernel_rfl
theorem get_op:(mAtt aj a b mb op fb bj bjunk bp).lookup (Str.ofString "opcodes") = some op:=by kernel_rfl
theorem get_b2j:(mAtt aj a b mb op fb bj bjunk bp).lookup (Str.ofString "b2j") = some bj:=by kernel_rfl
theorem get_bjunk:(mAtt aj a b mb op fb bj bjunk bp).lookup (Str.ofString "bjunk") = some bjunk:=by kernel_rfl
theorem get_m1:(mAtt aj a b mb op fb bj bjunk bp).lookup (Str.ofString "set_seq1") = none:=by kernel_rfl
theorem get_m2:(mAtt aj a b mb op fb bj bjunk bp).lookup (Str.ofString "set_seq2") = none:=by kernel_rfl
theorem get_m3:(mAtt aj a b mb op fb bj bjunk bp).lookup (Str.ofString "_SequenceMatcher__chain_b") = none:=by kernel_rfl
theorem get_m4:(mAtt aj a b mb op fb bj bjunk bp).lookup (Str.ofString "find_longest_match") = none:=by kernel_rfl
theorem get_m5:(mAtt aj a b mb op fb bj bjunk bp).lookup (Str.ofString "get_matching_blocks") = none:=by kernel_rfl
theorem get_m6:(mAtt aj a b mb op fb bj bjunk bp).lookup (Str.ofString "get_opcodes") = none:=by kernel_rfl
theorem get_m7:(mAtt aj a b mb op fb bj bjunk bp).lookup (Str.ofString "set_seqs") = none:=by kernel_rfl
theorem put_mb:putA "matching_blocks" d (mAtt aj a b mb op fb bj bjunk bp) = mAtt aj a b d op fb bj bjunk bp:=by kernel_rfl
theorem put_op:putA "opcodes" d (mAtt aj a b mb op fb bj bjunk bp) = mAtt aj a b mb d fb bj bjunk bp:=by kernel_rfl
end
section
variable {P:Params}
theorem own_isjunk:ownName (frag P) 242 "isjunk" = true:=by kernel_rfl
theorem own_a:ownName (frag P) 242 "a" = true:=by kernel_rfl
theorem own_b:ownName (frag P) 242 "b" = true:=by kernel_rfl
theorem own_autojunk:ownName (frag P) 242 "autojunk" = true:=by kernel_rfl
theorem own_mb:ownName (frag P) 242 "matching_blocks" = true:=by kernel_rfl
theorem own_op:ownName (frag P) 242 "opcodes" = true:=by kernel_rfl
theorem own_fb:ownName (frag P) 242 "fullbcount" = true:=by kernel_rfl
theorem own_b2j:ownName (frag P) 242 "b2j" = true:=by kernel_rfl
theorem own_bjunk:ownName (frag P) 242 "bjunk" = true:=by kernel_rfl
theorem own_bp:ownName (frag P) 242 "bpopular" = true:=by kernel_rfl
end
noncomputable abbrev mInst (x dx:Addr):AV:=inst 242 x dx
section
variable {prog:Program} {w:World} {F:Fn} {sig:List (Option AV)} {om:Om} {o:PySem.Expr} {pos:Pos} {x dx:Addr} {P:Params} {aj:Bool} {a b mb op fb bj bjunk bp d:AV}
theorem ev_sm {nm:PySem.Str} {as:List (PySem.Str × AV)} (hx:ownName (frag P) 242 nm = true) (hk:SeesK (frag P) F.G) (h:Ev prog w F sig om o (mInst x dx)) (hm:(dx,AttO as) ∈ om) (hl:as.lookup nm = some d)
  (he:eval (.Attribute o nm pos) F.env = (do
   let ov ← eval o F.env
   standAt pos.atName
   let r ← holding [ov] (getAttr ov nm true)
   letTemporaryGo o ov r
   pure r)):Ev prog w F sig om (.Attribute o nm pos) d:=ev_attr hk (sm_plain P) hx h hm hl he
end
structure Idn (d' d:AV):Prop where
 k:IsK d' d
 same:(∃ V v,Rep V d' v ∧ Rep V d v) → d' = d
 handed:Handed d'
theorem idn_ll {A B:List Int}:Idn (il A) (il B):=⟨.ll,fun h=>by rw [same_il h],handed_lst⟩
theorem idn_ls {A:List Int} {x:PySem.Str}:Idn (il A) (.str x):=⟨.ls,fun ⟨V,v,h1,h2⟩=>by
 simp only [Rep] at h1 h2; obtain ⟨_,_,_,rfl,_⟩:=h1; obtain ⟨_,e⟩:=h2; (cases e),handed_lst⟩
theorem idn_sn {x:PySem.Str}:Idn (.str x) .none:=⟨.sn,fun ⟨V,v,h1,h2⟩=>by
 simp only [Rep] at h1 h2; obtain ⟨_,rfl⟩:=h1; (cases h2),handed_str⟩
theorem putA_len {x:PySem.Str} {d:AV}:∀ {as:List (PySem.Str × AV)},(putA x d as).length ≤ as.length + 1
 | []=>by simp [putA]
 | (y,e) :: r=>by have:=putA_len (x:=x) (d:=d) (as:=r); unfold putA; split <;> simp <;> lia
theorem get_put {x:PySem.Str} {d:AV}:∀ {as:List (PySem.Str × AV)},(putA x d as).lookup x = some d
 | []=>by simp [putA]
 | (y,e) :: r=>by
  unfold putA
  split
  ·rename_i h; subst h; simp
  ·rename_i h; rw [List.lookup_cons,show (x == y) = false by simpa using fun e:x = y=>h e.symm]; exact get_put
theorem get_put_ne {x y:PySem.Str} {d:AV} (hne:(y == x) = false):∀ {as:List (PySem.Str × AV)},(putA x d as).lookup y = as.lookup y
 | []=>by simp [putA,List.lookup_cons,hne]
 | (z,e) :: r=>by
  unfold putA
  split
  ·rename_i h; subst h; rw [List.lookup_cons,List.lookup_cons,hne]
  ·rw [List.lookup_cons,List.lookup_cons,get_put_ne hne]
theorem attCast_put {a:Addr} {x:PySem.Str} {d:AV}:∀ {as:List (PySem.Str × AV)},AttCast a d (putA x (.ptr a) as) (putA x d as)
 | []=>.cast .nil
 | (y,e) :: r=>by
  unfold putA
  split
  ·exact .cast (AttCast.refl' r)
  ·exact .same attCast_put
where AttCast.refl' {a:Addr} {d:AV}:∀ (r:List (PySem.Str × AV)),AttCast a d r r
 | []=>.nil
 | (_,_) :: r=>.same (AttCast.refl' r)
example:True:=by
 k_with "m upd" => (first | with_reducible exact OmUpd.here | (with_reducible refine' OmUpd.there ?_; walk_at "m upd"))
 k_with "m mem" => (first | with_reducible exact List.mem_cons_self | (with_reducible refine' List.mem_cons_of_mem _ ?_; walk_at "m mem"))
 k_with "m ev" => (((with_reducible show Ev _ _ _ _ _ (PySem.Expr.Attribute _ _ _) _); first
  | with_reducible exact ev_sm own_a (by assumption) (by walk_at "m ev") (by walk_at "m mem") (by with_reducible assumption) (by with_unfolding_all rfl)
  | with_reducible exact ev_sm own_b (by assumption) (by walk_at "m ev") (by walk_at "m mem") (by with_reducible assumption) (by with_unfolding_all rfl)
  | with_reducible exact ev_sm own_b2j (by assumption) (by walk_at "m ev") (by walk_at "m mem") (by with_reducible assumption) (by with_unfolding_all rfl)
  | with_reducible exact ev_sm own_bjunk (by assumption) (by walk_at "m ev") (by walk_at "m mem") (by with_reducible assumption) (by with_unfolding_all rfl)
  | with_reducible exact ev_sm own_isjunk (by assumption) (by walk_at "m ev") (by walk_at "m mem") (by with_reducible assumption) (by with_unfolding_all rfl)
  | with_reducible exact ev_sm own_autojunk (by assumption) (by walk_at "m ev") (by walk_at "m mem") (by with_reducible assumption) (by with_unfolding_all rfl)
  | with_reducible exact ev_sm own_mb (by assumption) (by walk_at "m ev") (by walk_at "m mem") (by with_reducible assumption) (by with_unfolding_all rfl)
  | with_reducible exact ev_sm own_op (by assumption) (by walk_at "m ev") (by walk_at "m mem") (by with_reducible assumption) (by with_unfolding_all rfl)))
 trivial
noncomputable def fd_ss1 (P:Params):FuncData:=fdOf (fo174 P)
theorem def_ss1 (P:Params):defIn (frag P) 174 (fd_ss1 P):=defIn_of (fo174 P) (by kernel_rfl) (by kernel_rfl) (by kernel_rfl)
theorem sig_ss1 {P:Params} {a0 a1:AV}:sigOf (fd_ss1 P).scope.names ["self", "a"] [a0,a1] = [some a0,some a1]:=by kernel_rfl
theorem ok_ss1 (P:Params):DefOk (fd_ss1 P) ["self", "a"]:=defOk_of rfl (of_decide_eq_true (by kernel_rfl)) (by kernel_rfl) (of_decide_eq_true (by kernel_rfl)) (by kernel_rfl)
noncomputable def nl_ss1:List (PySem.Str × NameKind):=[("self",.local),("a",.local)]
theorem names_ss1 (P:Params):(fd_ss1 P).scope.names = nl_ss1:=by kernel_rfl
theorem ss1_spec {prog:Program} {w:World} {x dx:Addr} {as:List (PySem.Str × AV)} {a' a:AV} (hid:Idn a' a) (ha:as.lookup (Str.ofString "a") = some a) (hz:as.length ≤ 900):ImpC prog w (SeesK (frag w.params)) 2 (.ref 174) [mInst x dx,a'] [(dx,AttO as)]
  fun d om₂=>d = .none ∧ ((a' = a ∧ om₂ = [(dx,AttO as)]) ∨ om₂ = [(dx,AttO (putA "opcodes" .none (putA "matching_blocks" .none (putA "a" a' as))))]):=by
 refine imp_defC (dd:=[]) (dv:=[]) (ok_ss1 w.params) (fun V hV=>defAt_of hV (def_ss1 w.params) (stat w.params) rfl rfl) rfl (fun V=>RepL.nil) (fun vs hv=>?_) (fun xAr xG xs xB room fok=>?_)
 ·obtain ⟨v0,v1,rfl⟩:=len2 hv
  kernel_rfl
 rw [List.append_nil,sig_ss1]
 have xg:(fnAt (fd_ss1 w.params) 174 xAr xG xs).env.globals = mainGlobals:=rfl
 have xb:(fnAt (fd_ss1 w.params) 174 xAr xG xs).env.builtins = builtinsNs:=rfl
 have hk:SeesK (frag w.params) (fnAt (fd_ss1 w.params) 174 xAr xG xs).G:=xB
 have xN:(fnAt (fd_ss1 w.params) 174 xAr xG xs).names = (fd_ss1 w.params).scope.names:=rfl
 have xA:Room (fnAt (fd_ss1 w.params) 174 xAr xG xs).A _:=room
 have xn:(fnAt (fd_ss1 w.params) 174 xAr xG xs).n₀ = xs.heap.objs.size:=rfl
 have xi:interactive (fnAt (fd_ss1 w.params) 174 xAr xG xs).env = false:=rfl
 have xS:(fnAt (fd_ss1 w.params) 174 xAr xG xs).env.scope = (fd_ss1 w.params).scope:=rfl
 generalize fnAt (fd_ss1 w.params) 174 xAr xG xs = F at fok xg xb hk xN xA xn xi xS ⊢
 have xN1:=xN.trans (names_ss1 w.params)
 have xn0:At F "self" 0 .local:=at_nl fok xN1 0 rfl (by kernel_rfl)
 have xn1:At F "a" 1 .local:=at_nl fok xN1 1 rfl (by kernel_rfl)
 walk_at "m doc"
 refine ex_thenX (ex_if_is hid.k (by walk_at "m ev") (by walk_at "m ev") (fun hs=>?_) ?_ rfl)
 ·refine ex_cons (ex_return_none (P:=(· = .ret .none _ _)) rfl) fun o ho=>?_
  subst ho
  exact ⟨⟨rfl,.inl ⟨hid.same hs,rfl⟩⟩,fun b hb=>.inl hb⟩
 ·refine ex_nilX ?_
  have z1:=putA_len (x := "a") (d:=a') (as:=as)
  have z2:=putA_len (x := "matching_blocks") (d:=.none) (as:=putA "a" a' as)
  refine ex_attr1 hk (sm_plain w.params) own_a (by walk_at "m ev") (by walk_at "m ev") hid.handed (by lia) rfl .here ?_ rfl rfl rfl
  refine ex_attr2 hk (sm_plain w.params) own_mb own_op (by walk_at "m ev") (by walk_at "m ev") (by walk_at "m ev") handed_none (by lia) (by lia) rfl rfl .here .here ?_ rfl rfl
  exact ex_nil ⟨⟨rfl,.inr rfl⟩,fun b hb=>.inl hb⟩
end
section
structure BV (prog:Program) (w:World) (bv:AV) (B:List Int):Prop where
 enu:∀ {F:Fn} {om:Om},F.Ok → Enu prog w F om bv (B.map .int)
 len:∀ {F:Fn} {om:Om},OpC prog w F om (.builtin "len") [bv] (.int B.length)
 small:B.length ≤ 1000000
theorem bv_il {prog:Program} {w:World} {B:List Int} (h:B.length ≤ 1000000):BV prog w (il B) B:=⟨fun ok=>enu_list ok,c_len_il (by lia),h⟩
theorem c_len_str {prog:Program} {w:World} {F:Fn} {om:Om} {x:PySem.Str} (hx:(x.length:Int) < 2 ^ 62):OpC prog w F om (.builtin "len") [.str x] (.int x.length):=fun R sig tau vs s Q E hv st h=>by
 obtain ⟨v,rfl,st⟩:=one_of hv st
 have h1:=st.top
 simp only [Rep] at h1
 obtain ⟨t,rfl⟩:=h1
 exact len_str (by lia) (h _ _ (st.pop.tok2.push rep_int))
theorem bv_str {prog:Program} {w:World}:BV prog w (.str "") []:=⟨fun ok=>enu_str0 ok (by kernel_rfl) (by kernel_rfl),c_len_str (x := "") (by decide +kernel),by decide⟩
noncomputable def b2jN (B:List Int):Int → Option AV:=fun x=>if x ∈ B then some (il (idxL B x)) else none
noncomputable abbrev set0A (prog:Program) (w:World):AV:=setv prog w (fun _=>false) 0
theorem handed_set {prog:Program} {w:World} {S:Int → Bool} {n:Nat}:Handed (setv prog w S n):=fun V v h=>by
 unfold setv at h
 simp only [Rep] at h
 obtain ⟨a,o,rfl,_⟩:=h V (PH.le.refl _); rfl
noncomputable def bigB (B:List Int):Bool:=decide (B.length / 100 + 1 < (idxL B (-1)).length)
noncomputable def popB (B:List Int):Bool:=decide (200 ≤ B.length) && bigB B
noncomputable def b2jP (B:List Int):Int → Option AV:=if popB B then delF (b2jN B) (-1) else b2jN B
noncomputable def chainP (prog:Program) (w:World) (dx:Addr) (as:List (PySem.Str × AV)) (B:List Int) (d:AV) (om₂:Om):Prop :=
 d = .none ∧ ∃ m bp,om₂ = [(dx,AttO (putA "bpopular" bp (putA "bjunk" (set0A prog w) (putA "b2j" (dct (b2jP B) m) as))))]
theorem attCast_putC {a:Addr} {y:PySem.Str} {d e:AV} {as as':List (PySem.Str × AV)} (h:AttCast a d as as'):AttCast a d (putA y e as) (putA y e as'):=by
 induction h with
 | nil=>exact .same .nil
 | @same x _ _ _ h ih =>
  unfold putA
  split
  ·exact .same h
  ·exact .same ih
 | @cast x _ _ h ih =>
  unfold putA
  split
  ·exact .same h
  ·exact .cast ih
theorem big_mem {B:List Int} (h:bigB B = true):(-1:Int) ∈ B:=Classical.byContradiction fun q=>by
 unfold bigB at h
 rw [idxL_eq_nil.mpr q] at h
 simp at h
theorem div100 {n:Nat}:(n:Int).fdiv 100 + 1 = ((n / 100 + 1:Nat):Int):=by
 rw [Int.fdiv_eq_ediv_of_nonneg _ (by decide)]; rfl
theorem pop_step {ks:List Int} {i:Nat} {k:Int} (h:ks[i]? = some k):decide ((-1:Int) ∈ ks.take (i + 1)) = (decide ((-1:Int) ∈ ks.take i) || decide (k = -1)):=by
 rw [List.take_add_one,h,Option.toList_some,Bool.eq_iff_iff,Bool.or_eq_true,decide_eq_true_eq,decide_eq_true_eq,decide_eq_true_eq,List.mem_append,List.mem_singleton]
 exact or_congr Iff.rfl eq_comm
theorem pop_new {ks:List Int} {i:Nat} {k:Int} (hn:ks.Nodup) (h:ks[i]? = some k):k ∉ ks.take i:=fun q=>by
 obtain ⟨j,hj,e⟩:=List.getElem_of_mem q
 rw [List.getElem_take] at e
 rw [List.length_take] at hj
 obtain ⟨hi,e'⟩:=List.getElem?_eq_some_iff.mp h
 have hlt:=Nat.lt_of_lt_of_le hj (Nat.min_le_left _ _)
 exact List.pairwise_iff_getElem.mp hn j i (Nat.lt_trans hlt hi) hi hlt (e.trans e'.symm)
theorem tru_none {prog:Program} {w:World} {F:Fn} {om:Om}:Tru prog w F om .none false:=fun R sig tau v₁ s Q E st h=>by
 have h1:=st.top
 simp only [Rep] at h1
 subst h1
 exact truthy_none (h _ st.pop)
theorem csV_eq {cs:Cs} {B:List Int} (h:∀ y,(cs.lookup y).isSome = true ↔ y ∈ B):csV cs B (csF cs) = b2jN B:=by
 funext y
 unfold csV b2jN csF
 by_cases q:y ∈ B
 ·rw [if_pos ((h y).mpr q),if_pos q]
 ·have:¬ (cs.lookup y).isSome = true:=fun z=>q ((h y).mp z)
  rw [if_neg this,if_neg q]
  cases e:cs.lookup y with
  | none=>rfl
  | some a=>rw [e] at this; exact absurd rfl this
theorem OmUpd.skip {om om':Om} {a:Addr} {P P':PH → Obj → Prop} (u:OmUpd om a P P' om'):∀ (l:Om),OmUpd (l ++ om) a P P' (l ++ om')
 | []=>u
 | _ :: l=>.there (u.skip l)
theorem csF_cons {cs:Cs} {y:Int} {a:Addr}:csF ((y,a) :: cs) = upd (csF cs) y (.ptr a):=by
 funext x
 unfold csF upd
 rw [List.lookup_cons]
 by_cases h:x = y
 ·subst h; simp
 ·rw [show (x == y) = false by simpa using h,if_neg h]
example:True:=by
 k_with "m glo" => (first
  | with_reducible exact g_len (by assumption) (by assumption) (by assumption)
  | with_reducible exact g_enumerate (by assumption) (by assumption) (by assumption)
  | with_reducible exact g_set (by assumption) (by assumption) (by assumption))
 trivial
noncomputable def fd_chb (P:Params):FuncData:=fdOf (fo188 P)
theorem def_chb (P:Params):defIn (frag P) 188 (fd_chb P):=defIn_of (fo188 P) (by kernel_rfl) (by kernel_rfl) (by kernel_rfl)
theorem sig_chb {P:Params} {a0:AV}:sigOf (fd_chb P).scope.names ["self"] [a0] = [some a0,none,none,none,none,none,none,none,none,none,none,none,none,none,none]:=by kernel_rfl
theorem ok_chb (P:Params):DefOk (fd_chb P) ["self"]:=defOk_of rfl (of_decide_eq_true (by kernel_rfl)) (by kernel_rfl) (of_decide_eq_true (by kernel_rfl)) (by kernel_rfl)
noncomputable def nl_chb:List (PySem.Str × NameKind):=[("self",.local),("b",.local),("b2j",.local),("i",.local),("elt",.local),("indices",.local),("junk",.local),("isjunk",.local),("popular",.local),("n",.local),("ntest",.local),("idxs",.local),("enumerate",.globalImplicit),("set",.globalImplicit),("len",.globalImplicit)]
theorem names_chb (P:Params):(fd_chb P).scope.names = nl_chb:=by kernel_rfl
noncomputable def chSig (x dx D:Addr) (bv:AV):List (Option AV):=[some (mInst x dx),some bv,some (.ptr D),none,none,none,none,none,none,none,none,none,none,none,none]
theorem chb_end {prog:Program} {w:World} {F:Fn} {sig:List (Option AV)} {dx D:Addr} {as:List (PySem.Str × AV)} {B:List Int} {m:Nat} {bp:AV} {P:Out → Prop} (fok:F.Ok) (hD:F.n₀ ≤ D) (hs:sysModules < D)
  (h:P (.nxt sig [(dx,AttO (putA "bpopular" bp (putA "bjunk" (set0A prog w) (putA "b2j" (dct (b2jP B) m) as))))])) :
  Ex prog w F sig [(D,DctO (b2jP B) m),(dx,AttO (putA "bpopular" bp (putA "bjunk" (set0A prog w) (putA "b2j" (.ptr D) as))))] [] P :=
 ex_cast fok .here hD (key_dct hs) SigCast.refl (.cons (AttO.weak (attCast_putC (attCast_putC attCast_put))) .nil) (ex_nil h)
noncomputable def popSig (prog:Program) (w:World) (x dx D S:Addr) (bv:AV) (n nt:Nat) (pv:AV):List (Option AV):=[some (mInst x dx),some bv,some (.ptr D),none,none,none,some (set0A prog w),some .none,some pv,some (.int n),some (.int nt),none,none,none]
set_option maxHeartbeats 8000000 in
theorem chb_spec {prog:Program} {w:World} {x dx:Addr} {as:List (PySem.Str × AV)} {bv:AV} {B:List Int} (hB:BV prog w bv B) (hb:as.lookup (Str.ofString "b") = some bv) (hj:as.lookup (Str.ofString "isjunk") = some .none) (ha:as.lookup (Str.ofString "autojunk") = some (.bool true)) (hu:∀ y,y ≠ -1 → (idxL B y).length ≤ 1) (hz:as.length ≤ 900) :
  ImpC prog w (SeesK (frag w.params)) 2 (.ref 188) [mInst x dx] [(dx,AttO as)] (chainP prog w dx as B):=by
 refine imp_defC (dd:=[]) (dv:=[]) (ok_chb w.params) (fun V hV=>defAt_of hV (def_chb w.params) (stat w.params) rfl rfl) rfl (fun V=>RepL.nil) (fun vs hv=>?_) (fun xAr xG xs xB room fok=>?_)
 ·obtain ⟨v0,rfl⟩:=len1 hv
  kernel_rfl
 rw [List.append_nil,sig_chb]
 have xg:(fnAt (fd_chb w.params) 188 xAr xG xs).env.globals = mainGlobals:=rfl
 have xb:(fnAt (fd_chb w.params) 188 xAr xG xs).env.builtins = builtinsNs:=rfl
 have hk:SeesK (frag w.params) (fnAt (fd_chb w.params) 188 xAr xG xs).G:=xB
 have xN:(fnAt (fd_chb w.params) 188 xAr xG xs).names = (fd_chb w.params).scope.names:=rfl
 have xA:Room (fnAt (fd_chb w.params) 188 xAr xG xs).A _:=room
 have xn:(fnAt (fd_chb w.params) 188 xAr xG xs).n₀ = xs.heap.objs.size:=rfl
 have xi:interactive (fnAt (fd_chb w.params) 188 xAr xG xs).env = false:=rfl
 have xS:(fnAt (fd_chb w.params) 188 xAr xG xs).env.scope = (fd_chb w.params).scope:=rfl
 generalize fnAt (fd_chb w.params) 188 xAr xG xs = F at fok xg xb hk xN xA xn xi xS ⊢
 have xN1:=xN.trans (names_chb w.params)
 have xn0:At F "self" 0 .local:=at_nl fok xN1 0 rfl (by kernel_rfl)
 have xn1:At F "b" 1 .local:=at_nl fok xN1 1 rfl (by kernel_rfl)
 have xn2:At F "b2j" 2 .local:=at_nl fok xN1 2 rfl (by kernel_rfl)
 have xn3:At F "i" 3 .local:=at_nl fok xN1 3 rfl (by kernel_rfl)
 have xn4:At F "elt" 4 .local:=at_nl fok xN1 4 rfl (by kernel_rfl)
 have xn5:At F "indices" 5 .local:=at_nl fok xN1 5 rfl (by kernel_rfl)
 have xn6:At F "junk" 6 .local:=at_nl fok xN1 6 rfl (by kernel_rfl)
 have xn7:At F "isjunk" 7 .local:=at_nl fok xN1 7 rfl (by kernel_rfl)
 have xn8:At F "popular" 8 .local:=at_nl fok xN1 8 rfl (by kernel_rfl)
 have xn9:At F "n" 9 .local:=at_nl fok xN1 9 rfl (by kernel_rfl)
 have xn10:At F "ntest" 10 .local:=at_nl fok xN1 10 rfl (by kernel_rfl)
 have xn11:At F "idxs" 11 .local:=at_nl fok xN1 11 rfl (by kernel_rfl)
 have xn12:At F "enumerate" 12 .globalImplicit:=at_nl fok xN1 12 rfl (by kernel_rfl)
 have xn13:At F "set" 13 .globalImplicit:=at_nl fok xN1 13 rfl (by kernel_rfl)
 have xn14:At F "len" 14 .globalImplicit:=at_nl fok xN1 14 rfl (by kernel_rfl)
 refine ex_low (hk 242 (fo242 w.params) (by kernel_rfl)) fun hlow=>?_
 walk_at "m assign"
 refine ex_attrn fok (C:=242) (a:=x) (dx:=dx) (k:=2) hk (sm_plain w.params) own_b2j (by walk_at "m st") (evx_dict fok (P:=fun d om'=>∃ D,F.n₀ ≤ D ∧ d = .ptr D ∧ om' = (D,DctO (fun _=>none) 0) :: [(dx,AttO as)]) fun D hD=>⟨D,hD,rfl,rfl⟩) ?_ rfl rfl
 rintro d om₁ ⟨D,hD,rfl,rfl⟩
 refine ⟨handed_ptr,as,_,_,by walk_at "m ev",by lia,rfl,.there .here,?_⟩
 have hDs:(D == sysModules) = false:=by
  have:sysModules < 242:=by decide
  have hD':242 < D:=Nat.lt_of_lt_of_le hlow hD
  simp only [beq_eq_false_iff_ne,ne_eq]
  intro e
  rw [e] at hD'
  exact Nat.lt_irrefl _ (Nat.lt_trans this hD')
 refine ex_thenX (ex_enum2 fok (by walk_at "m ev") (by walk_at "m evl") (hB.enu fok)
  (fun i sig om=>∃ cs:Cs,sig = chSig x dx D bv ∧ om = csOm cs (B.take i) ++ (D,DctO (csF cs) cs.length) :: [(dx,AttO (putA "b2j" (.ptr D) as))] ∧ (cs.map (·.1)).Nodup ∧ (∀ c ∈ cs,F.n₀ ≤ c.2) ∧ cs.length ≤ i ∧ ∀ y,(cs.lookup y).isSome = true ↔ y ∈ B.take i)
  ⟨chSig x dx D bv,?_,[],rfl,rfl,List.nodup_nil,(by intro c h; cases h),Nat.le_refl _,(by intro y; simp)⟩ ?_ ?_ (by intro _; rfl) rfl rfl)
 ·exact ⟨rfl,rfl,rfl,trivial⟩
 ·-- a turn
  rintro i y sig om hy ⟨cs,rfl,rfl,hn,hl,hc,hkeys⟩
  rw [List.getElem?_map,Option.map_eq_some_iff] at hy
  obtain ⟨y,hy,rfl⟩:=hy
  have hi:i < B.length:=(List.getElem?_eq_some_iff.mp hy).1
  have htk:B.take (i + 1) = B.take i ++ [y]:=by rw [List.take_succ,hy]; rfl
  have hlen:(B.take i).length = i:=by rw [List.length_take]; lia
  refine ⟨((chSig x dx D bv).set 3 (some (.int i))).set 4 (some (.int y)),as_tupl fok (asl_cons (as_name fok (by walk_at "m st")) (asl_cons (as_name fok (by walk_at "m st")) asl_nil)) rfl,?_⟩
  have hsm:=hB.small
  have hsl:(1000000:Nat) ≤ sizeLine:=by decide
  refine ex_assignO fok (k:=5) (by walk_at "m st")
   (PE:=fun d om'=>(∃ a' a,cs.lookup y = some a' ∧ d = .ptr a' ∧ om' = (a,LstO []) :: (csOm cs (B.take i) ++ (D,DctO (csF cs) cs.length) :: [(dx,AttO (putA "b2j" (.ptr D) as))])) ∨
    (∃ a,cs.lookup y = none ∧ F.n₀ ≤ a ∧ d = .ptr a ∧ om' = (a,LstO []) :: (csOm cs (B.take i) ++ (D,DctO (csF ((y,a) :: cs)) (cs.length + 1)) :: [(dx,AttO (putA "b2j" (.ptr D) as))])))
   (evx_methX _ (by walk_at "m ev") (gets_dcto (f:=csF cs) (m:=cs.length) PySem.F.slot_dict_setdefault PySem.F.type_dict_setdefault (by simp)) callee_builtin
    (evxl_cons (P₁:=fun d om'=>d = .int y ∧ om' = _) (evx_of (by walk_at "m ev") ⟨rfl,rfl⟩) (by
     rintro d om' ⟨rfl,rfl⟩
     refine evxl_cons (P₁:=fun d om'=>∃ a,F.n₀ ≤ a ∧ d = .ptr a ∧ om' = (a,LstO []) :: _) (evx_open fok evl_nil (Nat.zero_le _) fun a ha=>⟨a,ha,rfl,rfl⟩) ?_ rfl
     rintro d om' ⟨a,ha,rfl,rfl⟩
     refine evxl_nil (x_setdefault (f:=csF cs) (m:=cs.length) (Nat.lt_of_lt_of_le (Nat.lt_trans (by decide) hlow) hD) (by lia) (by simp) (fun d hd=>.inl ?_) fun hno=>?_)
     ·unfold csF at hd
      rw [Option.map_eq_some_iff] at hd
      obtain ⟨a',h1,rfl⟩:=hd
      exact ⟨a',a,h1,rfl,rfl⟩
     ·refine ⟨(a,LstO []) :: (csOm cs (B.take i) ++ (D,DctO (csF ((y,a) :: cs)) (cs.length + 1)) :: [(dx,AttO (putA "b2j" (.ptr D) as))]),.there (OmUpd.skip ?_ _),.inr ⟨a,?_,ha,rfl,rfl⟩⟩
      ·rw [csF_cons]; exact .here
      ·unfold csF at hno
       rwa [Option.map_eq_none_iff] at hno) rfl) rfl rfl) ?_ rfl
  rintro d om' (⟨a',a,hlk,rfl,rfl⟩ | ⟨a,hlk,ha,rfl,rfl⟩)
  ·refine ex_drop fok .here ?_
   refine ex_exprX xi (evx_append fok (by walk_at "m ev") (by walk_at "m ev") (P:=fun _ om'=>om' = csOm cs (B.take i ++ [y]) ++ (D,DctO (csF cs) cs.length) :: [(dx,AttO (putA "b2j" (.ptr D) as))]) (by have:=csOm_upd (pre:=B.take i) (rest:=(D,DctO (csF cs) cs.length) :: [(dx,AttO (putA "b2j" (.ptr D) as))]) hn hlk; rw [hlen] at this; exact this) (by have:=idxL_len (B.take i) y; rw [List.length_map]; lia) rfl _) ?_ rfl
   rintro d om' rfl
   refine ex_nil ⟨chSig x dx D bv,⟨rfl,rfl,rfl,trivial⟩,cs,rfl,by rw [htk],hn,hl,by lia,fun z=>?_⟩
   rw [htk,List.mem_append,List.mem_singleton,← hkeys z]
   exact ⟨.inl,fun h=>h.elim id fun e=>by rw [e,hlk]; rfl⟩
  ·refine ex_exprX xi (evx_append fok (by walk_at "m ev") (by walk_at "m ev") (P:=fun _ om'=>om' = (a,LstO ([] ++ [.int i])) :: (csOm cs (B.take i) ++ (D,DctO (csF ((y,a) :: cs)) (cs.length + 1)) :: [(dx,AttO (putA "b2j" (.ptr D) as))])) .here (Nat.zero_le _) rfl _) ?_ rfl
   rintro d om' rfl
   have hny:y ∉ B.take i:=fun h=>by have:=(hkeys y).mpr h; rw [hlk] at this; cases this
   refine ex_nil ⟨chSig x dx D bv,⟨rfl,rfl,rfl,trivial⟩,(y,a) :: cs,rfl,?_,?_,?_,by simp; lia,fun z=>?_⟩
   ·rw [htk]
    show _ = (a,LstO ((idxL (B.take i ++ [y]) y).map .int)) :: (csOm cs (B.take i ++ [y]) ++ _)
    rw [csOm_same hlk,idxL_snoc,if_pos rfl,idxL_eq_nil.mpr hny,hlen]
    rfl
   ·rw [List.map_cons,List.nodup_cons]
    refine ⟨fun h=>?_,hn⟩
    obtain ⟨c,hc1,hc2⟩:=List.mem_map.mp h
    have:(cs.lookup y).isSome = true:=by
     rw [List.lookup_isSome_iff]; exact ⟨c,hc1,by simpa using hc2.symm⟩
    rw [hlk] at this; cases this
   ·intro c hc
    rcases List.mem_cons.mp hc with rfl | hc
    ·exact ha
    ·exact hl c hc
   ·rw [htk,List.mem_append,List.mem_singleton,← hkeys z,List.lookup_cons]
    cases q:z == y with
    | true=>simp [show z = y by simpa using q]
    | false=>simp [show ¬ z = y by simpa using q]
 ·-- behind it
  rintro sig om ⟨cs,rfl,rfl,hn,hl,hc,hkeys⟩
  rw [List.length_map,List.take_length] at hkeys
  rw [List.length_map,List.take_length]
  refine ex_freezeCs fok cs _ hn (fun z a e=>by unfold csF; rw [e]; rfl) hl ?_
  rw [csV_eq hkeys]
  have hl1:(cs.map (·.1)).Nodup:=hn
  have hlm:cs.length ≤ (cs.map (·.1)).length:=Nat.le_of_eq (List.length_map _).symm
  have hlB:∀ y,y ∈ cs.map (·.1) ↔ y ∈ B:=fun y=>by
   rw [← hkeys y,List.lookup_isSome_iff]
   constructor
   ·intro h
    obtain ⟨c,hc1,hc2⟩:=List.mem_map.mp h
    exact ⟨c,hc1,by simpa using hc2.symm⟩
   ·rintro ⟨c,hc1,hc2⟩
    exact List.mem_map.mpr ⟨c,hc1,(by simpa using hc2:y = c.1).symm⟩
  have hf:∀ k,k ∈ cs.map (·.1) → ∃ d,b2jN B k = some d:=fun k hk=>⟨il (idxL B k),by unfold b2jN; rw [if_pos ((hlB k).mp hk)]⟩
  have hmz:cs.length ≤ sizeLine:=Nat.le_trans hc (Nat.le_trans (by rw [List.length_map]; exact hB.small) (by decide))
  generalize cs.map (·.1) = l at hl1 hlm hlB hf
  generalize cs.length = m at hlm hmz
  clear hn hl hc hkeys
  have z1:=putA_len (x := "b2j") (d:=.ptr D) (as:=as)
  have z2:=putA_len (x := "bjunk") (d:=set0A prog w) (as:=putA "b2j" (.ptr D) as)
  have k1:(putA "bjunk" (set0A prog w) (putA "b2j" (.ptr D) as)).lookup (Str.ofString "isjunk") = some .none:=by
   rw [get_put_ne (by decide +kernel),get_put_ne (by decide +kernel)]; exact hj
  refine ex_attrn fok (C:=242) (a:=x) (dx:=dx) (k:=6) hk (sm_plain w.params) own_bjunk (by walk_at "m st") (evx_of (P:=fun d om'=>d = set0A prog w ∧ om' = _) (ev_callX (by walk_at "m ev") callee_type evl_nil (c_set fok) rfl rfl) ⟨rfl,rfl⟩) ?_ rfl rfl
  rintro d om₁ ⟨rfl,rfl⟩
  refine ⟨handed_set,_,_,_,by walk_at "m ev",by lia,rfl,.there .here,?_⟩
  walk_at "m assign"
  refine ex_ifF (tst_valueX (by walk_at "m ev") tru_none (by intro _; rfl)) (ex_nilX ?_)
  refine ex_attrn fok (C:=242) (a:=x) (dx:=dx) (k:=8) hk (sm_plain w.params) own_bp (by walk_at "m st") (evx_call (P:=fun d om'=>∃ S,F.n₀ ≤ S ∧ d = .ptr S ∧ om' = (S,SetM w false) :: [(D,DctO (b2jN B) m),(dx,AttO (putA "bjunk" (set0A prog w) (putA "b2j" (.ptr D) as)))]) (by walk_at "m ev") callee_type (evxl_nil (x_setM fok fun S hS=>⟨S,hS,rfl,rfl⟩)) rfl rfl) ?_ rfl rfl
  rintro d om₁ ⟨S,hS,rfl,rfl⟩
  refine ⟨handed_ptr,_,_,_,by walk_at "m ev",by lia,rfl,.there (.there .here),?_⟩
  have k2:(putA "bpopular" (.ptr S) (putA "bjunk" (set0A prog w) (putA "b2j" (.ptr D) as))).lookup (Str.ofString "autojunk") = some (.bool true):=by
   rw [get_put_ne (by decide +kernel),get_put_ne (by decide +kernel),get_put_ne (by decide +kernel)]; exact ha
  have hsD:sysModules < D:=Nat.lt_of_lt_of_le (Nat.lt_trans (by decide) hlow) hD
  refine ex_assignX fok (k:=9) (by walk_at "m st") (ev_callX (by walk_at "m ev") callee_builtin (by walk_at "m evl") hB.len rfl rfl) rfl ?_
  refine ex_ifX (b:=decide (200 ≤ B.length)) (tst_eq (tst_bool (all_cons (tst_valueX (by walk_at "m ev") tru_bool (by intro _; rfl)) (fun _=>by walk_at "m all"))) (by simp; omega)) (fun hc=>?_) (fun hc=>ex_nilX ?_)
  ·have hfew:∀ y:Int,(idxL B y).length < 2 ^ 62:=fun y=>Nat.lt_of_le_of_lt (Nat.le_trans (idxL_len B y) hB.small) (by decide)
   refine ex_assignX fok (k:=10) (d:=.int ((B.length / 100 + 1:Nat):Int)) (by walk_at "m st") (ev_eq (by walk_at "m ev") (congrArg AV.int div100)) rfl ?_
   refine ex_cons (P₁:=fun o=>∃ oD,o = .nxt (popSig prog w x dx D S bv B.length (B.length / 100 + 1) (.ptr S)) [(S,SetM w (bigB B)),(D,PinO oD (DctO (b2jN B) m)),(dx,AttO (putA "bpopular" (.ptr S) (putA "bjunk" (set0A prog w) (putA "b2j" (.ptr D) as))))])
    (ex_items2 fok _ (by walk_at "m ev") hDs (.tail _ (.head _)) hl1 hlm hf (fun ks oD hp=>⟨fun i sig om=>sig = popSig prog w x dx D S bv B.length (B.length / 100 + 1) (.ptr S) ∧ om = [(S,SetM w (decide ((-1:Int) ∈ ks.take i) && bigB B)),(D,PinO oD (DctO (b2jN B) m)),(dx,AttO (putA "bpopular" (.ptr S) (putA "bjunk" (set0A prog w) (putA "b2j" (.ptr D) as))))],_,.there .here,⟨_,?_,rfl,rfl⟩,?_,?_,?_⟩) rfl (by intro _; rfl)) ?_
   ·exact ⟨rfl,rfl,rfl,rfl,rfl,rfl,rfl,rfl,trivial⟩
   ·rintro i sig om ⟨rfl,rfl⟩
    exact .tail _ (.head _)
   ·rintro i k d sig om hi hd ⟨rfl,rfl⟩
    have hkB:k ∈ B:=(hlB k).mp (hp.mem_iff.mp (List.mem_of_getElem? hi))
    obtain rfl:il (idxL B k) = d:=by
     unfold b2jN at hd
     rw [if_pos hkB] at hd
     exact Option.some.inj hd
    have hfk:=hfew k
    refine ⟨_,as_tupl fok (asl_cons (as_name fok (k:=4) (by walk_at "m st")) (asl_cons (as_name fok (k:=11) (by walk_at "m st")) asl_nil)) rfl,?_⟩
    refine ex_ifX (by walk_at "m tst") (fun c=>?_) (fun c=>ex_nilX ?_)
    ·have c:B.length / 100 + 1 < (idxL B k).length:=Int.ofNat_lt.mp (of_decide_eq_true c)
     obtain rfl:k = -1:=Classical.byContradiction fun q=>absurd (Nat.lt_of_lt_of_le c (hu k q)) (Nat.not_lt.mpr (Nat.le_add_left _ _))
     have hbig:bigB B = true:=decide_eq_true c
     rw [decide_eq_false (pop_new (hp.nodup_iff.mpr hl1) hi),Bool.false_and]
     refine ex_exprX xi (evx_methX (d₀:=.ptr S) (P:=fun _ om'=>om' = [(S,SetM w true),(D,PinO oD (DctO (b2jN B) m)),(dx,AttO (putA "bpopular" (.ptr S) (putA "bjunk" (set0A prog w) (putA "b2j" (.ptr D) as))))]) _ (by walk_at "m ev") (gets_setM (.head _)) callee_builtin (evxl_of (ds:=[.int (-1)]) (by walk_at "m evl") (x_setaddM .here rfl)) rfl rfl) ?_ rfl
     rintro d om' rfl
     refine ex_nilX (ex_nil ⟨_,?_,rfl,?_⟩)
     ·exact ⟨rfl,rfl,rfl,rfl,rfl,rfl,rfl,rfl,trivial⟩
     ·rw [pop_step hi,hbig]; simp
    ·refine ex_nil ⟨_,?_,rfl,?_⟩
     ·exact ⟨rfl,rfl,rfl,rfl,rfl,rfl,rfl,rfl,trivial⟩
     ·have c:¬ B.length / 100 + 1 < (idxL B k).length:=fun q=>of_decide_eq_false c (Int.ofNat_lt.mpr q)
      rw [pop_step hi]
      by_cases q:k = -1
      ·subst q
       rw [show bigB B = false from decide_eq_false c,Bool.and_false,Bool.and_false]
      ·rw [decide_eq_false q,Bool.or_false]
   ·rintro sig om ⟨rfl,rfl⟩
    refine ⟨oD,?_⟩
    rw [List.take_length]
    cases hb:bigB B with
    | false=>rw [Bool.and_false]
    | true=>rw [decide_eq_true (hp.mem_iff.mpr ((hlB _).mpr (big_mem hb))),Bool.and_true]
   rintro o ⟨oD,rfl⟩
   have hpb:popB B = bigB B:=by unfold popB; rw [hc,Bool.true_and]
   refine ex_weakO (.there .here) (fun V o h=>h.2) ?_
   refine ex_cast fok .here hS key_setM (SigCast.set (k:=8) rfl) (.cons weak_refl (.cons (AttO.weak attCast_put) .nil)) ?_
   refine ex_seq (sig':=(popSig prog w x dx D S bv B.length (B.length / 100 + 1) (setM w (bigB B)))) (om':=[(D,DctO (b2jP B) m),(dx,AttO (putA "bpopular" (setM w (bigB B)) (putA "bjunk" (set0A prog w) (putA "b2j" (.ptr D) as))))])
    (ex_for2 fok (d:=setM w (bigB B)) (xs:=if bigB B then [.int (-1)] else []) (by walk_at "m ev") (itr_setM fok)
     (fun i sig om=>sig = popSig prog w x dx D S bv B.length (B.length / 100 + 1) (setM w (bigB B)) ∧ om = [(D,DctO (if i = 0 then b2jN B else delF (b2jN B) (-1)) m),(dx,AttO (putA "bpopular" (setM w (bigB B)) (putA "bjunk" (set0A prog w) (putA "b2j" (.ptr D) as))))])
     ⟨_,Sub.refl,rfl,rfl⟩ ?_ ?_ (by intro _; rfl)) ?_
   ·rintro i y sig om hx ⟨rfl,rfl⟩
    cases hb:bigB B with
    | false=>rw [hb] at hx; cases hx
    | true =>
     rw [hb] at hx
     rcases i with _ | i
     ·cases hx
      refine ⟨_,as_name fok (k:=4) (by walk_at "m st"),?_⟩
      refine ex_seq (ex_delitem fok (by walk_at "m ev") (by walk_at "m ev") hDs hmz hl1 hlm hf ((hlB _).mpr (big_mem hb)) .here) (ex_nil ⟨_,?_,rfl,rfl⟩)
      exact ⟨rfl,rfl,rfl,rfl,rfl,rfl,rfl,rfl,trivial⟩
     ·cases hx
   ·rintro sig om ⟨rfl,rfl⟩
    unfold b2jP
    rw [hpb]
    cases bigB B <;> rfl
   exact ex_nilX (chb_end fok hD hsD ⟨⟨rfl,m,_,rfl⟩,fun b hb=>.inl hb⟩)
  ·have hpb:b2jP B = b2jN B:=by
    unfold b2jP popB
    rw [hc,Bool.false_and]; rfl
   refine ex_cast fok .here hS key_setM (SigCast.set (k:=8) rfl) (.cons weak_refl (.cons (AttO.weak attCast_put) .nil)) ?_
   rw [← hpb]
   exact chb_end fok hD hsD ⟨⟨rfl,m,_,rfl⟩,fun b hb=>.inl hb⟩
end
section
noncomputable abbrev SK (w:World):PH → Prop:=SeesK (frag w.params)
theorem sk_mono {w:World}:∀ V V':PH,V.le V' → SK w V → SK w V':=fun _ _ k h=>h.mono k
theorem ty_ss1 (P:Params):typeIn (frag P) (.ref 174) = some (.type "function"):=by kernel_rfl
theorem fi_ss1 (P:Params):findIn (frag P) (.ref 242) "set_seq1" = some (some (.ref 174)):=by kernel_rfl
theorem ty_ss2 (P:Params):typeIn (frag P) (.ref 181) = some (.type "function"):=by kernel_rfl
theorem fi_ss2 (P:Params):findIn (frag P) (.ref 242) "set_seq2" = some (some (.ref 181)):=by kernel_rfl
theorem ty_chb (P:Params):typeIn (frag P) (.ref 188) = some (.type "function"):=by kernel_rfl
theorem fi_chb (P:Params):findIn (frag P) (.ref 242) "_SequenceMatcher__chain_b" = some (some (.ref 188)):=by kernel_rfl
theorem ty_ssq (P:Params):typeIn (frag P) (.ref 167) = some (.type "function"):=by kernel_rfl
theorem fi_ssq (P:Params):findIn (frag P) (.ref 242) "set_seqs" = some (some (.ref 167)):=by kernel_rfl
noncomputable def put1 (a':AV) (as:List (PySem.Str × AV)):List (PySem.Str × AV):=putA "opcodes" .none (putA "matching_blocks" .none (putA "a" a' as))
noncomputable def put2 (b':AV) (as:List (PySem.Str × AV)):List (PySem.Str × AV):=putA "fullbcount" .none (putA "opcodes" .none (putA "matching_blocks" .none (putA "b" b' as)))
noncomputable def put3 (prog:Program) (w:World) (B:List Int) (m:Nat) (bp:AV) (as:List (PySem.Str × AV)):List (PySem.Str × AV):=putA "bpopular" bp (putA "bjunk" (set0A prog w) (putA "b2j" (dct (b2jP B) m) as))
theorem put1_ne {a':AV} {as:List (PySem.Str × AV)} {y:PySem.Str} (h:(y == "opcodes") = false ∧ (y == "matching_blocks") = false ∧ (y == "a") = false):(put1 a' as).lookup y = as.lookup y:=by
 unfold put1; rw [get_put_ne h.1,get_put_ne h.2.1,get_put_ne h.2.2]
theorem put2_ne {b':AV} {as:List (PySem.Str × AV)} {y:PySem.Str} (h:(y == "opcodes") = false ∧ (y == "matching_blocks") = false ∧ (y == "b") = false ∧ (y == "fullbcount") = false):(put2 b' as).lookup y = as.lookup y:=by
 unfold put2; rw [get_put_ne h.2.2.2,get_put_ne h.1,get_put_ne h.2.1,get_put_ne h.2.2.1]
theorem put1_len {a':AV} {as:List (PySem.Str × AV)}:(put1 a' as).length ≤ as.length + 3:=by
 unfold put1
 have z1:=putA_len (x := "a") (d:=a') (as:=as)
 have z2:=putA_len (x := "matching_blocks") (d:=.none) (as:=putA "a" a' as)
 have z3:=putA_len (x := "opcodes") (d:=.none) (as:=putA "matching_blocks" .none (putA "a" a' as))
 lia
noncomputable def fd_ss2 (P:Params):FuncData:=fdOf (fo181 P)
theorem def_ss2 (P:Params):defIn (frag P) 181 (fd_ss2 P):=defIn_of (fo181 P) (by kernel_rfl) (by kernel_rfl) (by kernel_rfl)
theorem sig_ss2 {P:Params} {a0 a1:AV}:sigOf (fd_ss2 P).scope.names ["self", "b"] [a0,a1] = [some a0,some a1]:=by kernel_rfl
theorem ok_ss2 (P:Params):DefOk (fd_ss2 P) ["self", "b"]:=defOk_of rfl (of_decide_eq_true (by kernel_rfl)) (by kernel_rfl) (of_decide_eq_true (by kernel_rfl)) (by kernel_rfl)
noncomputable def nl_ss2:List (PySem.Str × NameKind):=[("self",.local),("b",.local)]
theorem names_ss2 (P:Params):(fd_ss2 P).scope.names = nl_ss2:=by kernel_rfl
theorem ss2_spec {prog:Program} {w:World} {x dx:Addr} {as:List (PySem.Str × AV)} {b' b:AV} {B:List Int} (hid:Idn b' b) (hB:BV prog w b' B) (hb:as.lookup (Str.ofString "b") = some b) (hj:as.lookup (Str.ofString "isjunk") = some .none) (ha:as.lookup (Str.ofString "autojunk") = some (.bool true)) (hm:as.lookup (Str.ofString "_SequenceMatcher__chain_b") = none) (hu:∀ y,y ≠ -1 → (idxL B y).length ≤ 1) (hz:as.length ≤ 800) :
  ImpC prog w (SK w) 4 (.ref 181) [mInst x dx,b'] [(dx,AttO as)] fun d om₂=>d = .none ∧ ((b' = b ∧ om₂ = [(dx,AttO as)]) ∨ ∃ m bp,om₂ = [(dx,AttO (put3 prog w B m bp (put2 b' as)))]):=by
 refine imp_defC (dd:=[]) (dv:=[]) (ok_ss2 w.params) (fun V hV=>defAt_of hV (def_ss2 w.params) (stat w.params) rfl rfl) rfl (fun V=>RepL.nil) (fun vs hv=>?_) (fun xAr xG xs xB room fok=>?_)
 ·obtain ⟨v0,v1,rfl⟩:=len2 hv
  kernel_rfl
 rw [List.append_nil,sig_ss2]
 have xg:(fnAt (fd_ss2 w.params) 181 xAr xG xs).env.globals = mainGlobals:=rfl
 have xb:(fnAt (fd_ss2 w.params) 181 xAr xG xs).env.builtins = builtinsNs:=rfl
 have hk:SeesK (frag w.params) (fnAt (fd_ss2 w.params) 181 xAr xG xs).G:=xB
 have xN:(fnAt (fd_ss2 w.params) 181 xAr xG xs).names = (fd_ss2 w.params).scope.names:=rfl
 have xA:Room (fnAt (fd_ss2 w.params) 181 xAr xG xs).A _:=room
 have xn:(fnAt (fd_ss2 w.params) 181 xAr xG xs).n₀ = xs.heap.objs.size:=rfl
 have xi:interactive (fnAt (fd_ss2 w.params) 181 xAr xG xs).env = false:=rfl
 have xS:(fnAt (fd_ss2 w.params) 181 xAr xG xs).env.scope = (fd_ss2 w.params).scope:=rfl
 generalize fnAt (fd_ss2 w.params) 181 xAr xG xs = F at fok xg xb hk xN xA xn xi xS ⊢
 have xN1:=xN.trans (names_ss2 w.params)
 have xn0:At F "self" 0 .local:=at_nl fok xN1 0 rfl (by kernel_rfl)
 have xn1:At F "b" 1 .local:=at_nl fok xN1 1 rfl (by kernel_rfl)
 walk_at "m doc"
 refine ex_thenX (ex_if_is hid.k (by walk_at "m ev") (by walk_at "m ev") (fun hs=>?_) ?_ rfl)
 ·refine ex_cons (ex_return_none (P:=(· = .ret .none _ _)) rfl) fun o ho=>?_
  subst ho
  exact ⟨⟨rfl,.inl ⟨hid.same hs,rfl⟩⟩,fun b hb=>.inl hb⟩
 ·refine ex_nilX ?_
  have z1:=putA_len (x := "b") (d:=b') (as:=as)
  have z2:=putA_len (x := "matching_blocks") (d:=.none) (as:=putA "b" b' as)
  have z3:=putA_len (x := "opcodes") (d:=.none) (as:=putA "matching_blocks" .none (putA "b" b' as))
  have z4:=putA_len (x := "fullbcount") (d:=.none) (as:=putA "opcodes" .none (putA "matching_blocks" .none (putA "b" b' as)))
  refine ex_attr1 hk (sm_plain w.params) own_b (by walk_at "m ev") (by walk_at "m ev") hid.handed (by lia) rfl .here ?_ rfl rfl rfl
  refine ex_attr2 hk (sm_plain w.params) own_mb own_op (by walk_at "m ev") (by walk_at "m ev") (by walk_at "m ev") handed_none (by lia) (by lia) rfl rfl .here .here ?_ rfl rfl
  refine ex_attr1 hk (sm_plain w.params) own_fb (by walk_at "m ev") (by walk_at "m ev") handed_none (by lia) rfl .here ?_ rfl rfl rfl
  refine ex_exprX xi (evx_methX (d₀:=mInst x dx) (f:=.ref 188) (P:=fun d om'=>∃ m bp,om' = [(dx,AttO (put3 prog w B m bp (put2 b' as)))]) _ (by walk_at "m ev") (gets_inst (as:=put2 b' as) hk (sm_plain w.params) (fi_chb w.params) (ty_chb w.params) (by exact List.mem_cons_self) (by rw [put2_ne (by decide +kernel)]; exact hm)) (callee_fn (hk 188 (fo188 w.params) (by kernel_rfl)) rfl)
   (evxl_nil (x_imp fok hk sk_mono (xA.mono (by decide)) (chb_spec (as:=put2 b' as) hB (by unfold put2; rw [get_put_ne (by decide +kernel),get_put_ne (by decide +kernel),get_put_ne (by decide +kernel),get_put]) (by rw [put2_ne (by decide +kernel)]; exact hj) (by rw [put2_ne (by decide +kernel)]; exact ha) hu (by unfold put2; lia)).fn (rest:=[]) (List.Perm.refl _) ?_)) rfl rfl) ?_ rfl
  ·rintro d om₂ ⟨e,m,bp,rfl⟩
   exact ⟨m,bp,rfl⟩
  ·rintro d om' ⟨m,bp,rfl⟩
   exact ex_nil ⟨⟨rfl,.inr ⟨m,bp,rfl⟩⟩,fun b hb=>.inl hb⟩
noncomputable def fd_ssq (P:Params):FuncData:=fdOf (fo167 P)
theorem def_ssq (P:Params):defIn (frag P) 167 (fd_ssq P):=defIn_of (fo167 P) (by kernel_rfl) (by kernel_rfl) (by kernel_rfl)
theorem sig_ssq {P:Params} {a0 a1 a2:AV}:sigOf (fd_ssq P).scope.names ["self", "a", "b"] [a0,a1,a2] = [some a0,some a1,some a2]:=by kernel_rfl
theorem ok_ssq (P:Params):DefOk (fd_ssq P) ["self", "a", "b"]:=defOk_of rfl (of_decide_eq_true (by kernel_rfl)) (by kernel_rfl) (of_decide_eq_true (by kernel_rfl)) (by kernel_rfl)
noncomputable def nl_ssq:List (PySem.Str × NameKind):=[("self",.local),("a",.local),("b",.local)]
theorem names_ssq (P:Params):(fd_ssq P).scope.names = nl_ssq:=by kernel_rfl
noncomputable def seqsP (prog:Program) (w:World) (dx:Addr) (as:List (PySem.Str × AV)) (a' a b' b:AV) (B:List Int) (d:AV) (om₂:Om):Prop :=
 d = .none ∧ ∃ as₁,((a' = a ∧ as₁ = as) ∨ as₁ = put1 a' as) ∧ ((b' = b ∧ om₂ = [(dx,AttO as₁)]) ∨ ∃ m bp,om₂ = [(dx,AttO (put3 prog w B m bp (put2 b' as₁)))])
theorem ssq_spec {prog:Program} {w:World} {x dx:Addr} {as:List (PySem.Str × AV)} {a' a b' b:AV} {B:List Int} (hia:Idn a' a) (hib:Idn b' b) (hB:BV prog w b' B) (hva:as.lookup (Str.ofString "a") = some a) (hb:as.lookup (Str.ofString "b") = some b) (hj:as.lookup (Str.ofString "isjunk") = some .none) (ha:as.lookup (Str.ofString "autojunk") = some (.bool true)) (hm:as.lookup (Str.ofString "_SequenceMatcher__chain_b") = none)
  (hm1:as.lookup (Str.ofString "set_seq1") = none) (hm2:as.lookup (Str.ofString "set_seq2") = none) (hu:∀ y,y ≠ -1 → (idxL B y).length ≤ 1) (hz:as.length ≤ 700) :
  ImpC prog w (SK w) 6 (.ref 167) [mInst x dx,a',b'] [(dx,AttO as)] (seqsP prog w dx as a' a b' b B):=by
 refine imp_defC (dd:=[]) (dv:=[]) (ok_ssq w.params) (fun V hV=>defAt_of hV (def_ssq w.params) (stat w.params) rfl rfl) rfl (fun V=>RepL.nil) (fun vs hv=>?_) (fun xAr xG xs xB room fok=>?_)
 ·obtain ⟨v0,v1,v2,rfl⟩:=len3 hv
  kernel_rfl
 rw [List.append_nil,sig_ssq]
 have xg:(fnAt (fd_ssq w.params) 167 xAr xG xs).env.globals = mainGlobals:=rfl
 have xb:(fnAt (fd_ssq w.params) 167 xAr xG xs).env.builtins = builtinsNs:=rfl
 have hk:SeesK (frag w.params) (fnAt (fd_ssq w.params) 167 xAr xG xs).G:=xB
 have xN:(fnAt (fd_ssq w.params) 167 xAr xG xs).names = (fd_ssq w.params).scope.names:=rfl
 have xA:Room (fnAt (fd_ssq w.params) 167 xAr xG xs).A _:=room
 have xn:(fnAt (fd_ssq w.params) 167 xAr xG xs).n₀ = xs.heap.objs.size:=rfl
 have xi:interactive (fnAt (fd_ssq w.params) 167 xAr xG xs).env = false:=rfl
 have xS:(fnAt (fd_ssq w.params) 167 xAr xG xs).env.scope = (fd_ssq w.params).scope:=rfl
 generalize fnAt (fd_ssq w.params) 167 xAr xG xs = F at fok xg xb hk xN xA xn xi xS ⊢
 have xN1:=xN.trans (names_ssq w.params)
 have xn0:At F "self" 0 .local:=at_nl fok xN1 0 rfl (by kernel_rfl)
 have xn1:At F "a" 1 .local:=at_nl fok xN1 1 rfl (by kernel_rfl)
 have xn2:At F "b" 2 .local:=at_nl fok xN1 2 rfl (by kernel_rfl)
 walk_at "m doc"
 refine ex_exprX xi (evx_methX (d₀:=mInst x dx) (f:=.ref 174) (P:=fun d om'=>∃ as₁,((a' = a ∧ as₁ = as) ∨ as₁ = put1 a' as) ∧ om' = [(dx,AttO as₁)]) _ (by walk_at "m ev") (gets_inst (as:=as) hk (sm_plain w.params) (fi_ss1 w.params) (ty_ss1 w.params) (by exact List.mem_cons_self) hm1) (callee_fn (hk 174 (fo174 w.params) (by kernel_rfl)) rfl)
  (evxl_of (ds:=[a']) (by walk_at "m evl") (x_imp fok hk sk_mono (xA.mono (by decide)) (ss1_spec (as:=as) hia hva (by lia)).fn (rest:=[]) (List.Perm.refl _) ?_)) rfl rfl) ?_ rfl
 ·rintro d om₂ ⟨e,⟨h1,rfl⟩ | rfl⟩
  ·exact ⟨as,.inl ⟨h1,rfl⟩,rfl⟩
  ·exact ⟨_,.inr rfl,rfl⟩
 rintro d om' ⟨as₁,h1,rfl⟩
 have f:as₁.length ≤ 703 ∧ as₁.lookup (Str.ofString "b") = some b ∧ as₁.lookup (Str.ofString "isjunk") = some .none ∧ as₁.lookup (Str.ofString "autojunk") = some (.bool true) ∧ as₁.lookup (Str.ofString "_SequenceMatcher__chain_b") = none ∧ as₁.lookup (Str.ofString "set_seq2") = none:=by
  rcases h1 with ⟨_,rfl⟩ | rfl
  ·exact ⟨by lia,hb,hj,ha,hm,hm2⟩
  ·exact ⟨by have:=put1_len (a':=a') (as:=as); lia,by rw [put1_ne (by decide +kernel)]; exact hb,by rw [put1_ne (by decide +kernel)]; exact hj,by rw [put1_ne (by decide +kernel)]; exact ha,by rw [put1_ne (by decide +kernel)]; exact hm,by rw [put1_ne (by decide +kernel)]; exact hm2⟩
 obtain ⟨f0,f1,f2,f3,f4,f5⟩:=f
 refine ex_exprX xi (evx_methX (d₀:=mInst x dx) (f:=.ref 181) (P:=fun d om'=>(b' = b ∧ om' = [(dx,AttO as₁)]) ∨ ∃ m bp,om' = [(dx,AttO (put3 prog w B m bp (put2 b' as₁)))]) _ (by walk_at "m ev") (gets_inst (as:=as₁) hk (sm_plain w.params) (fi_ss2 w.params) (ty_ss2 w.params) (by exact List.mem_cons_self) f5) (callee_fn (hk 181 (fo181 w.params) (by kernel_rfl)) rfl)
  (evxl_of (ds:=[b']) (by walk_at "m evl") (x_imp fok hk sk_mono (xA.mono (by decide)) (ss2_spec (as:=as₁) hib hB f1 f2 f3 f4 hu (by lia)).fn (rest:=[]) (List.Perm.refl _) ?_)) rfl rfl) ?_ rfl
 ·rintro d om₂ ⟨e,h⟩
  rcases h with ⟨h2,rfl⟩ | ⟨m,bp,rfl⟩
  ·exact .inl ⟨h2,rfl⟩
  ·exact .inr ⟨m,bp,rfl⟩
 rintro d om' h2
 refine ex_nil ⟨⟨rfl,as₁,h1,h2⟩,fun b hb=>?_⟩
 rcases h2 with ⟨_,rfl⟩ | ⟨m,bp,rfl⟩ <;> exact .inl hb
end
section
noncomputable def fd_ini (P:Params):FuncData:=fdOf (fo160 P)
theorem def_ini (P:Params):defIn (frag P) 160 (fd_ini P):=defIn_of (fo160 P) (by kernel_rfl) (by kernel_rfl) (by kernel_rfl)
theorem sig_ini {P:Params} {a0 a1 a2 a3 a4:AV}:sigOf (fd_ini P).scope.names ["self", "isjunk", "a", "b", "autojunk"] [a0,a1,a2,a3,a4] = [some a0,some a1,some a2,some a3,some a4]:=by kernel_rfl
theorem ok_ini (P:Params):DefOk (fd_ini P) ["self", "isjunk", "a", "b", "autojunk"]:=defOk_of rfl (of_decide_eq_true (by kernel_rfl)) (by kernel_rfl) (of_decide_eq_true (by kernel_rfl)) (by kernel_rfl)
noncomputable def nl_ini:List (PySem.Str × NameKind):=[("self",.local),("isjunk",.local),("a",.local),("b",.local),("autojunk",.local)]
theorem names_ini (P:Params):(fd_ini P).scope.names = nl_ini:=by kernel_rfl
noncomputable def as0 (aj:Bool):List (PySem.Str × AV):=[("isjunk",.none),("a",.none),("b",.none),("autojunk",.bool aj)]
noncomputable abbrev mAtt0 (prog:Program) (w:World) (aj:Bool) (m:Nat) (bp:AV):List (PySem.Str × AV):=mAtt aj (.str "") (.str "") .none .none .none (dct (b2jP []) m) (set0A prog w) bp
theorem ini_spec {prog:Program} {w:World} {x dx:Addr}:ImpC prog w (SK w) 8 (.ref 160) [mInst x dx] [(dx,AttO [])] fun d om₂=>d = .none ∧ ∃ m bp,om₂ = [(dx,AttO (mAtt0 prog w true m bp))]:=by
 refine imp_defL (K:=frag w.params) (dd:=[.none,.str "",.str "",.bool true]) (dv:=[.none,.str "" 404,.str "" 405,.bool true]) (ok_ini w.params) (fun V hV=>defAt_of hV (def_ini w.params) (stat w.params) rfl rfl) rfl (fun V=>.cons rep_none (.cons rep_str (.cons rep_str (.cons rep_bool .nil)))) (fun h vs hX hv=>?_) (fun xAr xG xs xB room fok=>?_)
 ·obtain ⟨v0,rfl⟩:=len1 hv
  exact Looks.of_peek hX (by kernel_rfl)
 rw [List.cons_append,List.nil_append,sig_ini]
 have xg:(fnAt (fd_ini w.params) 160 xAr xG xs).env.globals = mainGlobals:=rfl
 have xb:(fnAt (fd_ini w.params) 160 xAr xG xs).env.builtins = builtinsNs:=rfl
 have hk:SeesK (frag w.params) (fnAt (fd_ini w.params) 160 xAr xG xs).G:=xB
 have xN:(fnAt (fd_ini w.params) 160 xAr xG xs).names = (fd_ini w.params).scope.names:=rfl
 have xA:Room (fnAt (fd_ini w.params) 160 xAr xG xs).A _:=room
 have xn:(fnAt (fd_ini w.params) 160 xAr xG xs).n₀ = xs.heap.objs.size:=rfl
 have xi:interactive (fnAt (fd_ini w.params) 160 xAr xG xs).env = false:=rfl
 have xS:(fnAt (fd_ini w.params) 160 xAr xG xs).env.scope = (fd_ini w.params).scope:=rfl
 generalize fnAt (fd_ini w.params) 160 xAr xG xs = F at fok xg xb hk xN xA xn xi xS ⊢
 have xN1:=xN.trans (names_ini w.params)
 have xn0:At F "self" 0 .local:=at_nl fok xN1 0 rfl (by kernel_rfl)
 have xn1:At F "isjunk" 1 .local:=at_nl fok xN1 1 rfl (by kernel_rfl)
 have xn2:At F "a" 2 .local:=at_nl fok xN1 2 rfl (by kernel_rfl)
 have xn3:At F "b" 3 .local:=at_nl fok xN1 3 rfl (by kernel_rfl)
 have xn4:At F "autojunk" 4 .local:=at_nl fok xN1 4 rfl (by kernel_rfl)
 walk_at "m doc"
 refine ex_attr1 (a:=x) hk (sm_plain w.params) own_isjunk (by walk_at "m ev") (by walk_at "m ev") handed_none (by decide) (as':=[("isjunk",.none)]) (by kernel_rfl) .here ?_ rfl rfl rfl
 refine ex_attr2 (a:=x) (as:=[("isjunk",.none)]) hk (sm_plain w.params) own_a own_b (by walk_at "m ev") (by walk_at "m ev") (by walk_at "m ev") handed_none (show 1 ≤ 1000 by decide) (as':=[("isjunk",.none),("a",.none)]) (show 2 ≤ 1000 by decide) (as₂:=[("isjunk",.none),("a",.none),("b",.none)]) (by kernel_rfl) (by kernel_rfl) .here .here ?_ rfl rfl
 refine ex_attr1 (a:=x) (as:=[("isjunk",.none),("a",.none),("b",.none)]) hk (sm_plain w.params) own_autojunk (by walk_at "m ev") (by walk_at "m ev") handed_bool (show 3 ≤ 1000 by decide) (as':=as0 true) (by kernel_rfl) .here ?_ rfl rfl rfl
 refine ex_exprX xi (evx_methX (d₀:=mInst x dx) (f:=.ref 167) (P:=fun d om'=>∃ m bp,om' = [(dx,AttO (mAtt0 prog w true m bp))]) _ (by walk_at "m ev") (gets_inst (as:=as0 true) hk (sm_plain w.params) (fi_ssq w.params) (ty_ssq w.params) (by exact List.mem_cons_self) (by kernel_rfl)) (callee_fn (hk 167 (fo167 w.params) (by kernel_rfl)) rfl)
  (evxl_of (ds:=[.str "",.str ""]) (by walk_at "m evl") (x_imp fok hk sk_mono (xA.mono (by decide)) (ssq_spec (as:=as0 true) idn_sn idn_sn bv_str (by kernel_rfl) (by kernel_rfl) (by kernel_rfl) (by kernel_rfl) (by kernel_rfl) (by kernel_rfl) (by kernel_rfl) (by intro y _; exact Nat.zero_le _) (show 4 ≤ 700 by decide)).fn (rest:=[]) (List.Perm.refl _) ?_)) rfl rfl) ?_ rfl
 ·rintro d om₂ ⟨e,as₁,h1,h2⟩
  rcases h1 with ⟨h1,_⟩ | rfl
  ·cases h1
  ·rcases h2 with ⟨h2,_⟩ | ⟨m,bp,rfl⟩
   ·cases h2
   ·refine ⟨m,bp,?_⟩
    show [(dx,AttO (put3 prog w [] m bp (put2 (.str "") (put1 (.str "") (as0 true)))))] = _
    have:put3 prog w [] m bp (put2 (.str "") (put1 (.str "") (as0 true))) = mAtt0 prog w true m bp:=by kernel_rfl
    rw [this]
 ·rintro d om' ⟨m,bp,rfl⟩
  exact ex_nil ⟨⟨rfl,m,bp,rfl⟩,fun b hb=>.inl hb⟩
theorem x_matcher {prog:Program} {w:World} {F:Fn} {om:Om} {P:AV → Om → Prop} (ok:F.Ok) (hk:SeesK (frag w.params) F.G) (room:Room F.A 9) (hP:∀ x dx m bp,P (mInst x dx) ((dx,AttO (mAtt0 prog w true m bp)) :: om)):OpX prog w F om (.ref 242) [] P :=
 x_make ok hk (sm_makes w.params) (sm_init w.params) (by kernel_rfl) hk sk_mono room (Pm:=fun x dx om₂=>∃ m bp,om₂ = [(dx,AttO (mAtt0 prog w true m bp))]) (fun x dx=>ini_spec) fun x dx om₂ ⟨m,bp,e⟩=>by subst e; exact hP x dx m bp
end
section
structure IdxOk (B:List Int) (okx:Int → Bool) (idx:Int → List Nat):Prop where
 sorted:∀ x,(idx x).Pairwise (· < ·)
 mem:∀ x j,j ∈ idx x ↔ okx x = true ∧ B[j]? = some x
noncomputable def b2jI (idx:Int → List Nat):Int → Option AV:=fun x=>if idx x = [] then none else some (nl (idx x))
theorem b2jI_get {idx:Int → List Nat} {x:Int}:(b2jI idx x).getD (.lst []) = nl (idx x):=by
 unfold b2jI
 split
 ·rename_i h; rw [h]; rfl
 ·rfl
noncomputable def rowP (A B:List Int) (okx:Int → Bool) (alo blo bhi:Nat):Nat → Nat → Option Nat
 | 0,_=>none
 | i + 1,j=>if 0 < rl A B okx alo blo bhi i j then some (rl A B okx alo blo bhi i j) else none
theorem rowP_first {A B:List Int} {okx:Int → Bool} {alo blo bhi:Nat}:rowP A B okx alo blo bhi (alo + 0) = fun _=>none:=by
 funext j
 rw [Nat.add_zero]
 cases alo with
 | zero=>rfl
 | succ a =>
  show (if 0 < rl A B okx (a + 1) blo bhi a j then some (rl A B okx (a + 1) blo bhi a j) else none) = none
  rw [if_neg]
  rw [rl_pos]
  rintro ⟨h,_⟩
  lia
theorem pget_row {A B:List Int} {okx:Int → Bool} {alo blo bhi i j:Nat}:pget (rowP A B okx alo blo bhi i) j = rlp A B okx alo blo bhi i j:=by
 cases j with
 | zero=>cases i <;> rfl
 | succ j =>
  cases i with
  | zero=>rfl
  | succ i =>
   show ((if 0 < rl A B okx alo blo bhi i j then some (rl A B okx alo blo bhi i j) else none).getD 0:Nat) = rl A B okx alo blo bhi i j
   split
   ·rfl
   ·simp; lia
theorem rngL_get {a b:Int} {n:Nat} {x:AV} (h:(rngL a b)[n]? = some x):n < (b - a).toNat ∧ x = .int (a + (n:Nat)):=by
 unfold rngL at h
 rw [List.getElem?_map,Option.map_eq_some_iff] at h
 obtain ⟨n',hn',e⟩:=h
 obtain ⟨h1,h2⟩:=List.getElem?_eq_some_iff.mp hn'
 rw [List.getElem_range] at h2
 rw [List.length_range] at h1
 subst h2
 exact ⟨h1,e.symm⟩
theorem tup3_int {a b c a' b' c':Int} (h1:a = a') (h2:b = b') (h3:c = c'):AV.tup [.int a,.int b,.int c] = .tup [.int a',.int b',.int c']:=by subst h1 h2 h3; rfl
noncomputable def inr (blo bhi:Nat) (l:List Nat):List Nat:=l.filter fun j=>decide (blo ≤ j) && decide (j < bhi)
theorem inr_snoc {blo bhi j:Nat} {l:List Nat}:inr blo bhi (l ++ [j]) = inr blo bhi l ++ if blo ≤ j ∧ j < bhi then [j] else []:=by
 unfold inr
 rw [List.filter_append,List.filter_cons,List.filter_nil]
 by_cases h:blo ≤ j ∧ j < bhi
 ·rw [if_pos h,if_pos (by simp [h.1,h.2])]
 ·rw [if_neg h,if_neg (by simp only [Bool.and_eq_true,decide_eq_true_eq]; exact h)]
theorem inr_cut {blo bhi t:Nat} {l:List Nat} (hs:l.Pairwise (· < ·)) {j:Nat} (hj:l[t]? = some j) (h:bhi ≤ j):inr blo bhi l = inr blo bhi (l.take t):=by
 have e:l = l.take t ++ l.drop t:=(List.take_append_drop t l).symm
 conv=>lhs; rw [e]
 unfold inr
 rw [List.filter_append]
 have:(l.drop t).filter (fun j=>decide (blo ≤ j) && decide (j < bhi)) = []:=by
  rw [List.filter_eq_nil_iff]
  intro z hz
  obtain ⟨i,hi,rfl⟩:=List.getElem_of_mem hz
  rw [List.getElem_drop]
  obtain ⟨h1,h2⟩:=List.getElem?_eq_some_iff.mp hj
  have:j ≤ l[t + i]'(by rw [List.length_drop] at hi; lia):=by
   by_cases q:i = 0
   ·subst q; simp only [Nat.add_zero]; lia
   ·rw [List.pairwise_iff_getElem] at hs
    have:=hs t (t + i) h1 (by rw [List.length_drop] at hi; lia) (by lia)
    lia
  simp only [Bool.and_eq_true,decide_eq_true_eq,not_and,Nat.not_lt]
  intro _; lia
 rw [this,List.append_nil]
noncomputable def partP (A B:List Int) (okx:Int → Bool) (alo blo bhi i:Nat) (l:List Nat):Nat → Option Nat:=fun j=>if j ∈ l then some (rl A B okx alo blo bhi i j) else none
theorem partP_snoc {A B:List Int} {okx:Int → Bool} {alo blo bhi i j:Nat} {l:List Nat}:updN (partP A B okx alo blo bhi i l) j (rl A B okx alo blo bhi i j) = partP A B okx alo blo bhi i (l ++ [j]):=by
 funext z
 unfold updN partP
 by_cases h:z = j
 ·subst h; simp
 ·rw [if_neg h]; simp [h]
theorem partP_nil {A B:List Int} {okx:Int → Bool} {alo blo bhi i:Nat}:partP A B okx alo blo bhi i [] = fun _=>none:=by
 funext z; unfold partP; simp
theorem partP_full {A B:List Int} {okx:Int → Bool} {idx:Int → List Nat} {alo blo bhi i:Nat} (hI:IdxOk B okx idx) (ha:alo ≤ i) (hi:i < A.length):partP A B okx alo blo bhi i (jsAt A idx blo bhi i) = rowP A B okx alo blo bhi (i + 1):=by
 funext j
 unfold partP
 show _ = if 0 < rl A B okx alo blo bhi i j then some (rl A B okx alo blo bhi i j) else none
 have:j ∈ jsAt A idx blo bhi i ↔ 0 < rl A B okx alo blo bhi i j:=by
  rw [rl_pos]
  unfold jsAt hit
  rw [List.mem_filter,hI.mem]
  have e:A[i]? = some (A.getD i 0):=by simp [List.getD,hi]
  simp only [Bool.and_eq_true,decide_eq_true_eq]
  constructor
  ·rintro ⟨⟨h1,h2⟩,h3,h4⟩
   exact ⟨ha,h3,h4,_,e,h2,h1⟩
  ·rintro ⟨_,h3,h4,x,h5,h6,h7⟩
   rw [e] at h5; cases h5
   exact ⟨⟨h7,h6⟩,h3,h4⟩
 simp only [this]
theorem sub_set {d:Option AV}:∀ {sig:List (Option AV)} {k:Nat},sig[k]? = some none → Sub sig (sig.set k d)
 | [],k,h=>by simp at h
 | none :: r,0,h=>Sub.refl (a:=r)
 | some e :: r,0,h=>by simp at h
 | none :: r,k + 1,h=>sub_set (sig:=r) (by simpa using h)
 | some e :: r,k + 1,h=>⟨rfl,sub_set (sig:=r) (by simpa using h)⟩
theorem Sub.trans:∀ {a b c:List (Option AV)},Sub a b → Sub b c → Sub a c
 | [],_,_,_,_=>trivial
 | none :: r,_ :: t,[],h,h'=>by
  cases r with
  | nil=>trivial
  | cons x r=>exact Sub.trans (a:=x :: r) (b:=t) (c:=[]) h (by cases t with | nil=>trivial | cons y t=>rename_i o; cases o <;> simp_all [Sub])
 | none :: r,o :: t,p :: u,h,h'=>Sub.trans (a:=r) (b:=t) (c:=u) h (by cases o with | none=>exact h' | some d=>exact h'.2)
 | none :: r,[],c,h,h'=>by cases c with | nil=>exact h | cons p u=>exact Sub.trans (a:=r) (b:=[]) (c:=u) h trivial
 | some d :: r,o :: t,[],h,h'=>by rw [h.1] at h'; exact h'.elim
 | some d :: r,o :: t,p :: u,h,h'=>by rw [h.1] at h'; exact ⟨h'.1,Sub.trans h.2 h'.2⟩
 | some d :: r,[],_,h,_=>h.elim
theorem sorted_len {l:List Nat} {N:Nat} (h:l.Pairwise (· < ·)) (hb:∀ x ∈ l,x < N):l.length ≤ N:=by
 have key:∀ (i:Nat) (hi:i < l.length),i ≤ l[i]:=by
  intro i
  induction i with
  | zero=>intro _; lia
  | succ i ih =>
   intro hi
   rw [List.pairwise_iff_getElem] at h
   have:=h i (i + 1) (by lia) hi (by lia)
   have:=ih (by lia)
   lia
 by_cases q:l.length = 0
 ·lia
 ·have h1:=key (l.length - 1) (by lia)
  have h2:=hb _ (List.getElem_mem (l:=l) (n:=l.length - 1) (by lia))
  lia
theorem up1_eq {A B:List Int} {okx:Int → Bool} {alo blo bhi i j:Nat} {b:N3}:up1 A B okx alo blo bhi b (i,j) = if rl A B okx alo blo bhi i j > b.2.2 then (i + 1 - rl A B okx alo blo bhi i j,j + 1 - rl A B okx alo blo bhi i j,rl A B okx alo blo bhi i j) else b:=rfl
theorem cands_mem {A:List Int} {idx:Int → List Nat} {alo blo bhi n:Nat} {c:Nat × Nat} (h:c ∈ cands A idx alo blo bhi n):c.1 < alo + n ∧ c.2 < bhi:=by
 unfold cands at h
 rw [List.mem_flatMap] at h
 obtain ⟨i,h1,h2⟩:=h
 rw [List.mem_map] at h2
 obtain ⟨j,h3,rfl⟩:=h2
 unfold jsAt at h3
 rw [List.mem_filter] at h3
 rw [List.mem_range'_1] at h1
 simp only [Bool.and_eq_true,decide_eq_true_eq] at h3
 exact ⟨h1.2,h3.2.2⟩
theorem best_bd {A B:List Int} {okx:Int → Bool} {alo blo bhi:Nat} {cs:List (Nat × Nat)} {M N:Nat} (h:∀ c ∈ cs,c.1 < M ∧ c.2 < N) (ha:alo ≤ M) (hb:blo ≤ N):(bestOf A B okx alo blo bhi cs).1 ≤ M ∧ (bestOf A B okx alo blo bhi cs).2.1 ≤ N:=by
 unfold bestOf
 suffices ∀ b:N3,b.1 ≤ M → b.2.1 ≤ N → (cs.foldl (up1 A B okx alo blo bhi) b).1 ≤ M ∧ (cs.foldl (up1 A B okx alo blo bhi) b).2.1 ≤ N from this _ ha hb
 induction cs with
 | nil=>intro b h1 h2; exact ⟨h1,h2⟩
 | cons c cs ih =>
  intro b h1 h2
  have hc:=h c List.mem_cons_self
  refine ih (fun c hc=>h c (List.mem_cons_of_mem _ hc)) _ ?_ ?_
  ·unfold up1; split
   ·exact Nat.le_trans (Nat.sub_le _ _) hc.1
   ·exact h1
  ·unfold up1; split
   ·exact Nat.le_trans (Nat.sub_le _ _) hc.2
   ·exact h2
theorem getD_some {l:List Int} {i:Nat} (h:i < l.length):l[i]? = some (l.getD i 0):=by simp [List.getD,h]
noncomputable def matN (C:Addr) (n:N3):AV:=mat C [.int (n.1:Nat),.int (n.2.1:Nat),.int (n.2.2:Nat)]
section
variable {prog:Program} {w:World} {F:Fn} {sig:List (Option AV)} {om:Om}
theorem c_match (ok:F.Ok) (hk:SeesK (frag w.params) F.G) (room:Room F.A 3) {d1 d2 d3:AV}:OpC prog w F om (.ref 135) [d1,d2,d3] (mat 135 [d1,d2,d3]) :=
 c_tupcls ok hk (mc_tup w.params) (mc_reads w.params) (mc_new w.params) (mc_stat w.params) hk sk_mono room mnew_spec.fn
theorem callee_cls {K:Frag} {C:Addr} {o:Obj} {cd:ClassData} (hk:SeesK K F.G) (ho:K.lookup C = some o) (hd:o.data = .cls cd) (hs:specialIn K (.ref C) "__call__" = some (some (.builtin "type.__call__"))):Callee prog w F (.ref C):=fun hp hG=>⟨.machine,.inr (.inl rfl),fun A Q E s k q=>by
 have X:K.In s.heap:=fun a o e=>k _ _ (hG _ _ (hk a o e))
 unfold keeperOf
 refine wpAny_bind (wpAny_load (X _ _ ho) ?_)
 rw [hd]
 refine wpAny_bind ((looks_specialIn X hs).here ?_)
 exact wpAny_pure q⟩
end
example:True:=by
 k_with "m glo" => (first
  | with_reducible exact g_len (by assumption) (by assumption) (by assumption)
  | with_reducible exact g_range (by assumption) (by assumption) (by assumption)
  | with_reducible exact g_Match (by assumption) (by assumption))
 trivial
noncomputable def fd_flm (P:Params):FuncData:=fdOf (fo196 P)
theorem def_flm (P:Params):defIn (frag P) 196 (fd_flm P):=defIn_of (fo196 P) (by kernel_rfl) (by kernel_rfl) (by kernel_rfl)
theorem sig_flm {P:Params} {a0 a1 a2 a3 a4:AV}:sigOf (fd_flm P).scope.names ["self", "alo", "ahi", "blo", "bhi"] [a0,a1,a2,a3,a4] = [some a0,some a1,some a2,some a3,some a4,none,none,none,none,none,none,none,none,none,none,none,none,none,none,none,none,none]:=by kernel_rfl
theorem ok_flm (P:Params):DefOk (fd_flm P) ["self", "alo", "ahi", "blo", "bhi"]:=defOk_of rfl (of_decide_eq_true (by kernel_rfl)) (by kernel_rfl) (of_decide_eq_true (by kernel_rfl)) (by kernel_rfl)
noncomputable def nl_flm:List (PySem.Str × NameKind):=[("self",.local),("alo",.local),("ahi",.local),("blo",.local),("bhi",.local),("a",.local),("b",.local),("b2j",.local),("isbjunk",.local),("besti",.local),("bestj",.local),("bestsize",.local),("j2len",.local),("nothing",.local),("i",.local),("j2lenget",.local),("newj2len",.local),("j",.local),("k",.local),("len",.globalImplicit),("range",.globalImplicit),("Match",.globalImplicit)]
theorem names_flm (P:Params):(fd_flm P).scope.names = nl_flm:=by kernel_rfl
noncomputable def flSig (x dx:Addr) (A B:List Int) (idx:Int → List Nat) (m alo ahi blo bhi:Nat) (prog:Program) (w:World) (b:N3) (jl:AV):List (Option AV) :=
 [some (mInst x dx),some (.int alo),some (.int ahi),some (.int blo),some (.int bhi),some (il A),some (il B),some (dct (b2jI idx) m),some (bnd "set.__contains__" (set0A prog w)),some (.int b.1),some (.int b.2.1),some (.int b.2.2),some jl,some (.lst []),none,none,none,none,none,none,none,none]
noncomputable def rowSig (x dx:Addr) (A B:List Int) (idx:Int → List Nat) (m alo ahi blo bhi:Nat) (prog:Program) (w:World) (b:N3) (jl:AV) (i:Nat) (D:Addr):List (Option AV) :=
 [some (mInst x dx),some (.int alo),some (.int ahi),some (.int blo),some (.int bhi),some (il A),some (il B),some (dct (b2jI idx) m),some (bnd "set.__contains__" (set0A prog w)),some (.int b.1),some (.int b.2.1),some (.int b.2.2),some jl,some (.lst []),some (.int i),some (bnd "dict.get" jl),some (.ptr D),none,none,none,none,none]
theorem sub_row {x dx:Addr} {A B:List Int} {idx:Int → List Nat} {m alo ahi blo bhi:Nat} {prog:Program} {w:World} {b:N3} {jl jl' jl'':AV} {i:Nat} {D:Addr} :
  Sub (flSig x dx A B idx m alo ahi blo bhi prog w b jl) (((rowSig x dx A B idx m alo ahi blo bhi prog w b jl' i D).set 12 (some jl'')).set 12 (some jl)):=by
 unfold flSig rowSig
 exact ⟨rfl,rfl,rfl,rfl,rfl,rfl,rfl,rfl,rfl,rfl,rfl,rfl,rfl,rfl,trivial⟩
set_option maxHeartbeats 20000000 in
theorem pred_lt {lo b n:Nat} (h:lo < b) (h2:b ≤ n):b - 1 < n:=Nat.lt_of_lt_of_le (Nat.sub_lt (Nat.lt_of_le_of_lt (Nat.zero_le _) h) Nat.one_pos) h2
theorem gd_pred {l:List Int} {b lo:Nat} (q:(b:Int) > lo) (h:b ≤ l.length):l[((b:Int) - 1).toNat]? = some (l.getD (b - 1) 0):=by rw [show ((b:Int) - 1).toNat = b - 1 from Int.toNat_sub b 1]; exact getD_some (pred_lt (Int.ofNat_lt.mp q) h)
theorem gd_sum {l:List Int} {b s hi:Nat} (q:(b:Int) + s < hi) (h:hi ≤ l.length):l[((b:Int) + s).toNat]? = some (l.getD (b + s) 0):=getD_some (Nat.lt_of_lt_of_le (Int.ofNat_lt.mp q) h)
theorem pos_of {lo b:Nat} (q:(lo:Int) < b):0 < b:=Nat.lt_of_le_of_lt (Nat.zero_le _) (Int.ofNat_lt.mp q)
theorem meas_up {l s n:Nat} (hn:n = l - s) (h:s < l):l - (s + 1) < n:=by subst hn; exact Nat.sub_succ_lt_self l s h
theorem fuel_up {l f s:Nat} (h:l ≤ f + s):l ≤ f - 1 + (s + 1):=by omega
theorem big_lo {a:Nat}:-(2 ^ 62) ≤ (a:Int):=by omega
theorem big_hi {a n:Nat} (h:a ≤ n) (h2:n ≤ 1000000):(a:Int) < 2 ^ 62:=by omega
theorem flm_spec {prog:Program} {w:World} {x dx:Addr} {as:List (PySem.Str × AV)} {A B:List Int} {okx:Int → Bool} {idx:Int → List Nat} {m alo ahi blo bhi:Nat} (hI:IdxOk B okx idx) (va:as.lookup (Str.ofString "a") = some (il A)) (vb:as.lookup (Str.ofString "b") = some (il B)) (vj:as.lookup (Str.ofString "b2j") = some (dct (b2jI idx) m)) (vk:as.lookup (Str.ofString "bjunk") = some (set0A prog w))
  (ha:ahi ≤ A.length) (hb:bhi ≤ B.length) (hsa:A.length ≤ 1000000) (hsb:B.length ≤ 1000000) (hal:alo ≤ A.length) (hbl:blo ≤ B.length) :
  ImpC prog w (SK w) 6 (.ref 196) [mInst x dx,.int alo,.int ahi,.int blo,.int bhi] [(dx,AttO as)] fun d om₂=>d = matN 135 (flm A B okx idx alo ahi blo bhi) ∧ om₂ = [(dx,AttO as)]:=by
 refine imp_defL (K:=frag w.params) (dd:=[]) (dv:=[]) (ok_flm w.params) (fun V hV=>defAt_of hV (def_flm w.params) (stat w.params) rfl rfl) rfl (fun V=>RepL.nil) (fun h vs hX hv=>?_) (fun xAr xG xs xB room fok=>?_)
 ·obtain ⟨v0,v1,v2,v3,v4,rfl⟩:=len5 hv
  exact Looks.of_peek hX (by kernel_rfl)
 rw [List.append_nil,sig_flm]
 have xg:(fnAt (fd_flm w.params) 196 xAr xG xs).env.globals = mainGlobals:=rfl
 have xb:(fnAt (fd_flm w.params) 196 xAr xG xs).env.builtins = builtinsNs:=rfl
 have hk:SeesK (frag w.params) (fnAt (fd_flm w.params) 196 xAr xG xs).G:=xB
 have xN:(fnAt (fd_flm w.params) 196 xAr xG xs).names = (fd_flm w.params).scope.names:=rfl
 have xA:Room (fnAt (fd_flm w.params) 196 xAr xG xs).A _:=room
 have xn:(fnAt (fd_flm w.params) 196 xAr xG xs).n₀ = xs.heap.objs.size:=rfl
 have xi:interactive (fnAt (fd_flm w.params) 196 xAr xG xs).env = false:=rfl
 have xS:(fnAt (fd_flm w.params) 196 xAr xG xs).env.scope = (fd_flm w.params).scope:=rfl
 generalize fnAt (fd_flm w.params) 196 xAr xG xs = F at fok xg xb hk xN xA xn xi xS ⊢
 have xN1:=xN.trans (names_flm w.params)
 have xn0:At F "self" 0 .local:=at_nl fok xN1 0 rfl (by kernel_rfl)
 have xn1:At F "alo" 1 .local:=at_nl fok xN1 1 rfl (by kernel_rfl)
 have xn2:At F "ahi" 2 .local:=at_nl fok xN1 2 rfl (by kernel_rfl)
 have xn3:At F "blo" 3 .local:=at_nl fok xN1 3 rfl (by kernel_rfl)
 have xn4:At F "bhi" 4 .local:=at_nl fok xN1 4 rfl (by kernel_rfl)
 have xn5:At F "a" 5 .local:=at_nl fok xN1 5 rfl (by kernel_rfl)
 have xn6:At F "b" 6 .local:=at_nl fok xN1 6 rfl (by kernel_rfl)
 have xn7:At F "b2j" 7 .local:=at_nl fok xN1 7 rfl (by kernel_rfl)
 have xn8:At F "isbjunk" 8 .local:=at_nl fok xN1 8 rfl (by kernel_rfl)
 have xn9:At F "besti" 9 .local:=at_nl fok xN1 9 rfl (by kernel_rfl)
 have xn10:At F "bestj" 10 .local:=at_nl fok xN1 10 rfl (by kernel_rfl)
 have xn11:At F "bestsize" 11 .local:=at_nl fok xN1 11 rfl (by kernel_rfl)
 have xn12:At F "j2len" 12 .local:=at_nl fok xN1 12 rfl (by kernel_rfl)
 have xn13:At F "nothing" 13 .local:=at_nl fok xN1 13 rfl (by kernel_rfl)
 have xn14:At F "i" 14 .local:=at_nl fok xN1 14 rfl (by kernel_rfl)
 have xn15:At F "j2lenget" 15 .local:=at_nl fok xN1 15 rfl (by kernel_rfl)
 have xn16:At F "newj2len" 16 .local:=at_nl fok xN1 16 rfl (by kernel_rfl)
 have xn17:At F "j" 17 .local:=at_nl fok xN1 17 rfl (by kernel_rfl)
 have xn18:At F "k" 18 .local:=at_nl fok xN1 18 rfl (by kernel_rfl)
 have xn19:At F "len" 19 .globalImplicit:=at_nl fok xN1 19 rfl (by kernel_rfl)
 have xn20:At F "range" 20 .globalImplicit:=at_nl fok xN1 20 rfl (by kernel_rfl)
 have xn21:At F "Match" 21 .globalImplicit:=at_nl fok xN1 21 rfl (by kernel_rfl)
 refine ex_low (hk 242 (fo242 w.params) (by kernel_rfl)) fun hlow=>?_
 walk_at "m doc"
 refine ex_seq (sig':=flSig x dx A B idx m alo ahi blo bhi prog w (0,0,0) .none |>.set 9 none |>.set 10 none |>.set 11 none |>.set 12 none |>.set 13 none) (om':=[(dx,AttO as)]) (ex_assign_tuple (ev_tuple fok (ds:=[il A,il B,dct (b2jI idx) m,bnd "set.__contains__" (set0A prog w)]) (evl_consX (by walk_at "m ev") (evl_consX (by walk_at "m ev") (evl_consX (by walk_at "m ev") (evl_consX (ev_set_contains fok (by walk_at "m ev")) evl_nil rfl) rfl) rfl) rfl) (show 4 ≤ sizeLine by decide)) (as_tuple fok (asl_cons (as_name fok (k:=5) (by walk_at "m st")) (asl_cons (as_name fok (k:=6) (by walk_at "m st")) (asl_cons (as_name fok (k:=7) (by walk_at "m st")) (asl_cons (as_name fok (k:=8) (by walk_at "m st")) asl_nil)))) rfl) rfl rfl) ?_
 refine ex_ifF (tst_cmpX (d₁:=.int ahi) (d₂:=.none) (by walk_at "m ev") (by walk_at "m ev") (op_is_none fun V v h=>by simp only [Rep] at h; obtain ⟨t,rfl⟩:=h; rfl) rfl) (ex_nilX ?_)
 refine ex_ifF (tst_cmpX (d₁:=.int bhi) (d₂:=.none) (by walk_at "m ev") (by walk_at "m ev") (op_is_none fun V v h=>by simp only [Rep] at h; obtain ⟨t,rfl⟩:=h; rfl) rfl) (ex_nilX ?_)
 refine ex_swap3 fok (k₁:=9) (k₂:=10) (k₃:=11) (by walk_at "m st") (by walk_at "m st") (by walk_at "m st") (by walk_at "m ev") rfl ((swS xS _ _).trans (by kernel_rfl)) ?_
 refine ex_assignO fok (k:=12) (by walk_at "m st") (evx_dict fok (P:=fun d om'=>∃ D,F.n₀ ≤ D ∧ d = .ptr D ∧ om' = (D,DctO (fun _=>none) 0) :: [(dx,AttO as)]) fun D hD=>⟨D,hD,rfl,rfl⟩) ?_ rfl
 rintro d om₁ ⟨D,hD,rfl,rfl⟩
 refine ex_cast fok .here hD (key_dct (Nat.lt_of_lt_of_le (Nat.lt_trans (by decide) hlow) hD)) (SigCast.set (k:=12) rfl) OmCast.refl ?_
 walk_at "m assign"
 refine ex_cons (P₁:=fun o=>∃ m',o = .nxt (flSig x dx A B idx m alo ahi blo bhi prog w (bestOf A B okx alo blo bhi (cands A idx alo blo bhi (ahi - alo))) (dct (natD (rowP A B okx alo blo bhi (alo + (ahi - alo)))) m')) [(dx,AttO as)])
  (ex_for2 fok (d:=.rng alo ahi) (xs:=rngL alo ahi) (by walk_at "m ev") (itr_rng fok big_lo (big_hi hal hsa) big_lo (big_hi ha hsa))
   (fun n sig om=>∃ m',sig = flSig x dx A B idx m alo ahi blo bhi prog w (bestOf A B okx alo blo bhi (cands A idx alo blo bhi n)) (dct (natD (rowP A B okx alo blo bhi (alo + n))) m') ∧ om = [(dx,AttO as)])
   ⟨_,Sub.refl,0,?_,rfl⟩ ?_ ?_ (by intro _; rfl)) ?_
 ·rw [rowP_first,natD_none]; rfl
 ·-- a row
  rintro n _ sig om hx ⟨m',rfl,rfl⟩
  obtain ⟨hn,rfl⟩:=rngL_get hx
  have hn:n < ahi - alo:=by lia
  have hai:alo + n < A.length:=by lia
  have hAi:A[((alo:Int) + (n:Nat)).toNat]? = some (A.getD (alo + n) 0):=by
   rw [show ((alo:Int) + (n:Nat)).toNat = alo + n by first | rfl | lia]; simp [List.getD,hai]
  rw [show ((alo:Int) + (n:Nat)) = ((alo + n:Nat):Int) by first | rfl | lia] at hAi ⊢
  generalize hgi:alo + n = i at hai hAi
  have hali:alo ≤ i:=by lia
  generalize hL:idx (A.getD i 0) = L
  have hLs:L.Pairwise (· < ·):=hL ▸ hI.sorted _
  have hLm:∀ j,j ∈ L → okx (A.getD i 0) = true ∧ B[j]? = some (A.getD i 0):=fun j hj=>(hI.mem _ j).mp (hL ▸ hj)
  have hLn:L.length ≤ B.length:=sorted_len hLs fun j hj=>(List.getElem?_eq_some_iff.mp (hLm j hj).2).1
  refine ⟨_,as_name fok (k:=14) (by walk_at "m st"),?_⟩
  refine ex_assignX fok (k:=15) (by walk_at "m st") (ev_dict_get fok (by walk_at "m ev")) rfl ?_
  refine ex_assignO fok (k:=16) (by walk_at "m st") (evx_dict fok (P:=fun d om'=>∃ D,F.n₀ ≤ D ∧ d = .ptr D ∧ om' = (D,DctO (fun _=>none) 0) :: [(dx,AttO as)]) fun D hD=>⟨D,hD,rfl,rfl⟩) ?_ rfl
  rintro d om₁ ⟨D',hD',rfl,rfl⟩
  refine ex_cons (P₁:=fun o=>∃ mm,o = .nxt (rowSig x dx A B idx m alo ahi blo bhi prog w (bestOf A B okx alo blo bhi (cands A idx alo blo bhi n ++ (inr blo bhi L).map fun j=>(i,j))) (dct (natD (rowP A B okx alo blo bhi i)) m') i D') [(D',DctO (natD (partP A B okx alo blo bhi i (inr blo bhi L))) mm),(dx,AttO as)])
   (ex_for2 fok (d:=nl L) (xs:=L.map fun (j:Nat)=>AV.int (j:Int)) (ev_eq (ev_of (evx_methX _ (by walk_at "m ev") (gets_dct PySem.F.slot_dict_get PySem.F.type_dict_get) callee_builtin (evxl_of (ds:=[.int (A.getD i 0),.lst []]) (by walk_at "m evl") (opx_of c_dict_get ⟨rfl,rfl⟩)) rfl rfl)) (by rw [b2jI_get,hL])) (itr_list fok)
    (fun t sig om=>∃ mm,mm ≤ t ∧ sig = rowSig x dx A B idx m alo ahi blo bhi prog w (bestOf A B okx alo blo bhi (cands A idx alo blo bhi n ++ (inr blo bhi (L.take t)).map fun j=>(i,j))) (dct (natD (rowP A B okx alo blo bhi i)) m') i D' ∧ om = [(D',DctO (natD (partP A B okx alo blo bhi i (inr blo bhi (L.take t)))) mm),(dx,AttO as)])
    ⟨_,Sub.refl,0,Nat.le_refl _,?_,?_⟩ ?_ ?_ (by intro _; rfl)) ?_
  ·rw [List.take_zero]
   show _ = rowSig x dx A B idx m alo ahi blo bhi prog w (bestOf A B okx alo blo bhi (cands A idx alo blo bhi n ++ [])) _ i D'
   rw [List.append_nil]; rfl
  ·rw [List.take_zero]
   show _ = [(D',DctO (natD (partP A B okx alo blo bhi i [])) 0),(dx,AttO as)]
   rw [partP_nil,natD_none]
  ·-- one place
   rintro t _ sig om hx ⟨mm,hmm,rfl,rfl⟩
   rw [List.getElem?_map,Option.map_eq_some_iff] at hx
   obtain ⟨j,hj,rfl⟩:=hx
   have hjL:j ∈ L:=List.mem_of_getElem? hj
   obtain ⟨hok,hBj⟩:=hLm j hjL
   have hjb:j < B.length:=(List.getElem?_eq_some_iff.mp hBj).1
   have ht:t < L.length:=(List.getElem?_eq_some_iff.mp hj).1
   have htk:L.take (t + 1) = L.take t ++ [j]:=by rw [List.take_add_one,hj]; rfl
   have hsl:(1000000:Nat) ≤ sizeLine:=by decide
   generalize hjl:dct (natD (rowP A B okx alo blo bhi i)) m' = jl
   refine ⟨_,as_name fok (k:=17) (by walk_at "m st"),?_⟩
   refine ex_ifX (by walk_at "m tst") (fun c=>?_) (fun c=>ex_nilX ?_)
   ·refine ex_continueX ?_
    refine ⟨_,sub_set (by rfl),mm,by lia,?_,?_⟩
    ·rw [htk,inr_snoc,if_neg (by simp at c; lia),List.append_nil]
    ·rw [htk,inr_snoc,if_neg (by simp at c; lia),List.append_nil]
   refine ex_ifX (by walk_at "m tst") (fun c2=>?_) (fun c2=>ex_nilX ?_)
   ·refine ex_breakX ⟨_,sub_set (by rfl),mm,?_⟩
    rw [inr_cut hLs hj (by simp at c2; lia)]
   have c1:blo ≤ j:=by simp at c; lia
   have c2:j < bhi:=by simp at c2; lia
   have hh:hit A B okx alo blo bhi i j:=⟨hali,c1,c2,A.getD i 0,by simp [List.getD,hai],hBj,hok⟩
   have hrl:=rl_hit hh
   have hrle:=rl_le (A:=A) (B:=B) (ok:=okx) (alo:=alo) (blo:=blo) (bhi:=bhi) i j
   refine ex_seq (sig':=_) (om':=[(D',DctO (natD (partP A B okx alo blo bhi i (inr blo bhi (L.take t) ++ [j]))) (mm + 1)),(dx,AttO as)]) (exx_two (P:=fun d om'=>d = .int ((rl A B okx alo blo bhi i j:Nat):Int) ∧ om' = _) (evx_of (ev_eq (ev_binop (ev_eq (ev_bcall (id := "dict.get") (d₀:=dct (natD (rowP A B okx alo blo bhi i)) m') (ds:=[.int ((j:Int) - 1),.int 0]) (by rw [hjl]; walk_at "m ev") (by walk_at "m evl") b_dict_get) natD_get) (by walk_at "m ev") op_add) (by rw [pget_row,hrl]; rfl)) ⟨rfl,rfl⟩)
    (fun d om' he=>by
     obtain ⟨rfl,rfl⟩:=he
     exact ⟨_,_,_,_,asx_of (as_name fok (k:=18) (by walk_at "m st")),asx_item (by walk_at "m ev") (by walk_at "m ev") (by lia) .here,by rw [natD_upd,partP_snoc]⟩) rfl rfl) ?_
   have hbest:bestOf A B okx alo blo bhi (cands A idx alo blo bhi n ++ (inr blo bhi (L.take (t + 1))).map fun j=>(i,j)) = up1 A B okx alo blo bhi (bestOf A B okx alo blo bhi (cands A idx alo blo bhi n ++ (inr blo bhi (L.take t)).map fun j=>(i,j))) (i,j):=by
    rw [htk,inr_snoc,if_pos ⟨c1,c2⟩,List.map_append,← List.append_assoc]
    exact bestOf_snoc
   have hin:inr blo bhi (L.take (t + 1)) = inr blo bhi (L.take t) ++ [j]:=by rw [htk,inr_snoc,if_pos ⟨c1,c2⟩]
   rw [hbest,hin]
   generalize bestOf A B okx alo blo bhi (cands A idx alo blo bhi n ++ (inr blo bhi (L.take t)).map fun j=>(i,j)) = bb
   rw [up1_eq]
   refine ex_ifX (by walk_at "m tst") (fun c3=>?_) (fun c3=>ex_nilX ?_)
   ·rw [if_pos (by simp at c3; lia)]
    refine ex_swap3 fok (k₁:=9) (k₂:=10) (k₃:=11) (by walk_at "m st") (by walk_at "m st") (by walk_at "m st") (ev_eq (by walk_at "m ev") (tup3_int (a':=((i + 1 - rl A B okx alo blo bhi i j:Nat):Int)) (b':=((j + 1 - rl A B okx alo blo bhi i j:Nat):Int)) (c':=((rl A B okx alo blo bhi i j:Nat):Int)) (back_cast (Nat.le_trans hrle.1 (Nat.sub_le _ _))) (back_cast (Nat.le_trans hrle.2 (Nat.sub_le _ _))) rfl)) rfl ((swS xS _ _).trans (by kernel_rfl)) (ex_nilX ?_)
    exact ex_nil ⟨_,Sub.trans (sub_set (k:=17) (by rfl)) (sub_set (k:=18) (by rfl)),mm + 1,by lia,rfl,rfl⟩
   ·rw [if_neg (by simp at c3; lia)]
    exact ex_nil ⟨_,Sub.trans (sub_set (k:=17) (by rfl)) (sub_set (k:=18) (by rfl)),mm + 1,by lia,rfl,rfl⟩
  ·rintro sig om ⟨mm,_,rfl,rfl⟩
   refine ⟨mm,?_⟩
   rw [List.length_map,List.take_length]
  ·rintro o ⟨mm,rfl⟩
   walk_at "m assign"
   refine ex_cast fok .here hD' (key_dct (Nat.lt_of_lt_of_le (Nat.lt_trans (by decide) hlow) hD')) (SigCast.set (k:=12) rfl) OmCast.refl ?_
   have e1:inr blo bhi L = jsAt A idx blo bhi i:=by unfold jsAt inr; rw [hL]
   have e2:cands A idx alo blo bhi (n + 1) = cands A idx alo blo bhi n ++ (jsAt A idx blo bhi i).map fun j=>(i,j):=by rw [cands_succ,hgi]
   have e3:alo + (n + 1) = i + 1:=by first | rfl | lia
   rw [e1,partP_full hI hali hai,← e2]
   refine ex_nil ⟨_,sub_row,mm,by rw [e3],rfl⟩
 ·rintro sig om ⟨m',rfl,rfl⟩
  refine ⟨m',?_⟩
  have:(rngL alo ahi).length = ahi - alo:=by unfold rngL; rw [List.length_map,List.length_range]; exact Int.toNat_sub _ _
  rw [this]
 rintro o ⟨m',rfl⟩
 obtain ⟨hb1,hb2⟩:=best_bd (A:=A) (B:=B) (okx:=okx) (alo:=alo) (blo:=blo) (bhi:=bhi) (cs:=cands A idx alo blo bhi (ahi - alo)) (M:=A.length) (N:=B.length) (fun c hc=>by
  have:=cands_mem hc
  exact ⟨by lia,by lia⟩) hal hbl
 unfold flm
 generalize bestOf A B okx alo blo bhi (cands A idx alo blo bhi (ahi - alo)) = b0 at hb1 hb2
 generalize dct (natD (rowP A B okx alo blo bhi (alo + (ahi - alo)))) m' = jl
 refine ex_cons (P₁:=fun o=>∃ b1:N3,b1.1 ≤ A.length ∧ b1.2.1 ≤ B.length ∧ extD A B alo blo A.length b0 = b1 ∧ o = .nxt (flSig x dx A B idx m alo ahi blo bhi prog w b1 jl) [(dx,AttO as)])
  (ex_while2 (fun n sig om=>∃ (b:N3) (f:Nat),n = b.1 ∧ b.1 ≤ A.length ∧ b.2.1 ≤ B.length ∧ b.1 ≤ f ∧ extD A B alo blo A.length b0 = extD A B alo blo f b ∧ sig = flSig x dx A B idx m alo ahi blo bhi prog w b jl ∧ om = [(dx,AttO as)]) b0.1 ⟨_,Sub.refl,b0,A.length,rfl,hb1,hb2,hb1,rfl,rfl,rfl⟩ ?_) ?_
 ·rintro n _ _ ⟨⟨bi,bj,bs⟩,f,hn,h1,h2,h3,h4,rfl,rfl⟩
  dsimp only at hn h1 h2 h3 h4
  refine ⟨_,tst_bool (all_cons (by walk_at "m tst") fun q1=>all_cons (by walk_at "m tst") fun q2=>all_cons (tst_not (tst_valueX (ev_bcall (id := "set.__contains__") (d₀:=set0A prog w) (ds:=[.int (B.getD (bj - 1) 0)]) (by walk_at "m ev") (by
    have q2:(bj:Int) > blo:=by simpa using q2
    have g1:B[((bj:Int) - 1).toNat]? = some (B.getD (bj - 1) 0):=gd_pred q2 h2
    walk_at "m evl") b_set_contains) tru_bool (by intro _; rfl))) fun _=>all_cons (tst_cmpX (d₁:=.int (A.getD (bi - 1) 0)) (d₂:=.int (B.getD (bj - 1) 0)) (by
    have q1:(bi:Int) > alo:=by simpa using q1
    have g1:A[((bi:Int) - 1).toNat]? = some (A.getD (bi - 1) 0):=gd_pred q1 h1
    walk_at "m ev") (by
    have q2:(bj:Int) > blo:=by simpa using q2
    have g1:B[((bj:Int) - 1).toNat]? = some (B.getD (bj - 1) 0):=gd_pred q2 h2
    walk_at "m ev") op_eq_int rfl) fun _=>all_nil),fun c=>?_,fun c=>?_⟩
  ·refine ⟨(bi,bj,bs),h1,h2,?_,rfl⟩
   rw [h4]
   cases f with
   | zero=>rfl
   | succ f =>
    show (if alo < bi ∧ blo < bj ∧ A[bi - 1]? = B[bj - 1]? then _ else _) = _
    rw [if_neg]
    rintro ⟨z1,z2,z3⟩
    rw [getD_some (l:=A) (pred_lt z1 h1),getD_some (l:=B) (pred_lt z2 h2),Option.some.injEq] at z3
    rw [z3] at c
    simp [z1,z2] at c
  ·simp only [Bool.and_true,Bool.not_false,Bool.true_and,Bool.and_eq_true,decide_eq_true_eq,beq_iff_eq] at c
   obtain ⟨c1,c2,c3⟩:=c
   refine ex_swap3 fok (k₁:=9) (k₂:=10) (k₃:=11) (by walk_at "m st") (by walk_at "m st") (by walk_at "m st") (ev_eq (by walk_at "m ev") (tup3_int (a':=((bi - 1:Nat):Int)) (b':=((bj - 1:Nat):Int)) (c':=((bs + 1:Nat):Int)) (by exact pred_cast (pos_of c1)) (by exact pred_cast (pos_of c2)) (by rfl))) rfl ((swS xS _ _).trans (by kernel_rfl)) ?_
   refine ex_nil ⟨bi - 1,Nat.lt_of_lt_of_eq (Nat.sub_lt (pos_of c1) Nat.one_pos) hn.symm,_,Sub.refl,(bi - 1,bj - 1,bs + 1),f - 1,rfl,Nat.le_trans (Nat.sub_le _ _) h1,Nat.le_trans (Nat.sub_le _ _) h2,Nat.sub_le_sub_right h3 1,?_,rfl,rfl⟩
   rw [h4]
   cases f with
   | zero=>lia
   | succ f =>
    show (if alo < bi ∧ blo < bj ∧ A[bi - 1]? = B[bj - 1]? then _ else _) = _
    rw [if_pos ⟨Int.ofNat_lt.mp c1,Int.ofNat_lt.mp c2,by rw [getD_some (l:=A) (pred_lt (Int.ofNat_lt.mp c1) h1),getD_some (l:=B) (pred_lt (Int.ofNat_lt.mp c2) h2),c3]⟩]
    rfl
 rintro o ⟨b1,hc1,hc2,e1,rfl⟩
 rw [e1]
 refine ex_cons (P₁:=fun o=>∃ b2:N3,b2.1 ≤ A.length ∧ b2.2.1 ≤ B.length ∧ extU A B ahi bhi A.length b1 = b2 ∧ o = .nxt (flSig x dx A B idx m alo ahi blo bhi prog w b2 jl) [(dx,AttO as)])
  (ex_while2 (fun n sig om=>∃ (b:N3) (f:Nat),n = A.length - (b.1 + b.2.2) ∧ b.1 ≤ A.length ∧ b.2.1 ≤ B.length ∧ A.length ≤ f + (b.1 + b.2.2) ∧ extU A B ahi bhi A.length b1 = extU A B ahi bhi f b ∧ sig = flSig x dx A B idx m alo ahi blo bhi prog w b jl ∧ om = [(dx,AttO as)]) (A.length - (b1.1 + b1.2.2)) ⟨_,Sub.refl,b1,A.length,rfl,hc1,hc2,by lia,rfl,rfl,rfl⟩ ?_) ?_
 ·rintro n _ _ ⟨⟨bi,bj,bs⟩,f,hn,h1,h2,h3,h4,rfl,rfl⟩
  dsimp only at hn h1 h2 h3 h4
  refine ⟨_,tst_bool (all_cons (by walk_at "m tst") fun q1=>all_cons (by walk_at "m tst") fun q2=>all_cons (tst_not (tst_valueX (ev_bcall (id := "set.__contains__") (d₀:=set0A prog w) (ds:=[.int (B.getD (bj + bs) 0)]) (by walk_at "m ev") (by
    have q2:(bj:Int) + bs < bhi:=by simpa using q2
    have g1:B[((bj:Int) + bs).toNat]? = some (B.getD (bj + bs) 0):=gd_sum q2 hb
    walk_at "m evl") b_set_contains) tru_bool (by intro _; rfl))) fun _=>all_cons (tst_cmpX (d₁:=.int (A.getD (bi + bs) 0)) (d₂:=.int (B.getD (bj + bs) 0)) (by
    have q1:(bi:Int) + bs < ahi:=by simpa using q1
    have g1:A[((bi:Int) + bs).toNat]? = some (A.getD (bi + bs) 0):=gd_sum q1 ha
    walk_at "m ev") (by
    have q2:(bj:Int) + bs < bhi:=by simpa using q2
    have g1:B[((bj:Int) + bs).toNat]? = some (B.getD (bj + bs) 0):=gd_sum q2 hb
    walk_at "m ev") op_eq_int rfl) fun _=>all_nil),fun c=>?_,fun c=>?_⟩
  ·refine ⟨(bi,bj,bs),h1,h2,?_,rfl⟩
   rw [h4]
   cases f with
   | zero=>rfl
   | succ f =>
    show (if bi + bs < ahi ∧ bj + bs < bhi ∧ A[bi + bs]? = B[bj + bs]? then _ else _) = _
    rw [if_neg]
    rintro ⟨z1,z2,z3⟩
    rw [getD_some (l:=A) (Nat.lt_of_lt_of_le z1 ha),getD_some (l:=B) (Nat.lt_of_lt_of_le z2 hb),Option.some.injEq] at z3
    have y1:(bi:Int) + bs < ahi:=Int.ofNat_lt.mpr z1
    have y2:(bj:Int) + bs < bhi:=Int.ofNat_lt.mpr z2
    rw [z3] at c
    simp [y1,y2] at c
  ·simp only [Bool.and_true,Bool.not_false,Bool.true_and,Bool.and_eq_true,decide_eq_true_eq,beq_iff_eq] at c
   obtain ⟨c1,c2,c3⟩:=c
   refine ex_augX fok (k:=11) (a:=bs) (b:=1) (At.of fok (kind:=.local) (by rw [xN]; rfl) (by kernel_rfl)) rfl (by walk_at "m st") (by walk_at "m ev") ?_
   rw [show (bs:Int) + 1 = ((bs + 1:Nat):Int) by first | rfl | lia]
   refine ex_nil ⟨A.length - (bi + (bs + 1)),meas_up hn (Nat.lt_of_lt_of_le (Int.ofNat_lt.mp c1) ha),_,Sub.refl,(bi,bj,bs + 1),f - 1,rfl,h1,h2,fuel_up h3,?_,rfl,rfl⟩
   rw [h4]
   cases f with
   | zero=>lia
   | succ f =>
    show (if bi + bs < ahi ∧ bj + bs < bhi ∧ A[bi + bs]? = B[bj + bs]? then _ else _) = _
    rw [if_pos ⟨Int.ofNat_lt.mp c1,Int.ofNat_lt.mp c2,by rw [getD_some (l:=A) (Nat.lt_of_lt_of_le (Int.ofNat_lt.mp c1) ha),getD_some (l:=B) (Nat.lt_of_lt_of_le (Int.ofNat_lt.mp c2) hb),c3]⟩]
    rfl
 rintro o ⟨⟨bi,bj,bs⟩,hd1,hd2,e2,rfl⟩
 dsimp only at hd1 hd2
 rw [e2]
 refine ex_seq (sig':=(flSig x dx A B idx m alo ahi blo bhi prog w (bi,bj,bs) jl)) (om':=[(dx,AttO as)]) (ex_while2 (fun n sig om=>n = 0 ∧ sig = flSig x dx A B idx m alo ahi blo bhi prog w (bi,bj,bs) jl ∧ om = [(dx,AttO as)]) 0 ⟨_,Sub.refl,rfl,rfl,rfl⟩ (by
  rintro n _ _ ⟨rfl,rfl,rfl⟩
  refine ⟨false,tst_eq (tst_bool (all_cons (by walk_at "m tst") fun q1=>all_cons (by walk_at "m tst") fun q2=>all_cons (b:=false) (tst_valueX (ev_bcall (id := "set.__contains__") (d₀:=set0A prog w) (ds:=[.int (B.getD (bj - 1) 0)]) (by walk_at "m ev") (by
    have q2:(bj:Int) > blo:=by simpa using q2
    have g1:B[((bj:Int) - 1).toNat]? = some (B.getD (bj - 1) 0):=gd_pred q2 hd2
    walk_at "m evl") b_set_contains) tru_bool (by intro _; rfl)) (fun h=>by cases h))) (by simp),fun _=>rfl,fun h=>by cases h⟩)) ?_
 refine ex_seq (sig':=(flSig x dx A B idx m alo ahi blo bhi prog w (bi,bj,bs) jl)) (om':=[(dx,AttO as)]) (ex_while2 (fun n sig om=>n = 0 ∧ sig = flSig x dx A B idx m alo ahi blo bhi prog w (bi,bj,bs) jl ∧ om = [(dx,AttO as)]) 0 ⟨_,Sub.refl,rfl,rfl,rfl⟩ (by
  rintro n _ _ ⟨rfl,rfl,rfl⟩
  refine ⟨false,tst_eq (tst_bool (all_cons (by walk_at "m tst") fun q1=>all_cons (by walk_at "m tst") fun q2=>all_cons (b:=false) (tst_valueX (ev_bcall (id := "set.__contains__") (d₀:=set0A prog w) (ds:=[.int (B.getD (bj + bs) 0)]) (by walk_at "m ev") (by
    have q2:(bj:Int) + bs < bhi:=by simpa using q2
    have g1:B[((bj:Int) + bs).toNat]? = some (B.getD (bj + bs) 0):=gd_sum q2 hb
    walk_at "m evl") b_set_contains) tru_bool (by intro _; rfl)) (fun h=>by cases h))) (by simp),fun _=>rfl,fun h=>by cases h⟩)) ?_
 refine ex_returnX (ev_callX (by walk_at "m ev") (callee_cls hk (o:=fo135 w.params) (by kernel_rfl) rfl (by kernel_rfl)) (by walk_at "m evl") (c_match fok hk (xA.mono (by decide))) rfl rfl) ⟨⟨rfl,rfl⟩,fun b hb=>.inl hb⟩
end
section
noncomputable abbrev quadA (q:N4):AV:=.tup [.int (q.1:Nat),.int (q.2.1:Nat),.int (q.2.2.1:Nat),.int (q.2.2.2:Nat)]
noncomputable abbrev tripA (q:N3):AV:=.tup [.int (q.1:Nat),.int (q.2.1:Nat),.int (q.2.2:Nat)]
theorem map_mat {C:Addr} {ms:List N3}:(ms.map n3T).map (matT C) = ms.map (matN C):=by rw [List.map_map]; rfl
noncomputable def qMeas (qs:List N4):Nat:=(qs.map fun q=>2 * (q.2.1 - q.1) + 1).sum
theorem qMeas_snoc {qs:List N4} {q:N4}:qMeas (qs ++ [q]) = qMeas qs + (2 * (q.2.1 - q.1) + 1):=by unfold qMeas; simp
theorem qMeas_append {qs qs':List N4}:qMeas (qs ++ qs') = qMeas qs + qMeas qs':=by unfold qMeas; simp
theorem qMeas_if {c:Prop} [Decidable c] {q:N4}:qMeas (if c then [q] else []) = if c then 2 * (q.2.1 - q.1) + 1 else 0:=by
 split
 ·unfold qMeas; simp
 ·rfl
theorem perm_join {l1 l2 l3 l4:List N3} {r:N3} {t:List N3} (h:(l1 ++ (l2 ++ (l3 ++ r :: l4))).Perm t):((l1 ++ [r]) ++ (l2 ++ l3 ++ l4)).Perm t:=by
 refine List.Perm.trans ?_ h
 rw [List.perm_iff_count]
 intro a
 simp only [List.count_append,List.count_cons,List.count_nil]
 lia
theorem qMeas_len {qs:List N4}:qs.length ≤ qMeas qs:=by
 induction qs with
 | nil=>exact Nat.zero_le _
 | cons q qs ih =>
  have:qMeas (q :: qs) = (2 * (q.2.1 - q.1) + 1) + qMeas qs:=by unfold qMeas; simp
  rw [this,List.length_cons]; lia
theorem quadT {a b c d:Int} {a' b' c' d':Int} (h1:a = a') (h2:b = b') (h3:c = c') (h4:d = d'):AV.tup [.int a,.int b,.int c,.int d] = .tup [.int a',.int b',.int c',.int d']:=by subst h1 h2 h3 h4; rfl
theorem putA_same {x:PySem.Str} {d:AV}:∀ {as:List (PySem.Str × AV)},as.lookup x = some d → putA x d as = as
 | [],h=>by cases h
 | (y,e) :: r,h=>by
  unfold putA
  split
  ·rename_i q; subst q; rw [List.lookup_cons] at h; simp at h; rw [h]
  ·rename_i q
   rw [List.lookup_cons,show (x == y) = false by simpa using fun e:x = y=>q e.symm] at h
   rw [putA_same h]
theorem ty_flm (P:Params):typeIn (frag P) (.ref 196) = some (.type "function"):=by kernel_rfl
theorem fi_flm (P:Params):findIn (frag P) (.ref 242) "find_longest_match" = some (some (.ref 196)):=by kernel_rfl
example:True:=by
 k_with "m glo" => (first
  | with_reducible exact g_len (by assumption) (by assumption) (by assumption)
  | with_reducible exact g_list (by assumption) (by assumption) (by assumption)
  | with_reducible exact g_map (by assumption) (by assumption) (by assumption)
  | with_reducible exact g_Match (by assumption) (by assumption))
 trivial
noncomputable def fd_gmb (P:Params):FuncData:=fdOf (fo203 P)
theorem def_gmb (P:Params):defIn (frag P) 203 (fd_gmb P):=defIn_of (fo203 P) (by kernel_rfl) (by kernel_rfl) (by kernel_rfl)
theorem sig_gmb {P:Params} {a0:AV}:sigOf (fd_gmb P).scope.names ["self"] [a0] = [some a0,none,none,none,none,none,none,none,none,none,none,none,none,none,none,none,none,none,none,none,none,none,none,none]:=by kernel_rfl
theorem ok_gmb (P:Params):DefOk (fd_gmb P) ["self"]:=defOk_of rfl (of_decide_eq_true (by kernel_rfl)) (by kernel_rfl) (of_decide_eq_true (by kernel_rfl)) (by kernel_rfl)
noncomputable def nl_gmb:List (PySem.Str × NameKind):=[("self",.local),("la",.local),("lb",.local),("queue",.local),("matching_blocks",.local),("alo",.local),("ahi",.local),("blo",.local),("bhi",.local),("i",.local),("j",.local),("k",.local),("x",.local),("i1",.local),("j1",.local),("k1",.local),("non_adjacent",.local),("i2",.local),("j2",.local),("k2",.local),("len",.globalImplicit),("list",.globalImplicit),("map",.globalImplicit),("Match",.globalImplicit)]
theorem names_gmb (P:Params):(fd_gmb P).scope.names = nl_gmb:=by kernel_rfl
noncomputable def gSig (x dx Q M:Addr) (la lb:Nat):List (Option AV):=[some (mInst x dx),some (.int la),some (.int lb),some (.ptr Q),some (.ptr M),none,none,none,none,none,none,none,none,none,none,none,none,none,none,none,none,none,none,none]
noncomputable def hSig (x dx Q N:Addr) (la lb:Nat) (L:AV) (b:N3):List (Option AV):=[some (mInst x dx),some (.int la),some (.int lb),some (.ptr Q),some L,none,none,none,none,none,none,none,none,some (.int b.1),some (.int b.2.1),some (.int b.2.2),some (.ptr N),none,none,none,none,none,none,none]
theorem mrg_snoc {l:List N3} {s:N3 × List N3} {b:N3}:mrg (l ++ [b]) s = mrgStep (mrg l s) b:=by unfold mrg; rw [List.foldl_append]; rfl
theorem mrg_len {l:List N3} {s:N3 × List N3}:(mrg l s).2.length ≤ s.2.length + l.length:=by
 induction l generalizing s with
 | nil=>exact Nat.le_refl _
 | cons b l ih =>
  have:mrg (b :: l) s = mrg l (mrgStep s b):=rfl
  rw [this]
  have h:=ih (s:=mrgStep s b)
  have:(mrgStep s b).2.length ≤ s.2.length + 1:=by
   unfold mrgStep
   split
   ·dsimp only; lia
   ·dsimp only; split
    ·lia
    ·simp
  rw [List.length_cons]; lia
set_option maxHeartbeats 20000000 in
theorem gmb_spec {prog:Program} {w:World} {x dx:Addr} {as:List (PySem.Str × AV)} {A B:List Int} {okx:Int → Bool} {idx:Int → List Nat} {m:Nat} {mbv bv:AV} {f:FL} (hI:IdxOk B okx idx) (va:as.lookup (Str.ofString "a") = some (il A)) (vb:as.lookup (Str.ofString "b") = some (il B)) (vj:as.lookup (Str.ofString "b2j") = some (dct (b2jI idx) m)) (vk:as.lookup (Str.ofString "bjunk") = some (set0A prog w))
  (vm:as.lookup (Str.ofString "matching_blocks") = some mbv) (vn:as.lookup (Str.ofString "find_longest_match") = none) (hz:as.length ≤ 900) (hsa:A.length ≤ 1000000) (hsb:B.length ≤ 1000000)
  (ef:f = fun alo ahi blo bhi=>flm A B okx idx alo ahi blo bhi) (hf:FlOk f) (h64:(mb f (0,A.length,0,B.length)).length ≤ 2) (hbv:bv = .lst ((blocks f A.length B.length).map (matN 135))) (hmb:mbv = .none ∨ mbv = bv) :
  ImpC prog w (SK w) 10 (.ref 203) [mInst x dx] [(dx,AttO as)] fun d om₂=>d = bv ∧ om₂ = [(dx,AttO (putA "matching_blocks" bv as))]:=by
 refine imp_defC (dd:=[]) (dv:=[]) (ok_gmb w.params) (fun V hV=>defAt_of hV (def_gmb w.params) (stat w.params) rfl rfl) rfl (fun V=>RepL.nil) (fun vs hv=>?_) (fun xAr xG xs xB room fok=>?_)
 ·obtain ⟨v0,rfl⟩:=len1 hv
  kernel_rfl
 rw [List.append_nil,sig_gmb]
 have xg:(fnAt (fd_gmb w.params) 203 xAr xG xs).env.globals = mainGlobals:=rfl
 have xb:(fnAt (fd_gmb w.params) 203 xAr xG xs).env.builtins = builtinsNs:=rfl
 have hk:SeesK (frag w.params) (fnAt (fd_gmb w.params) 203 xAr xG xs).G:=xB
 have xN:(fnAt (fd_gmb w.params) 203 xAr xG xs).names = (fd_gmb w.params).scope.names:=rfl
 have xA:Room (fnAt (fd_gmb w.params) 203 xAr xG xs).A _:=room
 have xn:(fnAt (fd_gmb w.params) 203 xAr xG xs).n₀ = xs.heap.objs.size:=rfl
 have xi:interactive (fnAt (fd_gmb w.params) 203 xAr xG xs).env = false:=rfl
 have xS:(fnAt (fd_gmb w.params) 203 xAr xG xs).env.scope = (fd_gmb w.params).scope:=rfl
 generalize fnAt (fd_gmb w.params) 203 xAr xG xs = F at fok xg xb hk xN xA xn xi xS ⊢
 have xN1:=xN.trans (names_gmb w.params)
 have xn0:At F "self" 0 .local:=at_nl fok xN1 0 rfl (by kernel_rfl)
 have xn1:At F "la" 1 .local:=at_nl fok xN1 1 rfl (by kernel_rfl)
 have xn2:At F "lb" 2 .local:=at_nl fok xN1 2 rfl (by kernel_rfl)
 have xn3:At F "queue" 3 .local:=at_nl fok xN1 3 rfl (by kernel_rfl)
 have xn4:At F "matching_blocks" 4 .local:=at_nl fok xN1 4 rfl (by kernel_rfl)
 have xn5:At F "alo" 5 .local:=at_nl fok xN1 5 rfl (by kernel_rfl)
 have xn6:At F "ahi" 6 .local:=at_nl fok xN1 6 rfl (by kernel_rfl)
 have xn7:At F "blo" 7 .local:=at_nl fok xN1 7 rfl (by kernel_rfl)
 have xn8:At F "bhi" 8 .local:=at_nl fok xN1 8 rfl (by kernel_rfl)
 have xn9:At F "i" 9 .local:=at_nl fok xN1 9 rfl (by kernel_rfl)
 have xn10:At F "j" 10 .local:=at_nl fok xN1 10 rfl (by kernel_rfl)
 have xn11:At F "k" 11 .local:=at_nl fok xN1 11 rfl (by kernel_rfl)
 have xn12:At F "x" 12 .local:=at_nl fok xN1 12 rfl (by kernel_rfl)
 have xn13:At F "i1" 13 .local:=at_nl fok xN1 13 rfl (by kernel_rfl)
 have xn14:At F "j1" 14 .local:=at_nl fok xN1 14 rfl (by kernel_rfl)
 have xn15:At F "k1" 15 .local:=at_nl fok xN1 15 rfl (by kernel_rfl)
 have xn16:At F "non_adjacent" 16 .local:=at_nl fok xN1 16 rfl (by kernel_rfl)
 have xn17:At F "i2" 17 .local:=at_nl fok xN1 17 rfl (by kernel_rfl)
 have xn18:At F "j2" 18 .local:=at_nl fok xN1 18 rfl (by kernel_rfl)
 have xn19:At F "k2" 19 .local:=at_nl fok xN1 19 rfl (by kernel_rfl)
 have xn20:At F "len" 20 .globalImplicit:=at_nl fok xN1 20 rfl (by kernel_rfl)
 have xn21:At F "list" 21 .globalImplicit:=at_nl fok xN1 21 rfl (by kernel_rfl)
 have xn22:At F "map" 22 .globalImplicit:=at_nl fok xN1 22 rfl (by kernel_rfl)
 have xn23:At F "Match" 23 .globalImplicit:=at_nl fok xN1 23 rfl (by kernel_rfl)
 walk_at "m doc"
 have hsl:(10000000:Nat) ≤ sizeLine:=by decide
 rcases hmb.symm with rfl | rfl
 ·-- it stands there
  refine ex_ifT (tst_cmpX (d₁:=mbv) (d₂:=.none) (by walk_at "m ev") (by walk_at "m ev") (op_isNot_none (b:=false) fun V v h=>by rw [hbv] at h; simp only [Rep] at h; obtain ⟨_,_,_,rfl,_⟩:=h; rfl) rfl) ?_
  refine ex_returnX (d:=mbv) (by walk_at "m ev") ?_
  exact ⟨⟨rfl,by rw [putA_same vm]⟩,fun b hb=>.inl hb⟩
 refine ex_ifF (tst_cmpX (d₁:=.none) (d₂:=.none) (by walk_at "m ev") (by walk_at "m ev") (op_isNot_none (b:=true) fun V v h=>by simp only [Rep] at h; subst h; rfl) rfl) (ex_nilX ?_)
 have l1:A.length < 2 ^ 62:=by lia
 have l2:B.length < 2 ^ 62:=by lia
 refine ex_swap2 fok (k₁:=1) (k₂:=2) (by walk_at "m st") (by walk_at "m st") (by walk_at "m ev") rfl ((swS xS _ _).trans (by kernel_rfl)) ?_
 refine ex_assignO fok (k:=3) (by walk_at "m st") (evx_open fok (ds:=[quadA (0,A.length,0,B.length)]) (evl_consX (ev_eq (d:=.tup [.int 0,.int (A.length:Nat),.int 0,.int (B.length:Nat)]) (by walk_at "m ev") (quadT rfl rfl rfl rfl)) evl_nil rfl) (show 1 ≤ sizeLine by decide) (P:=fun d om'=>∃ Q,F.n₀ ≤ Q ∧ d = .ptr Q ∧ om' = (Q,LstO [quadA (0,A.length,0,B.length)]) :: [(dx,AttO as)]) fun Q hQ=>⟨Q,hQ,rfl,rfl⟩) ?_ rfl
 rintro d om₁ ⟨Q,hQ,rfl,rfl⟩
 refine ex_assignO fok (k:=4) (by walk_at "m st") (evx_open fok (ds:=[]) (by walk_at "m evl") (show 0 ≤ sizeLine by decide) (P:=fun d om'=>∃ M,F.n₀ ≤ M ∧ d = .ptr M ∧ om' = (M,LstO []) :: _) fun M hM=>⟨M,hM,rfl,rfl⟩) ?_ rfl
 rintro d om₁ ⟨M,hM,rfl,rfl⟩
 refine ex_perm (om':=[(dx,AttO as),(Q,LstO [quadA (0,A.length,0,B.length)]),(M,LstO [])]) ?_ ?_
 ·exact (List.Perm.trans (List.Perm.swap _ _ _) (List.Perm.trans (List.Perm.cons _ (List.Perm.swap _ _ _)) (List.Perm.swap _ _ _)))
 refine ex_cons (P₁:=fun o=>∃ ms:List N3,ms.Perm (mb f (0,A.length,0,B.length)) ∧ o = .nxt (gSig x dx Q M A.length B.length) [(dx,AttO as),(Q,LstO []),(M,LstO (ms.map (matN 135)))])
  (ex_while2 (fun n sig om=>∃ (qs:List N4) (ms:List N3),n = qMeas qs ∧ n ≤ 2 * A.length + 1 ∧ (∀ q ∈ qs,qOk q ∧ q.2.1 ≤ A.length ∧ q.2.2.2 ≤ B.length) ∧ (ms ++ qs.flatMap (mb f)).Perm (mb f (0,A.length,0,B.length)) ∧ sig = gSig x dx Q M A.length B.length ∧ om = [(dx,AttO as),(Q,LstO (qs.map quadA)),(M,LstO (ms.map (matN 135)))])
   (2 * A.length + 1) ⟨_,Sub.refl,[(0,A.length,0,B.length)],[],by unfold qMeas; simp,Nat.le_refl _,?_,by simp,rfl,rfl⟩ ?_) ?_
 ·intro q hq
  rw [List.mem_singleton] at hq
  subst hq
  exact ⟨⟨Nat.zero_le _,Nat.zero_le _⟩,Nat.le_refl _,Nat.le_refl _⟩
 ·rintro n _ _ ⟨qs,ms,hn,hle,hq,hp,rfl,rfl⟩
  have hml:ms.length ≤ 2:=by have:=hp.length_eq; rw [List.length_append] at this; lia
  have hql:=qMeas_len (qs:=qs)
  refine ⟨!(qs.map quadA).isEmpty,tst_valueX (by walk_at "m ev") (tru_open (List.mem_cons_of_mem _ List.mem_cons_self) (by rw [List.length_map]; lia)) (by intro _; rfl),fun c=>?_,fun c=>?_⟩
  ·have:qs = []:=by simpa using c
   subst this
   exact ⟨ms,by simpa using hp,rfl⟩
  ·obtain ⟨qs',⟨alo,ahi,blo,bhi⟩,rfl⟩:∃ qs' q,qs = qs' ++ [q]:=⟨qs.dropLast,qs.getLast (by rintro rfl; simp at c),(List.dropLast_concat_getLast _).symm⟩
   obtain ⟨⟨hq1,hq2⟩,hq3,hq4⟩:=hq (alo,ahi,blo,bhi) (by simp)
   have hq':∀ q ∈ qs',qOk q ∧ q.2.1 ≤ A.length ∧ q.2.2.2 ≤ B.length:=fun q h=>hq q (by simp [h])
   dsimp only at hq1 hq2 hq3 hq4
   rw [qMeas_snoc] at hn
   dsimp only at hn
   have hql:=qMeas_len (qs:=qs')
   rw [List.map_append]
   refine ex_seq (sig':=_) (om':=[(dx,AttO as),(Q,LstO (qs'.map quadA)),(M,LstO (ms.map (matN 135)))]) (exx_assign_tuple (P:=fun d om'=>d = quadA (alo,ahi,blo,bhi) ∧ om' = [(dx,AttO as),(Q,LstO (qs'.map quadA)),(M,LstO (ms.map (matN 135)))]) (evx_pop fok (by walk_at "m ev") (.there .here) (by rw [List.length_map]; lia) ⟨rfl,rfl⟩ _) (fun d om' he=>by
    obtain ⟨rfl,rfl⟩:=he
    exact ⟨_,as_tuple fok (asl_cons (as_name fok (k:=5) (by walk_at "m st")) (asl_cons (as_name fok (k:=6) (by walk_at "m st")) (asl_cons (as_name fok (k:=7) (by walk_at "m st")) (asl_cons (as_name fok (k:=8) (by walk_at "m st")) asl_nil)))) rfl,rfl⟩) rfl rfl) ?_
   have efq:flm A B okx idx alo ahi blo bhi = f alo ahi blo bhi:=by rw [ef]
   refine ex_seq (sig':=_) (om':=[(dx,AttO as),(Q,LstO (qs'.map quadA)),(M,LstO (ms.map (matN 135)))]) (exx_two (P:=fun d om'=>d = matN 135 (f alo ahi blo bhi) ∧ om' = [(dx,AttO as),(Q,LstO (qs'.map quadA)),(M,LstO (ms.map (matN 135)))])
    (evx_methX (d₀:=mInst x dx) (f:=.ref 196) _ (by walk_at "m ev") (gets_inst (as:=as) hk (sm_plain w.params) (fi_flm w.params) (ty_flm w.params) (by exact List.mem_cons_self) vn) (callee_fn (hk 196 (fo196 w.params) (by kernel_rfl)) rfl)
     (evxl_of (ds:=[.int alo,.int ahi,.int blo,.int bhi]) (by walk_at "m evl") (x_imp fok hk sk_mono (xA.mono (by decide)) (flm_spec (alo:=alo) (ahi:=ahi) (blo:=blo) (bhi:=bhi) hI va vb vj vk hq3 hq4 hsa hsb (by lia) (by lia)).fn (rest:=[(Q,LstO (qs'.map quadA)),(M,LstO (ms.map (matN 135)))]) (List.Perm.refl _) (by
      rintro d om₂ ⟨e1,rfl⟩
      exact ⟨e1.trans (by rw [efq]),rfl⟩))) rfl rfl)
    (fun d om' he=>by
     obtain ⟨rfl,rfl⟩:=he
     exact ⟨_,_,_,_,asx_of (as_mat fok hk (mc_tup w.params) (mc_iter w.params) (asl_cons (as_name fok (k:=9) (by walk_at "m st")) (asl_cons (as_name fok (k:=10) (by walk_at "m st")) (asl_cons (as_name fok (k:=11) (by walk_at "m st")) asl_nil))) rfl),asx_of (as_name fok (k:=12) (by walk_at "m st")),rfl⟩) rfl rfl) ?_
   have hin:=hf.inside alo ahi blo bhi hq1 hq2
   have hz0:=@mb_zero f alo ahi blo bhi
   have hst:=@mb_step f hf alo ahi blo bhi ⟨hq1,hq2⟩
   generalize f alo ahi blo bhi = r at hin hz0 hst
   obtain ⟨i,j,k⟩:=r
   dsimp only at hin hz0 hst
   have hpp:(ms ++ (qs'.flatMap (mb f) ++ mb f (alo,ahi,blo,bhi))).Perm (mb f (0,A.length,0,B.length)):=by
    rw [List.flatMap_append] at hp
    simpa using hp
   refine ex_ifX (by walk_at "m tst") (fun c1=>?_) (fun c1=>ex_nilX ?_)
   ·have hk0:¬ k = 0:=by simpa using c1
    obtain ⟨a1,a2,a3,a4⟩:=hin (by lia)
    rw [hst hk0] at hpp
    refine ex_exprX xi (evx_append fok (by walk_at "m ev") (by walk_at "m ev") (P:=fun _ om'=>om' = [(dx,AttO as),(Q,LstO (qs'.map quadA)),(M,LstO ((ms ++ [(i,j,k)]).map (matN 135)))]) (by rw [List.map_append]; exact .there (.there .here)) (by rw [List.length_map]; lia) rfl _) ?_ rfl
    rintro d om' rfl
    refine ex_ifO [(dx,AttO as),(Q,LstO ((qs' ++ if alo < i ∧ blo < j then [(alo,i,blo,j)] else []).map quadA)),(M,LstO ((ms ++ [(i,j,k)]).map (matN 135)))] (by walk_at "m tst") (fun c=>?_) (fun c=>?_) ?_
    ·have c':alo < i ∧ blo < j:=by simpa using c
     rw [if_pos c']
     refine ex_exprX xi (evx_append fok (by walk_at "m ev") (by walk_at "m ev") (P:=fun _ om'=>om' = [(dx,AttO as),(Q,LstO (qs'.map quadA ++ [quadA (alo,i,blo,j)])),(M,LstO ((ms ++ [(i,j,k)]).map (matN 135)))]) (.there .here) (by rw [List.length_map]; lia) rfl _) ?_ rfl
     rintro d om' rfl
     exact ex_nil (by rw [List.map_append (l₁:=qs')]; rfl)
    ·have c':¬ (alo < i ∧ blo < j):=by simpa using c
     rw [if_neg c',List.append_nil]
     exact ex_nil rfl
    have hl2:(qs' ++ if alo < i ∧ blo < j then [(alo,i,blo,j)] else []).length ≤ 2000010:=by
     rw [List.length_append]; split <;> simp <;> lia
    generalize hqs:(qs' ++ if alo < i ∧ blo < j then [(alo,i,blo,j)] else []) = qs1 at hl2
    refine ex_ifO [(dx,AttO as),(Q,LstO ((qs1 ++ if i + k < ahi ∧ j + k < bhi then [(i + k,ahi,j + k,bhi)] else []).map quadA)),(M,LstO ((ms ++ [(i,j,k)]).map (matN 135)))] (by walk_at "m tst") (fun c=>?_) (fun c=>?_) ?_
    ·have c':i + k < ahi ∧ j + k < bhi:=by simp at c; lia
     rw [if_pos c']
     refine ex_exprX xi (evx_append fok (by walk_at "m ev") (ev_eq (d:=.tup [.int ((i:Int) + k),.int (ahi:Nat),.int ((j:Int) + k),.int (bhi:Nat)]) (d':=quadA (i + k,ahi,j + k,bhi)) (by walk_at "m ev") (quadT (by first | lia | (dsimp only; lia)) rfl (by first | lia | (dsimp only; lia)) rfl)) (P:=fun _ om'=>om' = [(dx,AttO as),(Q,LstO (qs1.map quadA ++ [quadA (i + k,ahi,j + k,bhi)])),(M,LstO ((ms ++ [(i,j,k)]).map (matN 135)))]) (.there .here) (by rw [List.length_map]; lia) rfl _) ?_ rfl
     rintro d om' rfl
     exact ex_nil (by rw [List.map_append (l₁:=qs1)]; rfl)
    ·have c':¬ (i + k < ahi ∧ j + k < bhi):=by simp at c; lia
     rw [if_neg c',List.append_nil]
     exact ex_nil rfl
    subst hqs
    have hm:qMeas ((qs' ++ if alo < i ∧ blo < j then [(alo,i,blo,j)] else []) ++ if i + k < ahi ∧ j + k < bhi then [(i + k,ahi,j + k,bhi)] else []) < n:=by
     rw [qMeas_append,qMeas_append,qMeas_if,qMeas_if]
     dsimp only
     exact meas_join hn ite_le ite_le (meas_two a1 hk0 a2)
    refine ex_nilX (ex_nil ⟨_,hm,gSig x dx Q M A.length B.length,?_,_,ms ++ [(i,j,k)],rfl,by lia,?_,?_,rfl,rfl⟩)
    ·unfold gSig
     exact ⟨rfl,rfl,rfl,rfl,rfl,trivial⟩
    ·intro q hq
     rcases List.mem_append.mp hq with hq | hq
     ·rcases List.mem_append.mp hq with hq | hq
      ·exact hq' q hq
      ·split at hq
       ·rw [List.mem_singleton] at hq; subst hq
        exact ⟨⟨a1,a3⟩,by dsimp only; lia,by dsimp only; lia⟩
       ·cases hq
     ·split at hq
      ·rw [List.mem_singleton] at hq; subst hq
       exact ⟨⟨a2,a4⟩,by dsimp only; lia,by dsimp only; lia⟩
      ·cases hq
    ·have e1:((qs' ++ if alo < i ∧ blo < j then [(alo,i,blo,j)] else []) ++ if i + k < ahi ∧ j + k < bhi then [(i + k,ahi,j + k,bhi)] else []).flatMap (mb f) = qs'.flatMap (mb f) ++ (if alo < i ∧ blo < j then mb f (alo,i,blo,j) else []) ++ (if i + k < ahi ∧ j + k < bhi then mb f (i + k,ahi,j + k,bhi) else []):=by
      rw [List.flatMap_append,List.flatMap_append]
      congr 1
      ·congr 1; split <;> simp
      ·split <;> simp
     rw [e1]
     exact perm_join hpp
   ·have hk0:k = 0:=by simpa using c1
    rw [hz0 hk0,List.append_nil] at hpp
    refine ex_nil ⟨qMeas qs',by lia,gSig x dx Q M A.length B.length,?_,qs',ms,rfl,by lia,hq',hpp,rfl,rfl⟩
    unfold gSig
    exact ⟨rfl,rfl,rfl,rfl,rfl,trivial⟩
 rintro o ⟨ms,hms,rfl⟩
 have hm64:ms.length ≤ 2:=by have:=hms.length_eq; lia
 generalize hL:mb f (0,A.length,0,B.length) = L at hms h64
 have hsrt:(L.map n3T).Pairwise fun a b=>ltT a b = true:=hL ▸ mb_sorted hf ⟨Nat.zero_le _,Nat.zero_le _⟩
 refine ex_exprX xi (evx_methX (d₀:=.ptr M) (f:=.builtin "list.sort") (P:=fun d om'=>om' = [(dx,AttO as),(Q,LstO []),(M,LstO (L.map (matN 135)))]) _ (by walk_at "m ev") (gets_list_sort (l:=ms.map (matN 135)) (by simp)) callee_builtin
  (evxl_nil (x_sort fok (C:=135) (ts:=ms.map n3T) (ts':=L.map n3T) hk (mc_tup w.params) (mc_lt w.params) (hms.symm.map n3T) hsrt (by rw [List.length_map]; exact hm64) (by rw [map_mat,map_mat]; exact .there (.there .here)) rfl)) rfl rfl) ?_ rfl
 rintro d om' rfl
 refine ex_seq (sig':=_) (om':=[(dx,AttO as),(Q,LstO []),(M,LstO (L.map (matN 135)))]) (exx_three (P:=fun d om'=>d = .int 0 ∧ om' = _) (evx_of (by walk_at "m ev") ⟨rfl,rfl⟩) (fun d om' he=>by
  obtain ⟨rfl,rfl⟩:=he
  exact ⟨_,_,_,_,_,_,asx_of (as_name fok (k:=13) (by walk_at "m st")),asx_of (as_name fok (k:=14) (by walk_at "m st")),asx_of (as_name fok (k:=15) (by walk_at "m st")),rfl⟩) rfl rfl) ?_
 refine ex_assignO fok (k:=16) (by walk_at "m st") (evx_open fok (ds:=[]) (by walk_at "m evl") (show 0 ≤ sizeLine by decide) (P:=fun d om'=>∃ N,F.n₀ ≤ N ∧ d = .ptr N ∧ om' = (N,LstO []) :: _) fun N hN=>⟨N,hN,rfl,rfl⟩) ?_ rfl
 rintro d om₁ ⟨N,hN,rfl,rfl⟩
 refine ex_cast fok (.there (.there (.there .here))) hM key_lst (SigCast.set (k:=4) rfl) OmCast.refl ?_
 refine ex_drop fok (.there (.there .here)) ?_
 refine ex_seq (sig':=(hSig x dx Q N A.length B.length (.lst (L.map (matN 135))) (mrg L ((0,0,0),[])).1)) (om':=[(N,LstO ((mrg L ((0,0,0),[])).2.map tripA)),(dx,AttO as)])
  (ex_for2 fok (d:=.lst (L.map (matN 135))) (xs:=L.map (matN 135)) (by walk_at "m ev") (itr_list fok)
   (fun t sig om=>sig = hSig x dx Q N A.length B.length (.lst (L.map (matN 135))) (mrg (L.take t) ((0,0,0),[])).1 ∧ om = [(N,LstO ((mrg (L.take t) ((0,0,0),[])).2.map tripA)),(dx,AttO as)])
   ⟨_,Sub.refl,rfl,rfl⟩ ?_ ?_ (by intro _; rfl)) ?_
 ·rintro t _ sig om hx ⟨rfl,rfl⟩
  rw [List.getElem?_map,Option.map_eq_some_iff] at hx
  obtain ⟨⟨bi,bj,bk⟩,hb,rfl⟩:=hx
  have ht:t < L.length:=(List.getElem?_eq_some_iff.mp hb).1
  have htk:L.take (t + 1) = L.take t ++ [(bi,bj,bk)]:=by rw [List.take_add_one,hb]; rfl
  have hln:=mrg_len (l:=L.take t) (s:=((0,0,0),[]))
  rw [List.length_take,Nat.min_eq_left (by lia)] at hln
  rw [htk,mrg_snoc]
  generalize mrg (L.take t) ((0,0,0),[]) = s at hln
  obtain ⟨⟨i1,j1,k1⟩,out⟩:=s
  dsimp only [List.length_nil] at hln
  refine ⟨_,as_mat fok hk (mc_tup w.params) (mc_iter w.params) (asl_cons (as_name fok (k:=17) (by walk_at "m st")) (asl_cons (as_name fok (k:=18) (by walk_at "m st")) (asl_cons (as_name fok (k:=19) (by walk_at "m st")) asl_nil))) rfl,?_⟩
  refine ex_ifX (by walk_at "m tst") (fun c=>?_) (fun c=>?_)
  ·have c':i1 + k1 = bi ∧ j1 + k1 = bj:=by simp at c; lia
   have em:mrgStep ((i1,j1,k1),out) (bi,bj,bk) = ((i1,j1,k1 + bk),out):=by unfold mrgStep; rw [if_pos c']
   rw [em]
   refine ex_augX fok (k:=15) (a:=(k1:Nat)) (b:=(bk:Nat)) (At.of fok (kind:=.local) (by rw [xN]; rfl) (by kernel_rfl)) rfl (by walk_at "m st") (by walk_at "m ev") ?_
   rw [show ((k1:Nat):Int) + (bk:Nat) = ((k1 + bk:Nat):Int) by first | rfl | lia]
   refine ex_nilX (ex_nil ⟨_,?_,rfl,rfl⟩)
   unfold hSig
   exact ⟨rfl,rfl,rfl,rfl,rfl,rfl,rfl,rfl,rfl,trivial⟩
  ·have c':¬ (i1 + k1 = bi ∧ j1 + k1 = bj):=by simp at c; lia
   have em:mrgStep ((i1,j1,k1),out) (bi,bj,bk) = ((bi,bj,bk),if k1 = 0 then out else out ++ [(i1,j1,k1)]):=by unfold mrgStep; rw [if_neg c']
   rw [em]
   refine ex_ifO [(N,LstO ((if k1 = 0 then out else out ++ [(i1,j1,k1)]).map tripA)),(dx,AttO as)] (by walk_at "m tst") (fun c2=>?_) (fun c2=>?_) ?_
   ·have c2':¬ k1 = 0:=by simpa using c2
    rw [if_neg c2']
    refine ex_exprX xi (evx_append fok (by walk_at "m ev") (by walk_at "m ev") (P:=fun _ om'=>om' = [(N,LstO (out.map tripA ++ [tripA (i1,j1,k1)])),(dx,AttO as)]) .here (by rw [List.length_map]; dsimp only; lia) rfl _) ?_ rfl
    rintro d om' rfl
    exact ex_nil (by rw [List.map_append]; rfl)
   ·have c2':k1 = 0:=by simpa using c2
    rw [if_pos c2']
    exact ex_nil rfl
   refine ex_swap3 fok (k₁:=13) (k₂:=14) (k₃:=15) (by walk_at "m st") (by walk_at "m st") (by walk_at "m st") (by walk_at "m ev") rfl ((swS xS _ _).trans (by kernel_rfl)) ?_
   refine ex_nilX (ex_nil ⟨_,?_,rfl,rfl⟩)
   unfold hSig
   exact ⟨rfl,rfl,rfl,rfl,rfl,rfl,rfl,rfl,rfl,trivial⟩
 ·rintro sig om ⟨rfl,rfl⟩
  rw [List.length_map,List.take_length]
 have hbl:blocks f A.length B.length = (if (mrg L ((0,0,0),[])).1.2.2 = 0 then (mrg L ((0,0,0),[])).2 else (mrg L ((0,0,0),[])).2 ++ [(mrg L ((0,0,0),[])).1]) ++ [(A.length,B.length,0)]:=by unfold blocks; rw [hL]
 have hln:=mrg_len (l:=L) (s:=((0,0,0),[]))
 generalize mrg L ((0,0,0),[]) = s at hln hbl
 obtain ⟨⟨i1,j1,k1⟩,out⟩:=s
 dsimp only [List.length_nil] at hln hbl
 refine ex_ifO [(N,LstO ((if k1 = 0 then out else out ++ [(i1,j1,k1)]).map tripA)),(dx,AttO as)] (by walk_at "m tst") (fun c2=>?_) (fun c2=>?_) ?_
 ·have c2':¬ k1 = 0:=by simpa using c2
  rw [if_neg c2']
  refine ex_exprX xi (evx_append fok (by walk_at "m ev") (by walk_at "m ev") (P:=fun _ om'=>om' = [(N,LstO (out.map tripA ++ [tripA (i1,j1,k1)])),(dx,AttO as)]) .here (by rw [List.length_map]; dsimp only; lia) rfl _) ?_ rfl
  rintro d om' rfl
  exact ex_nil (by rw [List.map_append]; rfl)
 ·have c2':k1 = 0:=by simpa using c2
  rw [if_pos c2']
  exact ex_nil rfl
 have hl3:(if k1 = 0 then out else out ++ [(i1,j1,k1)]).length ≤ 200:=by
  split
  ·lia
  ·rw [List.length_append,List.length_singleton]; lia
 generalize (if k1 = 0 then out else out ++ [(i1,j1,k1)]) = ou at hl3 hbl
 refine ex_exprX xi (evx_append fok (by walk_at "m ev") (ev_eq (d:=.tup [.int (A.length:Nat),.int (B.length:Nat),.int 0]) (d':=tripA (A.length,B.length,0)) (by walk_at "m ev") rfl) (P:=fun _ om'=>om' = [(N,LstO (ou.map tripA ++ [tripA (A.length,B.length,0)])),(dx,AttO as)]) .here (by rw [List.length_map]; lia) rfl _) ?_ rfl
 rintro d om' rfl
 have hbt:ou.map tripA ++ [tripA (A.length,B.length,0)] = (blocks f A.length B.length).map tripA:=by rw [hbl,List.map_append]; rfl
 have hbn:(blocks f A.length B.length).length ≤ 1000:=by rw [hbl,List.length_append,List.length_singleton]; lia
 rw [hbt]
 generalize blocks f A.length B.length = bl at hbn hbv
 subst hbv
 refine ex_cast fok .here hN key_lst (SigCast.set (k:=16) rfl) OmCast.refl ?_
 refine ex_attr1 (a:=x) hk (sm_plain w.params) own_mb (d:=.lst (bl.map (matN 135))) (ev_of (evx_call (by walk_at "m ev") callee_type (evxl_cons (P₁:=fun d om'=>∃ it la,F.n₀ ≤ it ∧ d = mapA (methA 89 135) (bl.map tripA) it la ∧ om' = (it,itO la 0) :: [(dx,AttO as)]) (evx_call (by walk_at "m ev") callee_type (evxl_of (ds:=[methA 89 135,.lst (bl.map tripA)]) (evl_consX (ev_clsmeth fok hk (by walk_at "m ev") (mc_reads w.params) (mc_make w.params) (mc_clsm w.params)) (by walk_at "m evl") rfl) (x_map fok fun it la h=>⟨it,la,h,rfl,rfl⟩)) rfl rfl) (by
   rintro d om' ⟨it,la,hit,rfl,rfl⟩
   refine evxl_nil (x_list_map (n:=2) fok hk (by rw [List.length_map,List.length_map]) (by rw [List.length_map]; lia) (xA.mono (by decide)) (fun V fv hV hr=>?_) .here ⟨rfl,rfl⟩)
   unfold methA at hr
   simp only [Rep] at hr
   obtain ⟨a,rfl,ha⟩:=hr V (PH.le.refl _)
   refine ⟨fun V=>SK w V ∧ V a = some (methodObj (.ref 89) (.ref 135)),⟨hV,ha⟩,fun i d d' h1 h2=>?_⟩
   rw [List.getElem?_map,Option.map_eq_some_iff] at h1 h2
   obtain ⟨b,hb,rfl⟩:=h1
   obtain ⟨b',hb',rfl⟩:=h2
   rw [hb] at hb'; cases hb'
   exact pure_method mmake_spec) rfl) rfl rfl)) (by walk_at "m ev") handed_lst (by lia) rfl .here ?_ rfl rfl rfl
 have vg:(putA "matching_blocks" (.lst (bl.map (matN 135))) as).lookup (Str.ofString "matching_blocks") = some (.lst (bl.map (matN 135))):=get_put
 refine ex_returnX (d:=.lst (bl.map (matN 135))) (by walk_at "m ev") ⟨⟨rfl,rfl⟩,fun b hb=>.inl hb⟩
end
section
theorem ty_gmb (P:Params):typeIn (frag P) (.ref 203) = some (.type "function"):=by kernel_rfl
theorem fi_gmb (P:Params):findIn (frag P) (.ref 242) "get_matching_blocks" = some (some (.ref 203)):=by kernel_rfl
theorem tru_str {prog:Program} {w:World} {F:Fn} {om:Om} {x:PySem.Str} (hx:(x.length:Int) < 2 ^ 62):Tru prog w F om (.str x) ((x.length:Int) != 0):=fun R sig tau v₁ s Q E st h=>by
 have h1:=st.top
 simp only [Rep] at h1
 obtain ⟨t,rfl⟩:=h1
 exact P.truthy_str (by lia) (h _ st.pop.tok2)
theorem gapTag_ne {i ai j bj:Nat}:((gapTag i ai j bj).length:Int) < 2 ^ 62 ∧ (((gapTag i ai j bj).length:Int) != 0) = decide (i < ai ∨ j < bj):=by
 unfold gapTag
 split
 ·rename_i h; rw [decide_eq_true (.inl h.1)]; decide +kernel
 ·split
  ·rename_i h; rw [decide_eq_true (.inl h)]; decide +kernel
  ·split
   ·rename_i h; rw [decide_eq_true (.inr h)]; decide +kernel
   ·rename_i h1 h2 h3; rw [decide_eq_false (by lia)]; decide +kernel
noncomputable def fd_gop (P:Params):FuncData:=fdOf (fo210 P)
theorem def_gop (P:Params):defIn (frag P) 210 (fd_gop P):=defIn_of (fo210 P) (by kernel_rfl) (by kernel_rfl) (by kernel_rfl)
theorem sig_gop {P:Params} {a0:AV}:sigOf (fd_gop P).scope.names ["self"] [a0] = [some a0,none,none,none,none,none,none,none]:=by kernel_rfl
theorem ok_gop (P:Params):DefOk (fd_gop P) ["self"]:=defOk_of rfl (of_decide_eq_true (by kernel_rfl)) (by kernel_rfl) (of_decide_eq_true (by kernel_rfl)) (by kernel_rfl)
noncomputable def nl_gop:List (PySem.Str × NameKind):=[("self",.local),("i",.local),("j",.local),("answer",.local),("ai",.local),("bj",.local),("size",.local),("tag",.local)]
theorem names_gop (P:Params):(fd_gop P).scope.names = nl_gop:=by kernel_rfl
noncomputable def oSig (x dx D:Addr) (i j:Nat):List (Option AV):=[some (mInst x dx),some (.int i),some (.int j),some (.ptr D),none,none,none,none]
noncomputable def pSig (x dx D:Addr) (i j ai bj size:Nat) (tag:PySem.Str):List (Option AV):=[some (mInst x dx),some (.int i),some (.int j),some (.ptr D),some (.int ai),some (.int bj),some (.int size),some (.str tag)]
theorem opStep_len {s:(Nat × Nat) × List OpN} {b:N3}:(opStep s b).2.length ≤ s.2.length + 2:=by
 unfold opStep
 dsimp only
 split <;> split <;> simp
theorem ops_len {l:List N3} {s:(Nat × Nat) × List OpN}:(l.foldl opStep s).2.length ≤ s.2.length + 2 * l.length:=by
 induction l generalizing s with
 | nil=>exact Nat.le_refl _
 | cons b l ih =>
  rw [List.foldl_cons]
  have:=ih (s:=opStep s b)
  have:=opStep_len (s:=s) (b:=b)
  rw [List.length_cons]; lia
theorem blocks_len {f:FL} {la lb:Nat} (h:(mb f (0,la,0,lb)).length ≤ 2):(blocks f la lb).length ≤ 70:=by
 unfold blocks
 have:=mrg_len (l:=mb f (0,la,0,lb)) (s:=((0,0,0),[]))
 dsimp only at this ⊢
 rw [List.length_append,List.length_singleton]
 split
 ·simp at this; lia
 ·rw [List.length_append]; simp at this ⊢; lia
set_option maxHeartbeats 20000000 in
theorem gop_spec {prog:Program} {w:World} {x dx:Addr} {aj:Bool} {A B:List Int} {okx:Int → Bool} {idx:Int → List Nat} {m:Nat} {mbv bv opv fb bp:AV} {f:FL} (hI:IdxOk B okx idx) (hsa:A.length ≤ 1000000) (hsb:B.length ≤ 1000000)
  (ef:f = fun alo ahi blo bhi=>flm A B okx idx alo ahi blo bhi) (hf:FlOk f) (h64:(mb f (0,A.length,0,B.length)).length ≤ 2) (hbv:bv = .lst ((blocks f A.length B.length).map (matN 135))) (hmb:mbv = .none ∨ mbv = bv) (hop:opv = .none ∨ opv = opsN (opcodes f A.length B.length)) :
  ImpC prog w (SK w) 12 (.ref 210) [mInst x dx] [(dx,AttO (mAtt aj (il A) (il B) mbv opv fb (dct (b2jI idx) m) (set0A prog w) bp))]
   fun d om₂=>d = opsN (opcodes f A.length B.length) ∧ ∃ mbv',(mbv' = .none ∨ mbv' = bv) ∧ om₂ = [(dx,AttO (mAtt aj (il A) (il B) mbv' (opsN (opcodes f A.length B.length)) fb (dct (b2jI idx) m) (set0A prog w) bp))]:=by
 refine imp_defC (dd:=[]) (dv:=[]) (ok_gop w.params) (fun V hV=>defAt_of hV (def_gop w.params) (stat w.params) rfl rfl) rfl (fun V=>RepL.nil) (fun vs hv=>?_) (fun xAr xG xs xB room fok=>?_)
 ·obtain ⟨v0,rfl⟩:=len1 hv
  kernel_rfl
 rw [List.append_nil,sig_gop]
 have xg:(fnAt (fd_gop w.params) 210 xAr xG xs).env.globals = mainGlobals:=rfl
 have xb:(fnAt (fd_gop w.params) 210 xAr xG xs).env.builtins = builtinsNs:=rfl
 have hk:SeesK (frag w.params) (fnAt (fd_gop w.params) 210 xAr xG xs).G:=xB
 have xN:(fnAt (fd_gop w.params) 210 xAr xG xs).names = (fd_gop w.params).scope.names:=rfl
 have xA:Room (fnAt (fd_gop w.params) 210 xAr xG xs).A _:=room
 have xn:(fnAt (fd_gop w.params) 210 xAr xG xs).n₀ = xs.heap.objs.size:=rfl
 have xi:interactive (fnAt (fd_gop w.params) 210 xAr xG xs).env = false:=rfl
 have xS:(fnAt (fd_gop w.params) 210 xAr xG xs).env.scope = (fd_gop w.params).scope:=rfl
 generalize fnAt (fd_gop w.params) 210 xAr xG xs = F at fok xg xb hk xN xA xn xi xS ⊢
 have xN1:=xN.trans (names_gop w.params)
 have xn0:At F "self" 0 .local:=at_nl fok xN1 0 rfl (by kernel_rfl)
 have xn1:At F "i" 1 .local:=at_nl fok xN1 1 rfl (by kernel_rfl)
 have xn2:At F "j" 2 .local:=at_nl fok xN1 2 rfl (by kernel_rfl)
 have xn3:At F "answer" 3 .local:=at_nl fok xN1 3 rfl (by kernel_rfl)
 have xn4:At F "ai" 4 .local:=at_nl fok xN1 4 rfl (by kernel_rfl)
 have xn5:At F "bj" 5 .local:=at_nl fok xN1 5 rfl (by kernel_rfl)
 have xn6:At F "size" 6 .local:=at_nl fok xN1 6 rfl (by kernel_rfl)
 have xn7:At F "tag" 7 .local:=at_nl fok xN1 7 rfl (by kernel_rfl)
 walk_at "m doc"
 have hsl:(10000000:Nat) ≤ sizeLine:=by decide
 have vo:(mAtt aj (il A) (il B) mbv opv fb (dct (b2jI idx) m) (set0A prog w) bp).lookup (Str.ofString "opcodes") = some opv:=get_op
 rcases hop.symm with rfl | rfl
 ·refine ex_ifT (tst_cmpX (d₁:=opsN (opcodes f A.length B.length)) (d₂:=.none) (by walk_at "m ev") (by walk_at "m ev") (op_isNot_none (b:=false) fun V v h=>by simp only [Rep] at h; obtain ⟨_,_,_,rfl,_⟩:=h; rfl) rfl) ?_
  refine ex_returnX (d:=opsN (opcodes f A.length B.length)) (by walk_at "m ev") ?_
  exact ⟨⟨rfl,mbv,hmb,rfl⟩,fun b hb=>.inl hb⟩
 refine ex_ifF (tst_cmpX (d₁:=.none) (d₂:=.none) (by walk_at "m ev") (by walk_at "m ev") (op_isNot_none (b:=true) fun V v h=>by simp only [Rep] at h; subst h; rfl) rfl) (ex_nilX ?_)
 refine ex_seq (sig':=_) (om':=[(dx,AttO (mAtt aj (il A) (il B) mbv .none fb (dct (b2jI idx) m) (set0A prog w) bp))]) (exx_two (P:=fun d om'=>d = .int 0 ∧ om' = _) (evx_of (by walk_at "m ev") ⟨rfl,rfl⟩) (fun d om' he=>by
  obtain ⟨rfl,rfl⟩:=he
  exact ⟨_,_,_,_,asx_of (as_name fok (k:=1) (by walk_at "m st")),asx_of (as_name fok (k:=2) (by walk_at "m st")),rfl⟩) rfl rfl) ?_
 refine ex_attrn fok (C:=242) (a:=x) (dx:=dx) (k:=3) hk (sm_plain w.params) own_op (by walk_at "m st") (evx_open fok (ds:=[]) (by walk_at "m evl") (show 0 ≤ sizeLine by decide) (P:=fun d om'=>∃ D,F.n₀ ≤ D ∧ d = .ptr D ∧ om' = (D,LstO []) :: _) fun D hD=>⟨D,hD,rfl,rfl⟩) ?_ rfl rfl
 rintro d om₁ ⟨D,hD,rfl,rfl⟩
 refine ⟨handed_ptr,_,_,_,by walk_at "m ev",mAtt_len,put_op,.there .here,?_⟩
 have hbl:=blocks_len h64
 have hoc:opcodes f A.length B.length = ((blocks f A.length B.length).foldl opStep ((0,0),[])).2:=rfl
 refine ex_cons (P₁:=fun o=>∃ sig' i j,Sub (oSig x dx D i j) sig' ∧ o = .nxt sig' [(dx,AttO (mAtt aj (il A) (il B) bv (.ptr D) fb (dct (b2jI idx) m) (set0A prog w) bp)),(D,LstO ((opcodes f A.length B.length).map opN))])
  (ex_forX fok (PE:=fun d om'=>d = bv ∧ om' = [(dx,AttO (mAtt aj (il A) (il B) bv (.ptr D) fb (dct (b2jI idx) m) (set0A prog w) bp)),(D,LstO [])])
   (evx_methX (d₀:=mInst x dx) (f:=.ref 203) _ (by walk_at "m ev") (gets_inst (as:=mAtt aj (il A) (il B) mbv (.ptr D) fb (dct (b2jI idx) m) (set0A prog w) bp) hk (sm_plain w.params) (fi_gmb w.params) (ty_gmb w.params) (by simp) get_m5) (callee_fn (hk 203 (fo203 w.params) (by kernel_rfl)) rfl)
    (evxl_nil (x_imp fok hk sk_mono (xA.mono (by decide)) (gmb_spec (bv:=bv) (mbv:=mbv) hI get_a get_b get_b2j get_bjunk get_mb get_m4 (show 10 ≤ 900 by decide) hsa hsb ef hf h64 hbv hmb).fn (rest:=[(D,LstO [])]) (List.Perm.swap _ _ _) (by
     rintro d om₂ ⟨e1,rfl⟩
     exact ⟨e1,by rw [put_mb]; rfl⟩))) rfl rfl) (by
   rintro d om₀ ⟨rfl,rfl⟩
   generalize hblk:blocks f A.length B.length = bl at hbl hbv hoc
   subst hbv
   refine ⟨bl.map (matN 135),fun t sig om=>Sub (oSig x dx D ((bl.take t).foldl opStep ((0,0),[])).1.1 ((bl.take t).foldl opStep ((0,0),[])).1.2) sig ∧ om = [(dx,AttO (mAtt aj (il A) (il B) (.lst (bl.map (matN 135))) (.ptr D) fb (dct (b2jI idx) m) (set0A prog w) bp)),(D,LstO (((bl.take t).foldl opStep ((0,0),[])).2.map opN))],itr_list fok,⟨?_,rfl⟩,?_,?_⟩
   ·unfold oSig; exact ⟨rfl,rfl,rfl,rfl,trivial⟩
   ·rintro t _ sig om hx ⟨hsub,rfl⟩
    rw [List.getElem?_map,Option.map_eq_some_iff] at hx
    obtain ⟨⟨ai,bj,size⟩,hb,rfl⟩:=hx
    have ht:t < bl.length:=(List.getElem?_eq_some_iff.mp hb).1
    have htk:bl.take (t + 1) = bl.take t ++ [(ai,bj,size)]:=by rw [List.take_add_one,hb]; rfl
    have hln:=ops_len (l:=bl.take t) (s:=((0,0),[]))
    rw [List.length_take,Nat.min_eq_left (by lia)] at hln
    have hstep:(bl.take (t + 1)).foldl opStep ((0,0),[]) = opStep ((bl.take t).foldl opStep ((0,0),[])) (ai,bj,size):=by rw [htk,List.foldl_append]; rfl
    generalize (bl.take t).foldl opStep ((0,0),[]) = s at hln hsub hstep
    obtain ⟨⟨i,j⟩,out⟩:=s
    dsimp only [List.length_nil] at hln hsub
    refine ⟨_,as_sub hsub (as_mat fok hk (mc_tup w.params) (mc_iter w.params) (asl_cons (as_name fok (k:=4) (by walk_at "m st")) (asl_cons (as_name fok (k:=5) (by walk_at "m st")) (asl_cons (as_name fok (k:=6) (by walk_at "m st")) asl_nil))) rfl),?_⟩
    walk_at "m assign"
    refine ex_seq (sig':=(pSig x dx D i j ai bj size (gapTag i ai j bj))) (om':=[(dx,AttO (mAtt aj (il A) (il B) (.lst (bl.map (matN 135))) (.ptr D) fb (dct (b2jI idx) m) (set0A prog w) bp)),(D,LstO (out.map opN))]) (ex_if (by walk_at "m tst") (fun c=>?_) (fun c=>?_)) ?_
    ·have c':i < ai ∧ j < bj:=by simpa using c
     walk_at "m assign"
     exact ex_nil (by unfold gapTag; rw [if_pos c']; rfl)
    ·have c':¬ (i < ai ∧ j < bj):=by simpa using c
     refine ex_ifX (by walk_at "m tst") (fun c2=>?_) (fun c2=>?_)
     ·have c2':i < ai:=by simpa using c2
      walk_at "m assign"
      exact ex_nilX (ex_nil (by unfold gapTag; rw [if_neg c',if_pos c2']; rfl))
     ·have c2':¬ i < ai:=by simpa using c2
      refine ex_ifX (by walk_at "m tst") (fun c3=>?_) (fun c3=>?_)
      ·have c3':j < bj:=by simpa using c3
       walk_at "m assign"
       exact ex_nilX (ex_nilX (ex_nil (by unfold gapTag; rw [if_neg c',if_neg c2',if_pos c3']; rfl)))
      ·have c3':¬ j < bj:=by simpa using c3
       exact ex_nilX (ex_nilX (ex_nil (by unfold gapTag; rw [if_neg c',if_neg c2',if_neg c3']; rfl)))
    refine ex_ifO [(dx,AttO (mAtt aj (il A) (il B) (.lst (bl.map (matN 135))) (.ptr D) fb (dct (b2jI idx) m) (set0A prog w) bp)),(D,LstO ((if i < ai ∨ j < bj then out ++ [(gapTag i ai j bj,i,ai,j,bj)] else out).map opN))] (tst_valueX (by walk_at "m ev") (tru_str gapTag_ne.1) (by intro _; rfl)) (fun c=>?_) (fun c=>?_) ?_
    ·rw [gapTag_ne.2,decide_eq_true_eq] at c
     rw [if_pos c]
     refine ex_exprX xi (evx_append fok (by walk_at "m ev") (by walk_at "m ev") (P:=fun _ om'=>om' = [(dx,AttO (mAtt aj (il A) (il B) (.lst (bl.map (matN 135))) (.ptr D) fb (dct (b2jI idx) m) (set0A prog w) bp)),(D,LstO (out.map opN ++ [opN (gapTag i ai j bj,i,ai,j,bj)]))]) (.there .here) (by rw [List.length_map]; lia) rfl _) ?_ rfl
     rintro d om' rfl
     exact ex_nil (by rw [List.map_append]; rfl)
    ·rw [gapTag_ne.2,decide_eq_false_iff_not] at c
     rw [if_neg c]
     exact ex_nil rfl
    have hl3:(if i < ai ∨ j < bj then out ++ [(gapTag i ai j bj,i,ai,j,bj)] else out).length ≤ 1000:=by
     split
     ·rw [List.length_append,List.length_singleton]; lia
     ·lia
    have eo:opStep ((i,j),out) (ai,bj,size) = ((ai + size,bj + size),if size = 0 then (if i < ai ∨ j < bj then out ++ [(gapTag i ai j bj,i,ai,j,bj)] else out) else (if i < ai ∨ j < bj then out ++ [(gapTag i ai j bj,i,ai,j,bj)] else out) ++ [((("equal" : PySem.Str),ai,ai + size,bj,bj + size):OpN)]):=rfl
    rw [eo] at hstep
    generalize (if i < ai ∨ j < bj then out ++ [(gapTag i ai j bj,i,ai,j,bj)] else out) = ou at hl3 hstep
    refine ex_swap2 fok (k₁:=1) (k₂:=2) (by walk_at "m st") (by walk_at "m st") (by walk_at "m ev") rfl ((swS xS _ _).trans (by kernel_rfl)) ?_
    rw [show ((ai:Nat):Int) + (size:Nat) = ((ai + size:Nat):Int) by first | rfl | lia,show ((bj:Nat):Int) + (size:Nat) = ((bj + size:Nat):Int) by first | rfl | lia]
    refine ex_ifO [(dx,AttO (mAtt aj (il A) (il B) (.lst (bl.map (matN 135))) (.ptr D) fb (dct (b2jI idx) m) (set0A prog w) bp)),(D,LstO ((if size = 0 then ou else ou ++ [((("equal" : PySem.Str),ai,ai + size,bj,bj + size):OpN)]).map opN))] (by walk_at "m tst") (fun c=>?_) (fun c=>?_) ?_
    ·have c':¬ size = 0:=by simpa using c
     rw [if_neg c']
     refine ex_exprX xi (evx_append fok (by walk_at "m ev") (by walk_at "m ev") (P:=fun _ om'=>om' = [(dx,AttO (mAtt aj (il A) (il B) (.lst (bl.map (matN 135))) (.ptr D) fb (dct (b2jI idx) m) (set0A prog w) bp)),(D,LstO (ou.map opN ++ [opN ("equal",ai,ai + size,bj,bj + size)]))]) (.there .here) (by rw [List.length_map]; lia) rfl _) ?_ rfl
     rintro d om' rfl
     exact ex_nil (by rw [List.map_append]; rfl)
    ·have c':size = 0:=by simpa using c
     rw [if_pos c']
     exact ex_nil rfl
    refine ex_nil ?_
    show Sub (oSig x dx D ((bl.take (t + 1)).foldl opStep ((0,0),[])).1.1 ((bl.take (t + 1)).foldl opStep ((0,0),[])).1.2) _ ∧ _ = [_,(D,LstO (((bl.take (t + 1)).foldl opStep ((0,0),[])).2.map opN))]
    rw [hstep]
    refine ⟨?_,rfl⟩
    unfold oSig pSig
    exact ⟨rfl,rfl,rfl,rfl,trivial⟩
   ·rintro sig om ⟨hsub,rfl⟩
    rw [List.length_map,List.take_length,← hoc]
    rw [List.length_map,List.take_length] at hsub
    exact ⟨sig,_,_,hsub,rfl⟩) (by intro _; rfl)) ?_
 rintro o ⟨sig',i,j,hsub,rfl⟩
 refine ex_sub hsub ?_
 refine ex_cast fok (.there .here) hD key_lst (SigCast.set (k:=3) rfl) (.cons (AttO.weak (as':=mAtt aj (il A) (il B) bv (opsN (opcodes f A.length B.length)) fb (dct (b2jI idx) m) (set0A prog w) bp) ?_) .nil) ?_
 ·unfold mAtt
  exact .same (.same (.same (.same (.same (.cast (.same (.same (.same (.same .nil)))))))))
 refine ex_returnX (d:=opsN (opcodes f A.length B.length)) (by walk_at "m ev") ⟨⟨rfl,bv,.inr rfl,rfl⟩,fun b hb=>.inl hb⟩
end
section
example:True:=by
 k_with "m glo" => (first
  | with_reducible exact g_len (by assumption) (by assumption) (by assumption)
  | with_reducible exact g_range (by assumption) (by assumption) (by assumption))
 trivial
noncomputable def fd_rd (P:Params):FuncData:=fdOf (fo263 P)
theorem def_rd (P:Params):defIn (frag P) 263 (fd_rd P):=defIn_of (fo263 P) (by kernel_rfl) (by kernel_rfl) (by kernel_rfl)
theorem sig_rd {P:Params} {a0 a1 a2 a3 a4:AV}:sigOf (fd_rd P).scope.names ["codes", "old", "new", "notes", "now"] [a0,a1,a2,a3,a4] = [some a0,some a1,some a2,some a3,some a4,none,none,none,none,none,none,none,none,none,none,none,none]:=by kernel_rfl
theorem ok_rd (P:Params):DefOk (fd_rd P) ["codes", "old", "new", "notes", "now"]:=defOk_of rfl (of_decide_eq_true (by kernel_rfl)) (by kernel_rfl) (of_decide_eq_true (by kernel_rfl)) (by kernel_rfl)
noncomputable def nl_rd:List (PySem.Str × NameKind):=[("codes",.local),("old",.local),("new",.local),("notes",.local),("now",.cell),("told",.local),("gone",.local),("last",.local),("at",.local),("tag",.local),("i1",.local),("i2",.local),("j1",.local),("j2",.local),("word",.local),("range",.globalImplicit),("len",.globalImplicit)]
theorem names_rd (P:Params):(fd_rd P).scope.names = nl_rd:=by kernel_rfl
theorem sel_true {f:Nat → AV} {n:Nat}:sel (fun _=>true) f n = (List.range n).map f:=by unfold sel; rw [List.filter_eq_self.mpr (fun _ _=>rfl)]
theorem capO2 {k:Nat} {x:PySem.Str} {d₀:AV}:∀ j d,([none,none,some d₀]:List (Option AV))[j]? = some (some d) → ∃ e ∈ [(⟨2,k,x,d₀⟩:CapE)],e.j = j ∧ e.d = d:=capO_of ⟨⟨_,List.mem_cons_self,rfl,rfl⟩,trivial⟩
noncomputable def rdSig (codes:List OpN) (old new notes:List Int) (now:Int) (T G:Addr) (last:PySem.Str) (i j:Nat):List (Option AV):=[some (opsN codes),some (il old),some (il new),some (il notes),some (.int now),some (.ptr T),some (.ptr G),some (.str last),some (.tup [.int i,.int j]),none,none,none,none,none,none,none,none]
noncomputable def rdSigT (codes:List OpN) (old new notes:List Int) (now:Int) (T G:Addr) (last:PySem.Str) (i j:Nat) (tag:PySem.Str) (i1 i2 j1 j2:Nat) (wd:Option AV):List (Option AV):=[some (opsN codes),some (il old),some (il new),some (il notes),some (.int now),some (.ptr T),some (.ptr G),some (.str last),some (.tup [.int i,.int j]),some (.str tag),some (.int i1),some (.int i2),some (.int j1),some (.int j2),wd,none,none]
theorem rd_spec {prog:Program} {w:World} {codes:List OpN} {old new notes:List Int} {now:Int} (S:Nat → RdS) (hS0:S 0 = rd0) (hS:∀ t c,codes[t]? = some c → Rd old new notes now (S t) c (S (t + 1))) (hSi:(S codes.length).i = old.length) (hSj:(S codes.length).j = new.length)
  (l1:old.length ≤ 1000) (l2:new.length ≤ 1000) (l3:notes.length = old.length) (hti:∀ t,t ≤ codes.length → (S t).told.length ≤ 1000 ∧ (S t).gone.length ≤ 1000 ∧ (S t).i ≤ old.length ∧ (S t).j ≤ new.length) :
  PureC prog w (SK w) 3 (.ref 263) [opsN codes,il old,il new,il notes,.int now] (.tup [il (S codes.length).told,il (S codes.length).gone]):=by
 refine pure_defC (ok_rd w.params) (fun V hV=>defAt_of hV (def_rd w.params) (stat w.params) rfl rfl) rfl (fun vs hv=>?_) (fun xAr xG xs xB room fok=>?_)
 ·obtain ⟨v0,v1,v2,v3,v4,rfl⟩:=len5 hv
  kernel_rfl
 rw [sig_rd]
 have xg:(fnAt (fd_rd w.params) 263 xAr xG xs).env.globals = mainGlobals:=rfl
 have xb:(fnAt (fd_rd w.params) 263 xAr xG xs).env.builtins = builtinsNs:=rfl
 have hk:SeesK (frag w.params) (fnAt (fd_rd w.params) 263 xAr xG xs).G:=xB
 have xN:(fnAt (fd_rd w.params) 263 xAr xG xs).names = (fd_rd w.params).scope.names:=rfl
 have xA:Room (fnAt (fd_rd w.params) 263 xAr xG xs).A _:=room
 have xn:(fnAt (fd_rd w.params) 263 xAr xG xs).n₀ = xs.heap.objs.size:=rfl
 have xi:interactive (fnAt (fd_rd w.params) 263 xAr xG xs).env = false:=rfl
 have xS:(fnAt (fd_rd w.params) 263 xAr xG xs).env.scope = (fd_rd w.params).scope:=rfl
 have xc_now:∃ c,(fnAt (fd_rd w.params) 263 xAr xG xs).env.cells.lookup (Str.ofString "now") = some c ∧ c ∈ (fnAt (fd_rd w.params) 263 xAr xG xs).cs:=⟨xs.heap.objs.size + 1,by kernel_rfl,List.mem_map.mpr ⟨(Str.ofString "now",xs.heap.objs.size + 1),mem_of_lookup (by kernel_rfl),rfl⟩⟩
 generalize fnAt (fd_rd w.params) 263 xAr xG xs = F at fok xg xb hk xN xA xn xi xS xc_now ⊢
 have xN1:=xN.trans (names_rd w.params)
 have xn0:At F "codes" 0 .local:=at_nl fok xN1 0 rfl (by kernel_rfl)
 have xn1:At F "old" 1 .local:=at_nl fok xN1 1 rfl (by kernel_rfl)
 have xn2:At F "new" 2 .local:=at_nl fok xN1 2 rfl (by kernel_rfl)
 have xn3:At F "notes" 3 .local:=at_nl fok xN1 3 rfl (by kernel_rfl)
 have xn4:At F "now" 4 .cell:=at_nl fok xN1 4 rfl (by kernel_rfl)
 have xn5:At F "told" 5 .local:=at_nl fok xN1 5 rfl (by kernel_rfl)
 have xn6:At F "gone" 6 .local:=at_nl fok xN1 6 rfl (by kernel_rfl)
 have xn7:At F "last" 7 .local:=at_nl fok xN1 7 rfl (by kernel_rfl)
 have xn8:At F "at" 8 .local:=at_nl fok xN1 8 rfl (by kernel_rfl)
 have xn9:At F "tag" 9 .local:=at_nl fok xN1 9 rfl (by kernel_rfl)
 have xn10:At F "i1" 10 .local:=at_nl fok xN1 10 rfl (by kernel_rfl)
 have xn11:At F "i2" 11 .local:=at_nl fok xN1 11 rfl (by kernel_rfl)
 have xn12:At F "j1" 12 .local:=at_nl fok xN1 12 rfl (by kernel_rfl)
 have xn13:At F "j2" 13 .local:=at_nl fok xN1 13 rfl (by kernel_rfl)
 have xn14:At F "word" 14 .local:=at_nl fok xN1 14 rfl (by kernel_rfl)
 have xn15:At F "range" 15 .globalImplicit:=at_nl fok xN1 15 rfl (by kernel_rfl)
 have xn16:At F "len" 16 .globalImplicit:=at_nl fok xN1 16 rfl (by kernel_rfl)
 have hsl:(1000000:Nat) ≤ sizeLine:=by decide
 refine ex_cons (P₁:=fun o=>∃ T G,F.n₀ ≤ T ∧ F.n₀ ≤ G ∧ o = .nxt (rdSig codes old new notes now T G "" 0 0) [(G,LstO []),(T,LstO [])]) ?_ ?_
 ·with_reducible refine' exx_assign_tuple (P:=fun d om'=>∃ T G,F.n₀ ≤ T ∧ F.n₀ ≤ G ∧ d = .tup [.ptr T,.ptr G,.str "",.tup [.int 0,.int 0]] ∧ om' = [(G,LstO []),(T,LstO [])]) ?_ ?_ ?_ ?_
  ·with_reducible refine' evx_tuple fok ?_
   with_reducible refine' evxl_cons (P₁:=fun d om'=>∃ T,F.n₀ ≤ T ∧ d = .ptr T ∧ om' = [(T,LstO [])]) ?_ ?_ ?_
   ·exact evx_open fok evl_nil (show 0 ≤ sizeLine by decide) fun T hT=>⟨T,hT,rfl,rfl⟩
   ·rintro d om' ⟨T,hT,rfl,rfl⟩
    with_reducible refine' evxl_cons (P₁:=fun d om'=>∃ G,F.n₀ ≤ G ∧ d = .ptr G ∧ om' = [(G,LstO []),(T,LstO [])]) ?_ ?_ ?_
    ·exact evx_open fok evl_nil (show 0 ≤ sizeLine by decide) fun G hG=>⟨G,hG,rfl,rfl⟩
    ·rintro d om' ⟨G,hG,rfl,rfl⟩
     exact evxl_of (ds:=[.str "",.tup [.int 0,.int 0]]) (by walk_at "m evl") ⟨show 4 ≤ sizeLine by decide,T,G,hT,hG,rfl,rfl⟩
    ·rfl
   ·rfl
  ·rintro d om' ⟨T,G,hT,hG,rfl,rfl⟩
   exact ⟨_,as_tuple fok (asl_cons (as_name fok (k:=5) (by walk_at "m st")) (asl_cons (as_name fok (k:=6) (by walk_at "m st")) (asl_cons (as_name fok (k:=7) (by walk_at "m st")) (asl_cons (as_name fok (k:=8) (by walk_at "m st")) asl_nil)))) rfl,T,G,hT,hG,rfl⟩
  ·rfl
  ·exact (swS xS _ _).trans (by kernel_rfl)
 rintro o ⟨T,G,hT,hG,rfl⟩
 refine ex_seq (sig':=(rdSig codes old new notes now T G (S codes.length).last (S codes.length).i (S codes.length).j)) (om':=[(G,LstO ((S codes.length).gone.map .int)),(T,LstO ((S codes.length).told.map .int))])
  (ex_for2 fok (d:=opsN codes) (xs:=codes.map opN) (by walk_at "m ev") (itr_list fok)
   (fun t sig om=>sig = rdSig codes old new notes now T G (S t).last (S t).i (S t).j ∧ om = [(G,LstO ((S t).gone.map .int)),(T,LstO ((S t).told.map .int))])
   ⟨_,Sub.refl,by rw [hS0]; rfl,by rw [hS0]; rfl⟩ ?_ ?_ (by intro _; rfl)) ?_
 ·rintro t _ sig om hx ⟨rfl,rfl⟩
  rw [List.getElem?_map,Option.map_eq_some_iff] at hx
  obtain ⟨c,hc,rfl⟩:=hx
  have htl:t < codes.length:=(List.getElem?_eq_some_iff.mp hc).1
  have hb0:=hti t (Nat.le_of_lt htl)
  have hb1:=hti (t + 1) htl
  have hst:=hS t c hc
  generalize S t = s0 at hst hb0
  generalize S (t + 1) = s1 at hst hb1
  obtain ⟨tag,i1,i2,j1,j2⟩:=c
  refine ⟨rdSigT codes old new notes now T G s0.last s0.i s0.j tag i1 i2 j1 j2 none,as_tuple fok (asl_cons (as_name fok (k:=9) (by walk_at "m st")) (asl_cons (as_name fok (k:=10) (by walk_at "m st")) (asl_cons (as_name fok (k:=11) (by walk_at "m st")) (asl_cons (as_name fok (k:=12) (by walk_at "m st")) (asl_cons (as_name fok (k:=13) (by walk_at "m st")) asl_nil))))) rfl,?_⟩
  refine ex_cons (P₁:=(· = .nxt (rdSigT codes old new notes now T G s0.last s0.i s0.j tag i1 i2 j1 j2 (some (.str (rdWord i1 i2 j1 j2)))) [(G,LstO (s0.gone.map .int)),(T,LstO (s0.told.map .int))])) (ex_if (b:=decide (i1 < i2)) (tst_eq (by walk_at "m tst") (by simp)) (fun c=>?_) (fun c=>?_)) ?_
  ·have c':i1 < i2:=of_decide_eq_true c
   refine ex_seq (ex_assign fok (k:=14) (d:=.str (rdWord i1 i2 j1 j2)) (by walk_at "m st") (ev_eq (ev_if (c:=decide (j1 < j2)) (tst_eq (by walk_at "m tst") (by simp)) (fun _=>ev_str) (fun _=>ev_str)) ?_) ((swW xS _ _ _).trans (by kernel_rfl))) (ex_nil rfl)
   unfold rdWord
   rw [if_pos c']
   by_cases q:j1 < j2 <;> simp [q]
  ·have c':¬ i1 < i2:=of_decide_eq_false c
   refine ex_seq (ex_assign fok (k:=14) (d:=.str (rdWord i1 i2 j1 j2)) (by walk_at "m st") (ev_eq (ev_if (c:=decide (j1 < j2)) (tst_eq (by walk_at "m tst") (by simp)) (fun _=>ev_str) (fun _=>ev_str)) ?_) ((swW xS _ _ _).trans (by kernel_rfl))) (ex_nil rfl)
   unfold rdWord
   rw [if_neg c']
   by_cases q:j1 < j2 <;> simp [q]
  rintro o rfl
  with_reducible refine' ex_ifF (tst_eq (tst_bool (any_cons (tst_cmpX (d₁:=.tup [.int i1,.int j1]) (d₂:=.tup [.int s0.i,.int s0.j]) (by walk_at "m ev") (by walk_at "m ev") (op_ne fok (n:=1) (Cmp.tup (CmpL.cons (Cmp.int _ _) (CmpL.cons (Cmp.int _ _) CmpL.nil)))) rfl) (fun _=>any_cons (tst_bool (all_cons (by walk_at "m tst") (fun _=>all_cons (tst_cmpX (d₁:=.bool _) (d₂:=.bool _) (by walk_at "m ev") (by walk_at "m ev") (op_eq fok (n:=0) (Cmp.bool _ _)) rfl) (fun _=>all_nil)))) (fun _=>any_nil)))) hst.t1) (ex_nilX ?_)
  have hi1:i1 ≤ old.length:=Nat.le_trans (Nat.le_of_eq hst.1.1) hb0.2.2.1
  have hj1:j1 ≤ new.length:=Nat.le_trans (Nat.le_of_eq hst.1.2) hb0.2.2.2
  rcases hst.2 with ⟨ht,h1,h2,h3,h4,e⟩ | ⟨h1,h2,e⟩
  all_goals dsimp only at h1 h2 e
  ·dsimp only at ht h3
   rw [e] at hb1
   dsimp only at hb1
   have hw:rdWord i1 i2 j1 j2 = "replace" := by unfold rdWord; rw [if_pos h1,if_pos h2]
   rw [hw]
   have hsi:=hb1.2.2.1
   have hsj:=hb1.2.2.2
   have ho:old.length ≤ sizeLine:=by lia
   have hn:new.length ≤ sizeLine:=by lia
   have hno:notes.length ≤ sizeLine:=by lia
   with_reducible refine' ex_ifT (tst_eq (by walk_at "m tst") (by rw [ht]; decide)) ?_
   with_reducible refine' ex_ifF (tst_eq (tst_bool (any_cons (by walk_at "m tst") fun _=>any_cons (tst_cmpX (d₁:=il (sliceN old i1 i2)) (d₂:=il (sliceN new j1 j2)) (ev_eq (by walk_at "m ev") (by walk_at "m r")) (ev_eq (by walk_at "m ev") (by walk_at "m r")) (op_ne_il fok) rfl) fun _=>any_nil)) (by rw [h3]; simp)) (ex_nilX ?_)
   refine ex_exprX xi (evx_extend fok (l':=(sliceN notes i1 i2).map .int) (by walk_at "m ev") (ev_eq (by walk_at "m ev") (by rfl)) (P:=fun _ om'=>om' = [(G,LstO (s0.gone.map .int)),(T,LstO (s0.told.map .int ++ (sliceN notes i1 i2).map .int))]) (.there .here) (by
    have:=hb1.1
    rw [List.length_append] at this
    rw [List.length_map,List.length_map]; lia) rfl _) ?_ rfl
   rintro d om' rfl
   refine ex_nilX ?_
   refine ex_swap2 fok (k₁:=7) (k₂:=8) (d₁:=.str tag) (d₂:=.tup [.int i2,.int j2]) (by walk_at "m st") (by walk_at "m st") (by walk_at "m ev") rfl ((swS xS _ _).trans (by kernel_rfl)) ?_
   refine ex_nil ⟨rdSig codes old new notes now T G tag i2 j2,?_,by rw [e,ht],?_⟩
   ·unfold rdSig
    exact ⟨rfl,rfl,rfl,rfl,rfl,rfl,rfl,rfl,rfl,trivial⟩
   ·rw [e,List.map_append]
  ·rw [e] at hb1
   dsimp only at hb1
   have hw:rdWord i1 i2 j1 j2 = tag:=by
    unfold rdWord
    rcases h1 with ⟨rfl,a,b⟩ | ⟨rfl,a,b⟩ | ⟨rfl,a,b⟩
    ·rw [if_pos a,if_pos b]
    ·rw [if_pos a,if_neg b]
    ·rw [if_neg a,if_pos b]
   have hte:(tag.cps.toList == ("equal" : PySem.Str).cps.toList) = false:=str_ne (change_ne h1)
   rw [hw]
   have hsi:=hb1.2.2.1
   have hsj:=hb1.2.2.2
   obtain ⟨c,hc,hcs⟩:=xc_now
   with_reducible refine' ex_ifF (tst_eq (by walk_at "m tst") hte) ?_
   with_reducible refine' ex_ifF (tst_eq (by walk_at "m tst") (by simp)) (ex_nilX ?_)
   have q1:s0.told.length + (j2 - j1) ≤ 1000:=by
    have:=hb1.1
    rwa [List.length_append,List.length_replicate] at this
   have q2:s0.gone.length + (i2 - i1) ≤ 1000:=by
    have:=hb1.2.1
    rwa [List.length_append,List.length_map,List.length_range'] at this
   have n1:(rngL (j1:Int) (j2:Int)).length = j2 - j1:=rngL_nat
   have n2:(rngL (i1:Int) (i2:Int)).length = i2 - i1:=rngL_nat
   refine ex_exprX xi (evx_extend fok (l':=(List.replicate (j2 - j1) now).map .int) (by walk_at "m ev") (ev_eq (ev_compB (cl:=[(Str.ofString "now",c)]) (res:=sel (fun _=>true) (fun i=>.int now) (rngL (j1:Int) (j2:Int)).length) ⟨(closure_run (fun _=>c) (by
     intro y hy
     have e:y ∈ [Str.ofString "now"]:=hy
     rw [List.mem_singleton] at e
     rw [e]; exact hc)).trans rfl,by decide,rfl,of_decide_eq_true (by kernel_rfl)⟩ (fun ck=>comp1f fok (cap:=[none,none,some (.int now)]) (k:=1) (fun _=>true) (fun i=>.int now) ck
    (cap_of [⟨2,4, "now",.int now⟩] capO2 (by
     intro e he
     rw [List.mem_singleton] at he
     subst he
     exact ⟨rfl,.inl (by rw [xN]; rfl),rfl,by rw [hc]; exact (by kernel_rfl:([(Str.ofString "now",c)]:List (PySem.Str × Addr)).lookup (Str.ofString "now") = some c)⟩)) rfl (by kernel_rfl) (by walk_at "m ev") (itr_rngN fok (Nat.le_trans hj1 l2) (Nat.le_trans hsj l2)) (by rw [n1]; exact le_lineS (Nat.le_trans hsj l2))
    (fun V' n l ok' hV hn i xv hxv=>⟨ifs_nil,fun _=>cnm_fre ok' 2 rfl (by kernel_rfl) rfl⟩)) (fun _=>rfl)) (by rw [n1,sel_true,List.map_const',List.length_range,List.map_replicate])) (P:=fun _ om'=>om' = [(G,LstO (s0.gone.map .int)),(T,LstO (s0.told.map .int ++ (List.replicate (j2 - j1) now).map .int))]) (.there .here) (by
    rw [List.length_map,List.length_map,List.length_replicate]; lia) rfl _) ?_ rfl
   rintro d om' rfl
   have e0:(sel (fun _=>true) (fun i=>.int ((i1:Int) + (i:Nat))) (rngL (i1:Int) (i2:Int)).length) = ((List.range' i1 (i2 - i1)).map (fun (n:Nat)=>(n:Int))).map .int:=by
    rw [n2,sel_true,List.range'_eq_map_range,List.map_map,List.map_map]
    refine List.map_congr_left fun a _=>?_
    simp
   refine ex_exprX xi (evx_extend fok (l':=((List.range' i1 (i2 - i1)).map (fun (n:Nat)=>(n:Int))).map .int) (by walk_at "m ev") (ev_eq (ev_compB (cl:=[]) (res:=sel (fun _=>true) (fun i=>.int ((i1:Int) + (i:Nat))) (rngL (i1:Int) (i2:Int)).length) ⟨(closure_run (fun _=>0) (by intro y hy; cases hy)).trans rfl,by decide,rfl,of_decide_eq_true (by kernel_rfl)⟩
    (fun ck=>comp1f fok (cap:=[none,none]) (k:=1) (fun _=>true) (fun i=>.int ((i1:Int) + (i:Nat))) ck
     (cap_of [] (fun j d h=>by rcases j with _ | _ | j <;> simp at h) (fun e he=>by cases he)) rfl (by kernel_rfl) (by walk_at "m ev") (itr_rngN fok (Nat.le_trans hi1 l1) (Nat.le_trans hsi l1)) (by rw [n2]; exact le_lineS (Nat.le_trans hsi l1))
     (fun V' n l ok' hV hn i xv hxv=>by
      obtain ⟨hi',rfl⟩:=rngL_get hxv
      exact ⟨ifs_nil,fun _=>cnm_loc ok' 1 rfl (by kernel_rfl) rfl⟩)) (fun _=>rfl)) (congrArg AV.lst e0)) (P:=fun _ om'=>om' = [(G,LstO (s0.gone.map .int ++ ((List.range' i1 (i2 - i1)).map (fun (n:Nat)=>(n:Int))).map .int)),(T,LstO (s0.told.map .int ++ (List.replicate (j2 - j1) now).map .int))]) .here (by
    rw [List.length_map,List.length_map,List.length_map,List.length_range']; lia) rfl _) ?_ rfl
   rintro d om' rfl
   refine ex_nilX ?_
   refine ex_swap2 fok (k₁:=7) (k₂:=8) (d₁:=.str tag) (d₂:=.tup [.int i2,.int j2]) (by walk_at "m st") (by walk_at "m st") (by walk_at "m ev") rfl ((swS xS _ _).trans (by kernel_rfl)) ?_
   refine ex_nil ⟨rdSig codes old new notes now T G tag i2 j2,?_,by rw [e],?_⟩
   ·unfold rdSig
    exact ⟨rfl,rfl,rfl,rfl,rfl,rfl,rfl,rfl,rfl,trivial⟩
   ·rw [e,List.map_append,List.map_append]
 ·rintro sig om ⟨rfl,rfl⟩
  rw [List.length_map]
 rw [hSi,hSj]
 with_reducible refine' ex_ifF (tst_eq (tst_cmpX (d₁:=.tup [.int old.length,.int new.length]) (d₂:=.tup [.int old.length,.int new.length]) (by walk_at "m ev") (by walk_at "m ev") (op_ne fok (n:=1) (Cmp.tup (CmpL.cons (Cmp.int _ _) (CmpL.cons (Cmp.int _ _) CmpL.nil)))) rfl) (by simp)) (ex_nilX ?_)
 refine ex_cast fok .here hG key_lst (SigCast.set (k:=6) rfl) OmCast.refl ?_
 refine ex_cast fok .here hT key_lst (SigCast.set (k:=5) rfl) OmCast.refl ?_
 refine ex_returnX (d:=.tup [il (S codes.length).told,il (S codes.length).gone]) (by walk_at "m ev") rfl
end
section
noncomputable def castL (l:List Nat):List Int:=l.map fun (n:Nat)=>(n:Int)
noncomputable def blanksAt (o:List Nat) (t:Nat):Nat:=if t % 10 = 0 ∧ 0 < t ∧ t < 171 then o.getD (t / 10 - 1) 0 else 0
noncomputable def cellT (o:List Nat) (t:Nat):List Int:=List.replicate (blanksAt o t) (-1) ++ [(t:Int)]
noncomputable def tText (n:Nat) (o:List Nat):List Int:=(List.range n).flatMap (cellT o)
theorem tText_succ {n:Nat} {o:List Nat}:tText (n + 1) o = tText n o ++ cellT o n:=by
 unfold tText
 rw [List.range_succ,List.flatMap_append,List.flatMap_singleton]
theorem getD_le7 {o:List Nat} (h:∀ g ∈ o,g ≤ 7) (i:Nat):o.getD i 0 ≤ 7:=by
 rw [List.getD_eq_getElem?_getD]
 cases e:o[i]? with
 | none=>exact Nat.zero_le _
 | some g=>exact h g (List.mem_of_getElem? e)
theorem blanks_le {o:List Nat} (h:∀ g ∈ o,g ≤ 7) (t:Nat):blanksAt o t ≤ 7:=by
 unfold blanksAt
 split
 ·exact getD_le7 h _
 ·exact Nat.zero_le _
theorem tText_len {o:List Nat} (h:∀ g ∈ o,g ≤ 7):∀ n,(tText n o).length ≤ n * 8
 | 0=>Nat.zero_le _
 | n + 1=>by
  rw [tText_succ,List.length_append,Nat.succ_mul]
  refine Nat.add_le_add (tText_len h n) ?_
  unfold cellT
  rw [List.length_append,List.length_replicate]
  exact Nat.succ_le_succ (blanks_le h n)
theorem mod10 {t:Nat}:(t:Int).fmod 10 = ((t % 10:Nat):Int):=by rw [Int.fmod_eq_emod_of_nonneg _ (by decide)]; rfl
theorem div10 {t:Nat} (h:0 < t) (h2:t % 10 = 0):(t:Int).fdiv 10 - 1 = ((t / 10 - 1:Nat):Int):=by
 rw [Int.fdiv_eq_ediv_of_nonneg _ (by decide),Int.ofNat_sub (Nat.div_pos (Nat.le_of_dvd h (Nat.dvd_of_mod_eq_zero h2)) (by decide))]
 rfl
theorem cast_get {o:List Nat} {i:Nat} (h:i < o.length):(castL o)[((i:Nat):Int).toNat]? = some ((o.getD i 0:Nat):Int):=by
 rw [Int.toNat_natCast]
 unfold castL
 rw [List.getElem?_map,List.getElem?_eq_getElem h,List.getD_eq_getElem?_getD,List.getElem?_eq_getElem h]; rfl
theorem sel_const {n:Nat} {x:Int}:sel (fun _=>true) (fun _=>.int x) n = (List.replicate n x).map .int:=by rw [sel_true,List.map_const',List.length_range,List.map_replicate]
example:True:=by
 k_with "m glo" => (first
  | with_reducible exact g_len (by assumption) (by assumption) (by assumption)
  | with_reducible exact g_range (by assumption) (by assumption) (by assumption)
  | with_reducible exact g_max (by assumption) (by assumption) (by assumption))
 trivial
noncomputable def fd_txt (P:Params):FuncData:=fdOf (fo251 P)
theorem def_txt (P:Params):defIn (frag P) 251 (fd_txt P):=defIn_of (fo251 P) (by kernel_rfl) (by kernel_rfl) (by kernel_rfl)
theorem sig_txt {P:Params} {a0 a1:AV}:sigOf (fd_txt P).scope.names ["words", "blanks"] [a0,a1] = [some a0,some a1,none,none,none]:=by kernel_rfl
theorem ok_txt (P:Params):DefOk (fd_txt P) ["words", "blanks"]:=defOk_of rfl (of_decide_eq_true (by kernel_rfl)) (by kernel_rfl) (of_decide_eq_true (by kernel_rfl)) (by kernel_rfl)
noncomputable def nl_txt:List (PySem.Str × NameKind):=[("words",.local),("blanks",.local),("text",.local),("word",.local),("range",.globalImplicit)]
theorem names_txt (P:Params):(fd_txt P).scope.names = nl_txt:=by kernel_rfl
noncomputable def txSig (words:Nat) (o:List Nat) (T:Addr):List (Option AV):=[some (.int words),some (il (castL o)),some (.ptr T),none,none]
theorem txt_spec {prog:Program} {w:World} {words:Nat} {o:List Nat} (hw:words ≤ 199) (ho:o.length = 17) (h7:∀ g ∈ o,g ≤ 7):PureC prog w (SK w) 3 (.ref 251) [.int words,il (castL o)] (il (tText words o)):=by
 refine pure_defC (ok_txt w.params) (fun V hV=>defAt_of hV (def_txt w.params) (stat w.params) rfl rfl) rfl (fun vs hv=>?_) (fun xAr xG xs xB room fok=>?_)
 ·obtain ⟨v0,v1,rfl⟩:=len2 hv
  kernel_rfl
 rw [sig_txt]
 have xg:(fnAt (fd_txt w.params) 251 xAr xG xs).env.globals = mainGlobals:=rfl
 have xb:(fnAt (fd_txt w.params) 251 xAr xG xs).env.builtins = builtinsNs:=rfl
 have hk:SeesK (frag w.params) (fnAt (fd_txt w.params) 251 xAr xG xs).G:=xB
 have xN:(fnAt (fd_txt w.params) 251 xAr xG xs).names = (fd_txt w.params).scope.names:=rfl
 have xA:Room (fnAt (fd_txt w.params) 251 xAr xG xs).A _:=room
 have xn:(fnAt (fd_txt w.params) 251 xAr xG xs).n₀ = xs.heap.objs.size:=rfl
 have xi:interactive (fnAt (fd_txt w.params) 251 xAr xG xs).env = false:=rfl
 have xS:(fnAt (fd_txt w.params) 251 xAr xG xs).env.scope = (fd_txt w.params).scope:=rfl
 generalize fnAt (fd_txt w.params) 251 xAr xG xs = F at fok xg xb hk xN xA xn xi xS ⊢
 have xN1:=xN.trans (names_txt w.params)
 have xn0:At F "words" 0 .local:=at_nl fok xN1 0 rfl (by kernel_rfl)
 have xn1:At F "blanks" 1 .local:=at_nl fok xN1 1 rfl (by kernel_rfl)
 have xn2:At F "text" 2 .local:=at_nl fok xN1 2 rfl (by kernel_rfl)
 have xn3:At F "word" 3 .local:=at_nl fok xN1 3 rfl (by kernel_rfl)
 have xn4:At F "range" 4 .globalImplicit:=at_nl fok xN1 4 rfl (by kernel_rfl)
 refine ex_assignO fok (k:=2) (by walk_at "m st") (evx_open fok evl_nil (Nat.zero_le _) (P:=fun d om'=>∃ T,F.n₀ ≤ T ∧ d = .ptr T ∧ om' = [(T,LstO [])]) fun T hT=>⟨T,hT,rfl,rfl⟩) ?_ rfl
 rintro d om₁ ⟨T,hT,rfl,rfl⟩
 refine ex_seq (sig':=(txSig words o T)) (om':=[(T,LstO ((tText words o).map .int))])
  (ex_for2 fok (d:=.rng 0 words) (xs:=rngL 0 words) (by walk_at "m ev") (itr_rng0 fok (Nat.le_trans hw (by decide))) (fun t sig om=>sig = txSig words o T ∧ om = [(T,LstO ((tText t o).map .int))]) ⟨_,?_,rfl,rfl⟩ ?_ ?_ (by intro _; rfl)) ?_
 ·exact ⟨rfl,rfl,rfl,trivial⟩
 ·rintro t _ sig om hx ⟨rfl,rfl⟩
  obtain ⟨ht,rfl⟩:=rngL_get hx
  have ht:t < words:=rng0_lt ht
  have hl:=tText_len h7 t
  have hl2:(tText t o).length ≤ 1592:=Nat.le_trans hl (Nat.le_trans (Nat.mul_le_mul_right 8 (Nat.le_trans (Nat.le_of_lt ht) hw)) (by decide))
  rw [Int.zero_add]
  refine ⟨_,as_name fok (k:=3) (by walk_at "m st"),?_⟩
  refine ex_cons (P₁:=(· = .nxt ((txSig words o T).set 3 (some (.int t))) [(T,LstO ((tText t o ++ List.replicate (blanksAt o t) (-1)).map .int))]))
   (ex_if (b:=decide (t % 10 = 0 ∧ 0 < t ∧ t < 171)) (tst_eq (tst_bool (all_cons (tst_cmpX (d₁:=.int ((t % 10:Nat):Int)) (ev_eq (ev_binop (by walk_at "m ev") ev_int (op_mod (by decide))) (congrArg AV.int mod10)) ev_int op_eq_int rfl) fun _=>all_cons (tst_chain2 ev_int (by walk_at "m ev") ev_int op_lt_int op_lt_int rfl) fun _=>all_nil)) ?_) (fun c=>?_) (fun c=>?_)) ?_
  ·rw [Bool.eq_iff_iff]
   simp only [Bool.and_eq_true,decide_eq_true_eq,beq_iff_eq,and_true]
   exact and_congr Int.natCast_eq_zero (and_congr Int.natCast_pos Int.ofNat_lt)
  ·obtain ⟨c1,c2,c3⟩:=of_decide_eq_true c
   have hbl:blanksAt o t = o.getD (t / 10 - 1) 0:=by unfold blanksAt; rw [if_pos ⟨c1,c2,c3⟩]
   have h7t:=getD_le7 h7 (t / 10 - 1)
   have hi:t / 10 - 1 < o.length:=by rw [ho]; exact Nat.lt_of_le_of_lt (Nat.sub_le_sub_right (Nat.div_le_div_right (Nat.le_of_lt_succ c3)) 1) (by decide:170 / 10 - 1 < 17)
   have nn:(rngL 0 ((o.getD (t / 10 - 1) 0:Nat):Int)).length = o.getD (t / 10 - 1) 0:=rngL_zero
   have hget:=cast_get hi
   have h63:((t / 10 - 1:Nat):Int) < 2 ^ 63:=lt_63 (Nat.le_trans (Nat.le_of_lt (ho ▸ hi)) (by decide))
   rw [hbl]
   generalize o.getD (t / 10 - 1) 0 = g at h7t nn hget ⊢
   refine ex_exprX xi (evx_extend fok (l':=(List.replicate g (-1)).map .int) (by walk_at "m ev") (ev_eq (ev_compB (cl:=[]) (res:=sel (fun _=>true) (fun i=>.int (-1)) (rngL 0 (g:Int)).length) ⟨(closure_run (fun _=>0) (by intro y hy; cases hy)).trans rfl,by decide,rfl,of_decide_eq_true (by kernel_rfl)⟩
    (fun ck=>comp1f fok (cap:=[none,none]) (k:=1) (fun _=>true) (fun i=>.int (-1)) ck
     (cap_of [] (fun j d h=>by rcases j with _ | _ | j <;> simp at h) (fun e he=>by cases he)) rfl (by kernel_rfl)
     (ev_callX (d:=.rng 0 g) (by walk_at "m ev") callee_type (evl_consX (ev_sub (d₁:=il (castL o)) (d₂:=.int ((t / 10 - 1:Nat):Int)) (by walk_at "m ev") (ev_eq (ev_binop (ev_binop (by walk_at "m ev") ev_int (op_fdiv (by decide) (by decide))) ev_int op_sub) (congrArg AV.int (div10 c2 c1))) (item_il (fun _ _=>rfl) nat0 h63 hget)) evl_nil rfl) (c_range1 fok) rfl rfl)
     (itr_rng0 fok (Nat.le_trans h7t (by decide))) (by rw [nn]; exact Nat.le_trans h7t (by decide))
     (fun V' n l ok' hV hn i xv hxv=>⟨ifs_nil,fun _=>ev_unop ev_int op_neg⟩)) (fun _=>rfl)) (congrArg AV.lst (by rw [nn]; exact sel_const))) (P:=fun _ om'=>om' = [(T,LstO ((tText t o).map .int ++ (List.replicate g (-1)).map .int))]) .here (by
    rw [List.length_map,List.length_map,List.length_replicate]; exact Nat.le_trans (Nat.add_le_add hl2 h7t) (by decide)) rfl _) ?_ rfl
   rintro d om' rfl
   refine ex_nil ?_
   rw [List.map_append]
  ·have hbl:blanksAt o t = 0:=by unfold blanksAt; rw [if_neg (of_decide_eq_false c)]
   rw [hbl]
   refine ex_nil ?_
   rw [List.replicate_zero,List.append_nil]
  rintro o' rfl
  have h7t:=blanks_le h7 t
  refine ex_exprX xi (evx_append fok (d:=.int t) (by walk_at "m ev") (by walk_at "m ev") (P:=fun _ om'=>om' = [(T,LstO ((tText t o ++ List.replicate (blanksAt o t) (-1)).map .int ++ [.int t]))]) .here (by rw [List.length_map,List.length_append,List.length_replicate]; exact Nat.le_trans (Nat.add_le_add hl2 h7t) (by decide)) rfl _) ?_ rfl
  rintro d om' rfl
  refine ex_nil ⟨_,?_,rfl,?_⟩
  ·exact ⟨rfl,rfl,rfl,trivial⟩
  ·rw [tText_succ]
   unfold cellT
   rw [← List.append_assoc,List.map_append (l₂:=[(t:Int)])]; rfl
 ·rintro sig om ⟨rfl,rfl⟩
  rw [rngL_zero]
 refine ex_cast fok .here hT key_lst (SigCast.set (k:=2) rfl) OmCast.refl ?_
 exact ex_returnX (by walk_at "m ev") rfl
end
section
noncomputable def isW (x:Int):Bool:=x != -1
noncomputable def fd_lgs (P:Params):FuncData:=fdOf (fo258 P)
theorem def_lgs (P:Params):defIn (frag P) 258 (fd_lgs P):=defIn_of (fo258 P) (by kernel_rfl) (by kernel_rfl) (by kernel_rfl)
theorem sig_lgs {P:Params} {a0:AV}:sigOf (fd_lgs P).scope.names ["text"] [a0] = [some a0,none,none,none,none]:=by kernel_rfl
theorem ok_lgs (P:Params):DefOk (fd_lgs P) ["text"]:=defOk_of rfl (of_decide_eq_true (by kernel_rfl)) (by kernel_rfl) (of_decide_eq_true (by kernel_rfl)) (by kernel_rfl)
noncomputable def nl_lgs:List (PySem.Str × NameKind):=[("text",.local),("best",.local),("here",.local),("line",.local),("max",.globalImplicit)]
theorem names_lgs (P:Params):(fd_lgs P).scope.names = nl_lgs:=by kernel_rfl
noncomputable def lgSig (text:List Int) (s:Nat × Nat):List (Option AV):=[some (il text),some (.int s.1),some (.int s.2),none,none]
theorem lgs_spec {prog:Program} {w:World} {text:List Int} (hl:text.length ≤ 1000):PureC prog w (SK w) 3 (.ref 258) [il text] (.int (lgst isW text).1):=by
 refine pure_defC (ok_lgs w.params) (fun V hV=>defAt_of hV (def_lgs w.params) (stat w.params) rfl rfl) rfl (fun vs hv=>?_) (fun xAr xG xs xB room fok=>?_)
 ·obtain ⟨v0,rfl⟩:=len1 hv
  kernel_rfl
 rw [sig_lgs]
 have xg:(fnAt (fd_lgs w.params) 258 xAr xG xs).env.globals = mainGlobals:=rfl
 have xb:(fnAt (fd_lgs w.params) 258 xAr xG xs).env.builtins = builtinsNs:=rfl
 have hk:SeesK (frag w.params) (fnAt (fd_lgs w.params) 258 xAr xG xs).G:=xB
 have xN:(fnAt (fd_lgs w.params) 258 xAr xG xs).names = (fd_lgs w.params).scope.names:=rfl
 have xA:Room (fnAt (fd_lgs w.params) 258 xAr xG xs).A _:=room
 have xn:(fnAt (fd_lgs w.params) 258 xAr xG xs).n₀ = xs.heap.objs.size:=rfl
 have xi:interactive (fnAt (fd_lgs w.params) 258 xAr xG xs).env = false:=rfl
 have xS:(fnAt (fd_lgs w.params) 258 xAr xG xs).env.scope = (fd_lgs w.params).scope:=rfl
 generalize fnAt (fd_lgs w.params) 258 xAr xG xs = F at fok xg xb hk xN xA xn xi xS ⊢
 have xN1:=xN.trans (names_lgs w.params)
 have xn0:At F "text" 0 .local:=at_nl fok xN1 0 rfl (by kernel_rfl)
 have xn1:At F "best" 1 .local:=at_nl fok xN1 1 rfl (by kernel_rfl)
 have xn2:At F "here" 2 .local:=at_nl fok xN1 2 rfl (by kernel_rfl)
 have xn3:At F "line" 3 .local:=at_nl fok xN1 3 rfl (by kernel_rfl)
 have xn4:At F "max" 4 .globalImplicit:=at_nl fok xN1 4 rfl (by kernel_rfl)
 refine ex_seq (ex_assign_tuple (d:=.tup [.int 0,.int 0]) (by walk_at "m ev") (as_tuple fok (asl_cons (as_name fok (k:=1) (by walk_at "m st")) (asl_cons (as_name fok (k:=2) (by walk_at "m st")) asl_nil)) rfl) rfl ((swS xS _ _).trans (by kernel_rfl))) ?_
 refine ex_seq (sig':=(lgSig text (lgst isW text))) (om':=[])
  (ex_for2 fok (d:=il text) (xs:=text.map .int) (by walk_at "m ev") (itr_list fok) (fun t sig om=>sig = lgSig text (lgst isW (text.take t)) ∧ om = []) ⟨_,?_,rfl,rfl⟩ ?_ ?_ (by intro _; rfl)) ?_
 ·exact ⟨rfl,rfl,rfl,trivial⟩
 ·rintro t _ sig om hx ⟨rfl,rfl⟩
  rw [List.getElem?_map,Option.map_eq_some_iff] at hx
  obtain ⟨x,hx,rfl⟩:=hx
  have hst:lgst isW (text.take (t + 1)) = lgStep isW (lgst isW (text.take t)) x:=by rw [List.take_add_one,hx,Option.toList_some,lgst_snoc]
  rw [hst]
  generalize lgst isW (text.take t) = s
  refine ⟨_,as_name fok (k:=3) (by walk_at "m st"),?_⟩
  refine ex_assignX fok (k:=2) (d:=.int ((if isW x then s.2 + 1 else 0:Nat):Int)) (by walk_at "m st") (ev_eq (ev_if (c:=(x == -1)) (tst_cmpX (by walk_at "m ev") (ev_unop ev_int op_neg) op_eq_int rfl) (fun _=>ev_int) (fun _=>by walk_at "m ev")) ?_) rfl ?_
  ·unfold isW
   by_cases q:x = -1
   ·subst q; rfl
   ·rw [if_neg (by simpa using q),if_pos (by simpa using q)]; rfl
  refine ex_assignX fok (k:=1) (d:=.int ((lgStep isW s x).1:Nat)) (by walk_at "m st") (ev_eq (ev_callX (by walk_at "m ev") callee_builtin (by walk_at "m evl") (c_max fok) rfl rfl) (congrArg AV.int ?_)) rfl ?_
  ·unfold lgStep
   dsimp only
   generalize (if isW x = true then s.2 + 1 else 0) = n
   omega
  refine ex_nil ⟨_,?_,rfl,rfl⟩
  exact ⟨rfl,rfl,rfl,trivial⟩
 ·rintro sig om ⟨rfl,rfl⟩
  rw [List.length_map,List.take_length]
 exact ex_returnX (by walk_at "m ev") rfl
end
section
theorem b2jN_I (B:List Int):b2jN B = b2jI (idxN B):=by
 funext x
 unfold b2jN b2jI
 by_cases h:x ∈ B
 ·have:idxN B x ≠ []:=fun e=>by
   obtain ⟨i,hi,ei⟩:=List.getElem_of_mem h
   have:i ∈ idxN B x:=mem_idxN.mpr (by simp [hi,ei])
   rw [e] at this; cases this
  rw [if_pos h,if_neg this,idxL_N]
  show some (AV.lst (((idxN B x).map fun (n:Nat)=>(n:Int)).map .int)) = _
  rw [List.map_map]; rfl
 ·have:idxN B x = []:=by
   cases q:idxN B x with
   | nil=>rfl
   | cons i r=>exact absurd (List.mem_of_getElem? (mem_idxN.mp (show i ∈ idxN B x by rw [q]; exact List.mem_cons_self))) h
  rw [if_neg h,if_pos this]
theorem map_int_inj:∀ {X Y:List Int},X.map AV.int = Y.map AV.int → X = Y
 | [],[],_=>rfl
 | [],_ :: _,h=>by cases h
 | _ :: _,[],h=>by cases h
 | a :: X,b :: Y,h=>by
  simp only [List.map_cons,List.cons.injEq,AV.int.injEq] at h
  rw [h.1,map_int_inj h.2]
noncomputable def okP (B:List Int) (x:Int):Bool:=!(popB B && (x == -1))
noncomputable def idxP (B:List Int) (x:Int):List Nat:=if popB B && (x == -1) then [] else idxN B x
theorem idxP_ok (B:List Int):IdxOk B (okP B) (idxP B):=by
 refine ⟨fun x=>?_,fun x j=>?_⟩ <;> unfold idxP <;> try unfold okP
 ·split
  ·exact List.Pairwise.nil
  ·exact idxN_sorted B x
 ·cases q:(popB B && (x == -1)) with
  | true=>simp
  | false=>simp [mem_idxN]
theorem b2jP_I (B:List Int):b2jP B = b2jI (idxP B):=by
 unfold b2jP
 cases h:popB B with
 | false =>
  rw [if_neg (by decide),b2jN_I]
  refine congrArg b2jI (funext fun x=>?_)
  unfold idxP
  rw [h,Bool.false_and,if_neg (by decide)]
 | true =>
  rw [if_pos rfl,b2jN_I]
  funext x
  unfold delF b2jI idxP
  rw [h,Bool.true_and]
  by_cases q:x = -1
  ·subst q; rfl
  ·rw [if_neg q,if_neg (c:=(x == -1) = true) (by simpa using q)]
noncomputable abbrev fP (A B:List Int):FL:=flO A B (okP B) (idxP B)
noncomputable abbrev opsP (A B:List Int):List OpN:=opcodes (fP A B) A.length B.length
noncomputable abbrev blkP (A B:List Int):List N3:=blocks (fP A B) A.length B.length
noncomputable abbrev mbP (A B:List Int):List N3:=mb (fP A B) (0,A.length,0,B.length)
noncomputable abbrev bvP (A B:List Int):AV:=.lst ((blkP A B).map (matN 135))
noncomputable def MSL (prog:Program) (w:World) (dx:Addr) (A B:List Int) (mo:Om):Prop:=∃ mbv opv m bp,(mbv = .none ∨ mbv = bvP A B) ∧ (opv = .none ∨ opv = opsN (opsP A B)) ∧ mo = [(dx,AttO (mAtt true (il A) (il B) mbv opv .none (dct (b2jP B) m) (set0A prog w) bp))]
noncomputable def MSt (prog:Program) (w:World) (dx:Addr) (mo:Om):Prop:=(∃ m bp,mo = [(dx,AttO (mAtt0 prog w true m bp))]) ∨ ∃ A B,MSL prog w dx A B mo
section
variable {prog:Program} {w:World} {F:Fn} {sig:List (Option AV)} {om mo rest:Om} {x dx:Addr} {A B:List Int}
theorem put1_m {aj:Bool} {a' a b mb op fb bj bjunk bp:AV}:put1 a' (mAtt aj a b mb op fb bj bjunk bp) = mAtt aj a' b .none .none fb bj bjunk bp:=by kernel_rfl
theorem put23_m {aj:Bool} {b' a b mb op fb bj bjunk bp bq:AV} {m:Nat}:put3 prog w B m bq (put2 b' (mAtt aj a b mb op fb bj bjunk bp)) = mAtt aj a b' .none .none .none (dct (b2jP B) m) (set0A prog w) bq:=by kernel_rfl
theorem x_ssq (ok:F.Ok) (hk:SeesK (frag w.params) F.G) (room:Room F.A 6) (hm:MSt prog w dx mo) (hsb:B.length ≤ 1000000) (hu:∀ y,y ≠ -1 → (idxL B y).length ≤ 1) {P:AV → Om → Prop} (hP:∀ mo',MSL prog w dx A B mo' → P .none (mo' ++ rest)):OpX prog w F (mo ++ rest) (.ref 167) [mInst x dx,il A,il B] P:=by
 rcases hm with ⟨m,bp,rfl⟩ | ⟨A₀,B₀,mbv,opv,m,bp,h1,h2,rfl⟩
 ·refine x_imp ok hk sk_mono room (ssq_spec (a:=.str "") (b:=.str "") idn_ls idn_ls (bv_il hsb) get_a get_b get_isjunk get_autojunk get_m3 get_m1 get_m2 hu (show 10 ≤ 700 by decide)).fn (List.Perm.refl _) ?_
  rintro d om₂ ⟨rfl,as₁,q1,q2⟩
  rcases q1 with ⟨q1,_⟩ | rfl
  ·cases q1
  ·rcases q2 with ⟨q2,_⟩ | ⟨m',bp',rfl⟩
   ·cases q2
   ·exact hP _ ⟨.none,.none,m',_,.inl rfl,.inl rfl,by rw [put1_m,put23_m]⟩
 ·refine x_imp ok hk sk_mono room (ssq_spec (a:=il A₀) (b:=il B₀) idn_ll idn_ll (bv_il hsb) get_a get_b get_isjunk get_autojunk get_m3 get_m1 get_m2 hu (show 10 ≤ 700 by decide)).fn (List.Perm.refl _) ?_
  have inj:∀ {X Y:List Int},il X = il Y → X = Y:=fun {X Y} e=>by
   exact map_int_inj (AV.lst.inj e)
  rintro d om₂ ⟨rfl,as₁,q1,q2⟩
  rcases q1 with ⟨q1,rfl⟩ | rfl
  ·have eA:=inj q1
   subst eA
   rcases q2 with ⟨q2,rfl⟩ | ⟨m',bp',rfl⟩
   ·have eB:=inj q2
    subst eB
    exact hP _ ⟨mbv,opv,m,bp,h1,h2,rfl⟩
   ·exact hP _ ⟨.none,.none,m',_,.inl rfl,.inl rfl,by rw [put23_m]⟩
  ·rcases q2 with ⟨q2,rfl⟩ | ⟨m',bp',rfl⟩
   ·have eB:=inj q2
    subst eB
    exact hP _ ⟨.none,.none,m,bp,.inl rfl,.inl rfl,by rw [put1_m]⟩
   ·exact hP _ ⟨.none,.none,m',_,.inl rfl,.inl rfl,by rw [put1_m,put23_m]⟩
theorem ty_gop (P:Params):typeIn (frag P) (.ref 210) = some (.type "function"):=by kernel_rfl
theorem fi_gop (P:Params):findIn (frag P) (.ref 242) "get_opcodes" = some (some (.ref 210)):=by kernel_rfl
theorem x_gop (ok:F.Ok) (hk:SeesK (frag w.params) F.G) (room:Room F.A 12) (hm:MSL prog w dx A B mo) (hsa:A.length ≤ 1000000) (hsb:B.length ≤ 1000000) (h64:(mbP A B).length ≤ 2) {P:AV → Om → Prop} (hP:∀ mo',MSL prog w dx A B mo' → P (opsN (opsP A B)) (mo' ++ rest)):OpX prog w F (mo ++ rest) (.ref 210) [mInst x dx] P:=by
 obtain ⟨mbv,opv,m,bp,h1,h2,rfl⟩:=hm
 rw [b2jP_I]
 refine x_imp ok hk sk_mono room (gop_spec (bv:=bvP A B) (f:=fP A B) (idxP_ok B) hsa hsb rfl flO_ok h64 rfl h1 h2).fn (List.Perm.refl _) ?_
 rintro d om₂ ⟨rfl,mbv',q1,rfl⟩
 exact hP _ ⟨mbv',_,m,bp,q1,.inr rfl,by rw [b2jP_I]⟩
theorem MSt.gets (h:MSt prog w dx mo) {name:PySem.Str} {f:Addr} (hk:SeesK (frag w.params) F.G) (hf:findIn (frag w.params) (.ref 242) name = some (some (.ref f))) (ht:typeIn (frag w.params) (.ref f) = some (.type "function")) (hn:∀ {aj:Bool} {a b mb op fb bj bjunk bp:AV},(mAtt aj a b mb op fb bj bjunk bp).lookup name = none):Gets prog w F (mo ++ rest) (mInst x dx) name (.ref f):=by
 rcases h with ⟨m,bp,rfl⟩ | ⟨A,B,_,_,_,_,_,_,rfl⟩
 ·exact gets_inst hk (sm_plain w.params) hf ht (by simp; exact .inl rfl) hn
 ·exact gets_inst hk (sm_plain w.params) hf ht (by simp; exact .inl rfl) hn
theorem x_ssq0 (ok:F.Ok) (hk:SeesK (frag w.params) F.G) (room:Room F.A 6) (hm:MSt prog w dx mo) (hsb:B.length ≤ 1000000) (hu:∀ y,y ≠ -1 → (idxL B y).length ≤ 1) {P:AV → Om → Prop} (hP:∀ mo',MSL prog w dx A B mo' → P .none mo'):OpX prog w F mo (.ref 167) [mInst x dx,il A,il B] P:=by
 have:=x_ssq (x:=x) (rest:=[]) ok hk room hm hsb hu (P:=P) (A:=A) (fun mo' h=>by rw [List.append_nil]; exact hP mo' h)
 rwa [List.append_nil] at this
theorem x_gop0 (ok:F.Ok) (hk:SeesK (frag w.params) F.G) (room:Room F.A 12) (hm:MSL prog w dx A B mo) (hsa:A.length ≤ 1000000) (hsb:B.length ≤ 1000000) (h64:(mbP A B).length ≤ 2) {P:AV → Om → Prop} (hP:∀ mo',MSL prog w dx A B mo' → P (opsN (opsP A B)) mo'):OpX prog w F mo (.ref 210) [mInst x dx] P:=by
 have:=x_gop (x:=x) (rest:=[]) ok hk room hm hsa hsb h64 (P:=P) (fun mo' h=>by rw [List.append_nil]; exact hP mo' h)
 rwa [List.append_nil] at this
theorem MSt.gets0 (h:MSt prog w dx mo) {name:PySem.Str} {f:Addr} (hk:SeesK (frag w.params) F.G) (hf:findIn (frag w.params) (.ref 242) name = some (some (.ref f))) (ht:typeIn (frag w.params) (.ref f) = some (.type "function")) (hn:∀ {aj:Bool} {a b mb op fb bj bjunk bp:AV},(mAtt aj a b mb op fb bj bjunk bp).lookup name = none):Gets prog w F mo (mInst x dx) name (.ref f):=by
 have:=MSt.gets (F:=F) (x:=x) (rest:=[]) h hk hf ht hn
 rwa [List.append_nil] at this
end
end
section
noncomputable def Reading (codes:List OpN) (old new notes:List Int) (now:Int) (told gone:List Int):Prop:=∃ S:Nat → RdS,S 0 = rd0 ∧ (∀ t c,codes[t]? = some c → Rd old new notes now (S t) c (S (t + 1))) ∧ (S codes.length).i = old.length ∧ (S codes.length).j = new.length ∧ (∀ t,t ≤ codes.length → (S t).told.length ≤ 1000 ∧ (S t).gone.length ≤ 1000 ∧ (S t).i ≤ old.length ∧ (S t).j ≤ new.length) ∧ (S codes.length).told = told ∧ (S codes.length).gone = gone
noncomputable def aheadW (n:List Nat) (p:Nat):Nat:=10 * (p + 1) + (n.take p).sum
noncomputable def bigW (T:List Int) (n:List Nat):Bool:=decide (200 ≤ T.length) && decide (T.length / 100 + 1 < n.sum)
noncomputable def sideW (T:List Int) (n:List Nat) (ah be:Nat):Nat × Nat:=if bigW T n then ((lgst isW (T.take ah)).1,(lgst isW (T.drop be)).1) else (ah,T.length - be)
noncomputable def keptW (T:List Int) (n:List Nat) (ah be stay:Nat):Nat:=if (sideW T n ah be).2 ≤ (sideW T n ah be).1 then ah + stay else ah
noncomputable def restW (T:List Int) (n:List Nat) (ah be stay:Nat):Nat:=T.length - be + if (sideW T n ah be).2 ≤ (sideW T n ah be).1 then 0 else stay
structure StepW (O T:List Int) (n:List Nat) (p g c:Nat):Prop where
 p17:p < 17
 lo:O.length ≤ 1000
 ln:T.length ≤ 1000
 hb:aheadW n p + c ≤ T.length
 hr:restW T n (aheadW n p) (aheadW n p + c) (min g c) ≤ O.length
 hk:keptW T n (aheadW n p) (aheadW n p + c) (min g c) + g ≤ 1000
 kr:keptW T n (aheadW n p) (aheadW n p + c) (min g c) + (c - min g c) + restW T n (aheadW n p) (aheadW n p + c) (min g c) = T.length
 ko:keptW T n (aheadW n p) (aheadW n p + c) (min g c) ≤ O.length
 hu:∀ y,y ≠ -1 → (idxL T y).length ≤ 1
 m:(mbP O T).length ≤ 2
 rd:∀ (notes:List Int) (now:Int),notes.length = O.length → Reading (opsP O T) O T notes now (notes.take (keptW T n (aheadW n p) (aheadW n p + c) (min g c)) ++ List.replicate (c - min g c) now ++ notes.drop (O.length - restW T n (aheadW n p) (aheadW n p + c) (min g c)))
  (castL (List.range' (keptW T n (aheadW n p) (aheadW n p + c) (min g c)) (g - min g c)))
noncomputable def plc (x:Int):Nat:=(x.fmod 17).toNat
noncomputable def mny (x:Int):Nat:=((x.fdiv 17).fmod 8).toNat
noncomputable def cStep (c:List (List Nat)) (x:Int):List (List Nat):=c ++ [(c.getLastD []).take (plc x) ++ [mny x] ++ (c.getLastD []).drop (plc x + 1)]
noncomputable def counts0:List (List Nat):=[List.replicate 17 0]
noncomputable def drawn (script:List Int):List Int:=[52,55,44,61,78,61] ++ script
noncomputable def countsP (script:List Int):List (List Nat):=(drawn script).foldl cStep counts0
noncomputable def placesP (script:List Int):List Nat:=(drawn script).map plc
noncomputable def wordsP (script:List Int):Nat:=181 + ((9 + script.sum).fmod 19).toNat
noncomputable abbrev ilc (l:List Nat):AV:=il (castL l)
noncomputable abbrev RowOk (l:List Nat):Prop:=l.length = 17 ∧ ∀ g ∈ l,g ≤ 7
theorem fmod_bd {a b:Int} (h:0 < b):0 ≤ a.fmod b ∧ a.fmod b < b:=⟨Int.fmod_nonneg_of_pos a h,Int.fmod_lt_of_pos a h⟩
theorem row_arith {p:Nat} (h:p < 17):min p 17 + 1 + (17 - (p + 1)) = 17:=by
 rw [Nat.min_eq_left (Nat.le_of_lt h)]; exact Nat.add_sub_cancel' h
theorem toNat_bd {a:Int} {k:Nat} (h:0 ≤ a ∧ a < (k:Int)):a.toNat < k:=Int.ofNat_lt.mp (by rw [Int.toNat_of_nonneg h.1]; exact h.2)
theorem len_bd {n k:Nat} (h:k ≤ 63) (e:n = 1 + (6 + k)):n ≤ 70:=by
 rw [e]; exact Nat.le_trans (Nat.add_le_add_left (Nat.add_le_add_left h 6) 1) (by decide)
theorem step_lt {t a b k:Nat} (h:t + 1 < a) (e:a = 1 + (6 + k)) (e':b = 6 + k):t < b:=by
 rw [e,Nat.add_comm 1] at h; rw [e']; exact Nat.lt_of_succ_lt_succ h
theorem gr_cast {k g s:Nat} (h:s ≤ g):(k:Int) + g - (s:Nat) = ((k + (g - s):Nat):Int):=by
 rw [Int.add_sub_assoc,Int.natCast_add,Int.ofNat_sub h]
theorem plc_lt (x:Int):plc x < 17:=by
 have:=fmod_bd (a:=x) (b:=17) (by decide)
 exact toNat_bd this
theorem mny_le (x:Int):mny x ≤ 7:=by
 have:=fmod_bd (a:=x.fdiv 17) (b:=8) (by decide)
 exact Nat.le_of_lt_succ (toNat_bd this)
theorem plc_eq (x:Int):x.fmod 17 = ((plc x:Nat):Int):=(Int.toNat_of_nonneg (fmod_bd (a:=x) (b:=17) (by decide)).1).symm
theorem mny_eq (x:Int):(x.fdiv 17).fmod 8 = ((mny x:Nat):Int):=(Int.toNat_of_nonneg (fmod_bd (a:=x.fdiv 17) (b:=8) (by decide)).1).symm
theorem words_eq (script:List Int):(181:Int) + (9 + script.sum).fmod 19 = ((wordsP script:Nat):Int):=by
 have:=fmod_bd (a:=9 + script.sum) (b:=19) (by decide)
 unfold wordsP; omega
theorem words_bd (script:List Int):181 ≤ wordsP script ∧ wordsP script ≤ 199:=by
 have:=fmod_bd (a:=9 + script.sum) (b:=19) (by decide)
 unfold wordsP; omega
theorem rowOk_step {l:List Nat} (h:RowOk l) (x:Int):RowOk (l.take (plc x) ++ [mny x] ++ l.drop (plc x + 1)):=by
 obtain ⟨h1,h2⟩:=h
 have hp:=plc_lt x
 refine ⟨by rw [List.length_append,List.length_append,List.length_take,List.length_drop,List.length_singleton,h1]; exact row_arith hp,fun g hg=>?_⟩
 simp only [List.mem_append,List.mem_singleton] at hg
 rcases hg with (hg | rfl) | hg
 ·exact h2 g (List.mem_of_mem_take hg)
 ·exact mny_le x
 ·exact h2 g (List.mem_of_mem_drop hg)
theorem getLastD_mem {α:Type} {l:List α} {d:α} (h:l ≠ []):l.getLastD d ∈ l:=by
 rw [List.getLastD_eq_getLast?,List.getLast?_eq_some_getLast h]; exact List.getLast_mem h
structure CI (c:List (List Nat)):Prop where
 ne:c ≠ []
 ok:∀ s ∈ c,RowOk s
theorem CI.zero:CI counts0:=⟨by unfold counts0; simp,fun s hs=>by
 rw [List.mem_singleton.mp hs]
 exact ⟨List.length_replicate,fun g hg=>by rw [(List.mem_replicate.mp hg).2]; exact Nat.zero_le _⟩⟩
theorem CI.step {c:List (List Nat)} (h:CI c) (x:Int):CI (cStep c x):=⟨by unfold cStep; simp,fun s hs=>by
 rcases List.mem_append.mp hs with q | q
 ·exact h.ok s q
 ·rw [List.mem_singleton.mp q]; exact rowOk_step (h.ok _ (getLastD_mem h.ne)) x⟩
theorem CI.fold:∀ (l:List Int) {c:List (List Nat)},CI c → CI (l.foldl cStep c)
 | [],_,h=>h
 | x :: l,_,h=>CI.fold l (h.step x)
theorem c_len:∀ (l:List Int) (s:List (List Nat)),(l.foldl cStep s).length = s.length + l.length
 | [],s=>rfl
 | x :: l,s=>by
  rw [List.foldl_cons,c_len l]
  unfold cStep
  rw [List.length_append,List.length_singleton,List.length_cons,Nat.add_assoc,Nat.add_comm 1]
theorem cast_len {l:List Nat}:(castL l).length = l.length:=List.length_map _
theorem cast_take {l:List Nat} {k:Nat}:(castL l).take k = castL (l.take k):=by unfold castL; rw [List.map_take]
theorem cast_drop {l:List Nat} {k:Nat}:(castL l).drop k = castL (l.drop k):=by unfold castL; rw [List.map_drop]
theorem cast_app {l l':List Nat}:castL l ++ castL l' = castL (l ++ l'):=by unfold castL; rw [List.map_append]
theorem cast_sum:∀ {l:List Nat},(castL l).sum = ((l.sum:Nat):Int)
 | []=>rfl
 | a :: l=>by
  have:castL (a :: l) = (a:Int) :: castL l:=rfl
  rw [this,List.sum_cons,List.sum_cons,cast_sum,Int.natCast_add]
theorem sum_le7:∀ {l:List Nat},(∀ g ∈ l,g ≤ 7) → l.sum ≤ 7 * l.length
 | [],_=>Nat.le_refl _
 | a :: l,h=>by
  rw [List.sum_cons,List.length_cons,Nat.mul_succ,Nat.add_comm]
  exact Nat.add_le_add (sum_le7 fun g hg=>h g (List.mem_cons_of_mem _ hg)) (h a List.mem_cons_self)
theorem one_nat {t:Nat}:((1:Int) + (t:Nat)).toNat = t + 1:=by omega
theorem one_nat' {t:Nat}:((1:Int) + (t:Nat) - 1).toNat = t:=by omega
theorem one_bd {t:Nat} (h:t ≤ 1000):(1:Int) + (t:Nat) < 2 ^ 63 ∧ (0:Int) ≤ (1:Int) + (t:Nat) ∧ (0:Int) ≤ (1:Int) + (t:Nat) - 1 ∧ (1:Int) + (t:Nat) - 1 < 2 ^ 63:=by omega
theorem min_cast {g c:Nat}:min (g:Int) (c:Int) = ((min g c:Nat):Int):=by omega
theorem dl_arith {k O c r T:Nat} (h1:k ≤ O) (h2:r ≤ O) (h3:k + c + r = T):min k O + c + (O - (O - r)) = T:=by rw [Nat.min_eq_left h1,Nat.sub_sub_self h2]; exact h3
theorem sub_cast {a b:Nat} (h:b ≤ a):(a:Int) - (b:Nat) = ((a - b:Nat):Int):=(Int.ofNat_sub h).symm
theorem g__law_text {F:Fn} {P:Params} (hk:SeesK (frag P) F.G) (hg:F.env.globals = mainGlobals):Glo F "_law_text" (.ref 251):=glo_top hk hg (nsg P) (by kernel_rfl)
theorem g__law_longest {F:Fn} {P:Params} (hk:SeesK (frag P) F.G) (hg:F.env.globals = mainGlobals):Glo F "_law_longest" (.ref 258):=glo_top hk hg (nsg P) (by kernel_rfl)
theorem g__law_read {F:Fn} {P:Params} (hk:SeesK (frag P) F.G) (hg:F.env.globals = mainGlobals):Glo F "_law_read" (.ref 263):=glo_top hk hg (nsg P) (by kernel_rfl)
theorem g_sum {F:Fn} {P:Params} (hk:SeesK (frag P) F.G) (hg:F.env.globals = mainGlobals) (hb:F.env.builtins = builtinsNs):Glo F "sum" (.builtin "sum"):=glo_blt hk hg hb (nsg P) (nsb P) (by kernel_rfl) (by kernel_rfl)
example:True:=by
 k_with "m glo" => (first
  | with_reducible exact g_len (by assumption) (by assumption) (by assumption)
  | with_reducible exact g_range (by assumption) (by assumption) (by assumption)
  | with_reducible exact g_sum (by assumption) (by assumption) (by assumption)
  | with_reducible exact g_min (by assumption) (by assumption) (by assumption)
  | with_reducible exact g_SequenceMatcher (by assumption) (by assumption)
  | with_reducible exact g__law_text (by assumption) (by assumption)
  | with_reducible exact g__law_longest (by assumption) (by assumption)
  | with_reducible exact g__law_read (by assumption) (by assumption))
 trivial
noncomputable def fd_law (P:Params):FuncData:=fdOf (fo268 P)
theorem def_law (P:Params):defIn (frag P) 268 (fd_law P):=defIn_of (fo268 P) (by kernel_rfl) (by kernel_rfl) (by kernel_rfl)
theorem sig_law {P:Params} {a0:AV}:sigOf (fd_law P).scope.names ["script"] [a0] = (some a0 :: none :: none :: none :: none :: none :: none :: none :: none :: none :: none :: none :: none :: none :: none :: none :: none :: none :: none :: none :: none :: none :: none :: none :: none :: none :: none :: none :: none :: none :: none :: none :: none :: none :: []):=by kernel_rfl
theorem ok_law (P:Params):DefOk (fd_law P) ["script"]:=defOk_of rfl (of_decide_eq_true (by kernel_rfl)) (by kernel_rfl) (of_decide_eq_true (by kernel_rfl)) (by kernel_rfl)
noncomputable def nl_law:List (PySem.Str × NameKind):=("script",.local) :: ("words",.local) :: ("counts",.local) :: ("places",.local) :: ("x",.local) :: ("place",.local) :: ("many",.local) :: ("matcher",.local) :: ("way",.local) :: ("row",.local) :: ("steps",.local) :: ("old",.local) :: ("notes",.local) :: ("v",.cell) :: ("new",.local) :: ("gone",.local) :: ("come",.local) :: ("stay",.local) :: ("ahead",.local) :: ("behind",.local) :: ("left",.local) :: ("right",.local) :: ("kept",.local) :: ("rest",.local) :: ("due",.local) :: ("read",.local) :: ("sum",.globalImplicit) :: ("range",.globalImplicit) :: ("SequenceMatcher",.globalImplicit) :: ("_law_text",.globalImplicit) :: ("len",.globalImplicit) :: ("min",.globalImplicit) :: ("_law_longest",.globalImplicit) :: ("_law_read",.globalImplicit) :: []
theorem names_law (P:Params):(fd_law P).scope.names = nl_law:=by kernel_rfl
noncomputable def cSig (script:List Int) (words:Nat) (V Pl:Addr):List (Option AV):=(some (il script) :: some (.int words) :: some (.ptr V) :: some (.ptr Pl) :: none :: none :: none :: none :: none :: none :: none :: none :: none :: none :: none :: none :: none :: none :: none :: none :: none :: none :: none :: none :: none :: none :: none :: none :: none :: none :: none :: none :: none :: none :: [])
noncomputable def laSig (script:List Int) (words:Nat) (cs:List (List Nat)) (ps:List Nat) (x dx:Addr):List (Option AV):=(some (il script) :: some (.int words) :: some (.lst (cs.map ilc)) :: some (ilc ps) :: none :: none :: none :: some (mInst x dx) :: none :: none :: none :: none :: none :: none :: none :: none :: none :: none :: none :: none :: none :: none :: none :: none :: none :: none :: none :: none :: none :: none :: none :: none :: none :: none :: [])
noncomputable def rwSig (script:List Int) (words:Nat) (cs:List (List Nat)) (ps:List Nat) (x dx:Addr) (row:List (List Nat)) (steps:List Nat) (old notes:List Int):List (Option AV):=(some (il script) :: some (.int words) :: some (.lst (cs.map ilc)) :: some (ilc ps) :: none :: none :: none :: some (mInst x dx) :: none :: some (.lst (row.map ilc)) :: some (ilc steps) :: some (il old) :: some (il notes) :: none :: none :: none :: none :: none :: none :: none :: none :: none :: none :: none :: none :: none :: none :: none :: none :: none :: none :: none :: none :: none :: [])
noncomputable def inSig (script:List Int) (words:Nat) (cs:List (List Nat)) (ps:List Nat) (x dx:Addr) (row:List (List Nat)) (steps:List Nat) (O notes T:List Int) (v:Int) (p g c stay ah be:Nat) (lr:Nat × Nat):List (Option AV):=(some (il script) :: some (.int words) :: some (.lst (cs.map ilc)) :: some (ilc ps) :: none :: some (.int p) :: none :: some (mInst x dx) :: none :: some (.lst (row.map ilc)) :: some (ilc steps) :: some (il O) :: some (il notes) :: some (.int v) :: some (il T) :: some (.int g) :: some (.int c) :: some (.int stay) :: some (.int ah) :: some (.int be) :: some (.int lr.1) :: some (.int lr.2) :: none :: none :: none :: none :: none :: none :: none :: none :: none :: none :: none :: none :: [])
set_option maxHeartbeats 20000000 in
theorem law_spec {prog:Program} {w:World} {script:List Int} (h63:script.length ≤ 63)
  (hG:∀ row steps,(row = countsP script ∧ steps = placesP script) ∨ (row = (countsP script).reverse ∧ steps = (placesP script).reverse) → ∀ (t:Nat) o n p,row[t]? = some o → row[t + 1]? = some n → steps[t]? = some p → StepW (tText (wordsP script) o) (tText (wordsP script) n) n p (o.getD p 0) (n.getD p 0)) :
  PureC prog w (SK w) 20 (.ref 268) [il script] (.bool true):=by
 refine pure_defC (ok_law w.params) (fun V hV=>defAt_of hV (def_law w.params) (stat w.params) rfl rfl) rfl (fun vs hv=>?_) (fun xAr xG xs xB room fok=>?_)
 ·obtain ⟨v0,rfl⟩:=len1 hv
  kernel_rfl
 rw [sig_law]
 have xg:(fnAt (fd_law w.params) 268 xAr xG xs).env.globals = mainGlobals:=rfl
 have xb:(fnAt (fd_law w.params) 268 xAr xG xs).env.builtins = builtinsNs:=rfl
 have hk:SeesK (frag w.params) (fnAt (fd_law w.params) 268 xAr xG xs).G:=xB
 have xN:(fnAt (fd_law w.params) 268 xAr xG xs).names = (fd_law w.params).scope.names:=rfl
 have xA:Room (fnAt (fd_law w.params) 268 xAr xG xs).A _:=room
 have xn:(fnAt (fd_law w.params) 268 xAr xG xs).n₀ = xs.heap.objs.size:=rfl
 have xi:interactive (fnAt (fd_law w.params) 268 xAr xG xs).env = false:=rfl
 have xS:(fnAt (fd_law w.params) 268 xAr xG xs).env.scope = (fd_law w.params).scope:=rfl
 have xc_v:∃ c,(fnAt (fd_law w.params) 268 xAr xG xs).env.cells.lookup (Str.ofString "v") = some c ∧ c ∈ (fnAt (fd_law w.params) 268 xAr xG xs).cs:=⟨xs.heap.objs.size + 1,by kernel_rfl,List.mem_map.mpr ⟨(Str.ofString "v",xs.heap.objs.size + 1),mem_of_lookup (by kernel_rfl),rfl⟩⟩
 generalize fnAt (fd_law w.params) 268 xAr xG xs = F at fok xg xb hk xN xA xn xi xS xc_v ⊢
 have xN1:=xN.trans (names_law w.params)
 have xn0:At F "script" 0 .local:=at_nl fok xN1 0 rfl (by kernel_rfl)
 have xn1:At F "words" 1 .local:=at_nl fok xN1 1 rfl (by kernel_rfl)
 have xn2:At F "counts" 2 .local:=at_nl fok xN1 2 rfl (by kernel_rfl)
 have xn3:At F "places" 3 .local:=at_nl fok xN1 3 rfl (by kernel_rfl)
 have xn4:At F "x" 4 .local:=at_nl fok xN1 4 rfl (by kernel_rfl)
 have xn5:At F "place" 5 .local:=at_nl fok xN1 5 rfl (by kernel_rfl)
 have xn6:At F "many" 6 .local:=at_nl fok xN1 6 rfl (by kernel_rfl)
 have xn7:At F "matcher" 7 .local:=at_nl fok xN1 7 rfl (by kernel_rfl)
 have xn8:At F "way" 8 .local:=at_nl fok xN1 8 rfl (by kernel_rfl)
 have xn9:At F "row" 9 .local:=at_nl fok xN1 9 rfl (by kernel_rfl)
 have xn10:At F "steps" 10 .local:=at_nl fok xN1 10 rfl (by kernel_rfl)
 have xn11:At F "old" 11 .local:=at_nl fok xN1 11 rfl (by kernel_rfl)
 have xn12:At F "notes" 12 .local:=at_nl fok xN1 12 rfl (by kernel_rfl)
 have xn13:At F "v" 13 .cell:=at_nl fok xN1 13 rfl (by kernel_rfl)
 have xn14:At F "new" 14 .local:=at_nl fok xN1 14 rfl (by kernel_rfl)
 have xn15:At F "gone" 15 .local:=at_nl fok xN1 15 rfl (by kernel_rfl)
 have xn16:At F "come" 16 .local:=at_nl fok xN1 16 rfl (by kernel_rfl)
 have xn17:At F "stay" 17 .local:=at_nl fok xN1 17 rfl (by kernel_rfl)
 have xn18:At F "ahead" 18 .local:=at_nl fok xN1 18 rfl (by kernel_rfl)
 have xn19:At F "behind" 19 .local:=at_nl fok xN1 19 rfl (by kernel_rfl)
 have xn20:At F "left" 20 .local:=at_nl fok xN1 20 rfl (by kernel_rfl)
 have xn21:At F "right" 21 .local:=at_nl fok xN1 21 rfl (by kernel_rfl)
 have xn22:At F "kept" 22 .local:=at_nl fok xN1 22 rfl (by kernel_rfl)
 have xn23:At F "rest" 23 .local:=at_nl fok xN1 23 rfl (by kernel_rfl)
 have xn24:At F "due" 24 .local:=at_nl fok xN1 24 rfl (by kernel_rfl)
 have xn25:At F "read" 25 .local:=at_nl fok xN1 25 rfl (by kernel_rfl)
 have xn26:At F "sum" 26 .globalImplicit:=at_nl fok xN1 26 rfl (by kernel_rfl)
 have xn27:At F "range" 27 .globalImplicit:=at_nl fok xN1 27 rfl (by kernel_rfl)
 have xn28:At F "SequenceMatcher" 28 .globalImplicit:=at_nl fok xN1 28 rfl (by kernel_rfl)
 have xn29:At F "_law_text" 29 .globalImplicit:=at_nl fok xN1 29 rfl (by kernel_rfl)
 have xn30:At F "len" 30 .globalImplicit:=at_nl fok xN1 30 rfl (by kernel_rfl)
 have xn31:At F "min" 31 .globalImplicit:=at_nl fok xN1 31 rfl (by kernel_rfl)
 have xn32:At F "_law_longest" 32 .globalImplicit:=at_nl fok xN1 32 rfl (by kernel_rfl)
 have xn33:At F "_law_read" 33 .globalImplicit:=at_nl fok xN1 33 rfl (by kernel_rfl)
 have hsl:(1000000:Nat) ≤ sizeLine:=by decide
 have hwe:=words_eq script
 have hwb:=words_bd script
 with_reducible refine' ex_assignX (k:=1) (d:=.int (wordsP script:Nat)) fok (by walk_at "m st") (ev_eq (ev_binop ev_int (ev_binop (ev_binop ev_int (ev_callX (by walk_at "m ev") callee_builtin (by walk_at "m evl") (c_sum fok) (by walk_at "m r") (by walk_at "m r")) op_add) ev_int (op_mod (by decide))) op_add) (congrArg AV.int hwe)) (by walk_at "m r") ?_
 generalize hww:wordsP script = words at hG hwe hwb ⊢
 have n17:(rngL 0 17).length = 17:=rfl
 refine ex_cons (P₁:=fun o=>∃ V Pl,F.n₀ ≤ V ∧ F.n₀ ≤ Pl ∧ o = .nxt (cSig script words V Pl) [(Pl,LstO []),(V,LstO (counts0.map ilc))]) ?_ ?_
 ·with_reducible refine' exx_assign_swapped (names:=["counts", "places"]) (P:=fun d om'=>∃ V Pl,F.n₀ ≤ V ∧ F.n₀ ≤ Pl ∧ d = .tup [.ptr V,.ptr Pl] ∧ om' = [(Pl,LstO []),(V,LstO (counts0.map ilc))]) fok ?_ ?_ ?_ ?_
  ·with_reducible refine' evx_tuple fok ?_
   with_reducible refine' evxl_cons (P₁:=fun d om'=>∃ V,F.n₀ ≤ V ∧ d = .ptr V ∧ om' = [(V,LstO (counts0.map ilc))]) ?_ ?_ ?_
   ·refine evx_open fok (ds:=counts0.map ilc) (evl_consX (ev_eq (ev_compB (cl:=[]) (res:=sel (fun _=>true) (fun i=>.int 0) (rngL 0 17).length) ⟨(closure_run (fun _=>0) (by intro y hy; cases hy)).trans rfl,by decide,rfl,of_decide_eq_true (by kernel_rfl)⟩
     (fun ck=>comp1f fok (cap:=[none,none]) (k:=1) (fun _=>true) (fun i=>.int 0) ck
      (cap_of [] (fun j d h=>by rcases j with _ | _ | j <;> simp at h) (fun e he=>by cases he)) rfl (by kernel_rfl) (ev_eq (d:=.rng 0 17) (by walk_at "m ev") rfl) (itr_rng0 fok (b:=17) (by decide)) (by decide)
      (fun V' n l ok' hV hn i xv hxv=>⟨ifs_nil,fun _=>ev_int⟩)) (fun _=>rfl)) (congrArg AV.lst (by rw [n17]; exact sel_const))) evl_nil rfl) (show 1 ≤ sizeLine by decide) fun V hV=>⟨V,hV,rfl,rfl⟩
   ·rintro d om' ⟨V,hV,rfl,rfl⟩
    with_reducible refine' evxl_cons (P₁:=fun d om'=>∃ Pl,F.n₀ ≤ Pl ∧ d = .ptr Pl ∧ om' = [(Pl,LstO []),(V,LstO (counts0.map ilc))]) ?_ ?_ ?_
    ·exact evx_open fok evl_nil (Nat.zero_le _) fun G hG=>⟨G,hG,rfl,rfl⟩
    ·rintro d om' ⟨Pl,hPl,rfl,rfl⟩
     exact evxl_nil ⟨side2,V,Pl,hV,hPl,rfl,rfl⟩
    ·rfl
   ·rfl
  ·rintro d om' ⟨V,Pl,hV,hPl,rfl,rfl⟩
   exact ⟨_,_,rfl,rfl,.cons (by walk_at "m st") (.cons (by walk_at "m st") .nil),V,Pl,hV,hPl,rfl⟩
  ·rfl
  ·exact (swS xS _ _).trans (by kernel_rfl)
 rintro o ⟨V,Pl,hV,hPl,rfl⟩
 have s1:([52,55,44,61,78,61]:List Int).length + script.length ≤ sizeLine:=Nat.le_trans (Nat.add_le_add_left h63 6) (by decide)
 refine ex_seq (sig':=(cSig script words V Pl)) (om':=[(Pl,LstO ((castL (placesP script)).map .int)),(V,LstO ((countsP script).map ilc))])
  (ex_for2 fok (d:=il (drawn script)) (xs:=(drawn script).map .int) (ev_binop (d₁:=il [52,55,44,61,78,61]) (ev_eq (by walk_at "m ev") (by rfl)) (by walk_at "m ev") (op_cat_il fok s1)) (itr_list fok)
   (fun t sig om=>t ≤ 6 + script.length ∧ sig = cSig script words V Pl ∧ om = [(Pl,LstO ((castL (((drawn script).take t).map plc)).map .int)),(V,LstO ((((drawn script).take t).foldl cStep counts0).map ilc))])
   ⟨_,Sub.refl,Nat.zero_le _,rfl,rfl⟩ ?_ ?_ (by intro _; rfl)) ?_
 ·rintro t _ sig om hx ⟨ht6,rfl,rfl⟩
  rw [List.getElem?_map,Option.map_eq_some_iff] at hx
  obtain ⟨x,hx,rfl⟩:=hx
  have ht:t < 6 + script.length:=by
   have:=(List.getElem?_eq_some_iff.mp hx).1
   unfold drawn at this
   rw [List.length_append] at this
   exact this
  have hst:((drawn script).take (t + 1)).foldl cStep counts0 = cStep (((drawn script).take t).foldl cStep counts0) x:=by
   rw [List.take_add_one,hx,List.foldl_append]; rfl
  have hpl:((drawn script).take (t + 1)).map plc = ((drawn script).take t).map plc ++ [plc x]:=by
   rw [List.take_add_one,hx,List.map_append]; rfl
  have hci:=CI.fold ((drawn script).take t) CI.zero
  have hln:=c_len ((drawn script).take t) counts0
  have htk:((drawn script).take t).length ≤ 69:=by rw [List.length_take]; exact Nat.le_trans (Nat.min_le_left _ _) (Nat.le_trans ht6 (Nat.add_le_add_left h63 6))
  have hpn:(((drawn script).take t).map plc).length ≤ 69:=by rw [List.length_map]; exact htk
  have hs0:counts0.length = 1:=rfl
  rw [hst,hpl]
  generalize ((drawn script).take t).foldl cStep counts0 = vs at hci hln ⊢
  generalize ((drawn script).take t).map plc = ps at hpn ⊢
  have hne:=hci.ne
  have hvl:vs.length ≤ 70:=by rw [hln]; exact Nat.add_le_add_left htk 1
  have hm:=hci.ok _ (getLastD_mem (d:=[]) hne)
  have hlast:(vs.map ilc)[((-1:Int) + ((vs.map ilc).length:Nat)).toNat]? = some (ilc (vs.getLastD [])):=by
   rw [List.length_map,neg1_nat,List.getElem?_map,← List.getLast?_eq_getElem?,List.getLastD_eq_getLast?,List.getLast?_eq_some_getLast hne]; rfl
  have hgo:cStep vs x = vs ++ [(vs.getLastD []).take (plc x) ++ [mny x] ++ (vs.getLastD []).drop (plc x + 1)]:=rfl
  rw [hgo]
  clear hgo hst hpl hln htk
  have hp17:=plc_lt x
  have hpe:=plc_eq x
  have hme:=mny_eq x
  generalize vs.getLastD [] = last at hm hlast ⊢
  generalize plc x = p at hp17 hpe ⊢
  generalize mny x = m at hme ⊢
  have hlm:(vs.map ilc).length = vs.length:=List.length_map _
  have hv0:0 < vs.length:=List.length_pos_iff.mpr hne
  have hlz:(castL last).length ≤ sizeLine:=by rw [cast_len,hm.1]; decide
  have lst:∀ {sig:List (Option AV)} {om:Om} {o i:PySem.Expr} {pos:Pos},(V,LstO (vs.map ilc)) ∈ om → Ev prog w F sig om o (.ptr V) → Ev prog w F sig om i (.int (-1)) → NoSlice i → Ev prog w F sig om (.Subscript o i pos) (ilc last):=fun h1 h2 h3 h4 =>
   ev_sub h2 h3 (item_open_neg (l:=vs.map ilc) h1 h4 (by decide) (by rw [hlm]; exact Int.neg_le_neg (Int.ofNat_le.mpr hv0)) (by decide) hlast)
  refine ⟨_,as_name fok (k:=4) (by walk_at "m st"),?_⟩
  refine ex_swap2 fok (k₁:=5) (k₂:=6) (d₁:=.int (p:Nat)) (d₂:=.int (m:Nat)) (by walk_at "m st") (by walk_at "m st") (ev_tuple fok (evl_consX (ev_eq (ev_binop (by walk_at "m ev") ev_int (op_mod (by decide))) (congrArg AV.int hpe)) (evl_consX (ev_eq (ev_binop (ev_binop (by walk_at "m ev") ev_int (op_fdiv (by decide) (by decide))) ev_int (op_mod (by decide))) (congrArg AV.int hme)) evl_nil rfl) rfl) side2) rfl ((swS xS _ _).trans (by kernel_rfl)) ?_
  refine ex_exprX xi (evx_append fok (d:=ilc (last.take p ++ [m] ++ last.drop (p + 1))) (by walk_at "m ev")
   (ev_eq (d:=il (castL (last.take p) ++ [(m:Int)] ++ castL (last.drop (p + 1))))
    (ev_binop (d₁:=il (castL (last.take p) ++ [(m:Int)])) (d₂:=ilc (last.drop (p + 1)))
     (ev_binop (d₁:=ilc (last.take p)) (d₂:=il [(m:Int)])
      (ev_eq (ev_sub (d₁:=ilc last) (lst (.tail _ (.head _)) (by walk_at "m ev") (by walk_at "m ev") (fun _ _=>rfl)) (by walk_at "m ev") (sl_upto fok (by with_unfolding_all exact fun _ _=>⟨_,rfl⟩) nat0 hlz)) (congrArg il (by rw [Int.toNat_natCast,cast_take])))
      (ev_eq (ev_list fok (evl_consX (by walk_at "m ev") evl_nil rfl) (show 1 ≤ sizeLine by decide)) rfl) (op_cat_il fok (by rw [cast_len,List.length_take,List.length_singleton,hm.1]; exact Nat.le_trans (Nat.add_le_add_right (Nat.min_le_right _ _) 1) (by decide))))
     (ev_eq (ev_sub (d₁:=ilc last) (lst (.tail _ (.head _)) (by walk_at "m ev") (by walk_at "m ev") (fun _ _=>rfl)) (by walk_at "m ev") (sl_from fok (by with_unfolding_all exact fun _ _=>⟨_,rfl⟩) (nat_b (Nat.le_trans (Nat.le_of_lt hp17) (by decide))).1 hlz)) (congrArg il (by rw [nat_p1,cast_drop])))
     (op_cat_il fok (by rw [List.length_append,cast_len,cast_len,List.length_take,List.length_drop,List.length_singleton,hm.1,row_arith hp17]; decide)))
    (congrArg il (by rw [← cast_app,← cast_app]; rfl)))
   (P:=fun _ om'=>om' = [(Pl,LstO ((castL ps).map .int)),(V,LstO (vs.map ilc ++ [ilc (last.take p ++ [m] ++ last.drop (p + 1))]))]) (.there .here) (by rw [hlm]; exact Nat.le_trans hvl (by decide)) rfl _) ?_ rfl
  rintro d om' rfl
  refine ex_exprX xi (evx_append fok (d:=.int (p:Nat)) (by walk_at "m ev") (by walk_at "m ev") (P:=fun _ om'=>om' = [(Pl,LstO ((castL ps).map .int ++ [.int (p:Nat)])),(V,LstO (vs.map ilc ++ [ilc (last.take p ++ [m] ++ last.drop (p + 1))]))]) .here (by rw [List.length_map,cast_len]; exact Nat.le_trans hpn (by decide)) rfl _) ?_ rfl
  rintro d om' rfl
  refine ex_nil ⟨cSig script words V Pl,⟨rfl,rfl,rfl,rfl,trivial⟩,ht,rfl,?_⟩
  rw [← cast_app,List.map_append,List.map_append]; rfl
 ·rintro sig om ⟨_,rfl,rfl⟩
  rw [List.length_map,List.take_length]
  rfl
 refine ex_cast fok .here hPl key_lst (SigCast.set (k:=3) rfl) OmCast.refl ?_
 refine ex_cast fok .here hV key_lst (SigCast.set (k:=2) rfl) OmCast.refl ?_
 have hcl:(countsP script).length = 1 + (6 + script.length):=by unfold countsP; rw [c_len]; unfold drawn; rw [List.length_append]; rfl
 have hpl:(placesP script).length = 6 + script.length:=by unfold placesP drawn; rw [List.length_map,List.length_append]; rfl
 have hci:CI (countsP script):=CI.fold _ CI.zero
 generalize countsP script = cs at hcl hci hG ⊢
 generalize placesP script = ps at hpl hG ⊢
 have ctxt:Callee prog w F (.ref 251):=callee_fn (hk 251 (fo251 w.params) (by kernel_rfl)) rfl
 have clgs:Callee prog w F (.ref 258):=callee_fn (hk 258 (fo258 w.params) (by kernel_rfl)) rfl
 have crd:Callee prog w F (.ref 263):=callee_fn (hk 263 (fo263 w.params) (by kernel_rfl)) rfl
 refine ex_assignO fok (k:=7) (by walk_at "m st") (evx_call (P:=fun d om'=>∃ x dx mo,MSt prog w dx mo ∧ d = mInst x dx ∧ om' = mo) (by walk_at "m ev") (callee_cls hk (o:=fo242 w.params) (by kernel_rfl) rfl (by kernel_rfl)) (evxl_nil (x_matcher fok hk (xA.mono (by decide)) fun x dx m bp=>⟨x,dx,_,.inl ⟨m,bp,rfl⟩,rfl,rfl⟩)) rfl rfl) ?_ rfl
 rintro d om₁ ⟨x,dx,mo,hm,rfl,rfl⟩
 have hrl:(cs.map ilc).length ≤ sizeLine:=by rw [List.length_map]; exact Nat.le_trans (len_bd h63 hcl) (by decide)
 have hpz:((castL ps).map AV.int).length ≤ sizeLine:=by rw [List.length_map,cast_len,hpl]; exact Nat.le_trans (Nat.add_le_add_left h63 6) (by decide)
 refine ex_cons (P₁:=fun o=>∃ sig om,o = .nxt sig om)
  (ex_for2 fok (d:=.tup [.int 0,.int 1]) (xs:=[.int 0,.int 1]) (by walk_at "m ev") (itr_tup fok)
   (fun t sig om=>sig = laSig script words cs ps x dx ∧ MSt prog w dx om) ⟨_,Sub.refl,rfl,hm⟩ ?_ (fun sig om _=>⟨sig,om,rfl⟩) (by intro _; rfl)) ?_
 ·rintro t wv sig om hx ⟨rfl,hm⟩
  have hrow:∃ (row:List (List Nat)) (steps:List Nat) (k:Int),((row = cs ∧ steps = ps) ∨ (row = cs.reverse ∧ steps = ps.reverse)) ∧ (if (k == 0) then AV.lst (cs.map ilc) else .lst (cs.map ilc).reverse) = .lst (row.map ilc) ∧ (if (k == 0) then ilc ps else .lst ((castL ps).map .int).reverse) = ilc steps ∧ wv = .int k:=by
   rcases t with _ | _ | t
   ·cases hx; exact ⟨cs,ps,0,.inl ⟨rfl,rfl⟩,rfl,rfl,rfl⟩
   ·cases hx; exact ⟨cs.reverse,ps.reverse,1,.inr ⟨rfl,rfl⟩,congrArg AV.lst (List.map_reverse).symm,congrArg AV.lst (by unfold castL; rw [← List.map_reverse,← List.map_reverse]),rfl⟩
   ·simp at hx
  obtain ⟨row,steps,k,hrr,er,es,rfl⟩:=hrow
  have hrn:row.length = 1 + (6 + script.length):=by rcases hrr with ⟨rfl,_⟩ | ⟨rfl,_⟩; exact hcl; rw [List.length_reverse]; exact hcl
  have hsn:steps.length = 6 + script.length:=by rcases hrr with ⟨_,rfl⟩ | ⟨_,rfl⟩; exact hpl; rw [List.length_reverse]; exact hpl
  have hrs:∀ s ∈ row,RowOk s:=by rcases hrr with ⟨rfl,_⟩ | ⟨rfl,_⟩; exact hci.ok; exact fun s hs=>hci.ok s (List.mem_reverse.mp hs)
  have hg:=hG row steps hrr
  clear hG hx hrr hci
  have hrl1:row.length ≤ 1000:=Nat.le_trans (len_bd h63 hrn) (by decide)
  have hr00:0 < row.length:=by rw [hrn,Nat.add_comm]; exact Nat.succ_pos _
  obtain ⟨r0,hr0e⟩:∃ r,row[0]? = some r:=⟨row[0],by simp⟩
  have hr0:=hrs r0 (List.mem_of_getElem? hr0e)
  have hi0:(row.map ilc)[(0:Int).toNat]? = some (ilc r0):=by rw [List.getElem?_map]; show (row[0]?).map ilc = _; rw [hr0e]; rfl
  have hrne:(row.map ilc).length = row.length:=List.length_map _
  have hrml:(row.map ilc).length < 2 ^ 62:=by rw [hrne]; exact lt_62 hrl1
  refine ⟨_,as_name fok (k:=8) (by walk_at "m st"),?_⟩
  refine ex_assignX fok (k:=9) (by walk_at "m st") (ev_eq (ev_if (c:=(k == 0)) (by walk_at "m tst") (fun _=>by walk_at "m ev") (fun _=>ev_sub (d₁:=.lst (cs.map ilc)) (by walk_at "m ev") (by walk_at "m ev") (sl_rev fok (by with_unfolding_all exact fun _ _=>⟨_,rfl⟩) hrl))) er) rfl ?_
  refine ex_assignX fok (k:=10) (by walk_at "m st") (ev_eq (ev_if (c:=(k == 0)) (by walk_at "m tst") (fun _=>by walk_at "m ev") (fun _=>ev_sub (d₁:=.lst ((castL ps).map .int)) (by walk_at "m ev") (by walk_at "m ev") (sl_rev fok (by with_unfolding_all exact fun _ _=>⟨_,rfl⟩) hpz))) es) rfl ?_
  have tl0:(tText words r0).length ≤ 1592:=Nat.le_trans (tText_len hr0.2 words) (Nat.mul_le_mul_right 8 hwb.2)
  with_reducible refine' ex_assignX (k:=11) (d:=il (tText words r0)) fok (by walk_at "m st") (ev_callX (by walk_at "m ev") ctxt (by walk_at "m evl") (c_pure fok hk sk_mono (xA.mono (by decide)) (txt_spec hwb.2 hr0.1 hr0.2).fn) (by walk_at "m r") (by walk_at "m r")) (by walk_at "m r") ?_
  refine ex_seq (ex_assign_compB fok (k:=12) (cl:=[]) (res:=sel (fun _=>true) (fun _=>.int 0) ((tText words r0).map AV.int).length) ⟨(closure_run (fun _=>0) (by intro y hy; cases hy)).trans rfl,by decide,rfl,of_decide_eq_true (by kernel_rfl)⟩ (by walk_at "m st")
   (fun ck=>comp1f fok (cap:=[none,none]) (k:=1) (fun _=>true) (fun _=>.int 0) ck
     (cap_of [] (fun j d h=>by rcases j with _ | _ | j <;> simp at h) (fun e he=>by cases he)) rfl (by kernel_rfl) (by walk_at "m ev") (itr_list fok) (by rw [List.length_map]; exact Nat.le_trans tl0 (by decide))
     (fun V' n l ok' hV hn i xv hxv=>⟨ifs_nil,fun _=>ev_int⟩)) ((swW xS _ _ _).trans (by kernel_rfl))) ?_
  rw [sel_const,List.length_map]
  refine ex_cons (P₁:=fun o=>∃ old notes om',MSt prog w dx om' ∧ o = .nxt (rwSig script words cs ps x dx row steps old notes) om')
   (ex_for2 fok (d:=.rng 1 (row.length:Nat)) (xs:=rngL 1 (row.length:Nat)) (ev_eq (by walk_at "m ev") (by rw [hrne])) (itr_rng1 fok hrl1)
    (fun t sig om=>∃ notes o,row[t]? = some o ∧ notes.length = (tText words o).length ∧ sig = rwSig script words cs ps x dx row steps (tText words o) notes ∧ MSt prog w dx om)
    ⟨_,?_,List.replicate (tText words r0).length 0,r0,hr0e,List.length_replicate,rfl,hm⟩ ?_ (fun sig om h=>by obtain ⟨notes,o,_,_,rfl,hm⟩:=h; exact ⟨_,notes,om,hm,rfl⟩) (by intro _; rfl)) ?_
  ·exact ⟨rfl,rfl,rfl,rfl,rfl,rfl,rfl,rfl,rfl,trivial⟩
  ·clear hm hr0e hr0 hi0 tl0 er es
   rintro t _ sig om hx ⟨notes,o,ho,hno,rfl,hm⟩
   obtain ⟨ht,rfl⟩:=rngL_get hx
   have ht1:t + 1 < row.length:=rng1_lt ht
   obtain ⟨n,hn⟩:∃ r,row[t + 1]? = some r:=⟨row[t + 1],by simp [ht1]⟩
   obtain ⟨p,hp⟩:∃ r,steps[t]? = some r:=⟨steps[t]'(step_lt ht1 hrn hsn),by simp⟩
   have hst:=hg t o n p ho hn hp
   have hro:=hrs o (List.mem_of_getElem? ho)
   have hrn':=hrs n (List.mem_of_getElem? hn)
   obtain ⟨p17,lo,ln,hb,hr,hke,kr,ko,hu,zm,zr⟩:=hst
   have zr:=zr notes ((1:Int) + (t:Nat)) hno
   have hvb:=one_bd (t:=t) (Nat.le_trans (Nat.le_of_lt (Nat.lt_of_succ_lt ht1)) hrl1)
   have io:(row.map ilc)[((1:Int) + (t:Nat) - 1).toNat]? = some (ilc o):=by rw [one_nat',List.getElem?_map,ho]; rfl
   have inw:(row.map ilc)[((1:Int) + (t:Nat)).toNat]? = some (ilc n):=by rw [one_nat,List.getElem?_map,hn]; rfl
   have isp:(castL steps)[((1:Int) + (t:Nat) - 1).toNat]? = some ((p:Nat):Int):=by rw [one_nat']; unfold castL; rw [List.getElem?_map,hp]; rfl
   have iog:=cast_get (o:=o) (i:=p) (by rw [hro.1]; exact p17)
   have inc:=cast_get (o:=n) (i:=p) (by rw [hrn'.1]; exact p17)
   have hg7:=getD_le7 hro.2 p
   have hc7:=getD_le7 hrn'.2 p
   have hnz:(castL n).length ≤ sizeLine:=by rw [cast_len,hrn'.1]; decide
   have hp63:((p:Nat):Int) < 2 ^ 63:=lt_63 (Nat.le_trans (Nat.le_of_lt p17) (by decide))
   have ctx:OpC prog w F om (.ref 251) [.int words,ilc n] (il (tText words n)):=c_pure fok hk sk_mono (xA.mono (by decide)) (txt_spec hwb.2 hrn'.1 hrn'.2).fn
   have hInv:row[t + 1]? = some n:=hn
   clear hg hrs ho hn hp ht ht1 hro hwe
   generalize o.getD p 0 = g at hb hr hke kr ko zr iog hg7 ⊢
   generalize n.getD p 0 = c at hb hr hke kr ko zr inc hc7 ⊢
   obtain ⟨hv63,hv0,hv1,hv64⟩:=hvb
   generalize hv:(1:Int) + (t:Nat) = v at zr io inw isp hv63 hv0 hv1 hv64 ⊢
   generalize tText words o = O at lo hr ko zm zr hno ⊢
   generalize hT:tText words n = T at ln hb hr hke kr ko hu zm zr ctx ⊢
   refine ⟨_,as_name fok (k:=13) (by walk_at "m st"),?_⟩
   have tl62:T.length < 2 ^ 62:=lt_62 ln
   have ol62:O.length < 2 ^ 62:=lt_62 lo
   with_reducible refine' ex_assignX (k:=14) (d:=il T) fok (by walk_at "m st") (ev_callX (by walk_at "m ev") ctxt (by walk_at "m evl") ctx (by walk_at "m r") (by walk_at "m r")) (by walk_at "m r") ?_
   with_reducible refine' ex_assignX (k:=5) (d:=.int (p:Nat)) fok (by walk_at "m st") (by walk_at "m ev") (by walk_at "m r") ?_
   refine ex_swap2 fok (k₁:=15) (k₂:=16) (d₁:=.int (g:Nat)) (d₂:=.int (c:Nat)) (by walk_at "m st") (by walk_at "m st") (by walk_at "m ev") rfl ((swS xS _ _).trans (by kernel_rfl)) ?_
   with_reducible refine' ex_assignX (k:=17) (d:=.int ((min g c:Nat):Int)) fok (by walk_at "m st") (ev_eq (ev_callX (by walk_at "m ev") callee_builtin (by walk_at "m evl") (c_min fok) (by walk_at "m r") (by walk_at "m r")) (congrArg AV.int min_cast)) (by walk_at "m r") ?_
   have sg:min g c ≤ g:=Nat.min_le_left _ _
   have sc:min g c ≤ c:=Nat.min_le_right _ _
   generalize min g c = stay at sg sc hr hke kr ko zr ⊢
   have hahe:10 * ((p:Int) + 1) + (castL (n.take p)).sum = ((aheadW n p:Nat):Int):=by rw [cast_sum]; rfl
   with_reducible refine' ex_assignX (k:=18) (d:=.int ((aheadW n p:Nat):Int)) fok (by walk_at "m st") (ev_eq (ev_binop (d₁:=.int (10 * ((p:Int) + 1))) (d₂:=.int (castL (n.take p)).sum) (ev_binop ev_int (ev_binop (by walk_at "m ev") ev_int op_add) (op_mul (IntMulOk.of_left (by decide)))) (ev_callX (by walk_at "m ev") callee_builtin (evl_consX (ev_eq (by walk_at "m ev") (congrArg il (by rw [Int.toNat_natCast,cast_take]))) evl_nil (by walk_at "m r")) (c_sum fok) (by walk_at "m r") (by walk_at "m r")) op_add) (congrArg AV.int hahe)) (by walk_at "m r") ?_
   generalize aheadW n p = ah at hb hr hke kr ko zr ⊢
   with_reducible refine' ex_assignX (k:=19) (d:=.int ((ah + c:Nat):Int)) fok (by walk_at "m st") (ev_eq (by walk_at "m ev") (congrArg AV.int (Int.natCast_add _ _).symm)) (by walk_at "m r") ?_
   have hbe0:ah ≤ ah + c:=Nat.le_add_right _ _
   generalize ah + c = be at hb hr hke kr ko zr hbe0 ⊢
   refine ex_swap2 fok (k₁:=20) (k₂:=21) (d₁:=.int (ah:Nat)) (d₂:=.int ((T.length - be:Nat):Int)) (by walk_at "m st") (by walk_at "m st") (ev_tuple fok (evl_consX (by walk_at "m ev") (evl_consX (ev_eq (by walk_at "m ev") (congrArg AV.int (sub_cast hb))) evl_nil rfl) rfl) side2) rfl ((swS xS _ _).trans (by kernel_rfl)) ?_
   have hahT:(T.take ah).length ≤ 1000:=Nat.le_trans (by rw [List.length_take]; exact Nat.min_le_right _ _) ln
   have hbeT:(T.drop be).length ≤ 1000:=Nat.le_trans (by rw [List.length_drop]; exact Nat.sub_le _ _) ln
   have cl1:OpC prog w F om (.ref 258) [il (T.take ah)] (.int (lgst isW (T.take ah)).1):=c_pure fok hk sk_mono (xA.mono (by decide)) (lgs_spec hahT).fn
   have cl2:OpC prog w F om (.ref 258) [il (T.drop be)] (.int (lgst isW (T.drop be)).1):=c_pure fok hk sk_mono (xA.mono (by decide)) (lgs_spec hbeT).fn
   have tsz:T.length ≤ sizeLine:=le_line1 ln
   refine ex_seq (sig':=(inSig script words cs ps x dx row steps O notes T v p g c stay ah be (sideW T n ah be))) (om':=om)
    (ex_if (b:=bigW T n) (tst_eq (tst_bool (all_cons (by walk_at "m tst") fun _=>all_cons (tst_cmpX (d₁:=.int ((n.sum:Nat):Int)) (d₂:=.int ((T.length / 100 + 1:Nat):Int)) (ev_eq (ev_callX (by walk_at "m ev") callee_builtin (by walk_at "m evl") (c_sum fok) rfl rfl) (congrArg AV.int cast_sum)) (ev_eq (by walk_at "m ev") (congrArg AV.int div100)) op_gt_int rfl) fun _=>all_nil)) ?_) (fun cc=>?_) (fun cc=>?_)) ?_
   ·unfold bigW
    rw [Bool.and_true,Bool.eq_iff_iff]
    simp only [Bool.and_eq_true,decide_eq_true_eq]
    exact and_congr Int.ofNat_le Int.ofNat_lt
   ·refine ex_swap2 fok (k₁:=20) (k₂:=21) (d₁:=.int (lgst isW (T.take ah)).1) (d₂:=.int (lgst isW (T.drop be)).1) (by walk_at "m st") (by walk_at "m st") (ev_tuple fok (evl_consX (ev_callX (by walk_at "m ev") clgs (evl_consX (ev_eq (by walk_at "m ev") (congrArg (fun k=>il (T.take k)) (Int.toNat_natCast ah))) evl_nil rfl) cl1 rfl rfl) (evl_consX (ev_callX (by walk_at "m ev") clgs (evl_consX (ev_eq (by walk_at "m ev") (congrArg (fun k=>il (T.drop k)) (Int.toNat_natCast be))) evl_nil rfl) cl2 rfl rfl) evl_nil rfl) rfl) side2) rfl ((swS xS _ _).trans (by kernel_rfl)) ?_
    refine ex_nil ?_
    unfold sideW
    rw [if_pos cc]
    rfl
   ·refine ex_nil ?_
    unfold sideW
    rw [if_neg (by rw [cc]; decide)]
    rfl
   unfold restW at hr
   unfold keptW at hke ko
   unfold keptW restW at kr zr
   generalize sideW T n ah be = lr at hr hke kr ko zr ⊢
   have hKe:(if decide (lr.2 ≤ lr.1) then AV.int ((ah:Int) + stay) else .int ah) = .int (((if lr.2 ≤ lr.1 then ah + stay else ah:Nat)):Int):=by
    by_cases q:lr.2 ≤ lr.1
    ·rw [decide_eq_true q,if_pos rfl,if_pos q]; rfl
    ·rw [decide_eq_false q,if_neg (by decide),if_neg q]
   have hRe:AV.int ((T.length:Int) - be + (if lr.2 ≤ lr.1 then 0 else stay:Nat)) = .int ((T.length - be + (if lr.2 ≤ lr.1 then 0 else stay):Nat):Int):=congrArg AV.int (by rw [sub_cast hb,Int.natCast_add])
   have hZe:(if decide (lr.2 ≤ lr.1) then AV.int 0 else .int stay) = .int ((if lr.2 ≤ lr.1 then 0 else stay:Nat):Int):=by
    by_cases q:lr.2 ≤ lr.1
    ·rw [decide_eq_true q,if_pos rfl,if_pos q]; rfl
    ·rw [decide_eq_false q,if_neg (by decide),if_neg q]
   have hGe:∀ {a b:Nat},decide ((a:Int) ≥ b) = decide (b ≤ a):=fun {a b}=>decide_eq_decide.mpr Int.ofNat_le
   with_reducible refine' ex_assignX (k:=22) (d:=.int ((if lr.2 ≤ lr.1 then ah + stay else ah:Nat):Int)) fok (by walk_at "m st") (ev_eq (ev_if (c:=decide (lr.2 ≤ lr.1)) (tst_eq (by walk_at "m tst") hGe) (fun _=>by walk_at "m ev") (fun _=>by walk_at "m ev")) hKe) (by walk_at "m r") ?_
   with_reducible refine' ex_assignX (k:=23) (d:=.int ((T.length - be + (if lr.2 ≤ lr.1 then 0 else stay):Nat):Int)) fok (by walk_at "m st") (ev_eq (ev_binop (d₁:=.int ((T.length:Int) - be)) (d₂:=.int ((if lr.2 ≤ lr.1 then 0 else stay:Nat):Int)) (by walk_at "m ev") (ev_eq (ev_if (c:=decide (lr.2 ≤ lr.1)) (d₁:=.int 0) (d₂:=.int stay) (tst_eq (by walk_at "m tst") hGe) (fun _=>ev_int) (fun _=>by walk_at "m ev")) hZe) op_add) hRe) (by walk_at "m r") ?_
   generalize (if lr.2 ≤ lr.1 then ah + stay else ah) = kept at hke kr ko zr ⊢
   generalize T.length - be + (if lr.2 ≤ lr.1 then 0 else stay) = rest at hr kr zr ⊢
   have hOr:(0:Int) ≤ (O.length:Int) - (rest:Nat):=Int.sub_nonneg_of_le (Int.ofNat_le.mpr hr)
   obtain ⟨c0,hc,hcs⟩:=xc_v
   have hcs':(c:Int) - (stay:Nat) = ((c - stay:Nat):Int):=sub_cast sc
   have n3:(rngL 0 ((c - stay:Nat):Int)).length = c - stay:=rngL_zero
   refine ex_seq (sig':=(inSig script words cs ps x dx row steps O notes T v p g c stay ah be lr).set 22 (some (.int kept)) |>.set 23 (some (.int rest)) |>.set 24 (some (il (notes.take kept ++ List.replicate (c - stay) v ++ notes.drop (O.length - rest))))) (om':=om) (ex_assign fok (k:=24) (by walk_at "m st") (ev_eq (d:=il (notes.take kept ++ List.replicate (c - stay) v ++ notes.drop (O.length - rest))) (ev_binop (d₁:=il (notes.take kept ++ List.replicate (c - stay) v)) (d₂:=il (notes.drop (O.length - rest)))
    (ev_binop (d₁:=il (notes.take kept)) (d₂:=il (List.replicate (c - stay) v)) (ev_eq (by walk_at "m ev") (congrArg (fun k=>il (notes.take k)) (Int.toNat_natCast kept)))
     (ev_eq (ev_compB (cl:=[(Str.ofString "v",c0)]) (res:=sel (fun _=>true) (fun _=>.int v) (rngL 0 ((c - stay:Nat):Int)).length) ⟨(closure_run (fun _=>c0) (by
       intro y hy
       have e:y ∈ [Str.ofString "v"]:=hy
       rw [List.mem_singleton] at e
       rw [e]; exact hc)).trans rfl,by decide,rfl,of_decide_eq_true (by kernel_rfl)⟩
      (fun ck=>comp1f fok (cap:=[none,none,some (.int v)]) (k:=1) (fun _=>true) (fun _=>.int v) ck
       (cap_of [⟨2,13, "v",.int v⟩] capO2 (by
       intro e he
       rw [List.mem_singleton] at he
       subst he
       exact ⟨rfl,.inl (by rw [xN]; rfl),rfl,by rw [hc]; exact (by kernel_rfl:([(Str.ofString "v",c0)]:List (PySem.Str × Addr)).lookup (Str.ofString "v") = some c0)⟩)) rfl (by kernel_rfl) (ev_callX (by walk_at "m ev") callee_type (evl_consX (ev_eq (by walk_at "m ev") (congrArg AV.int hcs')) evl_nil rfl) (c_range1 fok) rfl rfl) (itr_rng0 fok (Nat.le_trans (Nat.sub_le _ _) (Nat.le_trans hc7 (by decide)))) (by rw [n3]; exact le_line1 (Nat.le_trans (Nat.sub_le _ _) (Nat.le_trans hc7 (by decide))))
       (fun V' n l ok' hV hn i xv hxv=>⟨ifs_nil,fun _=>cnm_fre ok' 2 rfl (by kernel_rfl) rfl⟩)) (fun _=>rfl)) (congrArg AV.lst (by rw [n3]; exact sel_const)))
     (op_cat_il fok (by rw [List.length_take,List.length_replicate]; exact le_line (Nat.le_trans (Nat.min_le_right _ _) (hno ▸ lo)) (Nat.le_trans (Nat.sub_le _ _) (Nat.le_trans hc7 (by decide))))))
    (ev_eq (by walk_at "m ev") (congrArg (fun k=>il (notes.drop k)) (Int.toNat_sub O.length rest)))
    (op_cat_il fok (by rw [List.length_append,List.length_take,List.length_drop,List.length_replicate]; exact le_line (Nat.le_trans (Nat.add_le_add_right (Nat.min_le_left _ _) _) (Nat.le_trans (Nat.le_trans (Nat.le_add_right _ _) (Nat.le_of_eq kr)) ln)) (Nat.le_trans (Nat.sub_le _ _) (hno ▸ lo))))) rfl) rfl) ?_
   have hDl:(notes.take kept ++ List.replicate (c - stay) v ++ notes.drop (O.length - rest)).length = T.length:=by
    rw [List.length_append,List.length_append,List.length_take,List.length_replicate,List.length_drop,hno]; exact dl_arith ko hr kr
   have hGn:List.range' kept (g - stay) = List.range' kept (g - stay):=rfl
   generalize notes.take kept ++ List.replicate (c - stay) v ++ notes.drop (O.length - rest) = D at hDl zr ⊢
   have rdfn:PureFn prog w (SK w) 3 (.ref 263) [opsN (opsP O T),il O,il T,il notes,.int v] (.tup [il D,ilc (List.range' kept (g - stay))]):=by
    obtain ⟨S,a1,a2,a3,a4,a5,a6,a7⟩:=zr
    show PureFn prog w (SK w) 3 _ _ (.tup [il D,il (castL (List.range' kept (g - stay)))])
    rw [← a6,← a7]
    exact (rd_spec S a1 a2 a3 a4 lo ln hno a5).fn
   clear zr
   have ol6:O.length ≤ 1000000:=Nat.le_trans lo (by decide)
   have tl6:T.length ≤ 1000000:=Nat.le_trans ln (by decide)
   refine ex_exprX xi (evx_methX (d₀:=mInst x dx) (f:=.ref 167) (P:=fun d om'=>MSL prog w dx O T om') _ (by walk_at "m ev") (hm.gets0 hk (fi_ssq w.params) (ty_ssq w.params) get_m7) (callee_fn (hk 167 (fo167 w.params) (by kernel_rfl)) rfl)
    (evxl_of (ds:=[il O,il T]) (by walk_at "m evl") (x_ssq0 fok hk (xA.mono (by decide)) hm tl6 hu fun mo' h=>h)) rfl rfl) ?_ rfl
   rintro d om₁ hm₁
   refine ex_assignO fok (k:=25) (by walk_at "m st") (evx_call (P:=fun d om'=>d = .tup [il D,ilc (List.range' kept (g - stay))] ∧ MSL prog w dx O T om') (by walk_at "m ev") crd (evxl_cons (P₁:=fun d om'=>d = opsN (opsP O T) ∧ MSL prog w dx O T om') (evx_methX (d₀:=mInst x dx) (f:=.ref 210) _ (by walk_at "m ev") (MSt.gets0 (.inr ⟨_,_,hm₁⟩) hk (fi_gop w.params) (ty_gop w.params) get_m6) (callee_fn (hk 210 (fo210 w.params) (by kernel_rfl)) rfl)
     (evxl_nil (x_gop0 fok hk (xA.mono (by decide)) hm₁ ol6 tl6 zm fun mo' h=>⟨rfl,h⟩)) rfl rfl) ?_ rfl) rfl rfl) ?_ rfl
   ·rintro d om₂ ⟨rfl,hm₂⟩
    exact evxl_of (ds:=[il O,il T,il notes,.int v]) (by walk_at "m evl") (opx_of (c_pure fok hk sk_mono (xA.mono (by decide)) rdfn) ⟨rfl,hm₂⟩)
   rintro d om₂ ⟨rfl,hm₂⟩
   have hgr:(kept:Int) + g - (stay:Nat) = ((kept + (g - stay):Nat):Int):=gr_cast sg
   have n4:(rngL (kept:Int) ((kept + (g - stay):Nat):Int)).length = g - stay:=by rw [rngL_nat]; exact Nat.add_sub_cancel_left _ _
   have e0:(sel (fun _=>true) (fun i=>.int ((kept:Int) + (i:Nat))) (rngL (kept:Int) ((kept + (g - stay):Nat):Int)).length) = (castL (List.range' kept (g - stay))).map .int:=by
    rw [n4,sel_true]
    unfold castL
    rw [List.range'_eq_map_range,List.map_map,List.map_map]
    refine List.map_congr_left fun a _=>?_
    simp
   refine ex_ifF (tst_eq (tst_cmpX (d₁:=.tup [il D,ilc (List.range' kept (g - stay))]) (d₂:=.tup [il D,ilc (List.range' kept (g - stay))]) (by walk_at "m ev") (ev_tuple fok (evl_consX (by walk_at "m ev") (evl_consX
     (ev_eq (ev_compB (cl:=[]) (res:=sel (fun _=>true) (fun i=>.int ((kept:Int) + (i:Nat))) (rngL (kept:Int) ((kept + (g - stay):Nat):Int)).length) ⟨(closure_run (fun _=>0) (by intro y hy; cases hy)).trans rfl,by decide,rfl,of_decide_eq_true (by kernel_rfl)⟩
      (fun ck=>comp1f fok (cap:=[none,none]) (k:=1) (fun _=>true) (fun i=>.int ((kept:Int) + (i:Nat))) ck
       (cap_of [] (fun j d h=>by rcases j with _ | _ | j <;> simp at h) (fun e he=>by cases he)) rfl (by kernel_rfl) (ev_callX (by walk_at "m ev") callee_type (evl_consX (by walk_at "m ev") (evl_consX (ev_eq (by walk_at "m ev") (congrArg AV.int hgr)) evl_nil rfl) rfl) (c_range2 fok) rfl rfl) (itr_rngN fok (Nat.le_trans (Nat.le_add_right _ _) hke) (Nat.le_trans (Nat.add_le_add_left (Nat.sub_le _ _) _) hke)) (by rw [n4]; exact le_line1 (Nat.le_trans (Nat.sub_le _ _) (Nat.le_trans hg7 (by decide))))
       (fun V' n l ok' hV hn i xv hxv=>by
        obtain ⟨hi',rfl⟩:=rngL_get hxv
        exact ⟨ifs_nil,fun _=>cnm_loc ok' 1 rfl (by kernel_rfl) rfl⟩)) (fun _=>rfl)) (congrArg AV.lst e0)) evl_nil rfl) rfl) side2) (op_ne fok (n:=2) (Cmp.tup (CmpL.cons cmp_il (CmpL.cons cmp_il CmpL.nil)))) rfl) (by simp)) (ex_nilX ?_)
   refine ex_swap2 fok (k₁:=11) (k₂:=12) (d₁:=il T) (d₂:=il D) (by walk_at "m st") (by walk_at "m st") (by walk_at "m ev") rfl ((swS xS _ _).trans (by kernel_rfl)) ?_
   refine ex_nil ⟨rwSig script words cs ps x dx row steps T D,?_,D,n,hInv,by rw [hT]; exact hDl,by rw [hT],.inr ⟨_,_,hm₂⟩⟩
   exact ⟨rfl,rfl,rfl,rfl,rfl,rfl,rfl,rfl,rfl,trivial⟩
  rintro o ⟨old,notes,om',hm',rfl⟩
  refine ex_nil ⟨_,?_,rfl,hm'⟩
  exact ⟨rfl,rfl,rfl,rfl,rfl,trivial⟩
 rintro o ⟨sig,om,rfl⟩
 refine ex_returnX (d:=.bool true) ev_bool rfl
end
section
theorem sliceN_take {h M:List Int}:sliceN (h ++ M) 0 h.length = h:=by
 unfold sliceN
 rw [List.take_append_of_le_length (Nat.le_refl _),List.take_length,List.drop_zero]
theorem sliceN_drop {h t:List Int}:sliceN (h ++ t) h.length (h ++ t).length = t:=by
 unfold sliceN
 rw [List.take_length,List.drop_append_of_le_length (Nat.le_refl _),List.drop_length,List.nil_append]
theorem gap_ne {i ai j bj:Nat}:gapTag i ai j bj ≠ "equal" := by
 unfold gapTag
 split
 ·decide
 ·split
  ·decide
  ·split <;> decide
theorem reading_two {f:FL} {hp M N tp n1 n2 n3:List Int} {now:Int} (h1:hp ≠ []) (h3:tp ≠ []) (hn:¬ (M = [] ∧ N = [])) (e1:n1.length = hp.length) (e2:n2.length = M.length) (e3:n3.length = tp.length) (b1:(hp ++ M ++ tp).length ≤ 1000) (b2:(hp ++ N ++ tp).length ≤ 1000)
  (hm:mb f (0,(hp ++ M ++ tp).length,0,(hp ++ N ++ tp).length) = [(0,0,hp.length),((hp ++ M ++ tp).length - tp.length,(hp ++ N ++ tp).length - tp.length,tp.length)]) :
  Reading (opcodes f (hp ++ M ++ tp).length (hp ++ N ++ tp).length) (hp ++ M ++ tp) (hp ++ N ++ tp) (n1 ++ n2 ++ n3) now (n1 ++ List.replicate N.length now ++ n3) (castL (List.range' hp.length M.length)):=by
 have p1:=List.length_pos_iff.mpr h1
 have p3:=List.length_pos_iff.mpr h3
 have lA:(hp ++ M ++ tp).length = hp.length + M.length + tp.length:=by rw [List.length_append,List.length_append]
 have lB:(hp ++ N ++ tp).length = hp.length + N.length + tp.length:=by rw [List.length_append,List.length_append]
 have hn':0 < M.length ∨ 0 < N.length:=by
  rcases Nat.eq_zero_or_pos M.length with q | q
  ·rcases Nat.eq_zero_or_pos N.length with r | r
   ·exact (hn ⟨List.length_eq_zero_iff.mp q,List.length_eq_zero_iff.mp r⟩).elim
   ·exact .inr r
  ·exact .inl q
 have ops:=ops_two (f:=f) hm p1 p3 (by lia) (by lia) (by lia)
 have kA:(hp ++ M ++ tp).length - tp.length = hp.length + M.length:=by lia
 have kB:(hp ++ N ++ tp).length - tp.length = hp.length + N.length:=by lia
 rw [kA,kB] at ops
 have s1:sliceN (hp ++ M ++ tp) 0 hp.length = hp:=by rw [List.append_assoc]; exact sliceN_take
 have s2:sliceN (hp ++ N ++ tp) 0 hp.length = hp:=by rw [List.append_assoc]; exact sliceN_take
 have s3:sliceN (hp ++ M ++ tp) (hp.length + M.length) (hp ++ M ++ tp).length = tp:=by rw [← List.length_append]; exact sliceN_drop
 have s4:sliceN (hp ++ N ++ tp) (hp.length + N.length) (hp ++ N ++ tp).length = tp:=by rw [← List.length_append]; exact sliceN_drop
 have t1:sliceN (n1 ++ n2 ++ n3) 0 hp.length = n1:=by rw [← e1,List.append_assoc]; exact sliceN_take
 have t3:sliceN (n1 ++ n2 ++ n3) (hp.length + M.length) (hp ++ M ++ tp).length = n3:=by
  have:(hp ++ M ++ tp).length = (n1 ++ n2 ++ n3).length:=by rw [lA,List.length_append,List.length_append]; lia
  rw [this,← e1,← e2,← List.length_append]; exact sliceN_drop
 generalize hA:hp ++ M ++ tp = A at *
 generalize hB:hp ++ N ++ tp = B at *
 have ops:opcodes f A.length B.length = [eqO 0 hp.length 0 hp.length,(gapTag hp.length (hp.length + M.length) hp.length (hp.length + N.length),hp.length,hp.length + M.length,hp.length,hp.length + N.length),eqO (hp.length + M.length) A.length (hp.length + N.length) B.length]:=ops
 rw [ops]
 refine ⟨fun t=>match t with
  | 0=>rd0
  | 1=>⟨n1,[], "equal",hp.length,hp.length⟩
  | 2=>⟨n1 ++ List.replicate N.length now,castL (List.range' hp.length M.length),gapTag hp.length (hp.length + M.length) hp.length (hp.length + N.length),hp.length + M.length,hp.length + N.length⟩
  | _ + 3=>⟨n1 ++ List.replicate N.length now ++ n3,castL (List.range' hp.length M.length), "equal",A.length,B.length⟩,rfl,?_,rfl,rfl,?_,rfl,rfl⟩
 ·intro t c hc
  rcases t with _ | _ | _ | t
  ·cases hc
   have:=@Rd.eq A B (n1 ++ n2 ++ n3) now [] [] "" 0 hp.length 0 hp.length p1 p1 (by rw [s1,s2]) (by decide)
   rw [t1,List.nil_append] at this
   exact this
  ·cases hc
   have:=@Rd.change A B (n1 ++ n2 ++ n3) now n1 [] "equal" (gapTag hp.length (hp.length + M.length) hp.length (hp.length + N.length)) hp.length (hp.length + M.length) hp.length (hp.length + N.length) (by
    unfold gapTag
    by_cases c1:0 < M.length
    ·by_cases c2:0 < N.length
     ·exact .inl ⟨if_pos ⟨by lia,by lia⟩,by lia,by lia⟩
     ·exact .inr (.inl ⟨by rw [if_neg (by lia),if_pos (by lia)],by lia,by lia⟩)
    ·exact .inr (.inr ⟨by rw [if_neg (by lia),if_neg (by lia),if_pos (by lia)],by lia,by lia⟩)) (.inr rfl)
   rw [Nat.add_sub_cancel_left,Nat.add_sub_cancel_left,List.nil_append] at this
   exact this
  ·cases hc
   have:=@Rd.eq A B (n1 ++ n2 ++ n3) now (n1 ++ List.replicate N.length now) (castL (List.range' hp.length M.length)) (gapTag hp.length (hp.length + M.length) hp.length (hp.length + N.length)) (hp.length + M.length) A.length (hp.length + N.length) B.length (by lia) (by lia) (by rw [s3,s4]) gap_ne
   rw [t3] at this
   exact this
  ·cases hc
 ·intro t ht
  have ht:t ≤ 3:=ht
  have l1:(n1 ++ List.replicate N.length now).length = hp.length + N.length:=by rw [List.length_append,List.length_replicate,e1]
  have l2:(castL (List.range' hp.length M.length)).length = M.length:=by unfold castL; rw [List.length_map,List.length_range']
  rcases t with _ | _ | _ | _ | t
  ·exact ⟨Nat.zero_le _,Nat.zero_le _,Nat.zero_le _,Nat.zero_le _⟩
  ·exact ⟨by dsimp only; lia,Nat.zero_le _,by dsimp only; lia,by dsimp only; lia⟩
  ·exact ⟨by dsimp only; lia,by dsimp only; lia,by dsimp only; lia,by dsimp only; lia⟩
  ·exact ⟨by dsimp only; rw [List.length_append]; lia,by dsimp only; lia,Nat.le_refl _,Nat.le_refl _⟩
  ·lia
theorem reading_one {f:FL} {A notes:List Int} {now:Int} (h1:A ≠ []) (e1:notes.length = A.length) (b1:A.length ≤ 1000) (hm:mb f (0,A.length,0,A.length) = [(0,0,A.length)]) :
  Reading (opcodes f A.length A.length) A A notes now notes []:=by
 have p1:=List.length_pos_iff.mpr h1
 have ops:opcodes f A.length A.length = [eqO 0 A.length 0 A.length]:=ops_one hm p1
 rw [ops]
 refine ⟨fun t=>match t with
  | 0=>rd0
  | _ + 1=>⟨notes,[], "equal",A.length,A.length⟩,rfl,?_,rfl,rfl,?_,rfl,rfl⟩
 ·intro t c hc
  rcases t with _ | t
  ·cases hc
   have:=@Rd.eq A A notes now [] [] "" 0 A.length 0 A.length p1 p1 rfl (by decide)
   have e:sliceN notes 0 A.length = notes:=by unfold sliceN; rw [← e1,List.take_length,List.drop_zero]
   rw [e,List.nil_append] at this
   exact this
  ·cases hc
 ·intro t ht
  rcases t with _ | t
  ·exact ⟨Nat.zero_le _,Nat.zero_le _,Nat.zero_le _,Nat.zero_le _⟩
  ·exact ⟨by dsimp only; lia,Nat.zero_le _,Nat.le_refl _,Nat.le_refl _⟩
end
section
noncomputable def segT (a k:Nat) (o:List Nat):List Int:=(List.range' a k).flatMap (cellT o)
theorem tText_split {a k:Nat} {o:List Nat}:tText (a + k) o = tText a o ++ segT a k o:=by
 unfold tText segT
 rw [List.range_eq_range',List.range_eq_range',← List.flatMap_append,show List.range' a k = List.range' (0 + a) k by rw [Nat.zero_add],List.range'_append_1]
theorem segT_cons {a k:Nat} {o:List Nat}:segT a (k + 1) o = cellT o a ++ segT (a + 1) k o:=by
 unfold segT
 rw [List.range'_succ,List.flatMap_cons]
theorem flat_congr {α β:Type} {f g:α → List β}:∀ {l:List α},(∀ a ∈ l,f a = g a) → l.flatMap f = l.flatMap g
 | [],_=>rfl
 | a :: l,h=>by
  rw [List.flatMap_cons,List.flatMap_cons,h a List.mem_cons_self,flat_congr fun b hb=>h b (List.mem_cons_of_mem _ hb)]
theorem cell_congr {o n:List Nat} {p t:Nat} (h:∀ q,q ≠ p → o.getD q 0 = n.getD q 0) (ht:t ≠ 10 * (p + 1)):cellT o t = cellT n t:=by
 have:blanksAt o t = blanksAt n t:=by
  unfold blanksAt
  split
  ·rename_i c
   refine h _ fun e=>ht ?_
   have hd:=Nat.div_add_mod t 10
   rw [c.1] at hd
   obtain ⟨j,hj⟩:=Nat.exists_eq_succ_of_ne_zero (n:=t / 10) fun z=>by rw [z] at hd; exact absurd hd (Nat.ne_of_lt c.2.1)
   rw [hj] at e hd
   rw [← hd,← show j = p from e]; rfl
  ·rfl
 unfold cellT; rw [this]
theorem tText_congr {o n:List Nat} {p a:Nat} (h:∀ q,q ≠ p → o.getD q 0 = n.getD q 0) (ha:a ≤ 10 * (p + 1)):tText a o = tText a n :=
 flat_congr fun t ht=>cell_congr h (Nat.ne_of_lt (Nat.lt_of_lt_of_le (List.mem_range.mp ht) ha))
theorem segT_congr {o n:List Nat} {p a k:Nat} (h:∀ q,q ≠ p → o.getD q 0 = n.getD q 0) (ha:10 * (p + 1) < a):segT a k o = segT a k n :=
 flat_congr fun t ht=>cell_congr h (Nat.ne_of_gt (Nat.lt_of_lt_of_le ha (List.mem_range'_1.mp ht).1))
theorem cast_ne {t:Nat}:¬ ((t:Int) = -1):=by omega
theorem cell_count {o:List Nat} {t:Nat}:(cellT o t).count (-1) = blanksAt o t:=by
 unfold cellT
 rw [List.count_append,List.count_replicate_self,List.count_cons_of_ne cast_ne,List.count_nil,Nat.add_zero]
theorem take_sum {o:List Nat} {k:Nat} (hk:k < o.length):(o.take (k + 1)).sum = (o.take k).sum + o.getD k 0:=by
 rw [List.take_add_one,List.getElem?_eq_getElem hk,Option.toList_some,List.sum_append,List.getD_eq_getElem?_getD,List.getElem?_eq_getElem hk]
 simp
theorem blanks_off {o:List Nat} {k r:Nat} (h:r < 9):blanksAt o (10 * k + 1 + r) = 0:=by
 unfold blanksAt
 rw [if_neg]
 rintro ⟨c,_⟩
 rw [Nat.add_assoc,Nat.mul_add_mod,Nat.mod_eq_of_lt (by rw [Nat.add_comm]; exact Nat.succ_lt_succ h),Nat.add_comm] at c
 cases c
theorem blanks_on {o:List Nat} {k:Nat}:blanksAt o (10 * k + 1 + 9) = if k < 17 then o.getD k 0 else 0:=by
 show blanksAt o (10 * (k + 1)) = _
 unfold blanksAt
 rw [Nat.mul_div_cancel_left _ (by decide),Nat.add_sub_cancel]
 by_cases q:k < 17
 ·rw [if_pos q,if_pos ⟨Nat.mul_mod_right 10 _,Nat.mul_pos (by decide) (Nat.succ_pos k),Nat.lt_of_le_of_lt (Nat.mul_le_mul_left 10 q) (by decide:10 * 17 < 171)⟩]
 ·rw [if_neg q,if_neg]
  rintro ⟨_,_,c⟩
  exact absurd (Nat.lt_of_le_of_lt (Nat.mul_le_mul_left 10 (Nat.succ_le_succ (Nat.le_of_not_lt q))) c) (by decide)
theorem tText_count {o:List Nat} (hl:o.length = 17):∀ k r,r ≤ 9 → (tText (10 * k + 1 + r) o).count (-1) = (o.take (min 17 k)).sum
 | 0,0,_=>rfl
 | k,r + 1,h=>by
  show (tText (10 * k + 1 + r + 1) o).count (-1) = _
  rw [tText_succ,List.count_append,tText_count hl k r (Nat.le_of_lt h),cell_count,blanks_off h,Nat.add_zero]
 | k + 1,0,_=>by
  show (tText (10 * k + 1 + 9 + 1) o).count (-1) = _
  rw [tText_succ,List.count_append,tText_count hl k 9 (Nat.le_refl 9),cell_count,blanks_on]
  by_cases q:k < 17
  ·rw [if_pos q,Nat.min_eq_right (Nat.le_of_lt q),Nat.min_eq_right q,take_sum (by rw [hl]; exact q)]
  ·have q:=Nat.le_of_not_lt q
   rw [if_neg (Nat.not_lt.mpr q),Nat.min_eq_left q,Nat.min_eq_left (Nat.le_succ_of_le q),Nat.add_zero]
theorem tText_size {o:List Nat}:∀ W,(tText W o).length = W + (tText W o).count (-1)
 | 0=>rfl
 | W + 1=>by
  rw [tText_succ,List.length_append,List.count_append,tText_size W,cell_count]
  unfold cellT
  rw [List.length_append,List.length_replicate,List.length_singleton,← Nat.add_assoc,Nat.add_assoc W,Nat.add_right_comm]
theorem tText_mem {o:List Nat} {x:Int}:∀ {W:Nat},x ∈ tText W o → x = -1 ∨ ∃ t,t < W ∧ x = (t:Int)
 | 0,h=>by cases h
 | W + 1,h=>by
  rw [tText_succ] at h
  rcases List.mem_append.mp h with h | h
  ·rcases tText_mem h with h | ⟨t,h1,h2⟩
   ·exact .inl h
   ·exact .inr ⟨t,Nat.lt_succ_of_lt h1,h2⟩
  ·unfold cellT at h
   rcases List.mem_append.mp h with h | h
   ·exact .inl (List.mem_replicate.mp h).2
   ·exact .inr ⟨W,Nat.lt_succ_self W,List.mem_singleton.mp h⟩
theorem isW_iff {x:Int}:isW x = true ↔ x ≠ -1:=by unfold isW; simp
theorem vn_cell {o:List Nat} {t:Nat}:VN isW (cellT o t):=by
 unfold VN cellT
 refine List.pairwise_append.mpr ⟨?_,List.pairwise_singleton _ _,fun x hx y hy hv=>?_⟩
 ·exact List.pairwise_replicate.mpr (.inr fun h=>absurd rfl (isW_iff.mp h))
 ·exact absurd (List.mem_replicate.mp hx).2 (isW_iff.mp hv)
theorem vn_text {o:List Nat}:∀ W,VN isW (tText W o)
 | 0=>List.Pairwise.nil
 | W + 1=>by
  rw [tText_succ]
  refine List.pairwise_append.mpr ⟨vn_text W,vn_cell,fun x hx y hy hv=>?_⟩
  rcases tText_mem hx with rfl | ⟨t,h1,rfl⟩
  ·exact absurd rfl (isW_iff.mp hv)
  ·unfold cellT at hy
   rcases List.mem_append.mp hy with h | h
   ·rw [(List.mem_replicate.mp h).2]; exact cast_ne
   ·rw [List.mem_singleton.mp h]
    intro e
    exact Nat.ne_of_lt h1 (Int.ofNat.inj e)
theorem idxL_count {B:List Int} {x:Int}:∀ k,(idxL (B.take k) x).length = (B.take k).count x
 | 0=>rfl
 | k + 1=>by
  rw [List.take_add_one]
  cases h:B[k]? with
  | none=>rw [Option.toList_none,List.append_nil]; exact idxL_count k
  | some y =>
   rw [Option.toList_some,idxL_snoc,List.length_append,List.count_append,idxL_count k]
   by_cases q:y = x
   ·subst q; simp
   ·rw [if_neg q,List.count_cons_of_ne q]; rfl
theorem idxL_count' {B:List Int} {x:Int}:(idxL B x).length = B.count x:=by
 have:=idxL_count (B:=B) (x:=x) B.length
 rwa [List.take_length] at this
theorem vn_count {B:List Int} {x:Int} (h:VN isW B) (hx:isW x = true):B.count x ≤ 1:=by
 induction B with
 | nil=>exact Nat.zero_le _
 | cons a B ih =>
  have hp:=List.pairwise_cons.mp h
  rw [List.count_cons]
  by_cases q:a = x
  ·subst q
   have:B.count a = 0:=List.count_eq_zero.mpr fun hm=>hp.1 a hm hx rfl
   rw [this]; simp
  ·rw [show (a == x) = false by simpa using q]
   exact ih hp.2
end
section
noncomputable abbrev bl (k:Nat):List Int:=List.replicate k (-1)
structure Fw (h t:List Int):Prop where
 h0:∃ v h',h = v :: h' ∧ isW v = true
 h1:∃ h' v,h = h' ++ [v] ∧ isW v = true
 t0:∃ v t',t = v :: t' ∧ isW v = true
 vn:VN isW (h ++ t)
variable {h t:List Int} {g c:Nat} {okx:Int → Bool} {idx:Int → List Nat}
theorem bl_get {k i:Nat} {x:Int} (e:(bl k)[i]? = some x):isW x = false:=by
 rw [List.getElem?_replicate] at e
 split at e
 ·cases e; rfl
 ·cases e
theorem tx_len:(h ++ bl g ++ t).length = h.length + g + t.length:=by rw [List.length_append,List.length_append,List.length_replicate]
theorem tx_word {i:Nat} {x:Int} (e:(h ++ bl g ++ t)[i]? = some x) (hx:isW x = true):(i < h.length ∧ (h ++ t)[i]? = some x) ∨ ∃ d,i = h.length + g + d ∧ (h ++ t)[h.length + d]? = some x:=by
 rw [List.append_assoc] at e
 by_cases q:i < h.length
 ·rw [List.getElem?_append_left q] at e
  exact .inl ⟨q,by rw [List.getElem?_append_left q]; exact e⟩
 ·obtain ⟨d,rfl⟩:=Nat.exists_eq_add_of_le (Nat.le_of_not_lt q)
  rw [List.getElem?_append_right (Nat.le_add_right _ _),Nat.add_sub_cancel_left] at e
  by_cases r:d < g
  ·rw [List.getElem?_append_left (by rw [List.length_replicate]; exact r)] at e
   rw [bl_get e] at hx; cases hx
  ·obtain ⟨d,rfl⟩:=Nat.exists_eq_add_of_le (Nat.le_of_not_lt r)
   rw [List.getElem?_append_right (by rw [List.length_replicate]; exact Nat.le_add_right _ _),List.length_replicate,Nat.add_sub_cancel_left] at e
   exact .inr ⟨d,(Nat.add_assoc _ _ _).symm,by rw [List.getElem?_append_right (Nat.le_add_right _ _),Nat.add_sub_cancel_left]; exact e⟩
theorem Fw.loc (F:Fw h t) {i j:Nat} {x:Int} (e1:(h ++ bl g ++ t)[i]? = some x) (e2:(h ++ bl c ++ t)[j]? = some x) (hx:isW x = true):(i = j ∧ i < h.length) ∨ ∃ d,i = h.length + g + d ∧ j = h.length + c + d:=by
 rcases tx_word e1 hx with ⟨q1,q2⟩ | ⟨d,rfl,q2⟩
 ·rcases tx_word e2 hx with ⟨r1,r2⟩ | ⟨d',rfl,r2⟩
  ·exact .inl ⟨F.vn.inj q2 r2 hx,q1⟩
  ·have:=F.vn.inj q2 r2 hx
   rw [this] at q1
   exact absurd q1 (Nat.not_lt.mpr (Nat.le_add_right _ _))
 ·rcases tx_word e2 hx with ⟨r1,r2⟩ | ⟨d',rfl,r2⟩
  ·have:=F.vn.inj q2 r2 hx
   rw [← this] at r1
   exact absurd r1 (Nat.not_lt.mpr (Nat.le_add_right _ _))
  ·exact .inr ⟨d,rfl,by rw [Nat.add_left_cancel (F.vn.inj q2 r2 hx)]⟩
noncomputable def Gap (l:List Int) (i n:Nat):Prop:=∀ u,u < n → ∃ x,l[i + u]? = some x ∧ isW x = false
theorem Gap.no {l:List Int} {i n p:Nat} {x:Int} (h:Gap l i n) (e:l[p]? = some x) (hx:isW x = true) (h1:i ≤ p) (h2:p < i + n):False:=by
 obtain ⟨u,rfl⟩:=Nat.exists_eq_add_of_le h1
 obtain ⟨y,e1,e2⟩:=h u (Nat.lt_of_add_lt_add_left h2)
 rw [e] at e1
 cases e1
 rw [hx] at e2; cases e2
theorem Fw.at0 (F:Fw h t):∃ x,(h ++ bl g ++ t)[0]? = some x ∧ isW x = true:=by
 obtain ⟨v,h',e,hv⟩:=F.h0
 exact ⟨v,by rw [e]; rfl,hv⟩
theorem Fw.atH (F:Fw h t):∃ p x,h.length = p + 1 ∧ (h ++ bl g ++ t)[p]? = some x ∧ isW x = true:=by
 obtain ⟨h',v,e,hv⟩:=F.h1
 exact ⟨h'.length,v,by rw [e,List.length_append]; rfl,by rw [e,List.append_assoc,List.append_assoc,List.getElem?_append_right (Nat.le_refl _),Nat.sub_self]; rfl,hv⟩
theorem Fw.atT (F:Fw h t):∃ x,(h ++ bl g ++ t)[h.length + g]? = some x ∧ isW x = true:=by
 obtain ⟨v,t',e,hv⟩:=F.t0
 refine ⟨v,?_,hv⟩
 rw [List.getElem?_append_right (by rw [List.length_append,List.length_replicate]; exact Nat.le_refl _),List.length_append,List.length_replicate,Nat.sub_self,e]; rfl
theorem Fw.gap (F:Fw h t) {i n:Nat} (hg:Gap (h ++ bl g ++ t) i n) (hn:0 < n):(0 < i ∧ n < h.length ∧ i + n < h.length) ∨ (h.length ≤ i ∧ i + n ≤ h.length + g) ∨ (h.length + g < i ∧ n < t.length):=by
 by_cases q:i < h.length
 ·refine .inl ?_
  obtain ⟨x,e,hx⟩:=F.at0 (g:=g)
  have h1:0 < i:=Nat.pos_of_ne_zero fun z=>hg.no e hx (by rw [z]; exact Nat.le_refl _) (by rw [z,Nat.zero_add]; exact hn)
  obtain ⟨p,x,ep,e,hx⟩:=F.atH (g:=g)
  have h2:i + n ≤ p:=Nat.le_of_not_lt fun z=>hg.no e hx (Nat.le_of_lt_succ (Nat.lt_of_lt_of_eq q ep)) z
  rw [ep]
  exact ⟨h1,Nat.lt_succ_of_le (Nat.le_trans (Nat.le_add_left _ _) h2),Nat.lt_succ_of_le h2⟩
 ·obtain ⟨x,e,hx⟩:=F.atT (g:=g)
  by_cases r:i ≤ h.length + g
  ·exact .inr (.inl ⟨Nat.le_of_not_lt q,Nat.le_of_not_lt fun z=>hg.no e hx r z⟩)
  ·refine .inr (.inr ⟨Nat.lt_of_not_le r,?_⟩)
   obtain ⟨m,rfl⟩:=Nat.exists_eq_add_one_of_ne_zero (Nat.ne_of_gt hn)
   obtain ⟨y,e1,_⟩:=hg m (Nat.lt_succ_self m)
   have:=(List.getElem?_eq_some_iff.mp e1).1
   rw [tx_len] at this
   have z:=Nat.add_le_add_right (Nat.lt_of_not_le r) m
   rw [Nat.succ_add_eq_add_succ] at z
   exact Nat.lt_of_add_lt_add_left (Nat.lt_of_le_of_lt z this)
end
section
variable {h t:List Int} {g c m:Nat} {okx:Int → Bool} {idx:Int → List Nat}
theorem bl_split {m g:Nat} (hm:m ≤ g):bl g = bl m ++ bl (g - m):=by rw [List.replicate_append_replicate,Nat.add_sub_cancel' hm]
theorem bl_split' {m g:Nat} (hm:m ≤ g):bl g = bl (g - m) ++ bl m:=by rw [List.replicate_append_replicate,Nat.sub_add_cancel hm]
theorem splitH (hm:m ≤ g):h ++ bl g ++ t = (h ++ bl m) ++ (bl (g - m) ++ t):=by rw [bl_split hm,List.append_assoc,List.append_assoc,List.append_assoc]
theorem splitT (hm:m ≤ g):h ++ bl g ++ t = (h ++ bl (g - m)) ++ (bl m ++ t):=by rw [bl_split' hm,List.append_assoc,List.append_assoc,List.append_assoc]
theorem lenH:(h ++ bl m).length = h.length + m:=by rw [List.length_append,List.length_replicate]
theorem lenT:(bl m ++ t).length = t.length + m:=by rw [List.length_append,List.length_replicate,Nat.add_comm]
theorem tx_mid {d:Nat} (hd:d < g):(h ++ bl g ++ t)[h.length + d]? = some (-1):=by
 rw [List.append_assoc,List.getElem?_append_right (Nat.le_add_right _ _),Nat.add_sub_cancel_left,List.getElem?_append_left (by rw [List.length_replicate]; exact hd),List.getElem?_replicate,if_pos hd]
theorem word_ne {x:Int} (hx:isW x = true):some x ≠ some (-1):=fun e=>by cases e; cases hx
theorem Fw.neH (F:Fw h t) (hne:g ≠ c):(h ++ bl g ++ t)[h.length + min g c]? ≠ (h ++ bl c ++ t)[h.length + min g c]?:=by
 rcases Nat.lt_or_gt_of_ne hne with q | q
 ·rw [Nat.min_eq_left (Nat.le_of_lt q),tx_mid q]
  obtain ⟨x,e,hx⟩:=F.atT (g:=g)
  rw [e]; exact word_ne hx
 ·rw [Nat.min_eq_right (Nat.le_of_lt q),tx_mid q]
  obtain ⟨x,e,hx⟩:=F.atT (g:=c)
  rw [e]; exact (word_ne hx).symm
theorem Fw.neT (F:Fw h t) (hne:g ≠ c):(h ++ bl g ++ t)[h.length + (g - min g c) - 1]? ≠ (h ++ bl c ++ t)[h.length + (c - min g c) - 1]?:=by
 rcases Nat.lt_or_gt_of_ne hne with q | q
 ·obtain ⟨d,hd⟩:=Nat.exists_eq_add_one_of_ne_zero (Nat.sub_ne_zero_of_lt q)
  obtain ⟨p,x,ep,e,hx⟩:=F.atH (g:=g)
  rw [Nat.min_eq_left (Nat.le_of_lt q),Nat.sub_self,Nat.add_zero,hd,← Nat.add_assoc,Nat.add_sub_cancel,tx_mid (Nat.lt_of_lt_of_le (by rw [hd]; exact Nat.lt_succ_self d) (Nat.sub_le c g)),ep,Nat.add_sub_cancel,e]
  exact word_ne hx
 ·obtain ⟨d,hd⟩:=Nat.exists_eq_add_one_of_ne_zero (Nat.sub_ne_zero_of_lt q)
  obtain ⟨p,x,ep,e,hx⟩:=F.atH (g:=c)
  rw [Nat.min_eq_right (Nat.le_of_lt q),Nat.sub_self,Nat.add_zero,hd,← Nat.add_assoc,Nat.add_sub_cancel,tx_mid (Nat.lt_of_lt_of_le (by rw [hd]; exact Nat.lt_succ_self d) (Nat.sub_le g c)),ep,Nat.add_sub_cancel,e]
  exact (word_ne hx).symm
theorem lgst_true {l:List Int}:(lgst (fun _=>true) l).1 = l.length:=by
 have o:=lg_ok (V:=fun _=>true) (l:=l)
 obtain ⟨i,hi⟩:=o.ex
 exact Nat.le_antisymm (Nat.le_trans (Nat.le_add_left _ _) hi.1) (o.max 0 l.length ⟨Nat.le_of_eq (Nat.zero_add _),fun _ _ _ _=>rfl⟩)
noncomputable abbrev Oks (okx:Int → Bool):Prop:=okx = isW ∨ okx = fun _=>true
theorem Oks.word (hok:Oks okx) {x:Int} (hx:isW x = true):okx x = true:=by rcases hok with rfl | rfl; exact hx; rfl
theorem lg_pos (hok:Oks okx) {l:List Int} {i:Nat} {x:Int} (e:l[i]? = some x) (hx:isW x = true):∃ k,(lgst okx l).1 = k + 1 :=
 Nat.exists_eq_add_one_of_ne_zero (Nat.ne_of_gt ((lg_ok (V:=okx) (l:=l)).max i 1 ⟨(List.getElem?_eq_some_iff.mp e).1,fun u hu y hy=>by
  obtain rfl:u = 0:=Nat.lt_one_iff.mp hu
  rw [Nat.add_zero,e] at hy
  cases hy
  exact hok.word hx⟩))
theorem run_cases (hok:Oks okx) {O T:List Int} {alo ahi blo bhi i j k:Nat} (hr:RunO okx O T alo ahi blo bhi i j (k + 1)) :
  (∃ u x,u < k + 1 ∧ O[i + u]? = some x ∧ T[j + u]? = some x ∧ isW x = true) ∨ (okx = (fun _=>true) ∧ Gap O i (k + 1) ∧ Gap T j (k + 1)):=by
 by_cases q:∃ u x,u < k + 1 ∧ O[i + u]? = some x ∧ T[j + u]? = some x ∧ isW x = true
 ·exact .inl q
 ·have no:∀ u,u < k + 1 → ∃ x,O[i + u]? = some x ∧ T[j + u]? = some x ∧ isW x = false:=fun u hu=>by
   obtain ⟨x,e1,e2⟩:=hr.eq u hu
   exact ⟨x,e1,e2,by cases hx:isW x with | false=>rfl | true=>exact (q ⟨u,x,hu,e1,e2,hx⟩).elim⟩
  refine .inr ⟨?_,fun u hu=>let ⟨x,e1,_,e3⟩:=no u hu; ⟨x,e1,e3⟩,fun u hu=>let ⟨x,_,e2,e3⟩:=no u hu; ⟨x,e2,e3⟩⟩
  rcases hok with rfl | rfl
  ·obtain ⟨x,e1,_,e3⟩:=no 0 (Nat.succ_pos k)
   rw [hr.ok 0 (Nat.succ_pos k) x e1] at e3
   cases e3
  ·rfl
theorem tdiag {a g c m i j u w d:Nat} (h1:i + u = a + g + d) (h2:j + u = a + c + d) (mg:m ≤ g) (mc:m ≤ c) (hw:i + w + 1 = a + (g - m)):j + w + 1 = a + (c - m):=by omega
theorem Fw.tlo (F:Fw h t) (hne:g ≠ c) {alo ahi blo bhi i j k u d:Nat} (hr:Run (h ++ bl g ++ t) (h ++ bl c ++ t) alo ahi blo bhi i j (k + 1)) (hu:u < k + 1) (h1:i + u = h.length + g + d) (h2:j + u = h.length + c + d):h.length + (g - min g c) ≤ i:=Nat.le_of_not_lt fun z=>by
 obtain ⟨w,hw⟩:=Nat.exists_eq_add_of_lt z
 have hwu:w < u:=Nat.lt_of_add_lt_add_left (n:=i) (by
  rw [h1]
  refine Nat.lt_of_lt_of_le (Nat.lt_succ_self _) (Nat.le_trans (Nat.le_of_eq hw.symm) (Nat.le_trans (Nat.add_le_add_left (Nat.sub_le _ _) _) (Nat.le_add_right _ _))))
 have e2:=tdiag h1 h2 (Nat.min_le_left g c) (Nat.min_le_right g c) hw.symm
 obtain ⟨x,x1,x2⟩:=hr.eq w (Nat.lt_trans hwu hu)
 have:=F.neT hne
 rw [hw,← e2,Nat.add_sub_cancel,Nat.add_sub_cancel,x1,x2] at this
 exact this rfl
end
section
variable {h t:List Int} {g c m:Nat} {okx:Int → Bool} {idx:Int → List Nat}
theorem gap_min {i j n a g c b b':Nat} (h1:a + b ≤ i) (h2:a + b' ≤ j) (h3:i + n ≤ a + g) (h4:j + n ≤ a + c) (hz:g - b = 0 ∨ c - b' = 0) (hn:0 < n):False:=by omega
theorem tdg {a b g c i j u d:Nat} (h1:i + u = a + g + d) (h2:j + u = a + c + d):i + (a + c + b) = j + (a + g + b):=by omega
theorem le_mid {i a n g:Nat} (h1:a ≤ i) (h2:i + n ≤ a + g):n ≤ g:=Nat.le_of_add_le_add_left (Nat.le_trans (Nat.add_le_add_right h1 n) h2)
theorem min_z {g c:Nat}:g - min g c = 0 ∨ c - min g c = 0:=by
 rcases Nat.le_total g c with q | q
 ·exact .inl (by rw [Nat.min_eq_left q,Nat.sub_self])
 ·exact .inr (by rw [Nat.min_eq_right q,Nat.sub_self])
theorem Fw.seed (F:Fw h t) (hok:Oks okx) {ih k:Nat} (wh:WR okx (h ++ bl m) ih (k + 1)) (hl:(lgst okx (h ++ bl m)).1 = k + 1):ih < h.length ∧ (okx = (fun _=>true) → ih = 0):=by
 have hz:okx = (fun _=>true) → ih = 0:=fun e=>by
  subst e
  rw [lgst_true] at hl
  have:=wh.1
  rw [hl] at this
  exact Nat.le_zero.mp (Nat.le_of_add_le_add_right (Nat.le_trans this (Nat.le_of_eq (Nat.zero_add _).symm)))
 refine ⟨?_,hz⟩
 obtain ⟨v,h',e,hv⟩:=F.h0
 rcases hok with rfl | rfl
 ·refine Nat.lt_of_not_le fun q=>?_
  obtain ⟨d,rfl⟩:=Nat.exists_eq_add_of_le q
  have hlt:h.length + d < (h ++ bl m).length:=Nat.lt_of_lt_of_le (Nat.lt_add_of_pos_right (Nat.succ_pos k)) wh.1
  have e1:(h ++ bl m)[h.length + d]? = (bl m)[d]?:=by rw [List.getElem?_append_right (Nat.le_add_right _ _),Nat.add_sub_cancel_left]
  have e2:=List.getElem?_eq_getElem hlt
  have h1:=wh.2 0 (Nat.succ_pos k) _ e2
  rw [e1] at e2
  rw [bl_get e2] at h1
  cases h1
 ·rw [hz rfl,e]; exact Nat.succ_pos _
theorem Fw.find_h (F:Fw h t) (hne:g ≠ c) (hok:Oks okx) (hs:∀ x,(idx x).Pairwise (· < ·)) (hm:∀ x j,j ∈ idx x ↔ okx x = true ∧ (h ++ bl c ++ t)[j]? = some x) (hL:(lgst okx (bl (min g c) ++ t)).1 ≤ (lgst okx (h ++ bl (min g c))).1) :
  flm (h ++ bl g ++ t) (h ++ bl c ++ t) okx idx 0 (h ++ bl g ++ t).length 0 (h ++ bl c ++ t).length = (0,0,h.length + min g c):=by
 have mg:=Nat.min_le_left g c
 have mc:=Nat.min_le_right g c
 obtain ⟨p,x0,ep,e0,hx0⟩:=F.atH (g:=min g c)
 rw [List.getElem?_append_left (by rw [lenH,ep]; exact Nat.lt_of_lt_of_le (Nat.lt_succ_self p) (Nat.le_add_right _ _))] at e0
 obtain ⟨kh,ekh⟩:=lg_pos hok e0 hx0
 obtain ⟨ih,wh⟩:=(lg_ok (V:=okx) (l:=h ++ bl (min g c))).ex
 rw [ekh] at wh hL
 obtain ⟨hi,hi0⟩:=F.seed hok wh ekh
 have hP:Run (h ++ bl g ++ t) (h ++ bl c ++ t) 0 (h ++ bl g ++ t).length 0 (h ++ bl c ++ t).length 0 0 (h.length + min g c):=by
  rw [splitH mg,splitH mc,← lenH]
  exact run_pre (by rw [List.length_append (bs:=bl (g - min g c) ++ t)]; exact Nat.le_add_right _ _) (by rw [List.length_append (bs:=bl (c - min g c) ++ t)]; exact Nat.le_add_right _ _)
 have hh:RunO okx (h ++ bl g ++ t) (h ++ bl c ++ t) 0 (h ++ bl g ++ t).length 0 (h ++ bl c ++ t).length ih ih (kh + 1):=by
  rw [splitH mg,splitH mc]
  exact word_of_h wh (Nat.zero_le _) (by rw [List.length_append (bs:=bl (g - min g c) ++ t)]; exact Nat.le_add_right _ _) (Nat.zero_le _) (by rw [List.length_append (bs:=bl (c - min g c) ++ t)]; exact Nat.le_add_right _ _)
 refine flmO_head hs hm (Nat.zero_le _) (Nat.le_refl _) hP (.inr (.inr (by rw [Nat.zero_add]; exact F.neH hne))) hh fun i j k hr=>?_
 rcases run_cases hok hr with ⟨u,x,hu,ex,ex',hx⟩ | ⟨et,g1,g2⟩
 ·rcases F.loc ex ex' hx with ⟨q1,q2⟩ | ⟨d,q1,q2⟩
  ·obtain rfl:i = j:=Nat.add_right_cancel q1
   refine .inl ⟨rfl,Nat.le_of_not_lt fun z=>?_⟩
   rw [Nat.zero_add] at z
   obtain ⟨w,hw⟩:=Nat.exists_eq_add_of_le (Nat.le_of_lt (Nat.lt_of_le_of_lt (Nat.le_add_right i u) (Nat.lt_of_lt_of_le q2 (Nat.le_add_right h.length (min g c)))))
   rw [hw] at z
   obtain ⟨y,y1,y2⟩:=hr.eq w (Nat.lt_of_add_lt_add_left z)
   have:=F.neH hne
   rw [hw,y1,y2] at this
   exact this rfl
  ·have lo:=F.tlo hne hr.toRun hu q1 q2
   have wt:=t_of_word (V:=okx) (t:=bl (min g c) ++ t) (W:=h ++ bl (g - min g c)) (i:=i) (n:=k + 1) (by rw [lenH]; exact lo) (by rw [← splitT mg]; exact hr.a2) (by rw [← splitT mg]; exact hr.ok)
   exact .inr ⟨Nat.le_of_succ_le_succ (Nat.le_trans ((lg_ok (V:=okx) (l:=bl (min g c) ++ t)).max _ _ wt) hL),Nat.lt_of_lt_of_le hi (Nat.le_trans (Nat.le_add_right _ _) lo)⟩
 ·subst et
  rw [lgst_true,lenT] at hL
  rw [lgst_true,lenH] at ekh
  rw [hi0 rfl] at hi ⊢
  have nk:∀ {n:Nat},n ≤ h.length + min g c → k + 1 ≤ n → k ≤ kh:=fun h1 h2=>Nat.le_of_succ_le_succ (Nat.le_trans h2 (Nat.le_trans h1 (Nat.le_of_eq ekh)))
  have nt:k + 1 < t.length → k ≤ kh:=fun z=>Nat.le_of_succ_le_succ (Nat.le_trans (Nat.le_of_lt z) (Nat.le_trans (Nat.le_add_right _ _) hL))
  refine .inr ?_
  rcases F.gap g1 (Nat.succ_pos k) with ⟨a1,a2,_⟩ | ⟨a1,a2⟩ | ⟨a1,a2⟩
  ·exact ⟨nk (Nat.le_add_right _ _) (Nat.le_of_lt a2),a1⟩
  ·refine ⟨?_,Nat.lt_of_lt_of_le hi a1⟩
   rcases F.gap g2 (Nat.succ_pos k) with ⟨b1,b2,_⟩ | ⟨b1,b2⟩ | ⟨b1,b2⟩
   ·exact nk (Nat.le_add_right _ _) (Nat.le_of_lt b2)
   ·exact nk (Nat.le_add_left _ _) (Nat.le_min.mpr ⟨le_mid a1 a2,le_mid b1 b2⟩)
   ·exact nt b2
  ·exact ⟨nt a2,Nat.lt_of_le_of_lt (Nat.zero_le _) a1⟩
theorem Fw.find_t (F:Fw h t) (hne:g ≠ c) (hok:Oks okx) (hs:∀ x,(idx x).Pairwise (· < ·)) (hm:∀ x j,j ∈ idx x ↔ okx x = true ∧ (h ++ bl c ++ t)[j]? = some x) (hL:(lgst okx (h ++ bl (min g c))).1 < (lgst okx (bl (min g c) ++ t)).1) :
  flm (h ++ bl g ++ t) (h ++ bl c ++ t) okx idx 0 (h ++ bl g ++ t).length 0 (h ++ bl c ++ t).length = ((h ++ bl g ++ t).length - (t.length + min g c),(h ++ bl c ++ t).length - (t.length + min g c),t.length + min g c):=by
 have mg:=Nat.min_le_left g c
 have mc:=Nat.min_le_right g c
 obtain ⟨kt,ekt⟩:=Nat.exists_eq_add_one_of_ne_zero (Nat.ne_of_gt (Nat.lt_of_le_of_lt (Nat.zero_le _) hL))
 obtain ⟨it,wt⟩:=(lg_ok (V:=okx) (l:=bl (min g c) ++ t)).ex
 rw [ekt] at wt hL
 have lO:(h ++ bl g ++ t).length = (h.length + (g - min g c)) + (t.length + min g c):=by rw [splitT mg,List.length_append (as:=h ++ bl (g - min g c)),lenH,lenT]
 have lT:(h ++ bl c ++ t).length = (h.length + (c - min g c)) + (t.length + min g c):=by rw [splitT mc,List.length_append (as:=h ++ bl (c - min g c)),lenH,lenT]
 have hQ:Run (h ++ bl g ++ t) (h ++ bl c ++ t) 0 (h ++ bl g ++ t).length 0 (h ++ bl c ++ t).length ((h ++ bl g ++ t).length - (t.length + min g c)) ((h ++ bl c ++ t).length - (t.length + min g c)) (t.length + min g c):=by
  rw [splitT mg,splitT mc,← lenT]
  exact run_suf (Nat.zero_le _) (Nat.zero_le _)
 have hh:RunO okx (h ++ bl g ++ t) (h ++ bl c ++ t) 0 (h ++ bl g ++ t).length 0 (h ++ bl c ++ t).length ((h ++ bl (g - min g c)).length + it) ((h ++ bl (c - min g c)).length + it) (kt + 1):=by
  rw [splitT mg,splitT mc]
  exact word_of_t wt (Nat.zero_le _) (Nat.le_refl _) (Nat.zero_le _) (Nat.le_refl _)
 refine flmO_tail hs hm (Nat.zero_le _) (Nat.le_refl _) hQ (by rw [lO]; exact Nat.le_add_left _ _) (by rw [lT]; exact Nat.le_add_left _ _) (.inr (.inr (by rw [lO,lT,Nat.add_sub_cancel,Nat.add_sub_cancel]; exact F.neT hne))) hh fun i j k hr=>?_
 rcases run_cases hok hr with ⟨u,x,hu,ex,ex',hx⟩ | ⟨et,g1,g2⟩
 ·rcases F.loc ex ex' hx with ⟨q1,q2⟩ | ⟨d,q1,q2⟩
  ·obtain rfl:i = j:=Nat.add_right_cancel q1
   refine .inr (Nat.lt_of_succ_lt_succ (Nat.lt_of_le_of_lt ((lg_ok (V:=okx) (l:=h ++ bl (min g c))).max i (k + 1) (h_of_word (W:=bl (g - min g c) ++ t) ?_ (by rw [← splitH mg]; exact hr.ok))) hL))
   rw [lenH]
   refine Nat.le_of_not_lt fun z=>?_
   obtain ⟨w,hw⟩:=Nat.exists_eq_add_of_le (Nat.le_of_lt (Nat.lt_of_le_of_lt (Nat.le_add_right i u) (Nat.lt_of_lt_of_le q2 (Nat.le_add_right h.length (min g c)))))
   rw [hw] at z
   obtain ⟨y,y1,y2⟩:=hr.eq w (Nat.lt_of_add_lt_add_left z)
   have:=F.neH hne
   rw [hw,y1,y2] at this
   exact this rfl
  ·have lo:=F.tlo hne hr.toRun hu q1 q2
   refine .inl ⟨?_,by rw [lO]; exact Nat.add_le_add_right lo _⟩
   rw [tx_len,tx_len]
   exact tdg q1 q2
 ·subst et
  rw [lgst_true,lenT] at ekt
  rw [lgst_true,lenH] at hL
  have nt:k + 1 < t.length → k < kt:=fun z=>Nat.lt_of_succ_lt_succ (Nat.lt_of_lt_of_le z (Nat.le_trans (Nat.le_add_right _ _) (Nat.le_of_eq ekt)))
  have nh:k + 1 ≤ h.length + min g c → k < kt:=fun z=>Nat.lt_of_succ_lt_succ (Nat.lt_of_le_of_lt z hL)
  refine .inr ?_
  rcases F.gap g1 (Nat.succ_pos k) with ⟨a1,a2,_⟩ | ⟨a1,a2⟩ | ⟨a1,a2⟩
  ·exact nh (Nat.le_trans (Nat.le_of_lt a2) (Nat.le_add_right _ _))
  ·rcases F.gap g2 (Nat.succ_pos k) with ⟨b1,b2,_⟩ | ⟨b1,b2⟩ | ⟨b1,b2⟩
   ·exact nh (Nat.le_trans (Nat.le_of_lt b2) (Nat.le_add_right _ _))
   ·exact nh (Nat.le_trans (Nat.le_min.mpr ⟨le_mid a1 a2,le_mid b1 b2⟩) (Nat.le_add_left _ _))
   ·exact nt b2
  ·exact nt a2
end
section
variable {h t:List Int} {g c m:Nat} {okx:Int → Bool} {idx:Int → List Nat}
theorem tlo' {a g c i j u d:Nat} (h1:i + u = a + g + d) (h2:j + u = a + c + d) (h3:a + c ≤ j):a + g ≤ i:=by omega
theorem over {a g b i u d k:Nat} (h1:i + u = a + g + d) (h2:u < k + 1) (h3:i + (k + 1) ≤ a + b) (h4:b ≤ g):False:=by omega
theorem Fw.rest_t (F:Fw h t) (hok:Oks okx) (hs:∀ x,(idx x).Pairwise (· < ·)) (hm:∀ x j,j ∈ idx x ↔ okx x = true ∧ (h ++ bl c ++ t)[j]? = some x) :
  flm (h ++ bl g ++ t) (h ++ bl c ++ t) okx idx (h.length + min g c) (h ++ bl g ++ t).length (h.length + min g c) (h ++ bl c ++ t).length = ((h ++ bl g ++ t).length - t.length,(h ++ bl c ++ t).length - t.length,t.length):=by
 have mg:=Nat.min_le_left g c
 have mc:=Nat.min_le_right g c
 obtain ⟨v,t',et,hv⟩:=F.t0
 obtain ⟨kt,ekt⟩:=lg_pos (i:=0) (x:=v) hok (by rw [et]; rfl:t[0]? = some v) hv
 obtain ⟨it,wt⟩:=(lg_ok (V:=okx) (l:=t)).ex
 rw [ekt] at wt
 have pO:h.length + min g c ≤ (h ++ bl g).length:=by rw [lenH]; exact Nat.add_le_add_left mg _
 have pT:h.length + min g c ≤ (h ++ bl c).length:=by rw [lenH]; exact Nat.add_le_add_left mc _
 have lO:(h ++ bl g ++ t).length = (h ++ bl g).length + t.length:=List.length_append
 have lT:(h ++ bl c ++ t).length = (h ++ bl c).length + t.length:=List.length_append
 refine flmO_tail hs hm (by rw [lO]; exact Nat.le_trans pO (Nat.le_add_right _ _)) (Nat.le_refl _) (run_suf pO pT) (by rw [lO]; exact Nat.le_add_left _ _) (by rw [lT]; exact Nat.le_add_left _ _) ?_ (word_of_t wt pO (Nat.le_refl _) pT (Nat.le_refl _)) fun i j k hr=>?_
 ·rw [lO,lT,lenH,lenH]
  rcases Nat.le_total g c with q | q
  ·exact .inl (by rw [Nat.min_eq_left q])
  ·exact .inr (.inl (by rw [Nat.min_eq_right q]))
 ·have a1:=hr.a1
  have b1:=hr.b1
  rcases run_cases hok hr with ⟨u,x,hu,ex,ex',hx⟩ | ⟨e,g1,g2⟩
  ·rcases F.loc ex ex' hx with ⟨q1,q2⟩ | ⟨d,q1,q2⟩
   ·exact absurd q2 (Nat.not_lt.mpr (Nat.le_trans (Nat.le_trans (Nat.le_add_right _ _) a1) (Nat.le_add_right _ _)))
   ·refine .inl ⟨by rw [tx_len,tx_len]; exact tdg q1 q2,?_⟩
    rw [lO,lenH]
    refine Nat.add_le_add_right ?_ _
    rcases Nat.le_total g c with q | q
    ·rw [Nat.min_eq_left q] at a1; exact a1
    ·rw [Nat.min_eq_right q] at b1
     exact tlo' q1 q2 b1
  ·subst e
   rw [lgst_true] at ekt
   have nt:k + 1 < t.length → k < kt:=fun z=>Nat.lt_of_succ_lt_succ (Nat.lt_of_lt_of_le z (Nat.le_of_eq ekt))
   refine .inr ?_
   rcases F.gap g1 (Nat.succ_pos k) with ⟨_,_,a3⟩ | ⟨_,a2⟩ | ⟨_,a2⟩
   ·exact absurd (Nat.lt_of_le_of_lt (Nat.le_trans (Nat.le_add_right _ _) (Nat.le_trans a1 (Nat.le_add_right i (k + 1)))) a3) (Nat.lt_irrefl _)
   ·rcases F.gap g2 (Nat.succ_pos k) with ⟨_,_,b3⟩ | ⟨_,b2⟩ | ⟨_,b2⟩
    ·exact absurd (Nat.lt_of_le_of_lt (Nat.le_trans (Nat.le_add_right _ _) (Nat.le_trans b1 (Nat.le_add_right j (k + 1)))) b3) (Nat.lt_irrefl _)
    ·exact (gap_min a1 b1 a2 b2 min_z (Nat.succ_pos k)).elim
    ·exact nt b2
   ·exact nt a2
theorem Fw.rest_h (F:Fw h t) (hok:Oks okx) (hs:∀ x,(idx x).Pairwise (· < ·)) (hm:∀ x j,j ∈ idx x ↔ okx x = true ∧ (h ++ bl c ++ t)[j]? = some x) :
  flm (h ++ bl g ++ t) (h ++ bl c ++ t) okx idx 0 ((h ++ bl g ++ t).length - (t.length + min g c)) 0 ((h ++ bl c ++ t).length - (t.length + min g c)) = (0,0,h.length):=by
 have mg:=Nat.min_le_left g c
 have mc:=Nat.min_le_right g c
 obtain ⟨p,x0,ep,e0,hx0⟩:=F.atH (g:=0)
 have e0:h[p]? = some x0:=by rw [List.append_assoc,List.getElem?_append_left (by rw [ep]; exact Nat.lt_succ_self p)] at e0; exact e0
 obtain ⟨kh,ekh⟩:=lg_pos hok e0 hx0
 obtain ⟨ih,wh⟩:=(lg_ok (V:=okx) (l:=h)).ex
 rw [ekh] at wh
 have eb:h ++ bl 0 = h:=List.append_nil h
 have sd:=F.seed (m:=0) hok (ih:=ih) (k:=kh) (by rw [eb]; exact wh) (by rw [eb]; exact ekh)
 have lO:(h ++ bl g ++ t).length - (t.length + min g c) = h.length + (g - min g c):=by rw [splitT mg,List.length_append (as:=h ++ bl (g - min g c)),lenH,lenT,Nat.add_sub_cancel]
 have lT:(h ++ bl c ++ t).length - (t.length + min g c) = h.length + (c - min g c):=by rw [splitT mc,List.length_append (as:=h ++ bl (c - min g c)),lenH,lenT,Nat.add_sub_cancel]
 have hO:h.length ≤ h.length + (g - min g c):=Nat.le_add_right _ _
 have hT:h.length ≤ h.length + (c - min g c):=Nat.le_add_right _ _
 have bO:h.length + (g - min g c) ≤ (h ++ bl g ++ t).length:=by rw [← lO]; exact Nat.sub_le _ _
 rw [lO,lT]
 have hz:=min_z (g:=g) (c:=c)
 refine flmO_head hs hm (Nat.zero_le _) bO (by rw [List.append_assoc,List.append_assoc]; exact run_pre hO hT) ?_ (by rw [List.append_assoc,List.append_assoc]; exact word_of_h wh (Nat.zero_le _) hO (Nat.zero_le _) hT) fun i j k hr=>?_
 ·rcases hz with z | z
  ·exact .inl (by rw [z]; exact Nat.zero_add _)
  ·exact .inr (.inl (by rw [z]; exact Nat.zero_add _))
 ·have a2:=hr.a2
  have b2:=hr.b2
  rcases run_cases hok hr with ⟨u,x,hu,ex,ex',hx⟩ | ⟨e,g1,g2⟩
  ·rcases F.loc ex ex' hx with ⟨q1,q2⟩ | ⟨d,q1,q2⟩
   ·obtain rfl:i = j:=Nat.add_right_cancel q1
    refine .inl ⟨rfl,?_⟩
    rw [Nat.zero_add]
    rcases hz with z | z
    ·rw [z] at a2; exact a2
    ·rw [z] at b2; exact b2
   ·exact (over q1 hu a2 (Nat.sub_le _ _)).elim
  ·subst e
   rw [lgst_true] at ekh
   rw [sd.2 rfl]
   have nk:k + 1 < h.length → k ≤ kh:=fun z=>Nat.le_of_succ_le_succ (Nat.le_trans (Nat.le_of_lt z) (Nat.le_of_eq ekh))
   have hp:0 < h.length:=by rw [ep]; exact Nat.succ_pos p
   refine .inr ?_
   rcases F.gap g1 (Nat.succ_pos k) with ⟨a1,a3,_⟩ | ⟨a1,_⟩ | ⟨a1,_⟩
   ·exact ⟨nk a3,a1⟩
   ·rcases F.gap g2 (Nat.succ_pos k) with ⟨b1,b3,_⟩ | ⟨b1,_⟩ | ⟨b1,_⟩
    ·exact ⟨nk b3,Nat.lt_of_lt_of_le hp a1⟩
    ·exact (gap_min (b:=0) (b':=0) a1 b1 a2 b2 (hz.imp (fun z=>by rw [z]) (fun z=>by rw [z])) (Nat.succ_pos k)).elim
    ·exact (over (u:=0) (k:=k) (show j + 0 = h.length + (c + 1) + (j - (h.length + (c + 1))) from by rw [Nat.add_zero]; exact (Nat.add_sub_cancel' b1).symm) (Nat.succ_pos k) b2 (Nat.le_trans (Nat.sub_le _ _) (Nat.le_succ c))).elim
   ·exact (over (u:=0) (k:=k) (show i + 0 = h.length + (g + 1) + (i - (h.length + (g + 1))) from by rw [Nat.add_zero]; exact (Nat.add_sub_cancel' a1).symm) (Nat.succ_pos k) a2 (Nat.le_trans (Nat.sub_le _ _) (Nat.le_succ g))).elim
theorem Fw.same (F:Fw h t) (hok:Oks okx) (hs:∀ x,(idx x).Pairwise (· < ·)) (hm:∀ x j,j ∈ idx x ↔ okx x = true ∧ (h ++ bl g ++ t)[j]? = some x) :
  flm (h ++ bl g ++ t) (h ++ bl g ++ t) okx idx 0 (h ++ bl g ++ t).length 0 (h ++ bl g ++ t).length = (0,0,(h ++ bl g ++ t).length):=by
 obtain ⟨x0,e0,hx0⟩:=F.at0 (g:=g)
 obtain ⟨kh,ekh⟩:=lg_pos hok e0 hx0
 obtain ⟨ih,wh⟩:=(lg_ok (V:=okx) (l:=h ++ bl g ++ t)).ex
 rw [ekh] at wh
 have whole:Run (h ++ bl g ++ t) (h ++ bl g ++ t) 0 (h ++ bl g ++ t).length 0 (h ++ bl g ++ t).length 0 0 (h ++ bl g ++ t).length:=by
  have:=run_pre (hp:=h ++ bl g ++ t) (M:=[]) (N:=[]) (Nat.le_refl _) (Nat.le_refl _)
  rw [List.append_nil] at this; exact this
 have hh:RunO okx (h ++ bl g ++ t) (h ++ bl g ++ t) 0 (h ++ bl g ++ t).length 0 (h ++ bl g ++ t).length ih ih (kh + 1):=by
  have:=word_of_h (W:=[]) (W':=[]) wh (Nat.zero_le _) (Nat.le_refl _) (Nat.zero_le _) (Nat.le_refl _)
  rw [List.append_nil] at this; exact this
 refine flmO_head hs hm (Nat.zero_le _) (Nat.le_refl _) whole (.inl (Nat.zero_add _)) hh fun i j k hr=>?_
 rcases run_cases hok hr with ⟨u,x,hu,ex,ex',hx⟩ | ⟨e,g1,g2⟩
 ·have:i = j:=by
   rcases F.loc ex ex' hx with ⟨q1,_⟩ | ⟨d,q1,q2⟩
   ·exact Nat.add_right_cancel q1
   ·exact Nat.add_right_cancel (q1.trans q2.symm)
  subst this
  exact .inl ⟨rfl,by rw [Nat.zero_add]; exact hr.a2⟩
 ·subst e
  rw [lgst_true] at ekh
  have z:ih = 0:=by
   have:=wh.1
   rw [ekh] at this
   exact Nat.le_zero.mp (Nat.le_of_add_le_add_right (Nat.le_trans this (Nat.le_of_eq (Nat.zero_add _).symm)))
  rw [z]
  refine .inr ⟨Nat.le_of_succ_le_succ (Nat.le_trans (Nat.le_trans (Nat.le_add_left _ _) hr.a2) (Nat.le_of_eq ekh)),?_⟩
  obtain ⟨v,h',eh,_⟩:=F.h0
  have hp:0 < h.length:=by rw [eh]; exact Nat.succ_pos _
  rcases F.gap g1 (Nat.succ_pos k) with ⟨a1,_⟩ | ⟨a1,_⟩ | ⟨a1,_⟩
  ·exact a1
  ·exact Nat.lt_of_lt_of_le hp a1
  ·exact Nat.lt_of_le_of_lt (Nat.zero_le _) a1
theorem bl_succ {m:Nat}:bl (m + 1) = bl m ++ [-1]:=List.replicate_succ'
theorem lgst_bl:∀ m,lgst isW (bl m) = (0,0)
 | 0=>rfl
 | m + 1=>by rw [bl_succ,lgst_snoc,lgst_bl m]; rfl
theorem lgst_hb:∀ m,(lgst isW (h ++ bl m)).1 = (lgst isW h).1
 | 0=>congrArg (fun l=>(lgst isW l).1) (List.append_nil h)
 | m + 1=>by
  rw [bl_succ,← List.append_assoc,lgst_snoc]
  exact (Nat.max_eq_left (Nat.zero_le _)).trans (lgst_hb m)
theorem lgst_bt:lgst isW (bl m ++ t) = lgst isW t:=by
 unfold lgst
 rw [List.foldl_append]
 exact congrArg (fun s=>t.foldl (lgStep isW) s) (lgst_bl m)
end
section
theorem read2 {f:FL} {O T hp M N tp notes:List Int} {now:Int} (eO:O = hp ++ M ++ tp) (eT:T = hp ++ N ++ tp) (h1:hp ≠ []) (h3:tp ≠ []) (hn:¬ (M = [] ∧ N = [])) (b1:O.length ≤ 1000) (b2:T.length ≤ 1000) (hl:notes.length = O.length)
  (hm:mb f (0,O.length,0,T.length) = [(0,0,hp.length),(O.length - tp.length,T.length - tp.length,tp.length)]) :
  Reading (opcodes f O.length T.length) O T notes now (notes.take hp.length ++ List.replicate N.length now ++ notes.drop (O.length - tp.length)) (castL (List.range' hp.length M.length)):=by
 subst eO eT
 have lO:(hp ++ M ++ tp).length = hp.length + M.length + tp.length:=by rw [List.length_append,List.length_append]
 have eN:notes = notes.take hp.length ++ (notes.drop hp.length).take M.length ++ notes.drop (hp.length + M.length):=by
  rw [List.append_assoc,← List.drop_drop,List.take_append_drop,List.take_append_drop]
 have:=reading_two (f:=f) (n1:=notes.take hp.length) (n2:=(notes.drop hp.length).take M.length) (n3:=notes.drop (hp.length + M.length)) (now:=now) h1 h3 hn (by rw [List.length_take,hl,lO,Nat.add_assoc]; exact Nat.min_eq_left (Nat.le_add_right _ _)) (by rw [List.length_take,List.length_drop,hl,lO,Nat.add_assoc,Nat.add_sub_cancel_left]; exact Nat.min_eq_left (Nat.le_add_right _ _)) (by rw [List.length_drop,hl,lO,Nat.add_sub_cancel_left]) b1 b2 hm
 rw [← eN] at this
 rw [show (hp ++ M ++ tp).length - tp.length = hp.length + M.length by rw [lO,Nat.add_sub_cancel]]
 exact this
theorem oks_P {B:List Int}:Oks (okP B):=by
 cases h:popB B with
 | true=>exact .inl (funext fun x=>by unfold okP isW; rw [h,Bool.true_and]; rfl)
 | false=>exact .inr (funext fun x=>by unfold okP; rw [h,Bool.false_and]; rfl)
theorem mbP_same {H tl:List Int} {g:Nat} (F:Fw H tl):mb (fP (H ++ bl g ++ tl) (H ++ bl g ++ tl)) (0,(H ++ bl g ++ tl).length,0,(H ++ bl g ++ tl).length) = [(0,0,(H ++ bl g ++ tl).length)]:=by
 have hok:=idxP_ok (H ++ bl g ++ tl)
 have e:fP (H ++ bl g ++ tl) (H ++ bl g ++ tl) 0 (H ++ bl g ++ tl).length 0 (H ++ bl g ++ tl).length = (0,0,(H ++ bl g ++ tl).length):=F.same oks_P hok.sorted hok.mem
 obtain ⟨v,h',eh,_⟩:=F.h0
 have p0:0 < (H ++ bl g ++ tl).length:=by rw [eh]; exact Nat.succ_pos _
 have hf:FlOk (fP (H ++ bl g ++ tl) (H ++ bl g ++ tl)):=flO_ok
 generalize fP (H ++ bl g ++ tl) (H ++ bl g ++ tl) = f at e hf ⊢
 rw [mb_step hf ⟨Nat.zero_le _,Nat.zero_le _⟩ (by rw [e]; exact Nat.ne_of_gt p0),e]
 dsimp only
 rw [if_neg (fun h=>Nat.lt_irrefl 0 h.1),if_neg (fun h=>Nat.lt_irrefl _ (by have:=h.1; rwa [Nat.zero_add] at this))]
 rfl
theorem mbP_two {H tl:List Int} {g c:Nat} (F:Fw H tl) (hne:g ≠ c) {O T:List Int} (eO:O = H ++ bl g ++ tl) (eT:T = H ++ bl c ++ tl) {L R:Nat}
  (hs:(L,R) = if popB T then ((lgst isW H).1,(lgst isW tl).1) else (H.length,tl.length)) :
  mb (fP O T) (0,O.length,0,T.length) = [(0,0,if R ≤ L then H.length + min g c else H.length),(O.length - (tl.length + if R ≤ L then 0 else min g c),T.length - (tl.length + if R ≤ L then 0 else min g c),tl.length + if R ≤ L then 0 else min g c)]:=by
 subst eO eT
 have hok:=idxP_ok (H ++ bl c ++ tl)
 have mg:=Nat.min_le_left g c
 have mc:=Nat.min_le_right g c
 have hR:(lgst (okP (H ++ bl c ++ tl)) (bl (min g c) ++ tl)).1 ≤ (lgst (okP (H ++ bl c ++ tl)) (H ++ bl (min g c))).1 ↔ R ≤ L:=by
  cases hp:popB (H ++ bl c ++ tl) with
  | true =>
   rw [hp,if_pos rfl] at hs
   obtain ⟨rfl,rfl⟩:=Prod.mk.inj hs
   have:okP (H ++ bl c ++ tl) = isW:=funext fun x=>by unfold okP isW; rw [hp,Bool.true_and]; rfl
   rw [this,lgst_bt,lgst_hb]
  | false =>
   rw [hp,if_neg Bool.false_ne_true] at hs
   obtain ⟨rfl,rfl⟩:=Prod.mk.inj hs
   have:okP (H ++ bl c ++ tl) = fun _=>true:=funext fun x=>by unfold okP; rw [hp,Bool.false_and]; rfl
   rw [this,lgst_true,lgst_true,lenH,lenT]
   exact Nat.add_le_add_iff_right
 obtain ⟨v,h',eh,_⟩:=F.h0
 obtain ⟨v',t',et,_⟩:=F.t0
 have hp:0 < H.length:=by rw [eh]; exact Nat.succ_pos _
 have tp:0 < tl.length:=by rw [et]; exact Nat.succ_pos _
 have hz:=min_z (g:=g) (c:=c)
 rw [tx_len,tx_len]
 have fh:=F.find_h (g:=g) hne oks_P hok.sorted hok.mem
 have ft:=F.find_t (g:=g) hne oks_P hok.sorted hok.mem
 have rt:=F.rest_t (g:=g) oks_P hok.sorted hok.mem
 have rh:=F.rest_h (g:=g) oks_P hok.sorted hok.mem
 rw [tx_len,tx_len] at fh ft rt rh
 have s1:∀ {z:Nat},min g c ≤ z → H.length + min g c + tl.length ≤ H.length + z + tl.length:=fun h=>Nat.add_le_add_right (Nat.add_le_add_left h _) _
 have hzz:H.length + min g c + tl.length = H.length + g + tl.length ∨ H.length + min g c + tl.length = H.length + c + tl.length:=by
  rcases Nat.le_total g c with q | q
  ·exact .inl (by rw [Nat.min_eq_left q])
  ·exact .inr (by rw [Nat.min_eq_right q])
 have ea:H.length + (tl.length + min g c) = H.length + min g c + tl.length:=by rw [Nat.add_comm tl.length,Nat.add_assoc]
 by_cases q:R ≤ L
 ·rw [if_pos q,if_pos q,Nat.add_zero]
  exact mbO_head flO_ok (fh (hR.mpr q)) (Nat.lt_of_lt_of_le hp (Nat.le_add_right _ _)) rt tp (s1 mg) (s1 mc) hzz
 ·rw [if_neg q,if_neg q]
  exact mbO_tail flO_ok (ft (Nat.lt_of_not_le fun z=>q (hR.mp z))) (Nat.lt_of_lt_of_le tp (Nat.le_add_right _ _)) rh hp (by rw [ea]; exact s1 mg) (by rw [ea]; exact s1 mc) (by rw [ea]; exact hzz)
end
section
theorem split3 {H tl:List Int} {g m:Nat} (h:m ≤ g):H ++ List.replicate g (-1) ++ tl = (H ++ List.replicate m (-1)) ++ List.replicate (g - m) (-1) ++ tl:=by
 have e:List.replicate g (-1:Int) = List.replicate m (-1) ++ List.replicate (g - m) (-1):=by rw [List.replicate_append_replicate,Nat.add_sub_cancel' h]
 rw [e,List.append_assoc,List.append_assoc,List.append_assoc,List.append_assoc]
theorem split3' {H tl:List Int} {g m:Nat} (h:m ≤ g):H ++ List.replicate g (-1) ++ tl = H ++ List.replicate (g - m) (-1) ++ (List.replicate m (-1) ++ tl):=by
 have e:List.replicate g (-1:Int) = List.replicate (g - m) (-1) ++ List.replicate m (-1):=by rw [List.replicate_append_replicate,Nat.sub_add_cancel h]
 rw [e,List.append_assoc,List.append_assoc,List.append_assoc]
theorem rep_nil {a b:Nat} (h:¬ (a = 0 ∧ b = 0)):¬ (List.replicate a (-1:Int) = [] ∧ List.replicate b (-1:Int) = []):=fun ⟨h1,h2⟩=>h ⟨by simpa using h1,by simpa using h2⟩
theorem two_zero {g c:Nat} (h:¬ g = c):¬ (g - min g c = 0 ∧ c - min g c = 0):=fun ⟨a,b⟩ =>
 h (Nat.le_antisymm (Nat.le_trans (Nat.le_of_sub_eq_zero a) (Nat.min_le_right _ _)) (Nat.le_trans (Nat.le_of_sub_eq_zero b) (Nat.min_le_left _ _)))
theorem kr1 {x m c y:Nat} (h:m ≤ c):x + m + (c - m) + (y + 0) = x + c + y:=by rw [Nat.add_assoc x,Nat.add_sub_cancel' h]; rfl
theorem kr2 {x m c y:Nat} (h:m ≤ c):x + (c - m) + (y + m) = x + c + y:=by rw [Nat.add_comm y m,← Nat.add_assoc,Nat.add_assoc x,Nat.sub_add_cancel h]
theorem end0 {x g y:Nat}:x + g + y - (y + 0) = x + g:=Nat.add_sub_cancel _ _
theorem end1 {x g y:Nat}:x + g + y - (y + g) = x:=by rw [Nat.add_assoc,Nat.add_comm y]; exact Nat.add_sub_cancel _ _
theorem stepW_of {H tl:List Int} {n:List Nat} {p g c:Nat} (F:Fw H tl) {O T:List Int} (eO:O = H ++ List.replicate g (-1) ++ tl) (eT:T = H ++ List.replicate c (-1) ++ tl)
  (hah:aheadW n p = H.length) (hbig:bigW T n = popB T) (hp:p < 17) (hg:g ≤ 7) (lO:O.length ≤ 900) (lT:T.length ≤ 900) (vT:VN isW T):StepW O T n p g c:=by
 have sO:O.length = H.length + g + tl.length:=by rw [eO,List.length_append,List.length_append,List.length_replicate]
 have sT:T.length = H.length + c + tl.length:=by rw [eT,List.length_append,List.length_append,List.length_replicate]
 have eTb:T.length - (H.length + c) = tl.length:=by rw [sT]; exact Nat.add_sub_cancel_left _ _
 have l9:900 ≤ 1000:=by decide
 have eside:sideW T n H.length (H.length + c) = if popB T then ((lgst isW H).1,(lgst isW tl).1) else (H.length,tl.length):=by
  unfold sideW
  have e1:T.take H.length = H:=by rw [eT,List.append_assoc,List.take_append_of_le_length (Nat.le_refl _),List.take_length]
  have e2:T.drop (H.length + c) = tl:=by
   have:H.length + c = (H ++ List.replicate c (-1)).length:=by rw [List.length_append,List.length_replicate]
   rw [eT,this,List.drop_append_of_le_length (Nat.le_refl _),List.drop_length,List.nil_append]
  rw [hbig,e1,e2,show T.length - (H.length + c) = tl.length from eTb]
 obtain ⟨L,R,hLR⟩:∃ L R,sideW T n H.length (H.length + c) = (L,R):=⟨_,_,rfl⟩
 have eK:keptW T n H.length (H.length + c) (min g c) = if R ≤ L then H.length + min g c else H.length:=by unfold keptW; rw [hLR]
 have eR:restW T n H.length (H.length + c) (min g c) = tl.length + if R ≤ L then 0 else min g c:=by unfold restW; rw [hLR,eTb]
 rw [eside] at hLR
 have mg:min g c ≤ g:=Nat.min_le_left _ _
 have mc:min g c ≤ c:=Nat.min_le_right _ _
 have hm:mb (fP O T) (0,O.length,0,T.length) = (if g = c then [(0,0,O.length)] else [(0,0,if R ≤ L then H.length + min g c else H.length),(O.length - (tl.length + if R ≤ L then 0 else min g c),T.length - (tl.length + if R ≤ L then 0 else min g c),tl.length + if R ≤ L then 0 else min g c)]):=by
  split
  ·rename_i q
   subst q
   have:O = T:=eO.trans eT.symm
   rw [this]
   rw [eT]
   exact mbP_same F
  ·rename_i q
   exact mbP_two F q eO eT hLR.symm
 have hu:∀ y,y ≠ -1 → (idxL T y).length ≤ 1:=fun y hy=>by rw [idxL_count']; exact vn_count vT (isW_iff.mpr hy)
 have hH0:H ≠ []:=by obtain ⟨h',v,e,_⟩:=F.h1; rw [e]; simp
 have ht0:tl ≠ []:=by obtain ⟨v,t',e,_⟩:=F.t0; rw [e]; simp
 have xg:H.length + g ≤ O.length:=by rw [sO]; exact Nat.le_add_right _ _
 refine ⟨hp,Nat.le_trans lO l9,Nat.le_trans lT l9,by rw [hah,sT]; exact Nat.le_add_right _ _,?_,?_,?_,?_,hu,?_,fun notes now hl=>?_⟩
 ·rw [hah,eR,sO]; split
  ·exact Nat.le_add_left _ _
  ·rw [Nat.add_comm]; exact Nat.add_le_add_right (Nat.le_trans mg (Nat.le_add_left _ _)) _
 ·rw [hah,eK]; split
  ·exact Nat.add_le_add (Nat.le_trans (Nat.add_le_add_left mg _) (Nat.le_trans xg lO)) (Nat.le_trans hg (by decide:7 ≤ 100))
  ·exact Nat.le_trans (Nat.le_trans xg lO) l9
 ·rw [hah,eK,eR,sT]; split
  ·exact kr1 mc
  ·exact kr2 mc
 ·rw [hah,eK]; split
  ·exact Nat.le_trans (Nat.add_le_add_left mg _) xg
  ·exact Nat.le_trans (Nat.le_add_right _ _) xg
 ·show (mb (fP O T) (0,O.length,0,T.length)).length ≤ 2
  rw [hm]; split
  ·exact Nat.le_succ 1
  ·exact Nat.le_refl 2
 ·rw [hah,eK,eR]
  by_cases q:g = c
  ·rw [if_pos q] at hm
   subst q
   have eOT:O = T:=eO.trans eT.symm
   subst eOT
   have hO0:O ≠ []:=by rw [eO]; simp [hH0]
   have:=reading_one (f:=fP O O) (notes:=notes) (now:=now) hO0 hl (Nat.le_trans lO l9) hm
   rw [Nat.min_self,Nat.sub_self,List.replicate_zero,List.append_nil]
   rw [show O.length - (tl.length + if R ≤ L then 0 else g) = if R ≤ L then H.length + g else H.length by rw [sO]; split; exact end0; exact end1,List.take_append_drop]
   exact this
  ·rw [if_neg q] at hm
   have hz:=two_zero q
   by_cases r:R ≤ L
   ·rw [if_pos r,if_pos r] at hm
    rw [if_pos r,if_pos r]
    have:=read2 (f:=fP O T) (hp:=H ++ List.replicate (min g c) (-1)) (M:=List.replicate (g - min g c) (-1)) (N:=List.replicate (c - min g c) (-1)) (tp:=tl) (notes:=notes) (now:=now) (eO.trans (split3 mg)) (eT.trans (split3 mc)) (by simp [hH0]) ht0 (rep_nil hz) (Nat.le_trans lO l9) (Nat.le_trans lT l9) hl (by
     rw [List.length_append,List.length_replicate]; exact hm)
    rw [List.length_append,List.length_replicate,List.length_replicate,List.length_replicate] at this
    exact this
   ·rw [if_neg r,if_neg r] at hm
    rw [if_neg r,if_neg r]
    have el:(List.replicate (min g c) (-1:Int) ++ tl).length = tl.length + min g c:=by rw [List.length_append,List.length_replicate,Nat.add_comm]
    have:=read2 (f:=fP O T) (hp:=H) (M:=List.replicate (g - min g c) (-1)) (N:=List.replicate (c - min g c) (-1)) (tp:=List.replicate (min g c) (-1) ++ tl) (notes:=notes) (now:=now) (eO.trans (split3' mg)) (eT.trans (split3' mc)) hH0 (by simp [ht0]) (rep_nil hz) (Nat.le_trans lO l9) (Nat.le_trans lT l9) hl (by
     rw [el]; exact hm)
    rw [el,List.length_replicate,List.length_replicate] at this
    exact this
theorem step_ok {words:Nat} {o n:List Nat} {p:Nat} (hw:181 ≤ words ∧ words ≤ 199) (ho:RowOk o) (hn:RowOk n) (hp:p < 17) (hag:∀ q,q ≠ p → o.getD q 0 = n.getD q 0):StepW (tText words o) (tText words n) n p (o.getD p 0) (n.getD p 0):=by
 obtain ⟨k,hk⟩:∃ k,words = 10 * (p + 1) + (k + 1):=Nat.exists_eq_add_of_lt (Nat.lt_of_lt_of_le (Nat.lt_of_le_of_lt (Nat.mul_le_mul_left 10 hp) (by decide:10 * 17 < 181)) hw.1)
 have hd:∀ r:List Nat,tText words r = tText (10 * (p + 1)) r ++ List.replicate (r.getD p 0) (-1) ++ (((10 * (p + 1):Nat):Int) :: segT (10 * (p + 1) + 1) k r):=fun r=>by
  have hb:blanksAt r (10 * (p + 1)) = r.getD p 0:=by
   unfold blanksAt
   rw [if_pos ⟨Nat.mul_mod_right 10 _,Nat.mul_pos (by decide) (Nat.succ_pos p),Nat.lt_of_le_of_lt (Nat.mul_le_mul_left 10 hp) (by decide:10 * 17 < 171)⟩,Nat.mul_div_cancel_left _ (by decide),Nat.add_sub_cancel]
  rw [hk,tText_split,segT_cons]
  unfold cellT
  rw [hb,List.append_assoc,List.append_assoc]; rfl
 have hcn:∀ r:List Nat,r.length = 17 → (tText words r).count (-1) = r.sum:=fun r hr=>by
  obtain ⟨d,hd⟩:=Nat.exists_eq_add_of_le' (Nat.le_trans (by decide:17 * 10 + 1 ≤ 181) hw.1)
  have h1:words = 10 * (17 + d / 10) + 1 + d % 10:=by
   rw [Nat.mul_add,Nat.add_right_comm,Nat.add_assoc _ (10 * (d / 10)),Nat.div_add_mod,hd,Nat.add_comm d,Nat.add_right_comm]
  rw [h1,tText_count hr _ _ (Nat.le_of_lt_succ (Nat.mod_lt d (by decide))),Nat.min_eq_left (Nat.le_add_right 17 _),← hr,List.take_length]
 have hsz:∀ r:List Nat,RowOk r → (tText words r).length ≤ 900:=fun r hr=>by
  have:=sum_le7 hr.2
  rw [tText_size,hcn r hr.1]
  rw [hr.1] at this
  exact Nat.le_trans (Nat.add_le_add hw.2 this) (by decide)
 have vn:=vn_text (o:=n) words
 have eT:=hd n
 have eO:=hd o
 rw [tText_congr hag (Nat.le_refl _),segT_congr hag (Nat.lt_succ_self _)] at eO
 refine stepW_of (H:=tText (10 * (p + 1)) n) (tl:=((10 * (p + 1):Nat):Int) :: segT (10 * (p + 1) + 1) k n) ⟨?_,?_,⟨_,_,rfl,isW_iff.mpr cast_ne⟩,?_⟩ eO eT ?_ ?_ hp (getD_le7 ho.2 p) (hsz o ho) (hsz n hn) vn
 ·exact ⟨((0:Nat):Int),segT 1 (10 * p + 9) n,by rw [show 10 * (p + 1) = 1 + (10 * p + 9) from Nat.add_comm _ 1,tText_split]; rfl,isW_iff.mpr cast_ne⟩
 ·refine ⟨tText (10 * p + 9) n ++ List.replicate (blanksAt n (10 * p + 9)) (-1),((10 * p + 9:Nat):Int),?_,isW_iff.mpr cast_ne⟩
  rw [show 10 * (p + 1) = 10 * p + 9 + 1 from rfl,tText_succ]
  unfold cellT
  rw [List.append_assoc]
 ·rw [eT] at vn
  unfold VN at vn ⊢
  rw [List.append_assoc] at vn
  have h1:=List.pairwise_append.mp vn
  have h2:=List.pairwise_append.mp h1.2.1
  exact List.pairwise_append.mpr ⟨h1.1,h2.2.1,fun x hx y hy=>h1.2.2 x hx y (List.mem_append_right _ hy)⟩
 ·rw [tText_size,show 10 * (p + 1) = 10 * p + 1 + 9 from rfl,tText_count hn.1 p 9 (Nat.le_refl 9),Nat.min_eq_right (Nat.le_of_lt hp)]; rfl
 ·unfold bigW popB bigB
  rw [idxL_count',hcn n hn.1]
end
section
structure CP (c:List (List Nat)) (ps:List Nat):Prop where
 len:c.length = ps.length + 1
 st:∀ (t:Nat) o n p,c[t]? = some o → c[t + 1]? = some n → ps[t]? = some p → p < 17 ∧ ∀ q,q ≠ p → o.getD q 0 = n.getD q 0
theorem put_get {l:List Nat} {p m q:Nat} (hp:p < l.length) (hq:q ≠ p):l.getD q 0 = (l.take p ++ [m] ++ l.drop (p + 1)).getD q 0:=by
 rw [List.getD_eq_getElem?_getD,List.getD_eq_getElem?_getD,List.append_assoc]
 have lp:(l.take p).length = p:=by rw [List.length_take]; exact Nat.min_eq_left (Nat.le_of_lt hp)
 rcases Nat.lt_or_gt_of_ne hq with h | h
 ·rw [List.getElem?_append_left (by rw [lp]; exact h),List.getElem?_take_of_lt h]
 ·obtain ⟨d,rfl⟩:=Nat.exists_eq_add_of_lt h
  rw [List.getElem?_append_right (by rw [lp,Nat.add_assoc]; exact Nat.le_add_right _ _),lp,Nat.add_assoc,Nat.add_sub_cancel_left,List.singleton_append,List.getElem?_cons_succ,List.getElem?_drop,← Nat.add_assoc,Nat.add_right_comm]
theorem CP.step {c:List (List Nat)} {ps:List Nat} (h:CP c ps) (hc:CI c) (x:Int):CP (cStep c x) (ps ++ [plc x]):=by
 have hl:=h.len
 have e1:(cStep c x).length = c.length + 1:=by unfold cStep; rw [List.length_append]; rfl
 refine ⟨by rw [e1,List.length_append,List.length_singleton,hl],fun t o n p h1 h2 h3=>?_⟩
 have ht:=(List.getElem?_eq_some_iff.mp h2).1
 rw [e1] at ht
 unfold cStep at h1 h2
 rw [List.getElem?_append_left (Nat.lt_of_succ_lt_succ ht)] at h1
 by_cases q:t + 1 < c.length
 ·rw [List.getElem?_append_left q] at h2
  rw [List.getElem?_append_left (Nat.lt_of_succ_lt_succ (Nat.lt_of_lt_of_eq q hl))] at h3
  exact h.st t o n p h1 h2 h3
 ·have e:t + 1 = c.length:=Nat.le_antisymm (Nat.le_of_lt_succ ht) (Nat.le_of_not_lt q)
  have e':t = ps.length:=Nat.succ.inj (e.trans hl)
  rw [List.getElem?_append_right (Nat.le_of_eq e.symm),e,Nat.sub_self,List.getElem?_cons_zero] at h2
  rw [List.getElem?_append_right (Nat.le_of_eq e'.symm),e',Nat.sub_self,List.getElem?_cons_zero] at h3
  cases h2
  cases h3
  have ho:c.getLastD [] = o:=by
   rw [List.getLastD_eq_getLast?,List.getLast?_eq_getElem?,← e,Nat.add_sub_cancel,h1]; rfl
  rw [ho]
  exact ⟨plc_lt x,fun q hq=>put_get (by rw [(hc.ok o (List.mem_of_getElem? h1)).1]; exact plc_lt x) hq⟩
theorem CP.fold:∀ (l:List Int) {c:List (List Nat)} {ps:List Nat},CP c ps → CI c → CP (l.foldl cStep c) (ps ++ l.map plc)
 | [],_,_,h,_=>by rw [List.map_nil,List.append_nil]; exact h
 | x :: l,c,ps,h,hc=>by
  have:=CP.fold l (h.step hc x) (hc.step x)
  rw [List.append_assoc] at this
  exact this
theorem cp_zero:CP counts0 []:=⟨rfl,fun t o n p h1 h2 h3=>by cases h3⟩
theorem law_true {prog:Program} {w:World} {script:List Int} (h63:script.length ≤ 63):PureC prog w (SK w) 20 (.ref 268) [il script] (.bool true):=by
 have hc:CI (countsP script):=CI.fold _ CI.zero
 have hp:CP (countsP script) (placesP script):=CP.fold _ cp_zero CI.zero
 have hl:=hp.len
 refine law_spec h63 fun row steps hr t o n p h1 h2 h3=>?_
 rcases hr with ⟨rfl,rfl⟩ | ⟨rfl,rfl⟩
 ·have:=hp.st t o n p h1 h2 h3
  exact step_ok (words_bd script) (hc.ok o (List.mem_of_getElem? h1)) (hc.ok n (List.mem_of_getElem? h2)) this.1 this.2
 ·have ho:=hc.ok o (List.mem_reverse.mp (List.mem_of_getElem? h1))
  have hn:=hc.ok n (List.mem_reverse.mp (List.mem_of_getElem? h2))
  have l1:=(List.getElem?_eq_some_iff.mp h1).1
  have l2:=(List.getElem?_eq_some_iff.mp h2).1
  have l3:=(List.getElem?_eq_some_iff.mp h3).1
  rw [List.length_reverse] at l1 l2 l3
  rw [List.getElem?_reverse l1] at h1
  rw [List.getElem?_reverse l2] at h2
  rw [List.getElem?_reverse l3] at h3
  obtain ⟨d,hd⟩:=Nat.exists_eq_add_of_lt l3
  rw [hl,Nat.add_sub_cancel,hd,Nat.add_assoc,Nat.add_sub_cancel_left] at h1
  rw [hl,Nat.add_sub_cancel,hd,Nat.add_right_comm,Nat.add_sub_cancel_left] at h2
  rw [hd,Nat.add_sub_cancel,Nat.add_sub_cancel_left] at h3
  have:=hp.st _ n o p h2 h1 h3
  exact step_ok (words_bd script) ho hn this.1 fun q hq=>(this.2 q hq).symm
end
section
theorem items_int {R:WRecords}:∀ {xs:List WData},WShape.hasItems R xs .int = true → ∃ is:List Int,xs = is.map .int
 | [],_=>⟨[],rfl⟩
 | x :: xs,h=>by
  unfold WShape.hasItems at h
  obtain ⟨h1,h2⟩:=Bool.and_eq_true_iff.mp h
  obtain ⟨is,rfl⟩:=items_int h2
  cases x <;> first | (rw [WShape.has] at h1; exact absurd (show false = true from h1) Bool.false_ne_true) | skip
  rename_i i
  exact ⟨i :: is,rfl⟩
theorem args_list {R:WRecords} {args:List WData} (h:WShape.hasAll R args [.list .int] = true):∃ is:List Int,args = [.list (is.map .int)]:=by
 obtain ⟨d,r,rfl,h1,h2⟩:=hasAllW_cons h
 cases hasAllW_nil h2
 cases d <;> first | (rw [WShape.has] at h1; exact absurd (show false = true from h1) Bool.false_ne_true) | skip
 rename_i xs
 have h1:WShape.hasItems R xs .int = true:=by
  rw [WShape.has] at h1
  exact (Bool.or_false _).symm.trans h1
 obtain ⟨is,rfl⟩:=items_int h1
 exact ⟨is,rfl⟩
theorem pre_len {R:WRecords} {is:List Int} (h:WTm.holds R (.and (.not (.lt (.lit (.int 63)) (.len (.arg 0)))) (.lit (.bool true))) { args:=[.list (is.map .int)] } = true):is.length ≤ 63:=by
 by_cases q:is.length ≤ 63
 ·exact q
 ·exfalso
  have q':(63:Int) < (is.length:Nat):=by omega
  simp [WTm.holds,WTm.value] at h
  have e:less? (WData.int 63) (WData.int (is.length:Nat)) = some true:=by
   have e2:less? (WData.int 63) (WData.int (is.length:Nat)) = some (decide ((63:Int) < (is.length:Nat))):=by first | rfl | simp [less?]
   rw [e2,decide_eq_true q']
  rw [e] at h
  simp at h
theorem well_ints {P:Params} {h:Heap}:∀ {is:List Int} {vs:List Value},WellAll P h vs (is.map .int) → RepL (fun b=>h.get? b) (is.map .int) vs
 | [],vs,x=>by cases x; rfl
 | i :: is,vs,x=>by
  obtain ⟨v,vs',rfl,h1,h2⟩:=wellAll_cons_inv x
  cases h1
  exact RepL.cons ⟨_,rfl⟩ (well_ints h2)
theorem law_walk {prog:Program} {w:World} {s₁:Shared} {c:ClaimW} {cl:PySem.Str → Option Addr} {mean:ExcName → Option Value} {is:List Int} {vals:List Value} (Y:(frag w.params).In s₁.heap) (hg:s₁.gens = #[]) (h63:is.length ≤ 63) (hw:WellAll w.params s₁.heap vals [.list (is.map .int)])
  (hn:∀ cls,c.raises [.list (is.map .int)] cls = false) (hp:c.post [.list (is.map .int)] (.bool true) [.list (is.map .int)] = true) :
  wpAny (model prog w) callerA (call (.ref 268) vals) (fun v s'=>GoodWG c cl mean [.list (is.map .int)] s₁ (.ok (.ret v)) s') (fun e s'=>GoodWG c cl mean [.list (is.map .int)] s₁ (.error e) s') s₁:=by
 obtain ⟨v,vs',rfl,h1,h2⟩:=wellAll_cons_inv hw
 cases h2
 cases h1
 rename_i a vs ha hv
 refine (law_true h63).fn callerA (fun b=>s₁.heap.get? b) s₁ _ _ _ ⟨rfl,by decide,by decide⟩ (fun b o e=>Y b o e) (fun b o e=>e) (RepL.cons ⟨a,vs.toArray,_,rfl,ha,well_ints hv⟩ rfl) fun v h' tk k rv=>?_
 have e:v = .bool true:=rv
 subst e
 exact GoodW.toG ⟨.inl ⟨.bool true,.bool true,[],rfl,hn,.bool true,hp,fun _=>⟨List.nodup_nil,fun a h=>by cases h⟩⟩,k,rfl,hg⟩
theorem law_at {w:World} {h:Heap} {mg:PySem.Str → Option Value} {a:Addr} (Y:(frag w.params).In h) (g:h.Ns mainGlobals mg) (e:mg "law" = some (.ref a)):a = 268:=by
 obtain ⟨o,es,ep,h1,h2,h3,h4⟩:=g
 have h5:h.get? mainGlobals = some (fo3 w.params):=Y _ _ (by kernel_rfl)
 rw [h5] at h1
 cases h1
 have h6:∃ es' ep',(fo3 w.params).data = .dict es' ep' ∧ nsFind es' "law" = some (.ref 268):=⟨_,_,by with_unfolding_all rfl,by kernel_rfl⟩
 obtain ⟨es',ep',h7,h8⟩:=h6
 rw [h2] at h7
 cases h7
 rw [h4,e] at h8
 cases h8
 rfl
theorem post_true {args after:List WData}:(WShape.has [] (.bool true) .bool && WTm.holds [] (.eq .res (.lit (.bool true))) { args:=args,res:=some (.bool true),after:=after }) = true:=by
 first | kernel_rfl | simp [WShape.has,WShape.arms,WTm.holds,WTm.value]
end
theorem said0:PySem.W.OpenLaw.wellSaid PySem.Challenge.rw_mt0012_02 = true:=by
 have e:PySem.Challenge.rw_mt0012_02 = { PySem.Challenge.rw_mt0012_02 with prog:=pwP strF }:=by
  rw [← pwG_strF]; rfl
 rw [e,PySem.W.Fast.te9446332074065402090]
 kernel_rfl
end Mine
set_option maxRecDepth 100000 in
set_option maxHeartbeats 8000000 in
theorem PySem.Challenge.cw_mt0012_02_holds : PySem.Challenge.rw_mt0012_02.Holds := by
 refine holds_law Mine.said0 fun said => ?_
 refine holds_open (q := Mine.qv) (loose := Mine.looseN) (Xt := Mine.xtF) (XP := XL Mine.qv []) (Yf := Mine.hookF.obs) (Ya := Mine.hookF.val) (YP := Mine.hookF.says) (N := 4690) Mine.leftF Mine.hookF.of Mine.hookF.keeps (fun s e => xl_of s (Bool.and_eq_true_iff.mp e).1) XL.keeps (by rfl) (by rfl) (by rfl) (fun s e => recFacts_of (Bool.and_eq_true_iff.mp e).2) (by rfl) (by first | assumption | decide +kernel) (by decide +kernel) ⟨rfl, rfl, rfl, rfl, rfl, by decide +kernel⟩ ?hw ?hc
 case hw => w_witness2
 case hc =>
  intro w s₀ s₁ mg mb G Y a o pm cd doc dV kV h1 h2 h3 h4 h5 h6 args vals as hpre hlay hr hwell hlow
  obtain ⟨hsh, hpr⟩ := pre_splitW hpre
  obtain ⟨is, rfl⟩ := Mine.args_list hsh
  have h63 := Mine.pre_len hpr
  have ha := Mine.law_at (w := w) Y G.T.g h5
  subst ha
  exact Mine.law_walk (w := w) Y h6 h63 hwell (fun _ => rfl) Mine.post_true
