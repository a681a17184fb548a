import PyProof.Rows.All
import Wide.All
import OpenK.AllK
import Wide.FinOn
import PyProof.TableCode
import PyProof.CodeObj
import PyProof.AtCode
import PyProof.MeetsStr
import PyProof.PureStr
import PyProof.EnumMake
import PyProof.GenObj
import PyProof.Comp
import PyProof.StrLoop
import PyProof.MeetsDict
import PyProof.DictKinds
import PyProof.MeetsStr2
import PyProof.SliceList
import PyProof.StrLawsChain
import PyProof.StrLawsOcc
import PyProof.MeetsSeq
import PyProof.AutoSeq1
import PyProof.AutoIntG6
import PyProof.AutoIntR0
import PyProof.StrOps
import PyProof.CollectWalk
import PyProof.JoinWalk
import KE.KSuperObj
import PyProof.GenArm
import PyProof.StrBlock
import PyProof.RulesAssignMore
import PyProof.RaisesMany
import PyProof.StrLawsIn
import PyProof.AutoIntG1
import PyProof.AutoIntG4
import PyProof.SliceStr
import PyProof.Truth
import PyProof.NeData
import PyProof.Rows.SumAny
import PyProof.NoPylong
import Lean
import PySem.Challenge.RW_qt0012_01
set_option maxRecDepth 1000000
set_option genSizeOf false
set_option genSizeOfSpec false
set_option linter.all false
set_option genCtorIdx false
set_option bootstrap.genMatcherCode false
set_option tactic.hygienic false
set_option compiler.extract_closed false
set_option Elab.async false
set_option genInjectivity false
open PySem PySem.Spec PySem.Calls PyProof.Rows PySem.W PySem.W.X
namespace Mine.Internal
noncomputable section
def bQ:=@List.append_assoc
def bI:=@PySem.wpAny_bind
def db:=@Nat.le_of_ble_eq_true
def dp:=@List.mem_append_right
def c5:=@List.length_append
def dQ:=@List.mem_append_left
def cu:=@Nat.le_trans
def dN:=@PySem.entryFor_of_fast
def dw:=@List.mem_append
def fu:=@List.perm_append_comm
def bu:=@if_neg
def dU:=@List.append_nil
def c4:=@List.mem_cons
def ck:=@PySem.wpAny_pure
def dI:=@PySem.Sem.bind_eq_wrap
def eC:=@List.mem_singleton
def b8:=@congrArg
def cO:=@Nat.le_refl
def fZ:=@List.Perm.append_left
def eD:=@Bool.and_eq_true
def bP:=@if_pos
def dj:=@PySem.codeAny_mono
def i7:=@Int.fmod_nonneg_of_pos
def eg:=@PySem.Sem.wrap_wrap
def fb:=@List.length_map
def dO:=@List.mem_map
def fN:=@List.map_cons
def fc:=@List.map_append
def gL:=@PySem.Sem.onRaise_eq_wrap
def nG:=@PySem.Around.under_plainId
def i8:=@List.getElem?_eq_getElem
def f0:=@List.all_eq_true
def lH:=@List.getD_eq_getElem?_getD
def eh:=@PySem.W.R.bindR_eq
def eo:=@Nat.zero_le
def iE:=@List.mem_map_of_mem
def eE:=@PySem.Sem.wp_mono
def iF:=@decide_eq_true_eq
def h8:=@decide_eq_false
def pN:=@PySem.W.ZFast.ze12563942051412417395
def iG:=@Int.fmod_lt_of_pos
def eQ:=@PySem.wpAny_field
def jC:=@Classical.choose_spec
def h9:=@Nat.le_add_right
def gM:=@List.Perm.swap
def g6:=@PySem.codeAny_builtin
def i9:=@decide_eq_true
def jD:=@PySem.wpAny_newObj_type
def ja:=@List.head?_drop
def et:=@congrFun
def lI:=@List.flatMap_cons
def VG:=@beq_false_of_ne
def jE:=@Nat.le_add_left
def nH:=@List.drop_eq_nil_iff
def iH:=@PySem.Sem.wp_bind
def lJ:=@List.getElem?_map
def pO:=@Option.map_eq_some_iff
def jb:=@PySem.W.R.onRaiseR_eq
def jc:=@List.map_map
def kv:=@List.drop_drop
def kx:=@List.Perm.cons
def jF:=@PySem.Sem.wp_bind'
def jd:=@Nat.le_succ_of_le
def lK:=@List.map_inj_left
def nI:=@List.foldl_append
def VH:=@Bool.eq_false_iff
def lL:=@Nat.add_le_add
def sB:=@List.append_eq_nil_iff
def jG:=@PySem.Heap.lt_size
def sC:=@Bool.false_eq_true
def ky:=@PySem.wpAny_holding
def lM:=@PySem.wpAny_setField
def iI:=@PySem.wpAny_mono
def ia:=@if_false
def C7:=@PySem.W.ZFast.ze11113344188204177931
def C8:=@PySem.W.ZFast.ze10380811246957099773
def Kt:=@PySem.F.plain_extend_loop
def w5:=@List.getElem?_eq_some_iff
def pP:=@List.perm_middle
def pQ:=@List.not_mem_nil
def je:=@beq_iff_eq
def sD:=@Nat.lt_of_le_of_lt
def pR:=@List.nodup_cons
def kz:=@bne_iff_ne
def sE:=@Nat.lt_succ_of_le
def nJ:=@PySem.wpAny_standAt
def nK:=@Nat.le_of_eq
def w6:=@List.length_replicate
def sF:=@List.getElem_mem
def w7:=@PySem.Heap.get?_push_of_some
def pS:=@Nat.lt_irrefl
def C9:=@List.dropLast_concat_getLast
def pT:=@PySem.wpAny_listPart
def pU:=@PySem.Sem.bind_assoc
def sG:=@PySem.wpAt_bind
def w8:=@Nat.mul_le_mul_left
def w9:=@Nat.add_le_add_left
def xa:=@List.map_eq_nil_iff
def xb:=@List.flatten_append
def pV:=@PySem.W.isStrOf_self
def xc:=@Option.isNone_iff_eq_none
def rp:=@PySem.Heap.get?_push_size
def ox:=@Nat.succ_le_succ
def rq:=@List.mem_flatMap
def ru:=@List.length_take
def oy:=@PySem.wpAny_seqItems
def xd:=@List.drop_eq_nil_of_le
def xe:=@PySem.F.slot_str_join
def rv:=@Nat.zero_add
def rx:=@Array.size_push
def mE:=@PySem.wpAny_throw
def mF:=@PySem.wpAny_of_eq
def oz:=@PySem.wpAny_handled
def xf:=@List.mem_of_getElem?
def mG:=@PySem.Gives.meets
def ry:=@PySem.wpAny_isInstance
def rz:=@Option.or_none
def rA:=@List.mem_range
def F0:=@PySem.W.ZFast.ze9782568553167038054
def F1:=@PySem.W.ZFast.ze9442747609961115081
def F2:=@PySem.W.ZFast.ze6609576154772507232
def iT:=@Ne.symm
def oA:=@Nat.le_succ
def xg:=@List.takeWhile_cons
def xh:=@Int.toNat_of_nonneg
def F3:=@List.append_ne_nil_of_right_ne_nil
def rB:=@PySem.wpAny_specialOf
def xi:=@Nat.add_right_comm
def xj:=@List.mem_replicate
def xl:=@List.append_of_mem
def xm:=@Int.natCast_nonneg
def xn:=@of_decide_eq_true
def xo:=@Option.some.injEq
def xp:=@List.nodup_append
def xq:=@Array.size_append
def rD:=@PySem.sliceRange_one
def rF:=@PySem.entry_gen_next
def rG:=@Nat.ne_of_lt
def xr:=@List.isEmpty_iff
def xu:=@Array.toList_inj
def rH:=@PySem.wpAt_of_wpAny
def rI:=@PySem.slot_gen_next
def rJ:=@PySem.plainId_quiet
def oB:=@if_true
def xv:=@PySem.wpAt_mono
def F4:=@PySem.W.ZFast.noteFrameY_eq
def xw:=@List.mem_filter
def xx:=@List.forIn_cons
def xy:=@Bool.or_eq_true
def F5:=@PySem.MeetsSeq.list_pop_at
def F6:=@Array.getElem?_eq_some_iff
def oC:=@PySem.wpAny_rule
def F7:=@PySem.F.entry_extend_loop
def F8:=@List.getLast?_eq_none_iff
def F9:=@List.getElem?_append_left
def Ga:=@List.drop_eq_getElem_cons
def xz:=@List.Perm.refl
def rK:=@PySem.wpAny_typeOf
def xA:=@PySem.wpAny_pyIter_gen
def xB:=@PySem.wpAny_enterFrame
def oD:=@or_false
def PY:=@PySem.F.plain_list_iadd
def Gb:=@Nat.add_assoc
def Gc:=@List.length_eq_zero_iff
def Gd:=@List.take_of_length_le
def Ge:=@List.Perm.append_right
section
variable{a c f g l n s w x:Nat}
theorem acb(n:Nat):(-1:Int)+((n:Int)+1)=n:=by
 rw[Int.add_left_comm];exact Int.add_zero _
theorem ab5(n:Nat):max 0 (min (-1+((n:Int)+1)) ((n:Int)+1))=(n:Int):=by
 rw[acb,Int.min_eq_left (Int.le_add_one (Int.le_refl _)),Int.max_eq_right (xm n)]
theorem acq(k n:Nat):max 0 (min (k:Int) n)=((min k n:Nat):Int):=by
 rcases Nat.le_total k n with h|h
 ·rw[Nat.min_eq_left h,Int.min_eq_left (Int.ofNat_le.2 h)];exact Int.max_eq_right (xm _)
 ·rw[Nat.min_eq_right h,Int.min_eq_right (Int.ofNat_le.2 h)];exact Int.max_eq_right (xm _)
theorem XZ(h:n<3):n=0\/n=1\/n=2:=(by decide:∀n<3,n=0\/n=1\/n=2) n h
theorem bv(a:w+g<=f)(h:x+f<=l):x+w+g<=l:=cu (nK (Gb ..)) (cu (w9 a _) h)
theorem ad3{y:Nat}(a:w+g<=f)(h:x+y+f<=l):x+(w+y)+g<=l:=by
 rw[Nat.add_comm w,<-Gb];exact bv a h
theorem ex8{o k:Nat}(h:o+8*(l+1)<=s)(b:k<=8):o+k+8*l<=s:=cu (by
 rw[Gb,Nat.mul_succ,Nat.add_comm k];exact w9 (w9 b _) _) h
theorem acd{b d:Nat}(e:a+5*(n+1)<=9000/\c+(n+1)<=9000)(h:b<=a+5/\d<=c+1):b+5*n<=9000/\d+n<=9000:=
 ⟨cu (Nat.add_le_add_right h.1 _) (by rw[Gb,Nat.add_comm 5,<-Nat.mul_succ];exact e.1),cu (Nat.add_le_add_right h.2 _) (by rw[Gb,Nat.add_comm 1];exact e.2)⟩
theorem ab6(b:a+5*(n+1)<=9000/\c+(n+1)<=9000):a+5<=9000/\c+1<=9000:=
 ⟨cu (w9 (Nat.le_mul_of_pos_right 5 (Nat.succ_pos n)) a) b.1,cu (w9 (ox (eo n)) c) b.2⟩
theorem ace{x:Int}{m:Nat}(h:0<=x/\x<=0+8*(n:Int))(b:s+8*(n+m)<=9000):s+x.toNat+8*m<=9000:=by
 refine cu (Nat.add_le_add_right (w9 (Int.toNat_le.2 (Int.le_trans h.2 (Int.le_of_eq (Int.zero_add _)))) s) _) ?_;rw[Gb,<-Nat.mul_add];exact b
theorem ad8(i:Nat):(2*i+1)/2=i:=Nat.mul_add_div (by decide) i 1
theorem acv{b d x:Int}(e:b+1<=d/\d<=b+8)(h:d<=x/\x<=d+8*(n:Int)):b<=x/\x<=b+8*((n+1:Nat):Int):=
 ⟨Int.le_trans (Int.le_trans (Int.le_add_one (Int.le_refl _)) e.1) h.1,Int.le_trans h.2 (Int.le_trans (Int.add_le_add_right e.2 _) (Int.le_of_eq (by
  show b+8+8*(n:Int)=b+8*((n:Int)+1);rw[Int.mul_add,Int.mul_one,Int.add_assoc,Int.add_comm 8])))⟩
end
section
variable{a:Nat}{sl:Array (Option Value)}{o o':Obj}
noncomputable abbrev bH:=List (Nat×Obj)
variable{A B R:bH}
noncomputable abbrev bR:=List (Nat×GenState)
variable{G':bR}
structure L2 where(n:Nat->Nat)(v:Nat->Value)(l:Nat->List Value)
noncomputable def dZ(c:Code):Sem Fin:=PySem.W.ZFast.zw11892475500146522536 PySem.W.ZFast.tableZ c
theorem S9(c:Code):dZ c=denote table c:=by
 unfold dZ;rw[<-PySem.W.ZFast.tableZ_eq,<-PySem.W.ZFast.ze11892475500146522536]
noncomputable def xC(c:Code):Bool:=PySem.W.ZFast.zw17772548960776305114 c
theorem Ih(c:Code):xC c=c.quiet:=by
 unfold xC;rw[<-PySem.W.ZFast.ze17772548960776305114]
set_option backward.match.sparseCases false in
noncomputable def VI(P:Str->Bool):Value->Bool|.str n Y=>P n|Y=>false
set_option backward.match.sparseCases false in
noncomputable def VJ(P:List DictEntry->Bool):Data->Bool|.dict es Y=>P es.toList|Y=>false
theorem PZ{P:Str->Bool}{v:Value}(h:VI P v=true):∃n t,v=.str n t/\P n=true:=by
 cases v<;>first|exact⟨_,_,rfl,h⟩|cases h
theorem P0{P:List DictEntry->Bool}{d:Data}(h:VJ P d=true):∃es ep,d=.dict es ep/\P es.toList=true:=by
 cases d<;>first|exact⟨_,_,rfl,h⟩|cases h
def m8(o:Obj):Bool:=VJ (λl=>l.all λe=>VI (λn=>!(decide (n=Str.ofString "sys.recursionlimit"))) e.key) o.data
def xD(o:Obj):Bool:=VJ (λl=>PySem.W.R.allR l λe=>VI (λn=>@Bool.rec (λz=>Bool) true false (PySem.W.Fast.sEq n ⟨#[115,121,115,46,114,101,99,117,114,115,105,111,110,108,105,109,105,116]⟩)) e.key) o.data
theorem pW(o:Obj):xD o=m8 o:=by
 unfold xD m8;rw[<-PySem.W.R.allR_eq];have e:(Str.ofString "sys.recursionlimit")=⟨#[115,121,115,46,114,101,99,117,114,115,105,111,110,108,105,109,105,116]⟩:=by decide +kernel
 have q:(λn:Str=>@Bool.rec (λy=>Bool) true false (PySem.W.Fast.sEq n ⟨#[115,121,115,46,114,101,99,117,114,115,105,111,110,108,105,109,105,116]⟩))=λn=>!(decide (n=Str.ofString "sys.recursionlimit")):=by
  funext n
  rw[e];cases h:PySem.W.Fast.sEq n ⟨#[115,121,115,46,114,101,99,117,114,115,105,111,110,108,105,109,105,116]⟩with
  |true=>rw[i9 (PySem.W.Fast.sEq_iff.mp h)];rfl
  |false=>rw[h8 (λz=>by rw[PySem.W.Fast.sEq_iff.mpr z]at h;cases h)];rfl
 rw[q]
theorem kA{h:Heap}(f:h.get? cStatics=some o)(c:m8 o=true):h.NoLimit:=by
 obtain⟨es,ep,hd,c⟩:=P0 c;have all:=λe he=>PZ (f0.mp c e (Array.mem_toList_iff.mpr he));refine⟨λb=>nsFind es b,⟨o,es,ep,f,hd,λe he=>let⟨n,t,d,_⟩:=all e he;⟨n,t,d⟩,λz=>rfl⟩,?_⟩;show(es.find? _).map _=none;rw[Option.map_eq_none_iff,Array.find?_eq_none];intro e he q;obtain⟨n,t,d,this⟩:=all e he;rw[d]at q;have g:n=Str.ofString "sys.recursionlimit":=by
  have:(n==Str.ofString "sys.recursionlimit")=true:=q;simpa using this
 rw[i9 g]at this;cases this
def xE(self:Addr)(f:FuncData)(g:Args)(c:Value):Sem Fin:=
 (field c 1).bind λq=>(match q with|.str q _=>(Sem.pure q:Sem Str)|_=>.pure f.qualname).bind λd=>
 (bindArgs f g).bind λb=>
 (newFunctionEnv f.scope f.globals f.closure b (d++".<locals>.") (some self) f.code none f.builtins).bind λenv=>
 .load cStatics none λo=>match m8 o with
  |true=>match f.body with
   |.stmts b=>.pure (.again (.func b env))
   |.expr e=>.pure (.again (.expr e env))
  |false=>.unsupported "limit"
def xF(self:Addr)(f:FuncData)(g:Args)(c:Value):Sem Fin:=
 PySem.W.R.bindR (PySem.W.ZFast.zw6609576154772507232 c 1) λq=>PySem.W.R.bindR (match q with|.str q _=>(Sem.pure q:Sem Str)|_=>.pure f.qualname) λd=>
 PySem.W.R.bindR (PySem.W.ZFast.zw9782568553167038054 f g) λb=>
 PySem.W.R.bindR (PySem.W.ZFast.zw11113344188204177931 f.scope f.globals f.closure b (d++⟨#[46,60,108,111,99,97,108,115,62,46]⟩) (some self) f.code none f.builtins) λenv=>
 .load cStatics none λo=>match xD o with
  |true=>match f.body with
   |.stmts b=>.pure (.again (.func b env))
   |.expr e=>.pure (.again (.expr e env))
  |false=>.unsupported "limit"
theorem Db(self:Addr)(d:FuncData)(b:Args)(c:Value):xF self d b c=xE self d b c:=by
 unfold xF xE;rw[<-eh,<-F2,<-F0,<-C7,
  show(Str.ofString ".<locals>.")=⟨#[46,60,108,111,99,97,108,115,62,46]⟩from by decide +kernel]
 simp only[pW]
noncomputable abbrev VK:String:=PySem.W.SZ.s7929333955151719606x9
theorem P1:"generator" = VK:=PySem.W.SZ.e7929333955151719606x9
def jX(i b:Nat)(nm:Str)(c:Nat)(d:Str):Obj:=⟨.type VK,none,.fields ⟨[.int i 0,.str nm b,.str d c]⟩,#[]⟩
def oE(c:Code)(nm b:Str):Sem Fin:=.newGen c λg=>.fresh λd=>.fresh λe=>.alloc (jX g d nm e b) λa=>.pure (.done (.ret (.ref a)))
def rL(self:Addr)(e:FuncData)(f:Args)(c:Value):Sem Fin:=
 (field c 1).bind λq=>(match q with|.str q _=>(Sem.pure q:Sem Str)|_=>.pure e.qualname).bind λd=>
 (bindArgs e f).bind λb=>
 (newFunctionEnv e.scope e.globals e.closure b (d++".<locals>.") (some self) e.code none e.builtins).bind λenv=>
 .load cStatics none λo=>match m8 o with
  |true=>match e.body with
   |.stmts b=>oE (.func b env) e.name e.qualname
   |.expr Y=>.unsupported "lambda"
  |false=>.unsupported "limit"
def sH(self:Addr)(e:FuncData)(f:Args)(c:Value):Sem Fin:=
 PySem.W.R.bindR (PySem.W.ZFast.zw6609576154772507232 c 1) λq=>PySem.W.R.bindR (match q with|.str q _=>(Sem.pure q:Sem Str)|_=>.pure e.qualname) λd=>
 PySem.W.R.bindR (PySem.W.ZFast.zw9782568553167038054 e f) λb=>
 PySem.W.R.bindR (PySem.W.ZFast.zw11113344188204177931 e.scope e.globals e.closure b (d++⟨#[46,60,108,111,99,97,108,115,62,46]⟩) (some self) e.code none e.builtins) λenv=>
 .load cStatics none λo=>match xD o with
  |true=>match e.body with
   |.stmts b=>oE (.func b env) e.name e.qualname
   |.expr Y=>.unsupported "lambda"
  |false=>.unsupported "limit"
theorem zW(self:Addr)(d:FuncData)(b:Args)(c:Value):sH self d b c=rL self d b c:=by
 unfold sH rL;rw[<-eh,<-F2,<-F0,<-C7,
  show(Str.ofString ".<locals>.")=⟨#[46,60,108,111,99,97,108,115,62,46]⟩from by decide +kernel]
 simp only[pW]
def P2(L:bH)(x:Nat×Obj):bH:=@List.rec _ (λz=>bH) [x] (λa z b=>a::b) L
theorem P4(L:bH)(x:Nat×Obj):P2 L x=L++[x]:=by
 induction L with
 |nil=>rfl
 |cons a L b=>exact b8 (a::·) b
noncomputable def getL(L:bH):Nat->Option (Nat×Obj):=@List.rec _ (λz=>Nat->Option (Nat×Obj)) (λz=>none) (λa z b n=>@Nat.rec (λz=>Option (Nat×Obj)) (some a) (λk z=>b k) n) L
def Ku(f:Obj->Obj)(L:bH):Nat->bH:=@List.rec _ (λz=>Nat->bH) (λz=>[]) (λa l b n=>@Nat.rec (λz=>bH) ((a.1,f a.2)::l) (λk z=>a::b k) n) L
theorem sI{L:bH}:∀{j:Nat}{p:Nat×Obj},getL L j=some p->∃A B,L=A++p::B/\∀f,Ku f L j=A++(p.1,f p.2)::B:=by
 induction L with
 |nil=>intro j p h;cases h
 |cons a L b=>
  intro j p h;cases j with
  |zero=>
   have:a=p:=by injection h
   subst this;exact⟨[],L,rfl,λf=>rfl⟩
  |succ j=>
   obtain⟨A,B,e1,e2⟩:=b h;exact⟨a::A,B,by rw[e1];rfl,λf=>b8 (a::·) (e2 f)⟩
def vE(L:bH):Nat->Option ((Nat×Obj)×bH):=@List.rec _ (λz=>Nat->Option ((Nat×Obj)×bH)) (λz=>none)
 (λa l b n=>@Nat.rec (λz=>Option ((Nat×Obj)×bH)) (some (a,l)) (λk z=>match b k with|some q=>some (q.1,a::q.2)|none=>none) n) L
def zX(ps:List Nat):bH->Option (bH×bH):=@List.rec _ (λy=>bH->Option (bH×bH)) (λL=>some ([],L))
 (λj y b L=>match vE L j with|some q=>(match b q.2 with|some z=>some (q.1::z.1,z.2)|none=>none)|none=>none) ps
theorem Dc{L:bH}:∀{j:Nat}{p:Nat×Obj}{R:bH},vE L j=some (p,R)->L.Perm (p::R):=by
 induction L with
 |nil=>intro j p R h;cases h
 |cons a L c=>
  intro j p R h;cases j with
  |zero=>
   have:(a,L)=(p,R):=by injection h
   cases this;exact .refl _
  |succ j=>
   have b:(match vE L j with|some q=>some (q.1,a::q.2)|none=>none)=some (p,R):=h;cases e:vE L j with
   |none=>rw[e]at b;cases b
   |some q=>
    rw[e]at b;cases b;exact((c e).cons a).trans (.swap _ _ _)
theorem jY{ps:List Nat}:∀{L P R:bH},zX ps L=some (P,R)->L.Perm (P++R):=by
 induction ps with
 |nil=>intro L P R h;have:([],L)=(P,R):=(by injection h);cases this;exact .refl _
 |cons j ps c=>
  intro L P R h;have b:(match vE L j with|some q=>(match zX ps q.2 with|some z=>some (q.1::z.1,z.2)|none=>none)|none=>none)=some (P,R):=h;cases e:vE L j with
  |none=>rw[e]at b;cases b
  |some q=>
   rw[e]at b;cases e2:zX ps q.2 with
   |none=>simp only[e2]at b;cases b
   |some z=>
    simp only[e2]at b;cases b;exact(Dc e).trans ((c e2).cons _)
noncomputable abbrev m9:=Nat->Array (Option Value)
noncomputable def jW(o:Obj):Bool:=match o.data with
 |.dict ..=>match o.cls with
  |.type s=>PySem.W.S.eqLit 439938610023 s
  |Y=>false
 |Y=>false
def vF(sl:Array (Option Value))(o:Obj):Obj:=match jW o with
 |true=>⟨o.cls,o.dict,o.data,sl⟩
 |false=>o
theorem lN(h:jW o=false):vF sl o=o:=by unfold vF;rw[h]
theorem zY(h:jW o=true):vF sl o=⟨o.cls,o.dict,o.data,sl⟩:=by unfold vF;rw[h]
structure eF(kt:KT)(os:OsState)(SL:m9)(s:Shared)(L:bH)(G:bR):Prop where(old:∀a o,kt.get a=some o->s.heap.get? a=some o)(own:∀p∈L,s.heap.get? p.1=some (vF (SL p.1) p.2))(free:∀p∈L,kt.get p.1=none)(nd:(L.map (·.1)).Nodup)(kB:∀q∈G,s.gens[q.1]?=some q.2)(Gf:(G.map (·.1)).Nodup)(bare:AllBare s.gens)(C0:s.os=os)
def Sat(kt:KT)(os:OsState)(s:Shared)(L:bH)(G:bR):Prop:=∃SL,eF kt os SL s L G
section
variable{kt:KT}{os:OsState}{SL:m9}{s:Shared}{L L':bH}{G:bR}
theorem eF.sat(h:eF kt os SL s L G):Sat kt os s L G:=⟨SL,h⟩
theorem eF.perm(h:eF kt os SL s L G)(p:L.Perm L'):eF kt os SL s L' G:=
 ⟨h.old,λq b=>h.own q (p.mem_iff.mpr b),λq b=>h.free q (p.mem_iff.mpr b),(p.map _).nodup_iff.mp h.nd,h.kB,h.Gf,h.bare,h.C0⟩
theorem eF.fv(h:eF kt os SL s L G)(p:G.Perm G'):eF kt os SL s L G':=
 ⟨h.old,h.own,h.free,h.nd,λq b=>h.kB q (p.mem_iff.mpr b),(p.map _).nodup_iff.mp h.Gf,h.bare,h.C0⟩
theorem eF.drop(h:eF kt os SL s (L++R) G):eF kt os SL s L G:=
 ⟨h.old,λq b=>h.own q (dQ _ b),λq b=>h.free q (dQ _ b),by have:=h.nd;rw[fc]at this;exact(xp.mp this).1,h.kB,h.Gf,h.bare,h.C0⟩
theorem eF.fit(h:eF kt os SL s L G):∃b,eF kt os b s L G/\∀a,s.heap.objs.size<=a->b a=#[]:=by
 refine⟨λa=>if a<s.heap.objs.size then SL a else #[],⟨h.old,λp c=>?_,h.free,h.nd,h.kB,h.Gf,h.bare,h.C0⟩,λa d=>bu (Nat.not_lt.mpr d)⟩;rw[bP (jG (h.own p c))];exact h.own p c
theorem eF.alloc(h:eF kt os SL s L G)(b:o.isFreed=false)(c:vF (SL s.heap.objs.size) o=o):eF kt os SL { s with heap:=s.heap.push o } ((s.heap.objs.size,o)::L) G:=by
 refine⟨λa o' e=>w7 _ (h.old a o' e),λp hp=>?_,λp hp=>?_,?_,h.kB,h.Gf,h.bare,h.C0⟩
 ·rcases c4.mp hp with rfl|hp
  ·dsimp only;rw[c];exact rp _ b
  ·exact w7 _ (h.own p hp)
 ·rcases c4.mp hp with rfl|hp
  ·show kt.get s.heap.objs.size=none;cases q:kt.get s.heap.objs.size with
   |none=>rfl
   |some o'=>exact absurd (jG (h.old _ _ q)) (pS _)
  ·exact h.free p hp
 ·rw[fN,pR];refine⟨λd=>?_,h.nd⟩;obtain⟨p,hp,e⟩:=dO.mp d;have:=jG (h.own p hp);rw[e]at this;exact absurd this (pS _)
theorem eF.setAt{j:Heap}(h:eF kt os SL s (A++(a,o)::B) G)(k:∀b g,b≠a->s.heap.get? b=some g->j.get? b=some g){d:m9}(n:∀b,b≠a->d b=SL b)(r:j.get? a=some (vF (d a) o')):eF kt os d { s with heap:=j } (A++(a,o')::B) G:=by
 have t:((a,o):Nat×Obj)∈A++(a,o)::B:=dp _ (.head _);have l:=h.free _ t;have nd:=h.nd;rw[fc]at nd;have m:∀p∈A++B,p.1≠a:=λp hp e=>by
  have i:=(xp.mp nd)
  rcases dw.mp hp with hp|hp
  ·exact i.2.2 p.1 (iE hp) a (.head _) e
  ·have:=iE (f:=(·.1)) hp;rw[show p.1=a from e]at this;exact(pR.mp i.2.1).1 this
 have c:∀p∈A++B,p∈A++(a,o)::B->j.get? p.1=some (vF (d p.1) p.2):=λp hp u=>by
  rw[n _ (m p hp)];exact k _ _ (m p hp) (h.own p u)
 refine⟨λb g e=>k b g (λq=>by rw[q]at e;rw[l]at e;cases e) (h.old b g e),λp hp=>?_,λp hp=>?_,?_,h.kB,h.Gf,h.bare,h.C0⟩
 ·rcases dw.mp hp with hp|hp
  ·exact c p (dQ _ hp) (dQ _ hp)
  ·rcases c4.mp hp with rfl|hp
   ·exact r
   ·exact c p (dp _ hp) (dp _ (.tail _ hp))
 ·rcases dw.mp hp with hp|hp
  ·exact h.free p (dQ _ hp)
  ·rcases c4.mp hp with rfl|hp
   ·exact l
   ·exact h.free p (dp _ (.tail _ hp))
 ·rw[fc];exact nd
theorem eF.update{f:Obj->Obj}(h:eF kt os SL s (A++(a,o)::B) G)(c:(f (vF (SL a) o)).isFreed=false)(d:f (vF (SL a) o)=vF (SL a) o'):
  eF kt os SL { s with heap:=s.heap.update a f } (A++(a,o')::B) G:=by
 have g:Heap.SameBut a s.heap (s.heap.update a f):=Heap.SameBut.update ..;refine h.setAt (λb j i e=>(g.2 b i).trans e) (λz z=>rfl) ?_;rw[<-d];exact Heap.get?_update_self f (h.own (a,o) (dp _ (.head _))) c
theorem eF.newGen{c:Code}(h:eF kt os SL s L G):eF kt os SL { s with gens:=s.gens.push (.fresh c) } L ((s.gens.size,.fresh c)::G):=by
 have lt:=λq hq=>by
  have:=h.kB q hq;rw[F6]at this;exact this.1
 refine⟨h.old,h.own,h.free,h.nd,λq hq=>?_,?_,λy b=>?_,h.C0⟩
 ·show(s.gens.push (.fresh c))[q.1]?=some q.2;rcases c4.mp hq with rfl|hq
  ·simp
  ·rw[Array.getElem?_push,bu (rG (lt q hq))];exact h.kB q hq
 ·rw[fN,pR];refine⟨λd=>?_,h.Gf⟩;obtain⟨q,hq,e⟩:=dO.mp d;have:=lt q hq;rw[e]at this;exact absurd this (pS _)
 ·rcases Array.mem_push.mp b with b|rfl
  ·exact h.bare y b
  ·rfl
theorem eF.toks(h:eF kt os SL s L G)(t:Nat):eF kt os SL { s with toks:=t } L G:=⟨h.old,h.own,h.free,h.nd,h.kB,h.Gf,h.bare,h.C0⟩
theorem Sat.perm(h:Sat kt os s L G)(p:L.Perm L'):Sat kt os s L' G:=let⟨_,h⟩:=h;⟨_,h.perm p⟩
theorem Sat.fv(h:Sat kt os s L G)(p:G.Perm G'):Sat kt os s L G':=let⟨_,h⟩:=h;⟨_,h.fv p⟩
theorem Sat.drop(h:Sat kt os s (L++R) G):Sat kt os s L G:=let⟨_,h⟩:=h;⟨_,h.drop⟩
theorem Sat.toks(h:Sat kt os s L G)(t:Nat):Sat kt os { s with toks:=t } L G:=let⟨_,h⟩:=h;⟨_,h.toks t⟩
theorem Sat.old(h:Sat kt os s L G):∀a o,kt.get a=some o->s.heap.get? a=some o:=let⟨_,h⟩:=h;h.old
theorem Sat.nd(h:Sat kt os s L G):(L.map (·.1)).Nodup:=let⟨_,h⟩:=h;h.nd
theorem Sat.kB(h:Sat kt os s L G):∀q∈G,s.gens[q.1]?=some q.2:=let⟨_,h⟩:=h;h.kB
theorem Sat.bare(h:Sat kt os s L G):AllBare s.gens:=let⟨_,h⟩:=h;h.bare
theorem Sat.C0(h:Sat kt os s L G):s.os=os:=let⟨_,h⟩:=h;h.C0
theorem Sat.own(h:Sat kt os s L G)(p:Nat×Obj)(b:p∈L)(hd:jW p.2=false:=by rfl):s.heap.get? p.1=some p.2:=by
 obtain⟨_,h⟩:=h;rw[h.own p b,lN hd]
theorem Sat.acm(h:Sat kt os s L G)(p:Nat×Obj)(b:p∈L):∃sl,s.heap.get? p.1=some (vF sl p.2):=by
 obtain⟨SL,h⟩:=h;exact⟨_,h.own p b⟩
theorem eF.VL(h:eF kt os SL s L G)(c:o.isFreed=false):Sat kt os { s with heap:=s.heap.push o } ((s.heap.objs.size,o)::L) G:=by
 refine⟨λa=>if a=s.heap.objs.size then o.slots else SL a,eF.alloc ⟨h.old,λp b=>?_,h.free,h.nd,h.kB,h.Gf,h.bare,h.C0⟩ c ?_⟩
 ·rw[bu (rG (jG (h.own p b)))];exact h.own p b
 ·rw[bP rfl];unfold vF
  split<;>rfl
theorem Sat.alloc(h:Sat kt os s L G)(b:o.isFreed=false):Sat kt os { s with heap:=s.heap.push o } ((s.heap.objs.size,o)::L) G:=let⟨_,h⟩:=h;h.VL b
end
end
section
variable{m n:Nat}
inductive KO where|base (fa:Option Nat)|fQ (fa:Option Nat)|ret (c:Code) (hd:Option Value) (k:Result->Sem Fin) (room:Nat) (κ:KO)|sJ (c:Code) (l:List Value) (k:Result->Sem Fin) (p:Pos) (room:Nat) (κ:KO)|plain (c:Code) (k:Result->Sem Fin) (room:Nat) (κ:KO)
noncomputable def KO.dh:KO->Bool|.fQ Y=>true|.sJ ..=>true|Y=>false
noncomputable def KO.hd:KO->Option Value|.ret Y hd V U κ=>hd.or κ.hd|Y=>none
inductive jZ where|nil|run (os:List Nat) (r:jZ)|con (e:Bool) (fs ps:List Nat) (f:Nat->Nat->L2->Result×bH×jZ)|fin (ps:List Nat)|jf (give keep:List Nat) (f:Nat->Nat->jZ)|step (e:Bool) (fs ps:List Nat) (f:Nat->Nat->L2->Sem Fin×bH×jZ)|dG (o:Obj) (r:jZ)
inductive Res where|fin (seg:Bool) (r:Result) (L:bH) (N t:Nat)|call (e seg:Bool) (c:Code) (room:Nat) (pre:bH) (N t:Nat) (out:Nat->Nat->L2->Result×bH) (next:Nat->Nat->L2->Res)|jf (v:Value) (it:bH) (N t:Nat) (next:Nat->Nat->Res)|step (e:Bool) (c:Code) (room:Nat) (tr:Sem Fin) (pre:bH) (N t:Nat) (out:Nat->Nat->L2->Sem Fin×bH) (next:Nat->Nat->L2->Res)|gen (c:Code) (next:Nat->Res)|pos (f:Pos->Res)|stk (f:Pos->List (Code×Pos)->Res)|dG (a:Nat) (o:Obj) (r:Res)|stop (n:Nat)
inductive Run where|pX (a b:Nat) (r:Run)|slt (a b:Array (Option Value)) (r:Run)|Kf (a b:Value) (r:Run)|dG (a:Nat) (o:Obj) (r:Run)|fin (seg:Bool) (r:Result) (L:bH) (N t:Nat)|call (e seg:Bool) (c:Code) (room:Nat) (pre:bH) (N t:Nat) (out:Nat->Nat->L2->Result×bH) (next:Nat->Nat->L2->m9->Run)|jf (v:Value) (it:bH) (N t:Nat) (next:Nat->Nat->m9->Run)|step (e:Bool) (c:Code) (room:Nat) (tr:Sem Fin) (pre:bH) (N t:Nat) (out:Nat->Nat->L2->Sem Fin×bH) (next:Nat->Nat->L2->m9->Run)|gen (c:Code) (next:Nat->Run)|pos (f:Pos->Run)|stk (f:Pos->List (Code×Pos)->Run)|stop (n:Nat)|zZ (w:String)|need (tag a:Nat) (k:jZ->Run)
noncomputable def Res.run:Res->Run|.fin g r L N t=>.fin g r L N t|.call e g c room pre N t out next=>.call e g c room pre N t out λN t d z=>(next N t d).run|.jf v it N t next=>.jf v it N t λN t z=>(next N t).run|.step e c room tr pre N t out next=>.step e c room tr pre N t out λN t d z=>(next N t d).run|.gen c f=>.gen c λg=>(f g).run|.pos f=>.pos λp=>(f p).run|.stk f=>.stk λp b=>(f p b).run|.dG a o r=>.dG a o r.run|.stop n=>.stop n
abbrev SK:=m9×bH
abbrev Rest:=SK->bH->Nat->Nat->Nat->Nat->List Nat->jZ->Run
abbrev PU:=Code->KO->Nat->Sem Fin->Rest
noncomputable def nay(n:Nat):Rest:=λz z z z z z z z=>.stop n
noncomputable def oR{a:Type}(n:Nat)(K:a->Run)(o:Option a):Run:=match o with
 |some b=>K b
 |none=>.stop n
noncomputable def tR(n:Nat)(r:Run)(b:Bool):Run:=match b with
 |true=>r
 |false=>.stop n
noncomputable def nR(n:Nat)(r:Run)(b:Bool):Run:=match b with
 |false=>r
 |true=>.stop n
abbrev YV(a:Type):=Bool×List Nat×List Nat×(Nat->Nat->L2->a×bH×jZ)
set_option backward.match.sparseCases false in
def jZ.run?:jZ->Option (Nat×List Nat×jZ)|.run (o::os) r=>some (o,os,r)|Y=>none
noncomputable def jZ.acn:jZ->Option (YV Result)|.con e fs ps f=>some (e,fs,ps,f)|Y=>none
noncomputable def jZ.aco:jZ->Option (List Nat)|.fin ps=>some ps|Y=>none
noncomputable def jZ.acp:jZ->Option (List Nat×List Nat×(Nat->Nat->jZ))|.jf g k f=>some (g,k,f)|Y=>none
noncomputable def jZ.step?:jZ->Option (YV (Sem Fin))|.step e fs ps f=>some (e,fs,ps,f)|Y=>none
noncomputable def jZ.Y3:jZ->Option (Obj×jZ)|.dG o r=>some (o,r)|Y=>none
noncomputable def jZ.isNil:jZ->Bool|.nil=>true|Y=>false
def Ii{d:Type}(c a n:Nat)(b:jZ->Option d)(K:d->Run)(i:jZ):Run:=match i.isNil with
 |true=>.need c a λi=>oR n K (b i)
 |false=>oR n K (b i)
def Kv(c a:Nat)(os:List Nat)(b:jZ)(f:Nat->List Nat->jZ->Run):Run:=match os with
 |o::os=>f o os b
 |[]=>Ii c a 51 jZ.run? (λz=>f z.1 z.2.1 z.2.2) b
set_option backward.match.sparseCases false in
noncomputable def VM(c:Code):Option Nat:=match c with
 |.call ..=>some 1
 |.builtin id Y=>match PySem.W.S.decLit "claim.caller" (PySem.code "claim.caller") rfl id with
  |.isTrue Y=>none
  |.isFalse Y=>some 10
 |Y=>some 3
noncomputable def fG(a b r:Nat):Nat:=Nat.add (Nat.sub r (Nat.sub r a)) (Nat.sub r b)
def fR(r:Nat):Nat:=Nat.add (fG 331 375 (fG 401 436 (fG 581 615 (fG 651 685 (fG 791 835 r))))) (Nat.mul 300 (Nat.sub 1 (Nat.sub 1000 r)))
theorem Kw(a b r:Nat):fG a b r=min r a+(r-b):=b8 (· + (r-b)) (Nat.sub_sub_eq_min r a)
theorem oF{a b:Nat}(h:m<=n):fG a b m<=fG a b n:=by
 rw[Kw,Kw];exact lL (Nat.le_min.2 ⟨cu (Nat.min_le_left ..) h,Nat.min_le_right ..⟩) (Nat.sub_le_sub_right h b)
theorem z0(a b r:Nat){k:Nat}(h:k<=r):k-(b-a)<=fG a b r:=by
 rw[Kw];rcases Nat.le_total a r with q|q
 ·rw[Nat.min_eq_right q];exact Nat.sub_le_of_le_add (cu h (cu (Nat.sub_le_iff_le_add.1 (cO (r-b))) (cu (w9 (Nat.sub_le_iff_le_add.1 (cO (b-a))) _) (nK (by rw[Nat.add_comm (b-a) a,<-Gb,Nat.add_comm (r-b) a])))))
 ·rw[Nat.min_eq_left q];exact cu (cu (Nat.sub_le ..) h) (h9 ..)
theorem xG(h:m<=n):fR m<=fR n:=
 lL (oF (oF (oF (oF (oF h))))) (w8 300 (Nat.sub_le_sub_left (Nat.sub_le_sub_left h 1000) 1))
theorem Y4{r:Nat}(h:fR r<=990):r<1000:=by
 refine Nat.lt_of_not_le λa=>?_;have b:=lL (z0 331 375 _ (z0 401 436 _ (z0 581 615 _ (z0 651 685 _ (z0 791 835 _ a))))) (w8 300 (nK (by rw[Nat.sub_eq_zero_of_le a]:1=1-(1000-r))));exact absurd (cu b h) (by decide)
def gi(c:Code)(room:Nat):Option Nat:=match VM c with
 |some n=>match Nat.ble n room with
  |true=>match Nat.ble (Nat.add n (fR (Nat.sub room n))) (fR room)with
   |true=>some (Nat.sub room n)
   |false=>none
  |false=>none
 |none=>none
noncomputable def f7(env:Env):Bool:=match env.scope.kind with
 |.module=>false
 |Y=>true
noncomputable abbrev lO:String:=PySem.W.SZ.s658472552662922059x5
def P5(c:Code):Option (List Nat):=match c.isFrame with
 |true=>match c.env? with
  |some env=>match f7 env with
   |true=>match env.frame with
    |some f=>some [f]
    |none=>none
   |false=>none
  |none=>some []
 |false=>some []
noncomputable def Xt(x y:Option (List Nat)):Option (List Nat):=match x with
 |some a=>match y with
  |some b=>some (a++b)
  |none=>none
 |none=>none
def Gg:KO->Option (List Nat)
 |.base b=>match b with
  |some a=>some [a]
  |none=>some []
 |.fQ b=>match b with
  |some a=>some [a]
  |none=>some []
 |.ret c Y V U κ=>Xt (P5 c) (Gg κ)
 |.sJ c Y V U T κ=>Xt (P5 c) (Gg κ)
 |.plain c Y V κ=>Xt (P5 c) (Gg κ)
noncomputable def VN(c:Code):Option Nat:=match c.env? with
 |some env=>env.frame
 |none=>none
noncomputable def KO.root:KO->Option Nat|.base a=>a|.fQ Y=>none|.ret Y V U T κ=>κ.root|.sJ Y V U T O κ=>κ.root|.plain Y V U κ=>κ.root
def fp(c:Code):Option Nat:=match c.isFrame with
 |true=>none
 |false=>VN c
def Ya(L:bH)(a:Option Nat)(r:Run):Bool->List Nat->List Nat->Run
 |sn,[],Y=>match a with
  |none=>r
  |some Y=>tR 88 r sn
 |sn,f::es,j::b=>match j with
  |0=>oR 89 (λc=>.pX f c (Ya L a r true es b)) a
  |j+1=>oR 91 (λp=>tR 90 (.Kf p.2.cls (.type lO) (.pX f p.1 (Ya L a r sn es b))) (jW p.2)) (getL L j)
 |Y,f::V,[]=>.need 6 f λz=>.stop 94
def frG(L:bH)(a:Option Nat)(r:Run)(es:Option (List Nat))(b:List Nat):Run:=oR 92 (λes=>Ya L a r false es b) es
noncomputable def VO(a:Nat)(r:Run):List Nat->Run|[]=>r|f::es=>.pX f a (VO a r es)
def frS(a:Option Nat)(r:Run)(es:Option (List Nat)):Run:=oR 96 (λl=>match a with
 |some a=>nR 96 (VO a r l) l.isEmpty
 |none=>tR 97 r l.isEmpty) es
section
variable(prog:Program)(P:Params)(kt:KT)
def VP(a:Bool)(r:Result):Rest:=λz L N m t i z ins=>Ii 3 0 61 jZ.aco (λps=>oR 60 (λq=>.fin a r q.1 (N+m) (t+i)) (zX ps L)) ins
def sK(f:PU)(c:Code)(κ:KO)(room:Nat)(tr:Sem Fin)(L:bH)(N m t i:Nat)(z:YV (Sem Fin)):Run:=
 tR 80 (oR 81 (λroom'=>oR 82 (λq=>
  let r:Run:=.step z.1 c room' tr q.1 (N+m) (t+i) (λb d a=>((z.2.2.2 b d a).1,(z.2.2.2 b d a).2.1))
   λb d a e=>f c κ room (z.2.2.2 b d a).1 (e,[]) (PySem.W.R.appendR (z.2.2.2 b d a).2.1 q.2) b 0 d 0 [] (z.2.2.2 b d a).2.2
  match z.1 with
  |true=>frG q.2 (fp c) r (Gg κ) z.2.1
  |false=>r) (zX z.2.2.1 L)) (gi c room)) κ.hd.isNone
def Gh(a:PU)(c:Code)(κ:KO)(room:Nat)(tr:Sem Fin):Rest:=λSL L N m t i os ins=>match os with
 |[]=>match ins.step? with
  |some z=>sK a c κ room tr L N m t i z
  |none=>a c κ room tr SL L N m t i [] ins
 |Y=>a c κ room tr SL L N m t i os ins
def z1(a:PU)(r:Result)(κ:KO):Rest:=match κ with
 |.base Y=>VP false r
 |.fQ Y=>VP true r
 |.ret c Y k room κ=>Gh a c κ room (k r)
 |.sJ c Y k V room κ=>Gh a c κ room (k r)
 |.plain c k room κ=>Gh a c κ room (k r)
def Y5(f:PU)(c:Code)(κ:KO)(room:Nat)(L:bH)(N m t i:Nat)(z:YV Result):Run:=oR 63 (λq=>
 let r:Run:=.call z.1 κ.dh c room q.1 (N+m) (t+i) (λb d a=>((z.2.2.2 b d a).1,(z.2.2.2 b d a).2.1))
  λb d a e=>z1 f (z.2.2.2 b d a).1 κ (e,[]) (PySem.W.R.appendR (z.2.2.2 b d a).2.1 q.2) b 0 d 0 [] (z.2.2.2 b d a).2.2
 match κ.dh with
 |true=>frS (fp c) r (Gg κ)
 |false=>match z.1 with
  |true=>frG q.2 (fp c) r (Gg κ) z.2.1
  |false=>r) (zX z.2.2.1 L)
set_option backward.match.sparseCases false in
def VQ(c:Code):Option (Sem Fin):=match c with
 |.call (.ref a) b=>match kt.get a with
  |some o=>match o.data with
   |.func d=>match d.scope.isCoroutine with
    |true=>none
    |false=>match d.code with
     |.ref cd=>some (match d.scope.isGenerator with
      |true=>sH a d b (.ref cd)
      |false=>xF a d b (.ref cd))
     |Y=>none
   |Y=>none
  |none=>none
 |Y=>none
def Dd(a:PU)(c:Code)(κ:KO)(room:Nat)(o:Nat):Rest:=match o with
 |0=>a c κ room (dZ c)
 |1=>λz L N m t i z ins=>tR 64 (Ii 2 0 65 jZ.acn (Y5 a c κ room L N m t i) ins) κ.hd.isNone
 |Y=>λSL L N m t i os ins=>nR 75 (oR 70 (λtr=>a c κ room tr SL L N m t i os ins) (VQ kt c)) κ.dh
set_option backward.match.sparseCases false in
noncomputable def Kx:Code->Bool|.forLoop ..=>true|.whileLoop ..=>true|.block ..=>true|Y=>false
def Y6(a:PU)(c:Code)(κ:KO)(room:Nat):Rest:=λSL L N m t i os ins=>Kv 1 0 os ins λo os ins=>Dd kt a c κ room o SL L N m t i os ins
def VR(K:Obj->Run)(a:Nat)(SL:m9)(L:bH)(o:Nat):Run:=match o with
 |0=>oR 2 K (kt.get a)
 |j+1=>oR 3 (λp=>.pX a p.1 (K (vF (SL p.1) p.2))) (getL L j)
def lP(b:PU)(c:Code)(κ:KO)(room:Nat)(tr:Sem Fin):Rest:=match tr with
 |.pure fin=>match fin with
  |.done f=>z1 b (.ok f) κ
  |.again d=>λSL L N m t i os ins=>tR 5 (Y6 kt b d κ room SL L N m t i os ins) (xC d)
 |.raise e=>z1 b (.error e) κ
 |.rule Y k=>b c κ room (k ())
 |.at q k=>λSL L N m t i os ins=>match os with
  |[]=>match ins.isNil with
   |true=>.need 5 0 λins=>match ins.step? with
    |some z=>sK b c κ room (.at q k) L N m t i z
    |none=>b c κ room (k ()) SL L N m t i [] .nil
   |false=>match ins.step? with
    |some z=>sK b c κ room (.at q k) L N m t i z
    |none=>b c κ room (k ()) SL L N m t i [] ins
  |Y=>b c κ room (k ()) SL L N m t i os ins
 |.point Y k=>b c κ room (k ())
 |.ask k=>b c κ room (k ⟨prog,P⟩)
 |.load a q k=>λSL L N m t i os ins=>Kv 0 a os ins λo os ins=>match Nat.beq o 999 with
  |true=>oR 1 (sK b c κ room (.load a q k) L N m t i) ins.step?
  |false=>match Nat.beq o 998 with
   |true=>oR 99 (λz=>nR 98 (.dG a z.1 (b c κ room (k z.1) (SL.1,(a,z.1)::SL.2) L N m t i os z.2)) (jW z.1)) ins.Y3
   |false=>match Nat.ble 1000 o with
    |true=>oR 97 (λp=>.pX a p.1 (b c κ room (k p.2) SL L N m t i os ins)) (getL SL.2 (Nat.sub o 1000))
    |false=>VR kt (λh=>b c κ room (k h) SL L N m t i os ins) a SL.1 L o
 |.alloc o k=>λSL L N m t i os ins=>nR 6 (
   let r:=b c κ room (k (N+m)) SL (P2 L (N+m,o)) N (m+1) t i os ins
   match jW o with
   |false=>r
   |true=>tR 85 r o.slots.toList.isEmpty) o.isFreed
 |.update a Y f k=>λSL L N m t i os ins=>Kv 0 a os ins λo os ins=>match o with
  |0=>.stop 4
  |j+1=>oR 8 (λp=>
    let o':=f (vF (SL.1 p.1) p.2)
    nR 7 (match jW o' with
     |true=>.slt o'.slots (SL.1 p.1) (.pX a p.1 (b c κ room (k ()) SL (Ku (λn=>⟨o'.cls,o'.dict,o'.data,#[]⟩) L j) N m t i os ins))
     |false=>.pX a p.1 (b c κ room (k ()) SL (Ku (λn=>o') L j) N m t i os ins)) o'.isFreed) (getL L j)
 |.fresh k=>λSL L N m t i=>b c κ room (k (t+i)) SL L N m t (i+1)
 |.handled own k=>match own with
  |false=>b c κ room (k κ.hd)
  |true=>nay 9
 |.call d hd g l k=>λSL L N m t i os ins=>oR 10 (λroom'=>match κ.dh with
  |false=>tR 11 (Y6 kt b d (.ret c hd k room κ) room' SL L N m t i os ins) (okMark hd)
  |true=>tR 12 (match Kx d with
   |true=>nR 13 (.pos λp=>Y6 kt b d (.sJ c l k p room κ) room' SL L N m t i os ins) g
   |false=>Y6 kt b d (.plain c k room κ) room' SL L N m t i os ins) hd.isNone) (gi c room)
 |.yield v g Y k=>λn L N m t i n ins=>tR 14 (nR 15 (Ii 4 0 18 jZ.acp (λz=>oR 17 (λq=>oR 16 (λx=>
   .jf v q.1 (N+m) (t+i) λu y s=>b c κ room (k (.send .none)) (s,[]) x.1 u 0 y 0 [] (z.2.2 u y)) (zX z.2.1 q.2)) (zX z.1 L)) ins) g) κ.dh
 |.stack k=>λSL L N m t i os ins=>nR 20 (.stk λp below=>b c κ room (k ((c,p)::below)) SL L N m t i os ins) κ.dh
 |.unsupported w=>λn n n n n n n n=>.zZ w
 |.loadIfAlive a k=>λSL L N m t i os ins=>Kv 0 a os ins λo os ins=>VR kt (λh=>b c κ room (k (some h)) SL L N m t i os ins) a SL.1 L o
 |.newGen d k=>λSL L N m t i os ins=>.gen d λg=>b c κ room (k g) SL L N m t i os ins
 |.finish Y=>nay 30
 |.register ..=>nay 31
 |.choose ..=>nay 32
 |.os ..=>nay 33
 |.fork ..=>nay 34
 |.thread Y=>nay 35
 |.await ..=>nay 36
 |.genState ..=>nay 38
 |.resume ..=>nay 39
noncomputable def Ky:Nat->PU|0=>λz z z z=>nay 40|n+1=>lP prog P kt (Ky n)
end
inductive Ob where|nil|cons (a:Nat) (r:Ob)|slt (a:Array (Option Value)) (r:Ob)|Kf (a:Value) (r:Ob)|node (next:Nat->Nat->L2->m9->Ob)|num (f:Nat->Ob)|pos (f:Pos->Ob)|stk (f:Pos->List (Code×Pos)->Ob)
theorem Ob.Kz{f g:Nat->Nat->L2->m9->Ob}(h:Ob.node f=.node g):f=g:=by injection h
theorem Ob.acr{f g:Nat->Ob}(h:Ob.num f=.num g):f=g:=by injection h
theorem Ob.acs{f g:Pos->Ob}(h:Ob.pos f=.pos g):f=g:=by injection h
theorem Ob.act{f g:Pos->List (Code×Pos)->Ob}(h:Ob.stk f=.stk g):f=g:=by injection h
set_option backward.match.sparseCases false in
noncomputable def Run.A:Run->Ob|.pX a Y r=>.cons a r.A|.slt a Y r=>.slt a r.A|.Kf a Y r=>.Kf a r.A|.dG Y V r=>r.A|.call Y V U T O M J I next=>.node λN t c SL=>(next N t c SL).A|.jf Y V U T next=>.node λN t z SL=>(next N t SL).A|.step Y V U T O M J I next=>.node λN t c SL=>(next N t c SL).A|.gen Y f=>.num λg=>(f g).A|.pos f=>.pos λp=>(f p).A|.stk f=>.stk λp b=>(f p b).A|Y=>.nil
noncomputable def Run.B:Run->Ob|.pX Y b r=>.cons b r.B|.slt Y b r=>.slt b r.B|.Kf Y b r=>.Kf b r.B|.dG Y V r=>r.B|.call Y V U T O M J I next=>.node λN t a SL=>(next N t a SL).B|.jf Y V U T next=>.node λN t z SL=>(next N t SL).B|.step Y V U T O M J I next=>.node λN t a SL=>(next N t a SL).B|.gen Y f=>.num λg=>(f g).B|.pos f=>.pos λp=>(f p).B|.stk f=>.stk λp b=>(f p b).B|Y=>.nil
def Run.S:Run->Run|.pX Y V r=>r.S|.slt Y V r=>r.S|.Kf Y V r=>r.S|.dG a o r=>.dG a o r.S|.fin g r L N t=>.fin g r L N t|.call e g c room pre N t out next=>.call e g c room pre N t out λN t d SL=>(next N t d SL).S|.jf v it N t next=>.jf v it N t λN t SL=>(next N t SL).S|.step e c room tr pre N t out next=>.step e c room tr pre N t out λN t d SL=>(next N t d SL).S|.gen c f=>.gen c λg=>(f g).S|.pos f=>.pos λp=>(f p).S|.stk f=>.stk λp b=>(f p b).S|.stop n=>.stop n|.zZ w=>.zZ w|.need a b Y=>.stop (a+b)
end
section
variable{n room:Nat}{A:Around}{p:Prop}{L L':bH}
abbrev b7:=bH->bR->Prop
variable{P Q:(L2->b7)->Prop}
noncomputable def oG:Nat:=990
noncomputable def sL:Nat:=9890
structure gY(room:Nat)(A:Around):Prop where(hd:A.handled=none)(depth:A.depth+fR room<=oG)(units:A.units+room<=sL)
theorem gY.le{m:Nat}(h:gY n A)(l:m<=n):gY m A:=⟨h.hd,cu (w9 (xG l) _) h.depth,cu (w9 l _) h.units⟩
structure Kg(room:Nat)(A:Around)(fs:List Frame):Prop where(hd:(marksOver fs (A.handled,A.handled)).1=none)(depth:A.depth+frameCount (fs.map Frame.where_)+fR room<=oG)(units:A.units+unitsOf (fs.map Frame.where_)+room<=sL)(split:splitAtGen fs=none)(bare:fs.any Frame.guarded=false)
inductive ju(L:bH)(env:Env):Prop where|mk:(f7 env=true)->(∃f o,env.frame=some f/\((f,o):Nat×Obj)∈L/\jW o=true/\o.cls=.type lO)->ju L env
inductive KA(A:Around)(L:bH):Prop where|mk:∀l,(A.frames=some l)->(∀env∈l,ju L env)->KA A L
theorem ju.mono{env:Env}(h:ju L env)(b:∀p∈L,p∈L'):ju L' env:=let⟨a,f,o,e,m,d⟩:=h;⟨a,f,o,e,b _ m,d⟩
inductive gS(A:Around)(L:bH)(fo:Option Nat):Prop where|mk:∀l,(A.frames=some l)->((∀env∈l,ju L env\/(f7 env=true/\∃a,fo=some a/\env.frame=some a)))->(∀a,fo=some a->∃env∈l,env.frame=some a)->gS A L fo
theorem gS.mono{fo:Option Nat}(h:gS A L fo)(a:∀p∈L,p∈L'):gS A L' fo:=let⟨l,e,h,x⟩:=h;⟨l,e,λenv m=>(h env m).imp (·.mono a) id,x⟩
theorem KA.c(h:KA A L):gS A L none:=let⟨l,e,h⟩:=h;⟨l,e,λenv m=>.inl (h env m),λz q=>nomatch q⟩
theorem gS.none(h:gS A L none):KA A L:=let⟨l,e,h,_⟩:=h;⟨l,e,λenv m=>(h env m).elim id λ⟨_,_,q,_⟩=>nomatch q⟩
def lh(A:Around)(c:Code)(L:bH):Prop:=∃a:Around,A.frames=pushEnvs c.envs a.frames/\gS a L (fp c)
theorem lh.mono{c:Code}(h:lh A c L)(b:∀p∈L,p∈L'):lh A c L':=let⟨a,e,h⟩:=h;⟨a,e,h.mono b⟩
def Kh(R:Nat)(A:Around)(F:bH):Prop:=gY (R%1000) A/\(1000<=R->KA A F)
def De(fs:List Frame)(fo:Option Nat):Prop:=(∀env∈envsOf (fs.map Frame.where_),f7 env=true/\∃a,fo=some a/\env.frame=some a)/\∀a,fo=some a->envsOf (fs.map Frame.where_)≠[]
theorem De.nil:De [] none:=⟨λz h=>(by cases h),λz q=>(by cases q)⟩
theorem Kg.nil(h:gY room A):Kg room A []:=⟨h.hd,h.depth,h.units,rfl,rfl⟩
theorem Gi[d:Decidable p]{a:p->Nat}{b:¬p->Nat}(c:∀h,a h<=n)(e:∀h,b h<=n):dite p a b<=n:=by
 by_cases h:p
 ·rw[dif_pos h];exact c h
 ·rw[dif_neg h];exact e h
theorem Df[d:Decidable p]{a b:Nat}(c:a<=n)(e:b<=n):ite p a b<=n:=Gi (λz=>c) λz=>e
theorem KC(b:String)(a:Args):(Code.builtin b a).frames<=3:=by
 delta Code.frames Code.frames.match_1
 dsimp only
 repeat refine Gi (λh=>by subst h;exact(by decide)) λh=>?_
 exact eo 3
theorem acu{c:Code}(e:c.frames=if c.isFrame=true then 1 else 0)(a:c.isCreation=false)(b:c.isGuard=false)(d:c.isCaller=false)(g:c.cUnits=3*c.frames):c.weight<=3/\c.cUnits<=3:=by
 have f:=e▸Df (cO 1) (eo 1);unfold Code.weight;rw[a,b,d,g];exact⟨cu f (by decide),w8 3 f⟩
set_option tactic.hygienic true in
theorem P6{c:Code}(h:VM c=some n):c.weight<=n/\c.cUnits<=n:=by
 cases c with
 |call=>injection h with h;subst h;exact⟨eo 1,cO 1⟩
 |builtin id a=>
  unfold VM at h;dsimp only at h
  split at h
  ·cases h
  ·rename_i b _;injection h with h;subst h;have f:=KC id a;have d:(Code.builtin id a).isCaller=false:=by
    delta Code.isCaller Code.isCaller.match_1
    exact dif_neg b
   refine⟨?_,cu (w9 (w8 3 f) 1) (by decide)⟩;unfold Code.weight;rw[d];exact cu (lL (lL (lL f (Df (cO 1) (eo 1))) (Df (cO 1) (eo 1))) (cO 0)) (by decide)
 |_=>injection h with h;subst h;exact acu rfl rfl rfl rfl rfl
set_option tactic.hygienic true in
theorem iU{c:Code}{room':Nat}(h:gi c room=some room'):c.weight+fR room'<=fR room/\c.cUnits+room'<=room:=by
 unfold gi at h
 split at h
 ·rename_i n hn
  split at h
  ·rename_i d
   split at h
   ·rename_i a;cases h;have b:=P6 hn;have e:=db a;have f:n+fR (Nat.sub room n)<=fR room:=e;exact⟨cu (Nat.add_le_add_right b.1 _) f,cu (Nat.add_le_add_right b.2 _) (nK (Nat.add_sub_cancel' (db d)))⟩
   ·cases h
  ·cases h
 ·cases h
theorem P7{M:Model}{α u:Type}(t:PySem.Ctx)(K:α->Sem u)(H:Value->Sem u)(Q:u->Pos->Shared->Prop)(E:Value->Pos->Shared->Prop)(m:Sem α):
  ∀{p:Pos}{s:Shared},Sem.wp M t m (λa p s=>Sem.wp M t (K a) Q E p s) (λe p s=>Sem.wp M t (H e) Q E p s) p s->Sem.wp M t (m.wrap K H id id) Q E p s:=by
 induction m with
 |pure a=>intro p s h;exact h
 |raise x=>intro p s h;exact h
 |unsupported B=>intro p s h;exact h.elim
 |finish x=>intro p s h;exact h.elim
 |register a k=>intro p s h;exact h.elim
 |yield v g l k=>intro p s h;exact h.elim
 |fork c k=>intro p s h;exact h.elim
 |await a f d l k=>intro p s h;exact h.elim
 |rule C k b=>intro p s h;exact b () h
 |«at» J k b=>intro p s h;exact b () h
 |load a part k b=>intro p s h;obtain⟨o,ho,h⟩:=h;exact⟨o,ho,b o h⟩
 |update a part f k b=>intro p s h;obtain⟨D,h⟩:=h;exact⟨D,b () h⟩
 |alloc o k b=>intro p s h;exact b _ h
 |loadIfAlive a k b=>intro p s h;exact b _ h
 |point l k b=>intro p s h;exact b () h
 |fresh k b=>intro p s h;exact b _ h
 |ask k b=>intro p s h;exact b _ h
 |choose F n k b=>intro p s h;obtain⟨hn,h⟩:=h;exact⟨hn,b _ h⟩
 |os q l k b=>intro p s h;exact b _ h
 |call c N g l k b=>intro p s y;obtain⟨r,i,j,y⟩:=y;exact⟨r,i,j,b r y⟩
 |handled own k b=>intro p s h;exact b _ h
 |newGen c k b=>intro p s h;exact b _ h
 |genState g k b=>intro p s h;obtain⟨st,I,h⟩:=h;exact⟨st,I,b _ h⟩
 |resume g r l k b=>intro p s h;obtain⟨res,i,z,h⟩:=h;exact⟨res,i,z,b res h⟩
 |stack k b=>intro p s h;exact b _ h
 |thread k b=>intro p s h;exact b _ h
section
variable(prog:Program)(w:World)(kt:KT)(os:OsState)
inductive gT(kt:KT)(os:OsState)(out:Nat->Nat->L2->Result×bH)(X':L2->b7)(F:bH)(FG:bR)(r:Result)(s':Shared):Prop where|mk:∀ℓ r1 g1,X' ℓ r1 g1->r=(out s'.heap.objs.size s'.toks ℓ).1->Sat kt os s' ((out s'.heap.objs.size s'.toks ℓ).2++(r1++F)) (g1++FG)->gT kt os out X' F FG r s'
def bE(room:Nat)(c:Code)(pre:bH)(X:b7)(out:Nat->Nat->L2->Result×bH)(X':L2->b7):Prop:=
 ∀(A:Around)(s:Shared)(F:bH)(FG:bR)(r0:bH)(g0:bR),gY room A->X r0 g0->Sat kt os s (pre++(r0++F)) (g0++FG)->
  codeAny (model prog w) A c (gT kt os out X' F FG) s
def bO(room:Nat)(c:Code)(pre:bH)(X:b7)(out:Nat->Nat->L2->Result×bH)(X':L2->b7):Prop:=
 ∀(A:Around)(s:Shared)(F:bH)(FG:bR)(r0:bH)(g0:bR),gY room A->gS A F (fp c)->X r0 g0->Sat kt os s (pre++(r0++F)) (g0++FG)->
  codeAny (model prog w) A c (gT kt os out X' F FG) s
noncomputable def bk:bH->bH|(Y,⟨.ref 127,V,U,T⟩)::O::l=>l|Y=>[]
def Y7:bH->b7->b7|[],X=>X|b::l,X=>λr g=>∃a,r=b::l++a/\X a g
theorem VS{b:bH}{X:b7}{r:bH}{g:bR}(h:X r g):Y7 b X (b++r) g:=by
 cases b with
 |nil=>exact h
 |cons a l=>exact⟨r,rfl,h⟩
variable{α:Type}(acj:Nat)(It:α->Value->bH->Prop)(bL:Result->bH->bR->Prop)
inductive Y8(kt:KT)(os:OsState)(bL:Result->bH->bR->Prop)(F:bH)(FG:bR)(e:End)(s':Shared):Prop where|mk:∀r L g,e=.ret r->bL r L g->Sat kt os s' (L++F) (g++FG)->Y8 kt os bL F FG e s'
inductive Y9(prog:Program)(w:World)(kt:KT)(os:OsState)(acj:Nat)(I:Value->bH->Prop)(P:bH->bR->End->Shared->Prop)(F:bH)(FG:bR)(e:End)(s':Shared):Prop where
 |mk:∀v l k c p fs it L g,e=.susp v false l k c p fs->I v it->Sat kt os s' (it++(L++F)) (g++FG)->
   (∀A s F FG,Kh acj A F->Sat kt os s (bk it++(L++F)) (g++FG)->SegX (model prog w) A c (k (.send .none)) fs s (P F FG))->Y9 prog w kt os acj I P F FG e s'
noncomputable def qH:List α->bH->bR->End->Shared->Prop|[]=>Y8 kt os bL|x::σ=>Y9 prog w kt os acj (It x) (qH σ)
def bG(room:Nat)(c:Code)(pre:bH)(X:b7)(σ:List α)(out:Nat->Nat->L2->Result×bH)(X':L2->b7)(σ':List α):Prop:=
 ∀(fs:List Frame)(rr:bH)(gg:bR),(∀A,gY (acj%1000) A->Kg room A fs)->De fs (fp c)->
  (∀A s F FG a r1 g1 b,Kh acj A F->X' a r1 g1->
   Sat kt os s ((out s.heap.objs.size s.toks a).2++(r1++(rr++F))) (g1++(gg++FG))->
   SegX (model prog w) A b (leafOf (out s.heap.objs.size s.toks a).1) fs s (qH prog w kt os acj It bL σ' F FG))->
  ∀A s F FG r0 g0,Kh acj A F->X r0 g0->Sat kt os s (pre++(r0++(rr++F))) (g0++(gg++FG))->
   SegX (model prog w) A c (denote table c) fs s (qH prog w kt os acj It bL σ F FG)
def c9(room:Nat)(c:Code)(tr:Sem Fin)(pre:bH)(X:b7)(out:Nat->Nat->L2->Sem Fin×bH)(X':L2->b7):Prop:=
 ∀(h:Around)(f:Sem Fin->Shared->Prop),
  (∀{α:Type}(m:Sem α)(K:α->Sem Fin)(H:Value->Sem Fin)(s:Shared),(∀g p,g.code=c->g.In h->Sem.wp (model prog w) g m (λa z b=>f (K a) b) (λe z b=>f (H e) b) p s)->f (m.wrap K H id id) s)->
  gY room h->∀(s:Shared)(F:bH)(FG:bR)(r0:bH)(g0:bR),X r0 g0->Sat kt os s (pre++(r0++F)) (g0++FG)->
  (∀(b:Shared) d r1 g1,X' d r1 g1->Sat kt os b ((out b.heap.objs.size b.toks d).2++(r1++F)) (g1++FG)->f (out b.heap.objs.size b.toks d).1 b)->f tr s
def dt(room:Nat)(c:Code)(tr:Sem Fin)(pre:bH)(X:b7)(out:Nat->Nat->L2->Sem Fin×bH)(X':L2->b7):Prop:=
 ∀(g:Around)(f:Sem Fin->Shared->Prop),
  (∀{α:Type}(m:Sem α)(K:α->Sem Fin)(H:Value->Sem Fin)(s:Shared),(∀h p,h.code=c->h.In g->Sem.wp (model prog w) h m (λa z b=>f (K a) b) (λe z b=>f (H e) b) p s)->f (m.wrap K H id id) s)->
  gY room g->∀(s:Shared)(F:bH)(FG:bR)(r0:bH)(g0:bR),lh g c F->X r0 g0->Sat kt os s (pre++(r0++F)) (g0++FG)->
  (∀(b:Shared) d r1 g1,X' d r1 g1->Sat kt os b ((out b.heap.objs.size b.toks d).2++(r1++F)) (g1++FG)->f (out b.heap.objs.size b.toks d).1 b)->f tr s
def b7.gen(X:b7)(g:Nat)(c:Code):b7:=λr b=>∃a,X r a/\b=(g,.fresh c)::a
structure Gl(α:Type)where(seg:Bool)(post:Nat->Nat->L2->Result×bH)(X':L2->b7)(Za:List α)
variable(G:Gl α)
inductive Dg(G:Gl α)(r:Result)(L:bH)(N t:Nat)(r0:bH)(g0:bR):Prop where|mk:∀ℓ r1 g1,(G.post N t ℓ).1=r->G.X' ℓ r1 g1->(L++r0).Perm ((G.post N t ℓ).2++r1)->g0.Perm g1->Dg G r L N t r0 g0
inductive VT(G:Gl α)(seg:Bool)(r:Result)(L:bH)(N t:Nat)(X:b7)(σ:List α):Prop where|mk:seg=G.seg->(∀r0 g0,X r0 g0->Dg G r L N t r0 g0)->(seg=true->σ=G.Za)->VT G seg r L N t X σ
inductive H1(P Q:(L2->b7)->Prop):Prop where|mk:∀X',P X'->Q X'->H1 P Q
inductive H2(P Q:(L2->b7)->List α->Prop):Prop where|mk:∀X' σ',P X' σ'->Q X' σ'->H2 P Q
inductive H3(σ:List α)(P:α->Prop)(Q:List α->Prop):Prop where|mk:∀x σ',σ=x::σ'->P x->Q σ'->H3 σ P Q
def Ta(X:b7)(a:Nat)(o:Obj):Prop:=jW o=false/\∀r0 g0,X r0 g0->((a,o):Nat×Obj)∈r0\/kt.get a=some o
noncomputable def Holds:Res->b7->List α->Prop|.fin seg r L N t,X,σ=>VT G seg r L N t X σ|.call false false c room pre Y V out next,X,σ=>H1 (bE prog w kt os room c pre X out) λX'=>∀N t d,Holds (next N t d) (X' d) σ|.call true false c room pre Y V out next,X,σ=>H1 (λX'=>1000<=acj/\bO prog w kt os room c pre X out X') λX'=>∀N t d,Holds (next N t d) (X' d) σ|.call Y true c room pre V U out next,X,σ=>H2 (bG prog w kt os acj It bL room c pre X σ out) λX' σ'=>∀N t d,Holds (next N t d) (X' d) σ'|.jf v it Y V next,X,σ=>H3 σ (λx=>It x v it) λσ'=>∀N t,Holds (next N t) (Y7 (bk it) X) σ'|.step false c room tr pre Y V out next,X,σ=>H1 (c9 prog w kt os room c tr pre X out) λX'=>∀N t d,Holds (next N t d) (X' d) σ|.step true c room tr pre Y V out next,X,σ=>H1 (λX'=>1000<=acj/\dt prog w kt os room c tr pre X out X') λX'=>∀N t d,Holds (next N t d) (X' d) σ|.gen c f,X,σ=>∀g,Holds (f g) (X.gen g c) σ|.pos f,X,σ=>∀p,Holds (f p) X σ|.stk f,X,σ=>∀p b,Holds (f p b) X σ|.dG a o r,X,σ=>Ta kt X a o/\Holds r X σ|.stop Y,V,U=>False
noncomputable def fx:Run->b7->List α->Prop|.pX a b r,X,σ=>a=b/\fx r X σ|.slt a b r,X,σ=>a=b/\fx r X σ|.Kf a b r,X,σ=>a=b/\fx r X σ|.dG a o r,X,σ=>Ta kt X a o/\fx r X σ|.fin seg r L N t,X,σ=>VT G seg r L N t X σ|.call false false c room pre Y V out next,X,σ=>H1 (bE prog w kt os room c pre X out) λX'=>∀N t d SL,fx (next N t d SL) (X' d) σ|.call true false c room pre Y V out next,X,σ=>H1 (λX'=>1000<=acj/\bO prog w kt os room c pre X out X') λX'=>∀N t d SL,fx (next N t d SL) (X' d) σ|.call Y true c room pre V U out next,X,σ=>H2 (bG prog w kt os acj It bL room c pre X σ out) λX' σ'=>∀N t d SL,fx (next N t d SL) (X' d) σ'|.jf v it Y V next,X,σ=>H3 σ (λx=>It x v it) λσ'=>∀N t SL,fx (next N t SL) (Y7 (bk it) X) σ'|.step false c room tr pre Y V out next,X,σ=>H1 (c9 prog w kt os room c tr pre X out) λX'=>∀N t d SL,fx (next N t d SL) (X' d) σ|.step true c room tr pre Y V out next,X,σ=>H1 (λX'=>1000<=acj/\dt prog w kt os room c tr pre X out X') λX'=>∀N t d SL,fx (next N t d SL) (X' d) σ|.gen c f,X,σ=>∀g,fx (f g) (X.gen g c) σ|.pos f,X,σ=>∀p,fx (f p) X σ|.stk f,X,σ=>∀p b,fx (f p b) X σ|.stop Y,V,U=>False|.zZ Y,V,U=>False|.need ..,Y,V=>False
theorem H1.ex(h:H1 P Q):∃X',P X'/\Q X':=let⟨X',d,q⟩:=h;⟨X',d,q⟩
theorem H1.imp{Q':(L2->b7)->Prop}(h:H1 P Q)(f:∀X',Q X'->Q' X'):H1 P Q':=let⟨X',d,q⟩:=h;⟨X',d,f X' q⟩
theorem H2.imp{P Q Q':(L2->b7)->List α->Prop}(h:H2 P Q)(f:∀X' σ',Q X' σ'->Q' X' σ'):H2 P Q':=let⟨X',σ',d,q⟩:=h;⟨X',σ',d,f X' σ' q⟩
theorem H3.imp{σ:List α}{P:α->Prop}{Q Q':List α->Prop}(h:H3 σ P Q)(f:∀σ',Q σ'->Q' σ'):H3 σ P Q':=let⟨x,σ',e,d,q⟩:=h;⟨x,σ',e,d,f σ' q⟩
theorem Holds.run(r:Res):∀(X:b7)(σ:List α),Holds prog w kt os acj It bL G r X σ->fx prog w kt os acj It bL G r.run X σ:=by
 induction r with
 |fin=>exact λz z h=>h
 |stop=>exact λz z h=>h
 |call e seg c room pre N t out next i=>
  cases seg with
  |false=>cases e<;>exact λz z h=>H1.imp h λz q N t d z=>i N t d _ _ (q N t d)
  |true=>cases e<;>exact λz z h=>H2.imp h λz z q N t d z=>i N t d _ _ (q N t d)
 |step e c room tr pre N t out next i=>cases e<;>exact λz z h=>H1.imp h λz q N t d z=>i N t d _ _ (q N t d)
 |jf v it N t next i=>exact λz z h=>H3.imp h λz q N t z=>i N t _ _ (q N t)
 |gen c f i=>exact λz z h g=>i g _ _ (h g)
 |pos f i=>exact λz z h p=>i p _ _ (h p)
 |stk f i=>exact λz z h p b=>i p b _ _ (h p b)
 |dG a o r i=>exact λz z h=>⟨h.1,i _ _ h.2⟩
theorem fx.ofS(r:Run):∀(X:b7)(σ:List α),fx prog w kt os acj It bL G r.S X σ->r.A=r.B->fx prog w kt os acj It bL G r X σ:=by
 induction r with
 |pX a b r i=>intro X σ h e;injection e with e1 e2;exact⟨e1,i X σ h e2⟩
 |slt a b r i=>intro X σ h e;injection e with e1 e2;exact⟨e1,i X σ h e2⟩
 |Kf a b r i=>intro X σ h e;injection e with e1 e2;exact⟨e1,i X σ h e2⟩
 |dG a o r i=>intro X σ h e;exact⟨h.1,i X σ h.2 e⟩
 |call e seg c room pre N t out next i=>
  intro X σ h q;have j:=λN t d SL=>et (et (et (et (Ob.Kz q) N) t) d) SL;cases seg with
  |false=>cases e<;>exact H1.imp h λz h N t d SL=>i N t d SL _ _ (h N t d SL) (j N t d SL)
  |true=>cases e<;>exact H2.imp h λz z h N t d SL=>i N t d SL _ _ (h N t d SL) (j N t d SL)
 |jf v it N t next i=>
  intro X σ h q;exact H3.imp h λz h N t SL=>i N t SL _ _ (h N t SL) (et (et (et (et (Ob.Kz q) N) t) ⟨λn=>n,λz=>.none,λz=>[]⟩) SL)
 |step e c room tr pre N t out next i=>
  intro X σ h q;have j:=λN t d SL=>et (et (et (et (Ob.Kz q) N) t) d) SL;cases e<;>exact H1.imp h λz h N t d SL=>i N t d SL _ _ (h N t d SL) (j N t d SL)
 |gen c f i=>intro X σ h q;exact λg=>i g _ _ (h g) (et (Ob.acr q) g)
 |pos f i=>intro X σ h q;exact λp=>i p _ _ (h p) (et (Ob.acs q) p)
 |stk f i=>intro X σ h q;exact λp b=>i p b _ _ (h p b) (et (et (Ob.act q) p) b)
 |fin=>intro X σ h _;exact h
 |stop=>intro X σ h _;exact h
 |zZ=>intro X σ h _;exact h
 |need=>intro X σ h _;exact h
end
end
section
variable{acj f room room':Nat}{k:Result->Sem Fin}{A:Around}{fs:List Frame}{p:Pos}{l:List Nat}{env:Env}{L:bH}{fo:Option Nat}{fr:Option (List Env)}{a:Addr}{q:Option Value}{o:Obj}{c':Code}
section
variable(prog:Program)(w:World)(kt:KT)(os:OsState)
structure En where(A:Around)(fs₀:List Frame)(R:Result->Shared->Prop)(PP:End->Shared->Prop)
variable(E:En)
noncomputable def cb:KO->List Frame|.fQ Y=>E.fs₀|.sJ c l k p Y κ=>.ret k none false l c p []::cb κ|Y=>[]
def aroundOf:KO->Around|.ret c hd Y V κ=>((aroundOf κ).under c).mark hd|.plain c Y V κ=>E.A.over c (cb E κ)|Y=>E.A
noncomputable def endOf:KO->Result->Shared->Prop|.base Y=>E.R|.ret c Y k V κ=>λr b=>wpOwn (model prog w) (aroundOf E κ) c (k r) (postC prog w (aroundOf E κ) (endOf κ)) (postE (endOf κ)) b|.plain c k Y κ=>λr b=>SegX (model prog w) E.A c (k r) (cb E κ) b E.PP|Y=>λz z=>False
def b5(c:Code)(κ:KO)(t:Sem Fin)(s:Shared):Prop:=match κ.dh with
 |true=>SegX (model prog w) E.A c t (cb E κ) s E.PP
 |false=>wpOwn (model prog w) (aroundOf E κ) c t (postC prog w (aroundOf E κ) (endOf prog w E κ)) (postE (endOf prog w E κ)) s
noncomputable def lA(acj:Nat):KO->Nat->Prop|.base Y,room=>gY room E.A|.fQ d,room=>gY (acj%1000) E.A/\De E.fs₀ d/\∀A,gY (acj%1000) A->Kg room A E.fs₀|.ret c hd k b κ,room=>lA acj κ b/\κ.dh=false/\okMark hd=true/\(aroundOf E (.ret c hd k b κ)).depth+fR room<=oG/\(aroundOf E (.ret c hd k b κ)).units+room<=sL|.sJ c l k p b κ,room=>lA acj κ b/\κ.dh=true/\∀A,gY (acj%1000) A->Kg room A (cb E (.sJ c l k p b κ))|.plain c k b κ,room=>lA acj κ b/\κ.dh=true/\gY room (aroundOf E (.plain c k b κ))
theorem lA.xH{κ:KO}(h:lA E acj κ room)(d:κ.dh=true):gY (acj%1000) E.A/\∀A,gY (acj%1000) A->Kg room A (cb E κ):=by
 induction κ generalizing room with
 |fQ=>exact⟨h.1,h.2.2⟩
 |sJ c l k p b κ e=>
  exact⟨(e h.1 h.2.1).1,h.2.2⟩
 |base=>cases d
 |ret=>cases d
 |plain=>cases d
theorem lA.hdA{κ:KO}(h:lA E acj κ room)(d:κ.dh=false):(aroundOf E κ).handled=κ.hd:=by
 induction κ generalizing room with
 |base=>exact h.hd
 |ret c hd k b κ e=>
  show hd.or (aroundOf E κ).handled=hd.or κ.hd;rw[e h.1 h.2.1]
 |plain c k b κ e=>exact h.2.2.hd
 |fQ=>cases d
 |sJ=>cases d
theorem lA.dA{κ:KO}(h:lA E acj κ room)(d:κ.dh=false):(aroundOf E κ).depth+fR room<=oG/\(aroundOf E κ).units+room<=sL:=by
 cases κ with
 |base=>exact⟨h.depth,h.units⟩
 |ret c hd k b κ=>exact h.2.2.2
 |plain c k b κ=>exact⟨h.2.2.depth,h.2.2.units⟩
 |fQ=>cases d
 |sJ=>cases d
theorem lA.ok{κ:KO}(h:lA E acj κ room)(b:κ.dh=false)(hd:κ.hd=none):gY room (aroundOf E κ):=
 ⟨(h.hdA E b).trans hd,(h.dA E b).1,(h.dA E b).2⟩
theorem lA.call{κ:KO}{c:Code}{d:Option Value}(h:lA E acj κ room)(e:κ.dh=false)(g:okMark d=true)(i:gi c room=some room'):
  lA E acj (.ret c d k room κ) room':=by
 have a:=h.dA E e;have b:=iU i;refine⟨h,e,g,?_,?_⟩
 ·exact bv b.1 a.1
 ·exact bv b.2 a.2
theorem lA.plain{κ:KO}{c:Code}(h:lA E acj κ room)(d:κ.dh=true)(e:gi c room=some room'):
  lA E acj (.plain c k room κ) room':=by
 obtain⟨g,i⟩:=h.xH E d;have f:=i _ g;have b:=iU e;refine⟨h,d,f.hd,?_,?_⟩
 ·exact bv b.1 f.depth
 ·exact bv b.2 f.units
theorem Kg.push{c:Code}{l:List Value}(f:Kg room A fs)(d:gi c room=some room'):
  Kg room' A (.ret k none false l c p []::fs):=by
 have b:=iU d;refine⟨?_,?_,?_,?_,?_⟩
 ·rw[marksOver_cons];have:=f.hd;cases q:marksOver fs (A.handled,A.handled)with
  |mk x y=>
   rw[q]at this;exact this
 ·show A.depth+frameCount ((c,p)::_)+fR room'<=oG;rw[frameCount_cons];exact ad3 b.1 f.depth
 ·show A.units+unitsOf ((c,p)::_)+room'<=sL;rw[unitsOf_cons];exact ad3 b.2 f.units
 ·rw[splitAtGen_ret,f.split];rfl
 ·rw[List.any_cons,f.bare];rfl
theorem lA.push{κ:KO}{c:Code}{l:List Value}(h:lA E acj κ room)(b:κ.dh=true)(d:gi c room=some room'):
  lA E acj (.sJ c l k p room κ) room':=
 ⟨h,b,λA e=>((h.xH E b).2 A e).push d⟩
def KeysIn(l:List Nat)(L:bH)(fo:Option Nat):Prop:=∀f∈l,(∃o,((f,o):Nat×Obj)∈L/\jW o=true/\o.cls=.type lO)\/fo=some f
def KD(L:bH)(fo:Option Nat)(env:Env):Prop:=ju L env\/(f7 env=true/\∃a,fo=some a/\env.frame=some a)
theorem KE{c:Code}(h:P5 c=some l)(b:env∈c.envs):f7 env=true/\∃f,env.frame=some f/\f∈l:=by
 unfold Code.envs at b;unfold P5 at h;cases d:c.isFrame with
 |false=>rw[d]at b;cases b
 |true=>
  rw[d]at h b;cases g:c.env? with
  |none=>rw[g]at b;cases b
  |some e=>
   rw[g]at h b;have:env=e:=by simpa using b
   subst this;dsimp only at h;cases hn:f7 env with
   |false=>rw[hn]at h;cases h
   |true=>
    rw[hn]at h;cases i:env.frame with
    |none=>rw[i]at h;cases h
    |some f=>
     rw[i]at h;injection h with h;subst h;exact⟨rfl,f,rfl,.head _⟩
theorem oH{x y:Option (List Nat)}(h:Xt x y=some l):∃a b,x=some a/\y=some b/\l=a++b:=by
 cases x with
 |none=>cases h
 |some a=>cases y with
  |none=>cases h
  |some b=>injection h with h;exact⟨a,b,rfl,rfl,h.symm⟩
theorem xI(hn:f7 env=true)(e:env.frame=some f)(m:f∈l)(b:KeysIn l L fo):KD L fo env:=by
 rcases b f m with⟨o,ho,hd⟩|q
 ·exact .inl ⟨hn,f,o,e,ho,hd⟩
 ·exact .inr ⟨hn,f,q,e⟩
theorem z3{c:Code}(h:P5 c=some l)(b:KeysIn l L fo):∀env∈c.envs,KD L fo env:=λenv he=>by
 obtain⟨a,f,e,m⟩:=KE h he;exact xI a e m b
theorem sM{c:Code}{l:List Value}:envsOf ((Frame.ret k none false l c p []::fs).map Frame.where_)=c.envs++envsOf (fs.map Frame.where_):=by
 exact envsOf_cons c p _
theorem z4{c:Code}(h:P5 c=some l)(m:f∈l):∃env∈c.envs,env.frame=some f:=by
 unfold P5 at h;unfold Code.envs;cases d:c.isFrame with
 |false=>rw[d]at h;injection h with h;subst h;cases m
 |true=>
  rw[d]at h;cases i:c.env? with
  |none=>rw[i]at h;injection h with h;subst h;cases m
  |some e=>
   rw[i]at h;dsimp only at h;cases hn:f7 e with
   |false=>rw[hn]at h;cases h
   |true=>
    rw[hn]at h;cases b:e.frame with
    |none=>rw[b]at h;cases h
    |some g=>
     rw[b]at h;injection h with h;subst h;have:f=g:=by simpa using m
     subst this;exact⟨e,by simp,b⟩
theorem sO{κ:KO}(e:lA E acj κ room)(g:κ.dh=true)(h:Gg κ=some l)(i:KeysIn l L fo):∀env∈envsOf ((cb E κ).map Frame.where_),KD L fo env:=by
 induction κ generalizing room l with
 |fQ v=>
  intro env m;obtain⟨a,f,j,b⟩:=e.2.1.1 env m;subst j;have:[f]=l:=by injection h
  subst this;exact xI a b (.head _) i
 |sJ c l' k p d κ n=>
  obtain⟨x,y,r,u,rfl⟩:=oH h;intro env m;rw[show cb E (.sJ c l' k p d κ)=.ret k none false l' c p []::cb E κ from rfl,sM]at m;rcases dw.mp m with m|m
  ·exact z3 r (λf m=>i f (dQ _ m)) env m
  ·exact n e.1 e.2.1 u (λf m=>i f (dp _ m)) env m
 |base=>cases g
 |ret=>cases g
 |plain=>cases g
theorem z5{κ:KO}(g:lA E acj κ room)(i:κ.dh=true)(h:Gg κ=some l)(m:f∈l):∃env∈envsOf ((cb E κ).map Frame.where_),env.frame=some f:=by
 induction κ generalizing room l with
 |fQ n=>
  cases n with
  |none=>injection h with h;subst h;cases m
  |some a=>
   have:[a]=l:=by injection h
   subst this;have:f=a:=by simpa using m
   subst this;have ne:=g.2.1.2 f rfl;cases q:envsOf (E.fs₀.map Frame.where_)with
   |nil=>exact absurd q ne
   |cons env es=>
    have j:env∈envsOf (E.fs₀.map Frame.where_):=by rw[q];exact .head _
    obtain⟨_,a,ea,b⟩:=g.2.1.1 env j;exact⟨env,by show env∈envsOf (E.fs₀.map Frame.where_);exact j,by rw[b,<-ea]⟩
 |sJ c l' k p d κ r=>
  obtain⟨x,y,u,v,rfl⟩:=oH h;rw[show cb E (.sJ c l' k p d κ)=.ret k none false l' c p []::cb E κ from rfl,sM];rcases dw.mp m with m|m
  ·obtain⟨env,m,e⟩:=z4 u m;exact⟨env,dQ _ m,e⟩
  ·obtain⟨env,m,e⟩:=r g.1 g.2.1 v m;exact⟨env,dp _ m,e⟩
 |base=>cases i
 |ret=>cases i
 |plain=>cases i
theorem VU{κ:KO}{a:Nat}(d:lA E acj κ room)(e:κ.dh=true)(h:Gg κ=some l)(g:l≠[])(i:∀f∈l,f=a):De (cb E κ) (some a):=by
 refine⟨λenv m=>?_,λb z q=>?_⟩
 ·have:=sO E (L:=[]) d e h (λf m=>.inr (by rw[i f m])) env m;rcases this with⟨_,_,_,_,q,_⟩|q
  ·cases q
  ·exact q
 ·cases l with
  |nil=>exact g rfl
  |cons f l=>
   obtain⟨env,m,_⟩:=z5 E d e h (.head _);rw[q]at m;cases m
theorem P8{κ:KO}(d:lA E acj κ room)(e:κ.dh=true)(h:Gg κ=some []):De (cb E κ) none:=by
 refine⟨λenv m=>?_,λb q=>nomatch q⟩;have:=sO E (L:=[]) (fo:=none) d e h (λf m=>nomatch m) env m;rcases this with⟨_,_,_,_,q,_⟩|⟨_,_,q,_⟩
 ·cases q
 ·cases q
theorem oI{κ:KO}(e:lA E acj κ room)(d:κ.dh=true):κ.root=none:=by
 induction κ generalizing room with
 |fQ=>rfl
 |sJ c l k p b κ g=>exact g e.1 e.2.1
 |base=>cases d
 |ret=>cases d
 |plain=>cases d
def g7(fr:Option (List Env))(L:bH)(fo:Option Nat)(l:List Nat):Prop:=∃es,fr=some es/\(∀env∈es,KD L fo env)/\∀f∈l,∃env∈es,env.frame=some f
theorem g7.push{l':List Nat}{es:List Env}(h:g7 fr L fo l)(d:∀env∈es,KD L fo env)(g:∀f∈l',∃env∈es,env.frame=some f):g7 (pushEnvs es fr) L fo (l'++l):=by
 obtain⟨b,rfl,i,j⟩:=h;refine⟨es++b,by rw[pushEnvs_eq];rfl,λenv m=>?_,λf m=>?_⟩
 ·rcases dw.mp m with m|m
  ·exact d env m
  ·exact i env m
 ·rcases dw.mp m with m|m
  ·obtain⟨env,m,e⟩:=g f m;exact⟨env,dQ _ m,e⟩
  ·obtain⟨env,m,e⟩:=j f m;exact⟨env,dp _ m,e⟩
theorem g7.Tb{x:List Nat}{c:Code}(h:g7 fr L fo l)(b:P5 c=some x)(d:KeysIn x L fo):g7 (pushEnvs c.envs fr) L fo (x++l):=
 h.push (z3 b d) λz m=>z4 b m
theorem g7.c(h:g7 A.frames L fo l)(b:∀a,fo=some a->a∈l):gS A L fo:=
 let⟨es,e,d,g⟩:=h;⟨es,e,d,λa q=>g a (b a q)⟩
theorem KG{κ:KO}(b:lA E acj κ room)(d:κ.dh=true)(h:Gg κ=some l)(i:KeysIn l L fo)(g:gS A L κ.root):g7 (pushEnvs (envsOf ((cb E κ).map Frame.where_)) A.frames) L fo l:=by
 rw[oI E b d]at g;obtain⟨es,e,j⟩:=g.none;have z:g7 A.frames L fo []:=⟨es,e,λenv m=>.inl (j env m),λy m=>nomatch m⟩
 have:=z.push (l':=l) (sO E b d h i) λy m=>z5 E b d h m;rwa [dU]at this
theorem vG{κ:KO}(j:lA E acj κ room)(r:κ.dh=false)(h:Gg κ=some l)(d:KeysIn l L fo)(g:gS E.A L κ.root):g7 (aroundOf E κ).frames L fo l:=by
 induction κ generalizing room l with
 |base u=>
  obtain⟨es,e,g,i⟩:=g;refine⟨es,e,λenv m=>?_,λf m=>?_⟩
  ·rcases g env m with q|⟨hn,a,ea,z⟩
   ·exact .inl q
   ·have:u=some a:=ea;subst this;have:[a]=l:=by injection h
    subst this;exact xI hn z (.head _) d
  ·cases u with
   |none=>injection h with h;subst h;cases m
   |some a=>
    have:[a]=l:=by injection h
    subst this;have:f=a:=by simpa using m
    subst this;exact i f rfl
 |ret c hd k b κ v=>
  obtain⟨x,y,i,n,rfl⟩:=oH h;exact(v j.1 j.2.1 n (λf m=>d f (dp _ m)) g).Tb i λf m=>d f (dQ _ m)
 |plain c k b κ v=>
  obtain⟨x,y,i,n,rfl⟩:=oH h;exact(KG E j.1 j.2.1 n (λf m=>d f (dp _ m)) g).Tb i λf m=>d f (dQ _ m)
 |fQ=>cases r
 |sJ=>cases r
theorem lA.move{E':En}(d:E'.fs₀=E.fs₀)(i:gY (acj%1000) E'.A){κ:KO}(h:lA E acj κ room)(g:κ.dh=true):lA E' acj κ room/\cb E' κ=cb E κ:=by
 induction κ generalizing room with
 |fQ=>exact⟨⟨i,by rw[d];exact h.2.1,λA a=>by rw[d];exact h.2.2 A a⟩,d⟩
 |sJ c l k p b κ j=>
  obtain⟨m,e1⟩:=j h.1 h.2.1;have e:cb E' (.sJ c l k p b κ)=cb E (.sJ c l k p b κ):=by
   show Frame.ret k none false l c p []::cb E' κ=.ret k none false l c p []::cb E κ;rw[e1]
  refine⟨?_,e⟩;exact⟨m,h.2.1,λA a=>by rw[e];exact h.2.2 A a⟩
 |base=>cases g
 |ret=>cases g
 |plain=>cases g
section
variable{prog w E}{c:Code}{κ:KO}{t:Sem Fin}{s:Shared}
theorem b5.of(d:κ.dh=true->SegX (model prog w) E.A c t (cb E κ) s E.PP)(e:κ.dh=false->wpOwn (model prog w) (aroundOf E κ) c t (postC prog w (aroundOf E κ) (endOf prog w E κ)) (postE (endOf prog w E κ)) s):b5 prog w E c κ t s:=by
 unfold b5;cases b:κ.dh with
 |true=>exact d b
 |false=>exact e b
theorem b5.seg(h:b5 prog w E c κ t s)(b:κ.dh=true):SegX (model prog w) E.A c t (cb E κ) s E.PP:=by
 unfold b5 at h;rw[b]at h;exact h
theorem b5.own(h:b5 prog w E c κ t s)(b:κ.dh=false):wpOwn (model prog w) (aroundOf E κ) c t (postC prog w (aroundOf E κ) (endOf prog w E κ)) (postE (endOf prog w E κ)) s:=by
 unfold b5 at h;rw[b]at h;exact h
theorem b5.skim{d:Sem Fin}(z:b5 prog w E c κ d s)(e:PySem.W.X.skim ⟨prog,w.params⟩ 1 t=d):b5 prog w E c κ t s:=by
 subst e;exact .of (λb=>s_skim _ _ _ _ _ _ _ t 1 (z.seg b)) λb=>y_skim _ _ _ _ _ _ _ _ t 1 (z.own b)
theorem b5.load{k:Obj->Sem Fin}(z:b5 prog w E c κ (k o) s)(d:s.heap.get? a=some o):b5 prog w E c κ (.load a q k) s:=
 .of (λb=>s_load _ _ _ _ _ _ _ _ _ _ _ _ _ _ _ d (z.seg b)) λb=>y_load _ _ _ _ _ _ _ _ _ _ _ _ _ _ _ _ d (z.own b)
theorem b5.alive{k:Option Obj->Sem Fin}(z:b5 prog w E c κ (k (some o)) s)(d:s.heap.get? a=some o):b5 prog w E c κ (.loadIfAlive a k) s:=
 .of (λb=>s_alive _ _ _ _ _ _ _ _ _ _ _ _ _ _ d (z.seg b)) λb=>y_alive _ _ _ _ _ _ _ _ _ _ _ _ _ _ _ d (z.own b)
theorem b5.upd{f:Obj->Obj}{k:Unit->Sem Fin}(z:b5 prog w E c κ (k ()) { s with heap:=s.heap.update a f })(d:s.heap.get? a=some o):b5 prog w E c κ (.update a q f k) s:=
 .of (λb=>s_cmd _ _ _ _ _ _ (wpAny_updatePart d (z.seg b))) λb=>wpOwn_bind (wpOwn_of_wpAny (wpAny_updatePart d (z.own b)))
theorem b5.alo{k:Addr->Sem Fin}(z:b5 prog w E c κ (k s.heap.objs.size) { s with heap:=s.heap.push o }):b5 prog w E c κ (.alloc o k) s:=
 .of (λb=>s_cmd _ _ _ _ _ _ (wpAny_alloc (z.seg b))) λb=>wpOwn_bind (wpOwn_of_wpAny (wpAny_alloc (z.own b)))
theorem b5.fresh{k:Tok->Sem Fin}(z:b5 prog w E c κ (k s.toks) { s with toks:=s.toks+1 }):b5 prog w E c κ (.fresh k) s:=
 .of (λb=>s_fresh _ _ _ _ _ _ _ _ _ _ _ _ (z.seg b)) λb=>y_fresh _ _ _ _ _ _ _ _ _ _ _ _ _ (z.own b)
theorem b5.newGen{k:Nat->Sem Fin}(z:b5 prog w E c κ (k s.gens.size) { s with gens:=s.gens.push (.fresh c') }):b5 prog w E c κ (.newGen c' k) s:=
 .of (λb=>s_newGen _ _ _ _ _ _ _ _ _ _ _ _ _ (z.seg b)) λb=>y_newGen _ _ _ _ _ _ _ _ _ _ _ _ _ _ (z.own b)
theorem b5.handled{k:Option Value->Sem Fin}(z:b5 prog w E c κ (k κ.hd) s)(d:lA E acj κ room):b5 prog w E c κ (.handled false k) s:=
 .of (λb=>s_handled _ _ _ _ _ _ _ _ (by
   have f:=(d.xH _ b).2 _ (d.xH _ b).1;have e2:(E.A.over c (cb E κ)).handled=none:=f.hd;rw[e2,show none=κ.hd from by cases κ<;>first|rfl|cases b];exact z.seg b))
  λb=>y_handled _ _ _ _ _ _ _ _ _ (by rw[d.hdA _ b];exact z.own b)
def Tc(E:En)(c:Code)(κ:KO):Around:=match κ.dh with
 |true=>E.A.over c (cb E κ)
 |false=>(aroundOf E κ).under c
theorem KH(d:lA E acj κ room)(hd:κ.hd=none)(g:gi c room=some room'):gY room' (Tc E c κ):=by
 have b:=iU g;unfold Tc;cases e:κ.dh with
 |true=>
  have f:=(d.xH _ e).2 _ (d.xH _ e).1;exact⟨f.hd,bv b.1 f.depth,bv b.2 f.units⟩
 |false=>
  have a:=d.dA _ e;exact⟨(d.hdA _ e).trans hd,bv b.1 a.1,bv b.2 a.2⟩
theorem VV(b:lA E acj κ room)(h:Gg κ=some l)(d:KeysIn l L (fp c))(e:∀a,fp c=some a->a∈l)(g:gS E.A L κ.root):lh (Tc E c κ) c L:=by
 unfold Tc;cases i:κ.dh with
 |true=>exact⟨{ frames:=pushEnvs (envsOf ((cb E κ).map Frame.where_)) E.A.frames },rfl,g7.c (KG _ b i h d g) e⟩
 |false=>exact⟨aroundOf E κ,rfl,g7.c (vG _ b i h d g) e⟩
theorem z6{r:Type}(m:Sem r)(K:r->Sem Fin)(H:Value->Sem Fin)(s:Shared)(i:∀d p,d.code=c->d.In (Tc E c κ)->Sem.wp (model prog w) d m (λa z g=>b5 prog w E c κ (K a) g) (λe z g=>b5 prog w E c κ (H e) g) p s):
  b5 prog w E c κ (m.wrap K H id id) s:=by
 unfold Tc at i;unfold b5 at i ⊢;cases u:κ.dh with
 |false=>
  rw[u]at i;intro d p j b;refine P7 d K H _ _ m ?_;exact eE _ _ _ (λa h g hz=>hz d h j b) (λe h g hz=>hz d h j b) _ _ (i d p j (j▸b.in))
 |true=>
  rw[u]at i;rintro d p rfl b;exact runs_wrap_of_wp K H id id m (i (d.over (cb E κ)) p rfl (b.over _)) (λa h g n=>n d h rfl b) (λx h g n=>n d h rfl b)
def Goes(prog:Program)(w:World)(E:En)(c:Code)(κ:KO)(s:Shared):Prop:=match κ.dh with
  |true=>SegX (model prog w) E.A c (denote table c) (cb E κ) s E.PP
  |false=>codeAny (model prog w) (aroundOf E κ) c (endOf prog w E κ) s
theorem b5.goes(z:b5 prog w E c κ (denote table c) s):Goes prog w E c κ s:=by
 unfold Goes;cases b:κ.dh with
 |true=>exact z.seg b
 |false=>exact y_code prog w _ _ _ _ (z.own b)
theorem Goes.seg(h:Goes prog w E c κ s)(b:κ.dh=true):SegX (model prog w) E.A c (denote table c) (cb E κ) s E.PP:=by
 unfold Goes at h;rw[b]at h;exact h
theorem Goes.own(h:Goes prog w E c κ s)(b:κ.dh=false):codeAny (model prog w) (aroundOf E κ) c (endOf prog w E κ) s:=by
 unfold Goes at h;rw[b]at h;exact h
theorem b5.again(z:Goes prog w E c' κ s)(q:xC c'=true):b5 prog w E c κ (.pure (.again c')) s:=by
 rw[Ih]at q;exact .of (λb=>s_again _ _ _ _ _ _ _ _ q (z.seg b)) λb=>y_pure _ _ _ _ _ _ _ _ _ (y_again _ _ _ _ _ _ q (z.own b))
end
end
end
section
variable{prog:Program}{w:World}{A:Around}{R:Result->Shared->Prop}{s:Shared}{a cd:Addr}{args:Args}{o:Obj}{fd:FuncData}
theorem KI(D:s.heap.get? a=some o)(E:o.data=.func fd)(j:fd.scope.isGenerator=false)(n:fd.scope.isCoroutine=false)(k:fd.code=.ref cd)(g:(A.under (.call (.ref a) args)).depth<recursionLimit)(h:wpOwn (model prog w) A (.call (.ref a) args) (xE a fd args (.ref cd)) (postC prog w A R) (postE R) s):codeAny (model prog w) A (.call (.ref a) args) R s:=by
 refine y_code prog w _ _ _ _ ?_;intro i p x l;have h:=h i p x l;have r:=x▸l.in;show Sem.wp (model prog w) i (callAny (.ref a) args) _ _ p s;show Sem.wp (model prog w) i (load a >>= _) _ _ p s;rw[jF];refine⟨o,D,?_⟩;rw[Sem.wp_pure,E];simp only[callFunction,j,n,k];rw[jF];unfold xE at h;rw[k]at h;rw[iH]at h;refine eE _ _ _ ?_ (λZ Z Z z=>z) _ _ h;intro q d s₁ h;have key:∀(c:Str)(d:Pos)(s₁:Shared),Sem.wp (model prog w) i ((bindArgs fd args).bind λb=>
   (newFunctionEnv fd.scope fd.globals fd.closure b (c++".<locals>.") (some a) (.ref cd) none fd.builtins).bind λenv=>
   .load cStatics none λo=>match m8 o with
    |true=>match fd.body with
     |.stmts b=>.pure (.again (.func b env))
     |.expr e=>.pure (.again (.expr e env))
    |false=>.unsupported "limit") (λa Z f=>postC prog w A R a f) (λe Z f=>postE R e f) d s₁->
   Sem.wp (model prog w) i (do
    let env<-newFunctionEnv fd.scope fd.globals fd.closure (<-bindArgs fd args) (c++".<locals>.") (some a) (.ref cd) none fd.builtins
    enterFrame
    again (match fd.body with
     |.stmts b=>.func b env
     |.expr e=>.expr e env)) (λa Z f=>postC prog w A R a f) (λe Z f=>postE R e f) d s₁:=by
  intro c d s₁ h;rw[iH]at h;rw[jF];refine eE _ _ _ ?_ (λZ Z Z z=>z) _ _ h;intro b y B h;rw[iH]at h;rw[jF];refine eE _ _ _ ?_ (λZ Z Z z=>z) _ _ h;intro env m s₃ h;obtain⟨F,u,h⟩:=h;dsimp only at h;cases v:m8 F with
  |false=>rw[v]at h;exact h.elim
  |true=>
   rw[v]at h;have z:wpAny (model prog w) (A.under (.call (.ref a) args)) (enterFrame >>= λZ=>again (match fd.body with
     |.stmts b=>.func b env
     |.expr e=>.expr e env)) (λa f=>postC prog w A R a f) (λe f=>postE R e f) s₃:=by
    refine bI (xB (kA u v) g ?_);refine ck ?_;cases C:fd.body with
    |stmts b=>rw[C]at h;exact h
    |expr e=>rw[C]at h;exact h
   exact z i m r
 cases q with
 |str q t=>exact key q d s₁ h
 |_=>exact key fd.qualname d s₁ h
theorem Ij{d:PySem.Ctx}(f:d.In A){p:Pos}{b:List Stmt}{env:Env}{nm g:Str}{Q:Fin->Shared->Prop}{E:Value->Shared->Prop}(h:Sem.wp (model prog w) d (oE (.func b env) nm g) (λa y c=>Q a c) (λe y c=>E e c) p s):
  Sem.wp (model prog w) d (newGenerator (.func b env) nm g) (λv y c=>Q (.done (.ret v)) c) (λe y c=>E e c) p s:=by
 have z:wpAny (model prog w) A (newGenerator (.func b env) nm g) (λv c=>Q (.done (.ret v)) c) E s:=by
  refine bI (wpAny_newGen (bI (wpAny_mkText (bI (wpAny_mkText (jD ?_ (by size_fits)))))));have i:=h;unfold oE jX at i;exact i
 exact z d p f
theorem Ik(G:s.heap.get? a=some o)(H:o.data=.func fd)(j:fd.scope.isGenerator=true)(r:fd.scope.isCoroutine=false)(k:fd.code=.ref cd)(g:(A.under (.call (.ref a) args)).depth<recursionLimit)(h:wpOwn (model prog w) A (.call (.ref a) args) (rL a fd args (.ref cd)) (postC prog w A R) (postE R) s):codeAny (model prog w) A (.call (.ref a) args) R s:=by
 refine y_code prog w _ _ _ _ ?_;intro i p y l;have h:=h i p y l;have m:=y▸l.in;show Sem.wp (model prog w) i (callAny (.ref a) args) _ _ p s;show Sem.wp (model prog w) i (load a >>= _) _ _ p s;rw[jF];refine⟨o,G,?_⟩;rw[Sem.wp_pure,H];simp only[callFunction,j,r,k];rw[jF];unfold rL at h;rw[k]at h;rw[iH]at h;refine eE _ _ _ ?_ (λZ Z Z z=>z) _ _ h;intro q d s₁ h;have key:∀(c:Str)(d:Pos)(s₁:Shared),Sem.wp (model prog w) i ((bindArgs fd args).bind λb=>
   (newFunctionEnv fd.scope fd.globals fd.closure b (c++".<locals>.") (some a) (.ref cd) none fd.builtins).bind λenv=>
   .load cStatics none λo=>match m8 o with
    |true=>match fd.body with
     |.stmts b=>oE (.func b env) fd.name fd.qualname
     |.expr Y=>.unsupported "lambda"
    |false=>.unsupported "limit") (λa Z f=>postC prog w A R a f) (λe Z f=>postE R e f) d s₁->
   Sem.wp (model prog w) i (do
    let env<-newFunctionEnv fd.scope fd.globals fd.closure (<-bindArgs fd args) (c++".<locals>.") (some a) (.ref cd) none fd.builtins
    enterFrame
    ret (<-newGenerator (match fd.body with|.stmts body=>.func body env|.expr e=>.expr e env) fd.name fd.qualname)) (λa Z f=>postC prog w A R a f) (λe Z f=>postE R e f) d s₁:=by
  intro c d s₁ h;rw[iH]at h;rw[jF];refine eE _ _ _ ?_ (λZ Z Z z=>z) _ _ h;intro b B C h;rw[iH]at h;rw[jF];refine eE _ _ _ ?_ (λZ Z Z z=>z) _ _ h;intro env n s₃ h;obtain⟨I,u,h⟩:=h;dsimp only at h;cases v:m8 I with
  |false=>rw[v]at h;exact h.elim
  |true=>
   rw[v]at h;rw[jF];have x:wpAny (model prog w) (A.under (.call (.ref a) args)) enterFrame (λZ f=>f=s₃) (λZ Z=>False) s₃:=xB (kA u v) g rfl;refine eE _ _ _ ?_ (λZ Z Z z=>z.elim) _ _ (x i n m);rintro _ D E rfl;cases F:fd.body with
   |stmts b=>
    rw[F]at h;exact Ij m h
   |expr e=>rw[F]at h;exact h.elim
 cases q with
 |str q t=>exact key q d s₁ h
 |_=>exact key fd.qualname d s₁ h
end
section
variable{s:Shared}{F F' L Lq O R r1:bH}{a j n tag:Nat}{b g:Bool}{o os:List Nat}{ins:jZ}{p:Nat×Obj}{fo:Option Nat}{c:Code}{kt:KT}{G' g1:bR}{X:b7}{t:Sem Fin}{r:Result}{w:Option Value}{l:List Value}
structure Ev(α:Type)where(prog:Program)(w:World)(kt:KT)(os:OsState)(acj:Nat)(It:α->Value->bH->Prop)(bL:Result->bH->bR->Prop)(G:Gl α)(fs₀:List Frame)(rr:bH)(gg:bR)
structure Q(α:Type)where(X:b7)(σ:List α)(A:Around)(F:bH)(FG:bR)(s:Shared)(r0:bH)(g0:bR)(κ:KO)(room:Nat)(SL:SK)(L:bH)(N m tk i:Nat)
section
variable{α:Type}
noncomputable abbrev Q.to(q:Q α)(κ:KO)(room:Nat):Q α:={ q with κ:=κ,room:=room }
noncomputable abbrev Q.up(q:Q α)(s:Shared)(L:bH)(m i:Nat):Q α:={ q with s:=s,L:=L,m:=m,i:=i }
noncomputable abbrev Q.kn(q:Q α)(SL:SK):Q α:={ q with SL:=SL }
noncomputable abbrev Q.new(q:Q α)(s:Shared)(X:b7)(g0:bR):Q α:={ q with s:=s,X:=X,g0:=g0 }
noncomputable abbrev Q.PV(q:Q α)(s:Shared)(X:b7)(r0:bH)(g0:bR)(SL:m9)(L:bH):Q α:=
 { q with X:=X,s:=s,r0:=r0,g0:=g0,SL:=(SL,[]),L:=L,N:=s.heap.objs.size,m:=0,tk:=s.toks,i:=0 }
noncomputable abbrev Q.yl(q:Q α)(σ:List α)(A:Around)(F:bH)(FG:bR):Q α:={ q with σ:=σ,A:=A,F:=F,FG:=FG }
variable(V:Ev α)(q:Q α)
inductive KJ(V:Ev α)(F:bH)(FG:bR)(r:Result)(s:Shared):Prop where|mk:∀ℓ L g,V.G.X' ℓ L g->(V.G.post s.heap.objs.size s.toks ℓ).1=r->Sat V.kt V.os s ((V.G.post s.heap.objs.size s.toks ℓ).2++(L++(V.rr++F))) (g++(V.gg++FG))->KJ V F FG r s
def Ev.P(V:Ev α)(σ:List α)(F:bH)(FG:bR):End->Shared->Prop:=qH V.prog V.w V.kt V.os V.acj V.It V.bL σ F FG
noncomputable def Ev.ea(V:Ev α)(σ:List α)(A:Around)(F:bH)(FG:bR):En:={ A:=A,fs₀:=V.fs₀,R:=KJ V F FG,PP:=V.P σ F FG }
noncomputable def Ev.en:En:=V.ea q.σ q.A q.F q.FG
def Ev.H(V:Ev α)(r:Run)(X:b7)(σ:List α):Prop:=fx V.prog V.w V.kt V.os V.acj V.It V.bL V.G r X σ
def xJ:Prop:=
 V.G.seg=true->∀A s F FG d L g e,Kh V.acj A F->V.G.X' d L g->Sat V.kt V.os s ((V.G.post s.heap.objs.size s.toks d).2++(L++(V.rr++F))) (g++(V.gg++FG))->
  SegX (model V.prog V.w) A e (leafOf (V.G.post s.heap.objs.size s.toks d).1) V.fs₀ s (V.P V.G.Za F FG)
abbrev MK(c:Code)(t:Sem Fin):Prop:=b5 V.prog V.w (V.en q) c q.κ t q.s
structure Std(res:Run):Prop where(ho:V.H res q.X q.σ)(ok:lA (V.en q) V.acj q.κ q.room)(x:q.X q.r0 q.g0)(sat:eF V.kt V.os q.SL.1 q.s (q.L++(q.r0++(V.rr++q.F))) (q.g0++(V.gg++q.FG)))(sz:q.s.heap.objs.size=q.N+q.m)(tk:q.s.toks=q.tk+q.i)(sl:∀a,q.s.heap.objs.size<=a->q.SL.1 a=#[])(fr:1000<=V.acj->gS q.A q.F q.κ.root)(kn:∀p∈q.SL.2,jW p.2=false/\(p∈q.r0\/V.kt.get p.1=some p.2))
noncomputable abbrev Q.run(q:Q α)(ih:Rest)(os:List Nat)(ins:jZ):Run:=ih q.SL q.L q.N q.m q.tk q.i os ins
def z7(f:PU):Prop:=∀c t os ins (q:Q α),Std V q (q.run (f c q.κ q.room t) os ins)->MK V q c t
variable{V q}{res:Run}
theorem Std.as{res':Run}(h:Std V q res)(d:V.H res' q.X q.σ):Std V q res':=⟨d,h.ok,h.x,h.sat,h.sz,h.tk,h.sl,h.fr,h.kn⟩
theorem Std.to{κ:KO}{room:Nat}(h:Std V q res)(e:lA (V.en q) V.acj κ room)(d:κ.root=q.κ.root):Std V (q.to κ room) res:=
 ⟨h.ho,e,h.x,h.sat,h.sz,h.tk,h.sl,λz=>(b8 (gS q.A q.F) d).mpr (h.fr z),h.kn⟩
theorem Std.up{m i:Nat}(h:Std V q res)(d:eF V.kt V.os q.SL.1 s (L++(q.r0++(V.rr++q.F))) (q.g0++(V.gg++q.FG)))(sz:s.heap.objs.size=q.N+m)(tk:s.toks=q.tk+i)(e:q.s.heap.objs.size<=s.heap.objs.size):
  Std V (q.up s L m i) res:=⟨h.ho,h.ok,h.x,d,sz,tk,λa f=>h.sl a (cu e f),h.fr,h.kn⟩
theorem fy{d:Type}{K:d->Run}{o:Option d}(h:Std V q (oR n K o)):∃b,o=some b/\Std V q (K b):=by
 cases o with
 |none=>exact h.ho.elim
 |some b=>exact⟨b,rfl,h⟩
theorem jH{r:Run}(h:Std V q (tR n r b)):b=true/\Std V q r:=by
 cases b with
 |false=>exact h.ho.elim
 |true=>exact⟨rfl,h⟩
theorem lQ{r:Run}(h:Std V q (nR n r b)):b=false/\Std V q r:=by
 cases b with
 |true=>exact h.ho.elim
 |false=>exact⟨rfl,h⟩
theorem oJ{e:Type}{d:jZ->Option e}{K:e->Run}{i:jZ}(h:Std V q (Ii tag a n d K i)):∃b,Std V q (K b):=by
 unfold Ii at h;cases hn:i.isNil with
 |true=>rw[hn]at h;exact h.ho.elim
 |false=>rw[hn]at h;obtain⟨b,_,h⟩:=fy h;exact⟨b,h⟩
theorem oK{f:Nat->List Nat->jZ->Run}(h:Std V q (Kv tag a o ins f)):∃j o' d,Std V q (f j o' d):=by
 cases o with
 |cons j o=>exact⟨j,o,ins,h⟩
 |nil=>obtain⟨z,h⟩:=oJ h;exact⟨_,_,_,h⟩
theorem Std.pX{b:Nat}(h:Std V q (.pX a b res)):a=b/\Std V q res:=⟨h.ho.1,h.as h.ho.2⟩
theorem Std.slt{a b:Array (Option Value)}(h:Std V q (.slt a b res)):a=b/\Std V q res:=⟨h.ho.1,h.as h.ho.2⟩
theorem Std.Kf{a b:Value}(h:Std V q (.Kf a b res)):a=b/\Std V q res:=⟨h.ho.1,h.as h.ho.2⟩
theorem sP(h:getL L j=some p):p∈L:=by
 obtain⟨d,f,e,_⟩:=sI h;rw[e];exact dp _ (.head _)
theorem P9(es:List Nat):∀{sn:Bool}{d:List Nat},Std V q (Ya Lq fo res sn es d)->KeysIn es Lq fo/\(∀a,fo=some a->sn=true\/a∈es)/\Std V q res:=by
 induction es with
 |nil=>
  intro sn d h;refine⟨λy h=>(nomatch h),?_⟩;cases fo with
  |none=>exact⟨λy q=>(nomatch q),h⟩
  |some a=>obtain⟨e,h⟩:=jH h;exact⟨λy y=>.inl e,h⟩
 |cons f es ih=>
  intro sn d h;cases d with
  |nil=>exact(show False from h.ho).elim
  |cons j d=>
   cases j with
   |zero=>
    obtain⟨a,rfl,h⟩:=fy h;obtain⟨e,h⟩:=h.pX;obtain⟨k,_,i⟩:=ih h;subst e;exact⟨λx m=>(c4.mp m).elim (λe=>.inr (b8 some e.symm)) (k x),λa q=>.inr (by injection q with q;exact q▸.head _),i⟩
   |succ j=>
    obtain⟨p,q,h⟩:=fy h;obtain⟨hd,h⟩:=jH h;obtain⟨u,h⟩:=h.Kf;obtain⟨e,h⟩:=h.pX;obtain⟨k,v,h⟩:=ih h;exact⟨λx m=>(c4.mp m).elim (λz=>.inl ⟨p.2,by rw[z,e];exact sP q,hd,u⟩) (k x),λa q=>(v a q).imp id (.tail _),h⟩
theorem Gj{es:Option (List Nat)}{d:List Nat}(h:Std V q (frG Lq fo res es d)):∃l,es=some l/\KeysIn l Lq fo/\(∀a,fo=some a->a∈l)/\Std V q res:=by
 obtain⟨l,e,h⟩:=fy h;obtain⟨a,b,c⟩:=P9 _ h;exact⟨l,e,a,λx q=>(b x q).elim (λq=>nomatch q) id,c⟩
theorem KL(es:List Nat):Std V q (VO a res es)->(∀f∈es,f=a)/\Std V q res:=by
 induction es with
 |nil=>exact λh=>⟨λy h=>(nomatch h),h⟩
 |cons f es ih=>
  intro h;obtain⟨e,h⟩:=h.pX;obtain⟨k,h⟩:=ih h;exact⟨λx m=>(c4.mp m).elim (λz=>z.trans e) (k x),h⟩
theorem Qa(d:q.κ.dh=true)(h:Std V q (frS (fp c) res (Gg q.κ))):De (cb (V.en q) q.κ) (fp c)/\Std V q res:=by
 obtain⟨l,e,h⟩:=fy h;cases f:fp c with
 |none=>
  rw[f]at h;obtain⟨e2,h⟩:=jH h;exact⟨P8 _ h.ok d (xr.1 e2▸e),h⟩
 |some a=>
  rw[f]at h;obtain⟨e2,h⟩:=lQ h;obtain⟨x,h⟩:=KL _ h;exact⟨VU _ h.ok d e (λz=>by rw[z]at e2;cases e2) x,h⟩
theorem Qb{os:OsState}{SL:m9}{P:bH}(d:L.Perm (P++R))(h:eF kt os SL s (L++F') G'):Sat kt os s (P++F') G':=
 eF.sat (h.perm (L':=(P++F')++R) ((d.append_right _).trans (by
  rw[bQ,bQ];exact(fu).append_left P))).drop
theorem KN{os:OsState}{P r0 d:bH}{g0:bR}(e:(P++r0).Perm (d++r1))(f:g0.Perm g1)(h:Sat kt os s (P++(r0++F')) (g0++G')):Sat kt os s (d++(r1++F')) (g1++G'):=by
 refine(h.perm ?_).fv (f.append_right _);rw[<-bQ,<-bQ];exact e.append_right _
theorem ve(a b c:bH):(a++(b++c)).Perm (b++(a++c)):=by
 rw[<-bQ,<-bQ];exact fu.append_right _
theorem apR(a b:bH):PySem.W.R.appendR a b=a++b:=(et (et (et PySem.W.R.appendR_eq (Nat×Obj)) a) b).symm
theorem Std.out{P:bH}(h:Std V q res)(d:q.L.Perm (P++R)):Sat V.kt V.os q.s (P++(q.r0++(R++(V.rr++q.F)))) (q.g0++(V.gg++q.FG)):=eF.sat (h.sat.perm ((d.append_right _).trans (by
 rw[bQ];exact(ve _ _ _).append_left _)))
theorem Yf{σ:List α}{A:Around}{FG:bR}{d:m9->Run}(h:lA (V.en (q.yl σ A F FG)) V.acj q.κ q.room)(fr:1000<=V.acj->gS A F q.κ.root)(i:X r1 g1)(e:Sat V.kt V.os s (L++(r1++(V.rr++F))) (g1++(V.gg++FG)))(H:∀SL,V.H (d SL) X σ):∃SL,Std V ((q.yl σ A F FG).PV s X r1 g1 SL L) (d SL):=by
 obtain⟨SL,e⟩:=e;obtain⟨SL,e,f⟩:=e.fit;exact⟨SL,H SL,h,i,e,rfl,rfl,f,fr,λz m=>nomatch m⟩
theorem apS{os:OsState}{r:bH}{g:bR}(h:Sat kt os s (O++(r++(R++F))) g):Sat kt os s (PySem.W.R.appendR O R++(r++F)) g:=h.perm (by
 rw[apR,bQ];exact fZ _ (ve _ _ _))
theorem Std.PV{d:m9->Run}(h:Std V q res)(e:X r1 g1)(f:Sat V.kt V.os s (O++(r1++(R++(V.rr++q.F)))) (g1++(V.gg++q.FG)))(H:∀SL,V.H (d SL) X q.σ):
  ∃SL,Std V (q.PV s X r1 g1 SL (PySem.W.R.appendR O R)) (d SL):=Yf h.ok h.fr e (apS f) H
theorem Td(h:Std V q res)(d:1000<=V.acj):gS q.A (R++(V.rr++q.F)) q.κ.root:=(h.fr d).mono λz m=>dp _ (dp _ m)
theorem KeysIn.app{l:List Nat}{L':bH}(h:KeysIn l L fo):KeysIn l (L++L') fo:=λf m=>(h f m).imp (λ⟨o,e,d⟩=>⟨o,dQ _ e,d⟩) id
variable{ih:PU}
theorem lR(y:z7 V ih){z:YV (Sem Fin)}(h:Std V q (sK ih c q.κ q.room t q.L q.N q.m q.tk q.i z)):MK V q c t:=by
 obtain⟨hh,h⟩:=jH h;obtain⟨room',v,h⟩:=fy h;obtain⟨p,hp,h⟩:=fy h
 replace hp:=jY hp
 replace hh:=xc.1 hh
 have go:∀{A:Run}{X':L2->b7},Std V q A->(∀f k e u,V.H (ih c q.κ q.room (z.2.2.2 f k e).1 (u,[]) (PySem.W.R.appendR (z.2.2.2 f k e).2.1 p.2) f 0 k 0 [] (z.2.2.2 f k e).2.2) (X' e) q.σ)->
   ∀(s':Shared) e r1 g1,X' e r1 g1->Sat V.kt V.os s' ((z.2.2.2 s'.heap.objs.size s'.toks e).2.1++(r1++(p.2++(V.rr++q.F)))) (g1++(V.gg++q.FG))->
   b5 V.prog V.w (V.en q) c q.κ (z.2.2.2 s'.heap.objs.size s'.toks e).1 s':=λ{_ X'} h H s' e r1 g1 B C=>by
  obtain⟨SL,bN⟩:=h.PV B C (λSL=>H s'.heap.objs.size s'.toks e SL);exact y _ _ _ _ _ bN
 cases he:z.1 with
 |false=>
  rw[he]at h;obtain⟨X',d,H⟩:=h.ho;exact d (Tc (V.en q) c q.κ) (λt s=>b5 V.prog V.w (V.en q) c q.κ t s) z6 (KH h.ok hh v) q.s (p.2++(V.rr++q.F)) (V.gg++q.FG) q.r0 q.g0 h.x (h.out hp) (go h H)
 |true=>
  rw[he]at h;obtain⟨l,D,E,G,h⟩:=Gj h;obtain⟨X',⟨I,d⟩,H⟩:=h.ho;exact d (Tc (V.en q) c q.κ) (λt s=>b5 V.prog V.w (V.en q) c q.κ t s) z6 (KH h.ok hh v) q.s (p.2++(V.rr++q.F)) (V.gg++q.FG) q.r0 q.g0 (VV h.ok D E.app G (Td h I)) h.x (h.out hp) (go h H)
theorem lS(d:z7 V ih)(h:Std V q (q.run (Gh ih c q.κ q.room t) o ins)):MK V q c t:=by
 cases o with
 |cons j o=>exact d _ _ _ _ _ h
 |nil=>
  have h:Std V q (match ins.step? with
   |some z=>sK ih c q.κ q.room t q.L q.N q.m q.tk q.i z
   |none=>ih c q.κ q.room t q.SL q.L q.N q.m q.tk q.i [] ins):=h
  cases e:ins.step? with
  |some z=>rw[e]at h;exact lR d h
  |none=>rw[e]at h;exact d _ _ _ _ _ h
theorem z8{seg:Bool}(h:Std V q (q.run (VP seg r) o ins)):
  seg=V.G.seg/\KJ V q.F q.FG r q.s/\(seg=true->q.σ=V.G.Za):=by
 obtain⟨ps,h⟩:=oJ h;obtain⟨z,i,h⟩:=fy h;obtain⟨k,m,d⟩:=h.ho;obtain⟨e,r1,g1,er,f,u,v⟩:=m _ _ h.x;refine⟨k,⟨e,r1,g1,f,?_,?_⟩,d⟩
 ·rw[h.sz,h.tk];exact er
 ·rw[h.sz,h.tk];exact KN u v (Qb (jY i) h.sat)
theorem z9(f:z7 V ih)(h:Std V q (q.run (z1 ih r q.κ) o ins))(u:q.κ.dh=false):endOf V.prog V.w (V.en q) q.κ r q.s:=by
 obtain⟨X,σ,A,F,FG,s,r0,g0,κ,room,SL,L,N,m,tk,i⟩:=q;cases κ with
 |base=>exact(z8 h).2.1
 |ret e hd k d κ=>
  have ok:=h.ok;exact b5.own (lS f (h.to ok.1 rfl)) ok.2.1
 |plain e k d κ=>
  have ok:=h.ok;exact b5.seg (lS f (h.to ok.1 rfl)) ok.2.1
 |fQ=>cases u
 |sJ=>cases u
theorem Aa(x:xJ V)(y:z7 V ih)(h:Std V q (q.run (z1 ih r q.κ) o ins))(d:q.κ.dh=true)(c:Code):SegX (model V.prog V.w) q.A c (leafOf r) (cb (V.en q) q.κ) q.s (V.P q.σ q.F q.FG):=by
 obtain⟨X,σ,A,F,FG,s,r0,g0,κ,room,SL,L,N,m,tk,i⟩:=q;cases κ with
 |fQ=>
  obtain⟨B,⟨u,r1,g1,C,er,d⟩,v⟩:=z8 h;have z:=x B.symm A s F FG u r1 g1 c ⟨(h.ok.xH _ rfl).1,λq=>(h.fr q).none⟩ C d;rw[er,<-v rfl]at z;exact z
 |sJ e l k p f κ=>
  have ok:=h.ok;exact s_pop _ _ _ _ _ _ _ r _ rfl k none false l e p [] (b5.seg (lS y (h.to ok.1 rfl)) ok.2.1)
 |base=>cases d
 |ret=>cases d
 |plain=>cases d
theorem sQ(k:xJ V)(i:z7 V ih)(h:Std V q (q.run (z1 ih r q.κ) o ins)):MK V q c (leafOf r):=
 .of (λd=>Aa k i h d c) λd=>by
  have z:=z9 i h d;cases r with
  |ok f=>exact y_pure _ _ _ _ _ _ _ _ _ (y_done _ _ _ _ _ _ z)
  |error e=>exact y_raise _ _ _ _ _ _ _ _ _ (y_err _ _ _ z)
theorem Dh(P:xJ V)(J:z7 V ih){z:YV Result}(K:q.κ.hd=none)(h:Std V q (Y5 ih c q.κ q.room q.L q.N q.m q.tk q.i z)):Goes V.prog V.w (V.en q) c q.κ q.s:=by
 obtain⟨p,hp,h⟩:=fy h
 replace hp:=jY hp
 unfold Goes;cases B:q.κ.dh with
 |false=>
  have go:∀{Q:Run}{X':L2->b7},Std V q Q->(∀k u f C,V.H (z1 ih (z.2.2.2 k u f).1 q.κ (C,[]) (PySem.W.R.appendR (z.2.2.2 k u f).2.1 p.2) k 0 u 0 [] (z.2.2.2 k u f).2.2) (X' f) q.σ)->
    codeAny (model V.prog V.w) (aroundOf (V.en q) q.κ) c (gT V.kt V.os (λk u f=>((z.2.2.2 k u f).1,(z.2.2.2 k u f).2.1)) X' (p.2++(V.rr++q.F)) (V.gg++q.FG)) q.s->
    codeAny (model V.prog V.w) (aroundOf (V.en q) q.κ) c (endOf V.prog V.w (V.en q) q.κ) q.s:=λh H y=>by
   refine dj y λr D ⟨f,r1,g1,G,er,v⟩=>?_;obtain⟨SL,bN⟩:=h.PV G v (λSL=>H D.heap.objs.size D.toks f SL);rw[er];exact z9 J bN B
  rw[B]at h;cases he:z.1 with
  |false=>
   rw[he]at h;obtain⟨X',d,H⟩:=h.ho;exact go h H (d _ q.s (p.2++(V.rr++q.F)) (V.gg++q.FG) q.r0 q.g0 (h.ok.ok _ B K) h.x (h.out hp))
  |true=>
   rw[he]at h;obtain⟨l,S,T,U,h⟩:=Gj h;obtain⟨X',⟨Y,d⟩,H⟩:=h.ho;exact go h H (d _ q.s (p.2++(V.rr++q.F)) (V.gg++q.FG) q.r0 q.g0 (h.ok.ok _ B K) (g7.c (vG _ h.ok B S T.app (Td h Y)) U) h.x (h.out hp))
 |true=>
  rw[B]at h;obtain⟨I,h⟩:=Qa B h;have ho:H2 (bG V.prog V.w V.kt V.os V.acj V.It V.bL q.room c p.1 q.X q.σ (λk u f=>((z.2.2.2 k u f).1,(z.2.2.2 k u f).2.1))) λX' σ'=>
    ∀k u f C,V.H (z1 ih (z.2.2.2 k u f).1 q.κ (C,[]) (PySem.W.R.appendR (z.2.2.2 k u f).2.1 p.2) k 0 u 0 [] (z.2.2.2 k u f).2.2) (X' f) σ':=by
   have ho:=h.ho;generalize z.1=e at ho;cases e<;>exact ho
  obtain⟨X',σ',d,H⟩:=ho;obtain⟨Z,hF⟩:=h.ok.xH _ B;have sat:=h.out hp;refine d (cb (V.en q) q.κ) (p.2++V.rr) V.gg hF I (λA D F FG f r1 g1 c' E G v=>?_) q.A q.s q.F q.FG q.r0 q.g0 ⟨Z,λz=>by have:=h.fr z;rw[oI _ h.ok B]at this;exact this.none⟩ h.x (by rw[bQ];exact sat);have M:=h.ok.move (V.en q) (E':=V.en (q.yl σ' A F FG)) rfl E.1 B;rw[bQ]at v;obtain⟨SL,bN⟩:=Yf M.1 (λz=>by rw[oI _ h.ok B];exact(E.2 z).c) G (apS v) (λSL=>H D.heap.objs.size D.toks f SL);have z:=Aa P J bN B c';rw[show cb (V.en q) q.κ=_ from M.2.symm];exact z
theorem Il(e:VQ V.kt c=some t)(h:Std V q res)(x:q.κ.dh=false)(z:MK V q c t):Goes V.prog V.w (V.en q) c q.κ q.s:=by
 unfold Goes;rw[x];have z:=z.own x;have d:=(h.ok.dA _ x).1;have hd:(aroundOf (V.en q) q.κ).depth+0<1000:=sD (cu (h9 ..) d) (by decide);unfold VQ at e;cases c with
 |call f A=>
  cases f with
  |ref a=>
   dsimp only at e;cases k:V.kt.get a with
   |none=>rw[k]at e;cases e
   |some B=>
    rw[k]at e;dsimp only at e;cases m:B.data with
    |func y=>
     rw[m]at e;dsimp only at e;cases u:y.scope.isCoroutine with
     |true=>rw[u]at e;cases e
     |false=>
      rw[u]at e;cases v:y.code with
      |ref cd=>
       rw[v]at e;injection e with e;cases i:y.scope.isGenerator with
       |true=>
        rw[i]at e;subst e;rw[zW]at z;exact Ik (h.sat.old _ _ k) m i u v hd z
       |false=>
        rw[i]at e;subst e;rw[Db]at z;exact KI (h.sat.old _ _ k) m i u v hd z
      |_=>rw[v]at e;exact nomatch (e)
    |_=>rw[m]at e;exact nomatch (e)
  |_=>exact nomatch (e)
 |_=>exact nomatch (e)
theorem iV(e:xJ V)(d:z7 V ih)(h:Std V q (q.run (Dd V.kt ih c q.κ q.room j) o ins)):Goes V.prog V.w (V.en q) c q.κ q.s:=by
 cases j with
 |zero=>
  have z:=d _ _ _ _ _ h;rw[S9]at z;exact b5.goes z
 |succ j=>cases j with
  |zero=>
   obtain⟨f,h⟩:=jH h;obtain⟨z,h⟩:=oJ h;exact Dh e d (xc.1 f) h
  |succ j=>
   obtain⟨i,h⟩:=lQ h;obtain⟨t,k,h⟩:=fy h;exact Il k h i (d _ _ _ _ _ h)
theorem mH(e:xJ V)(f:z7 V ih)(h:Std V q (q.run (Y6 V.kt ih c q.κ q.room) o ins)):Goes V.prog V.w (V.en q) c q.κ q.s:=by
 obtain⟨j,o',d,h⟩:=oK h;exact iV e f h
theorem KP(h:Std V q res)(k:jW p.2=false/\(p∈q.r0\/V.kt.get p.1=some p.2)):q.s.heap.get? p.1=some p.2:=by
 obtain⟨hd,hp|hp⟩:=k
 ·exact lN hd▸h.sat.own p (dp _ (dQ _ hp))
 ·exact h.sat.old _ _ hp
theorem Ab{K:Obj->Run}{o:Nat}(h:Std V q (VR V.kt K a q.SL.1 q.L o)):∃d,q.s.heap.get? a=some d/\Std V q (K d):=by
 cases o with
 |zero=>
  obtain⟨d,e,h⟩:=fy h;exact⟨d,h.sat.old _ _ e,h⟩
 |succ j=>
  obtain⟨p,e,h⟩:=fy h;obtain⟨ea,h⟩:=h.pX;exact⟨_,ea▸h.sat.own p (dQ _ (sP e)),h⟩
theorem Di(f:z7 V ih){k:Obj->Sem Fin}(h:Std V q (q.run (lP V.prog V.w.params V.kt ih c q.κ q.room (.load a w k)) os ins)):MK V q c (.load a w k):=by
 delta Q.run lP at h
 obtain⟨j,o,ins,h⟩:=oK h;cases d:Nat.beq j 999 with
 |true=>
  rw[d]at h;obtain⟨z,_,h⟩:=fy h;exact lR f h
 |false=>
  rw[d]at h;cases d:Nat.beq j 998 with
  |true=>
   rw[d]at h;obtain⟨z,_,h⟩:=fy h;obtain⟨hd,h⟩:=lQ h;obtain⟨⟨_,i⟩,ho⟩:=h.ho;have kq:jW (a,z.1).2=false/\((a,z.1)∈q.r0\/V.kt.get (a,z.1).1=some (a,z.1).2):=⟨hd,i _ _ h.x⟩
   refine b5.load (f _ _ _ _ (q.kn (q.SL.1,(a,z.1)::q.SL.2)) ⟨ho,h.ok,h.x,h.sat,h.sz,h.tk,h.sl,h.fr,λp m=>?_⟩) (KP h kq);rcases c4.mp m with rfl|m
   ·exact kq
   ·exact h.kn p m
  |false=>
   rw[d]at h;cases d:Nat.ble 1000 j with
   |true=>
    rw[d]at h;obtain⟨p,e,h⟩:=fy h;obtain⟨ea,h⟩:=h.pX;exact b5.load (f _ _ _ _ _ h) (ea▸KP h (h.kn p (sP e)))
   |false=>
    rw[d]at h;obtain⟨u,e,h⟩:=Ab h;exact b5.load (f _ _ _ _ _ h) e
theorem Im(x:z7 V ih){f:Obj->Obj}{k:Unit->Sem Fin}(h:Std V q (q.run (lP V.prog V.w.params V.kt ih c q.κ q.room (.update a w f k)) os ins)):MK V q c (.update a w f k):=by
 delta Q.run lP at h
 obtain⟨j,o,ins,h⟩:=oK h;cases j with
 |zero=>exact h.ho.elim
 |succ j=>
  obtain⟨p,y,h⟩:=fy h;obtain⟨z,h⟩:=lQ h;have fin:∀{d:Obj},f (vF (q.SL.1 p.1) p.2)=vF (q.SL.1 p.1) d->Std V q (.pX a p.1 (ih c q.κ q.room (k ()) q.SL (Ku (λt=>d) q.L j) q.N q.m q.tk q.i o ins))->MK V q c (.update a w f k):=by
   intro d A h;obtain⟨ea,v⟩:=h.pX;subst ea;obtain⟨B,C,e,es⟩:=sI y;have sat:=v.sat;rw[e,bQ]at sat;have u:=eF.update (o':=d) sat z A;refine b5.upd (x _ _ _ _ (q.up { q.s with heap:=q.s.heap.update p.1 f } (Ku (λt=>d) q.L j) q.m q.i) (v.up ?_ ?_ v.tk (nK (Heap.size_after_update ..).symm))) (sat.own p (dp _ (.head _)))
   ·rw[es (λt=>d),bQ];exact u
   ·exact(Heap.size_after_update ..).trans v.sz
  cases hd:jW (f (vF (q.SL.1 p.1) p.2))with
  |true=>
   rw[hd]at h;obtain⟨es,h⟩:=h.slt;refine fin ?_ h;generalize f (vF (q.SL.1 p.1) p.2)=o2 at es hd ⊢;rw[zY (o:=⟨o2.cls,o2.dict,o2.data,#[]⟩) hd,<-es]
  |false=>
   rw[hd]at h;exact fin (lN hd).symm h
theorem Io(u:z7 V ih){d:Obj}{k:Addr->Sem Fin}(h:Std V q (q.run (lP V.prog V.w.params V.kt ih c q.κ q.room (.alloc d k)) os ins)):MK V q c (.alloc d k):=by
 obtain⟨v,h⟩:=lQ h;obtain⟨f,h⟩:vF (q.SL.1 q.s.heap.objs.size) d=d/\Std V q (ih c q.κ q.room (k (q.N+q.m)) q.SL (P2 q.L (q.N+q.m,d)) q.N (q.m+1) q.tk q.i os ins):=by
  cases hd:jW d with
  |false=>rw[hd]at h;exact⟨lN hd,h⟩
  |true=>
   rw[hd]at h;obtain⟨x,h⟩:=jH h;refine⟨?_,h⟩;rw[zY hd,h.sl _ (cO _)];obtain⟨_,_,_,sl⟩:=d;have:sl=#[]:=by rw[<-Array.toArray_toList (xs:=sl),xr.1 x]
   rw[this]
 have e:=eF.alloc h.sat v f;refine b5.alo (?_:MK V (q.up { q.s with heap:=q.s.heap.push d } (P2 q.L (q.N+q.m,d)) (q.m+1) q.i) c (k q.s.heap.objs.size));rw[h.sz];refine u _ _ _ _ _ (h.up ?_ ?_ h.tk ?_)
 ·rw[P4,<-h.sz];exact e.perm (by rw[bQ];exact ve [_] _ _)
 ·rw[Heap.size_push,h.sz];rfl
 ·rw[Heap.size_push];exact oA _
theorem Ip(d:z7 V ih){k:Tok->Sem Fin}(h:Std V q (q.run (lP V.prog V.w.params V.kt ih c q.κ q.room (.fresh k)) os ins)):MK V q c (.fresh k):=by
 have z:MK V (q.up { q.s with toks:=q.s.toks+1 } q.L q.m (q.i+1)) c (k (q.tk+q.i)):=d _ _ _ _ _ (h.up (eF.toks h.sat _) h.sz ((b8 (· + 1) h.tk).trans (Gb ..)) (cO _));rw[<-h.tk]at z;exact b5.fresh z
theorem Dj(u:xJ V)(v:z7 V ih){i:Code}{y:Option Value}{k:Result->Sem Fin}(h:Std V q (q.run (lP V.prog V.w.params V.kt ih c q.κ q.room (.call i y g l k)) os ins)):MK V q c (.call i y g l k):=by
 obtain⟨room',f,h⟩:=fy h;cases d:q.κ.dh with
 |false=>
  rw[d]at h;obtain⟨m,h⟩:=jH h;have z:=mH u v (h.to (h.ok.call _ d m f) rfl);exact .of (λq=>by rw[d]at q;cases q) λt=>y_call _ _ _ _ _ _ _ _ _ _ _ _ _ (λe=>by subst e;simp[okMark]at m) (z.own rfl)
 |true=>
  refine .of (λt=>?_) (λq=>by rw[d]at q;cases q);rw[d]at h;obtain⟨m,h⟩:=jH h;obtain rfl:=xc.1 m;cases A:Kx i with
  |true=>
   rw[A]at h;obtain⟨rfl,h⟩:=lQ h;refine s_call _ _ _ _ _ _ _ _ _ _ _ _ λp=>?_;have h:=h.as (h.ho p);exact(mH u v (h.to (h.ok.push _ d f) rfl)).seg rfl
  |false=>
   rw[A]at h;have z:=mH u v (h.to (h.ok.plain _ d f) rfl);show SegX _ _ _ ((Sem.call i none g l (λr=>.pure r)).wrap k .raise id id) _ _ _;refine s_cmd _ _ _ _ _ _ (x_call ?_ (by intro x;cases x));exact dj (z.own rfl) λr B f=>ck f
theorem Iq(G:z7 V ih){v:Value}{k:Resume->Sem Fin}(h:Std V q (q.run (lP V.prog V.w.params V.kt ih c q.κ q.room (.yield v g l k)) os ins)):MK V q c (.yield v g l k):=by
 obtain⟨f,h⟩:=jH h;obtain⟨rfl,h⟩:=lQ h;obtain⟨z,h⟩:=oJ h;obtain⟨u,I,h⟩:=fy h;obtain⟨e,J,h⟩:=fy h;have K:=jY I;have M:=jY J;obtain⟨x,σ',y,it,H⟩:=h.ho;obtain⟨N,Q⟩:=h.ok.xH _ f;have D:=Q _ N;refine .of (λt=>s_yield _ _ _ _ _ _ _ _ _ _ D.split D.bare λp=>?_) (λq=>by rw[f]at q;cases q);show V.P q.σ q.F q.FG _ _;rw[y];refine⟨v,l,k,c,p,_,u.1,e.1++(q.r0++V.rr),q.g0++V.gg,rfl,it,?_,?_⟩
 ·have d:Sat V.kt V.os q.s ((u.1++((e.1++(q.r0++V.rr))++q.F))++e.2) (q.g0++(V.gg++q.FG)):=eF.sat (h.sat.perm (by
   refine((K.trans (M.append_left _)).append_right _).trans ?_;simp only[bQ];refine fZ _ (fZ _ ?_);refine(ve e.2 q.r0 _).trans (fZ _ ?_);refine(ve e.2 V.rr q.F).trans (fZ _ ?_);exact fu))
  exact bQ q.g0 V.gg q.FG▸d.drop
 ·intro S E F' A i m;obtain⟨B,C⟩:=h.ok.move (V.en q) (E':=V.en (q.yl σ' S F' A)) rfl i.1 f;obtain⟨SL,bN⟩:=Yf B (λz=>by rw[oI _ h.ok f];exact(i.2 z).c) (VS h.x) (by
   have z:=m.perm (L':=e.1++((bk u.1++q.r0)++(V.rr++F'))) (by simp only[bQ];exact ve _ _ _);simp only[bQ]at z ⊢;exact z) (λSL=>H E.heap.objs.size E.toks SL)
  have z:=b5.seg (G _ _ _ _ _ bN) f;rw[show cb (V.en q) q.κ=_ from C.symm];exact z
theorem Ac(y:xJ V)(d:z7 V ih):z7 V (lP V.prog V.w.params V.kt ih):=by
 intro c t os ins q h;cases t with
 |pure fin=>
  cases fin with
  |done f=>exact sQ y d h
  |again u=>
   obtain⟨C,h⟩:=jH h;exact b5.again (mH y d h) C
 |raise e=>exact sQ y d h
 |rule tag k=>exact b5.skim (d _ _ _ _ _ h) rfl
 |«at» w k=>
  cases os with
  |cons j o=>exact b5.skim (d _ _ _ _ _ h) rfl
  |nil=>
   have h:Std V q (match ins.isNil with
    |true=>_
    |false=>match ins.step? with
     |some z=>sK ih c q.κ q.room (.at w k) q.L q.N q.m q.tk q.i z
     |none=>ih c q.κ q.room (k ()) q.SL q.L q.N q.m q.tk q.i [] ins):=h
   cases hn:ins.isNil with
   |true=>rw[hn]at h;exact h.ho.elim
   |false=>
    rw[hn]at h;cases A:ins.step? with
    |some z=>rw[A]at h;exact lR d h
    |none=>rw[A]at h;exact b5.skim (d _ _ _ _ _ h) rfl
 |point l k=>exact b5.skim (d _ _ _ _ _ h) rfl
 |ask k=>exact b5.skim (d _ _ _ _ _ h) rfl
 |load a w k=>exact Di d h
 |update a w f k=>exact Im d h
 |alloc D k=>exact Io d h
 |fresh k=>exact Ip d h
 |handled own k=>
  cases own with
  |true=>exact h.ho.elim
  |false=>exact b5.handled (d _ _ _ _ _ h) h.ok
 |call u hd g l k=>exact Dj y d h
 |yield v g l k=>exact Iq d h
 |stack k=>
  obtain⟨B,h⟩:=lQ h;exact .of (λz=>by rw[B]at z;cases z) λr=>y_stack _ _ _ _ _ _ _ _ _ λp below r=>b5.own (d _ _ _ _ _ (h.as (h.ho p below))) B
 |loadIfAlive a k=>
  delta Q.run lP at h
  obtain⟨j,o,ins,h⟩:=oK h;obtain⟨D,e,h⟩:=Ab h;exact b5.alive (d _ _ _ _ _ h) e
 |newGen u k=>
  exact b5.newGen (d _ _ _ _ (q.new { q.s with gens:=q.s.gens.push (.fresh u) } (q.X.gen q.s.gens.size u) ((q.s.gens.size,.fresh u)::q.g0)) ⟨h.ho q.s.gens.size,h.ok,⟨q.g0,h.x,rfl⟩,eF.newGen h.sat,h.sz,h.tk,h.sl,h.fr,h.kn⟩)
 |_=>exact h.ho.elim
theorem jg(d:xJ V)(n:Nat):z7 V (Ky V.prog V.w.params V.kt n):=by
 induction n with
 |zero=>exact λz z z z z h=>h.ho.elim
 |succ n ih=>exact Ac d ih
end
end
section
variable{fuel j:Nat}{X:b7}{out:Nat->Nat->L2->Result×bH}{pre:bH}{c:Code}{X':L2->b7}
noncomputable def wv(w:World)(a b:Bool):World:=
 let f:String->Bool:=λr=>(@Bool.rec (λz=>Bool) (@Bool.rec (λz=>Bool) (w.params.followText r) b (PySem.W.S.eqLit 2510650655181157320538776789020469319833841985448949215332 r)) a (PySem.W.S.eqLit 10139888712337904147300001983332972444938612 r))
 { w with params:={ w.params with followText:=f } }
theorem Qc(w:World):wv w (w.params.followText "special-get-raises") (w.params.followText "comprehension-iter-twice")=w:=by
 unfold wv;have e:(λr=>@Bool.rec (λz=>Bool) (@Bool.rec (λz=>Bool) (w.params.followText r) (w.params.followText "comprehension-iter-twice") (PySem.W.S.eqLit 2510650655181157320538776789020469319833841985448949215332 r)) (w.params.followText "special-get-raises")
  (PySem.W.S.eqLit 10139888712337904147300001983332972444938612 r))=w.params.followText:=by
  funext r
  rw[<-et (PySem.W.S.eqLit_eq "special-get-raises" 10139888712337904147300001983332972444938612 (by decide +kernel)) r,
   <-et (PySem.W.S.eqLit_eq "comprehension-iter-twice" 2510650655181157320538776789020469319833841985448949215332 (by decide +kernel)) r]
  cases a:r=="special-get-raises" with
  |true=>rw[je.mp a]
  |false=>
   cases b:r=="comprehension-iter-twice" with
   |true=>rw[je.mp b]
   |false=>rfl
 rw[e]
abbrev rV(v:Value):Result:=.ok (.ret v)
abbrev oN:Result:=.ok .next
structure cX where
 c:Code
 pre:bH
 out:Nat->Nat->L2->Result×bH
 e:Bool:=false
structure vf where
 c:Code
 tr:Sem Fin
 pre:bH
 out:Nat->Nat->L2->Sem Fin×bH
 e:Bool:=false
inductive hS where|con (k:cX) (next:Nat->Nat->L2->hS)|fin (r:Result) (L:bH)|jf (v:Value) (it:bH) (keep:List Nat) (next:Nat->Nat->hS)|pos (next:Pos->hS)|stk (next:Pos->List (Code×Pos)->hS)|step (k:vf) (next:Nat->Nat->L2->hS)|dG (a:Nat) (o:Obj) (next:hS)|gen (c:Code) (next:Nat->hS)
variable{S:Nat->Nat->hS}
noncomputable def dL(q:Nat):List Nat:=@Nat.rec (λz=>Nat->List Nat) (λz=>[]) (λz a q=>
 @Bool.rec (λz=>List Nat)
  (@Bool.rec (λz=>List Nat)
   (@Bool.rec (λz=>List Nat) (Nat.mod (Nat.div q 16) 4096::a (Nat.div q 65536)) (Nat.mod (Nat.div q 16) 256::a (Nat.div q 4096)) (Nat.beq (Nat.mod q 16) 13))
   (Nat.mod q 16::a (Nat.div q 16)) (Nat.ble (Nat.mod q 16) 12))
  [] (Nat.ble q 1)) 5000 q
inductive ND where|a (q p m i:Nat)|b (q p m i p2 f:Nat)
inductive Num where|n (d:ND) (room:Nat)|z (d:ND) (room:Nat)
variable{ns:List Num}
@[reducible] noncomputable def nU(q p m i room:Nat):Num:=.n (.a q p m i) room
def ND.os:ND->List Nat|.a q ..=>dL q|.b q ..=>dL q
def ND.ps:ND->List Nat|.a Y p ..=>dL p|.b Y p ..=>dL p
def ND.ps2:ND->List Nat|.a ..=>[]|.b Y V U T p ..=>dL p
def ND.fs:ND->List Nat|.a ..=>[]|.b Y V U T O f=>dL f
noncomputable def ND.m:ND->Nat|.a Y V m ..=>m|.b Y V m ..=>m
noncomputable def ND.i:ND->Nat|.a Y V U i=>i|.b Y V U i ..=>i
noncomputable def Num.d:Num->ND|.n d Y=>d|.z d Y=>d
noncomputable def Num.os(n:Num):List Nat:=n.d.os
noncomputable def Num.ps(n:Num):List Nat:=n.d.ps
noncomputable def Num.ps2(n:Num):List Nat:=n.d.ps2
noncomputable def Num.fs(n:Num):List Nat:=n.d.fs
noncomputable def Num.m(n:Num):Nat:=n.d.m
noncomputable def Num.i(n:Num):Nat:=n.d.i
noncomputable def Num.room:Num->Nat|.n Y r=>r|.z Y r=>r
noncomputable def Num.seg:Num->Bool|.n ..=>false|.z ..=>true
structure bK where(c:Code)(pre:bH)(lB:Nat->Nat->hS)
variable{p:bK}
noncomputable def cX.YW(k:cX)(s:Nat->Nat->hS):bK:=⟨k.c,k.pre,s⟩
noncomputable def Ad(os:List Nat)(r:jZ):jZ:=match os with
 |[]=>r
 |o::os=>.run (o::os) r
def hS.ins:List Num->hS->jZ
 |[],Y=>.nil
 |n::ns,.con k next=>Ad n.os (.con k.e n.fs n.ps λN t a=>let z:=k.out N t a;(z.1,z.2,(next N t a).ins ns))
 |n::Y,.fin V U=>Ad n.os (.fin n.ps)
 |n::ns,.jf Y V U next=>Ad n.os (.jf n.ps n.ps2 λN t=>(next N t).ins ns)
 |n::ns,.pos next=>Ad n.os ((next default).ins ns)
 |n::ns,.stk next=>Ad n.os ((next default []).ins ns)
 |n::ns,.gen Y next=>Ad n.os ((next 0).ins ns)
 |n::ns,.dG Y o next=>Ad n.os (.dG o (next.ins ns))
 |n::ns,.step k next=>Ad n.os (.step k.e n.fs n.ps λN t a=>let z:=k.out N t a;(z.1,z.2,(next N t a).ins ns))
noncomputable def hS.res:List Num->hS->Nat->Nat->Res|[],Y,V,U=>.stop 0|n::ns,.con k next,N,t=>.call k.e n.seg k.c n.room k.pre (N+n.m) (t+n.i) k.out λN t d=>(next N t d).res ns N t|n::Y,.fin r L,N,t=>.fin n.seg r L (N+n.m) (t+n.i)|n::ns,.jf v it Y next,N,t=>.jf v it (N+n.m) (t+n.i) λN t=>(next N t).res ns N t|Y::ns,.pos next,N,t=>.pos λp=>(next p).res ns N t|Y::ns,.stk next,N,t=>.stk λp b=>(next p b).res ns N t|Y::ns,.gen c next,N,t=>.gen c λg=>(next g).res ns N t|Y::ns,.dG a o next,N,t=>.dG a o (next.res ns N t)|n::ns,.step k next,N,t=>.step k.e k.c n.room k.tr k.pre (N+n.m) (t+n.i) k.out λN t d=>(next N t d).res ns N t
section
variable(prog:Program)(w:World)(kt:KT)(os:OsState){α:Type}(acj:Nat)(It:α->Value->bH->Prop)(bL:Result->bH->bR->Prop)
def Qd(fuel:Nat)(c:Code)(κ:KO)(room j:Nat)(pre:bH)(ns:List Num)(S:Nat->Nat->hS)(N t:Nat)(SL:m9):Run:=
 Dd kt (Ky prog w.params kt fuel) c κ room j (SL,[]) pre N 0 t 0 [] ((S N t).ins ns)
def g8(fuel:Nat)(c:Code)(κ:KO)(room j:Nat)(pre:bH)(ns:List Num)(S:Nat->Nat->hS):Prop:=
 ∀N t SL,(Qd prog w kt fuel c κ room j pre ns S N t SL).S=((S N t).res ns N t).run/\(Qd prog w kt fuel c κ room j pre ns S N t SL).A=(Qd prog w kt fuel c κ room j pre ns S N t SL).B
variable{prog w kt os acj It bL}
theorem sR{V:Ev α}{σ:List α}{A:Around}{s:Shared}{F:bH}{FG:bR}{r0:bH}{g0:bR}{κ:KO}{room:Nat}{L:bH}{run:Nat->Nat->m9->Run}{R:Nat->Nat->Res}(e:∀N t SL,(run N t SL).S=(R N t).run/\(run N t SL).A=(run N t SL).B)(H:(∀b o,V.kt.get b=some o->b<s.heap.objs.size)->Holds V.prog V.w V.kt V.os V.acj V.It V.bL V.G (R s.heap.objs.size s.toks) X σ)(d:lA (V.ea σ A F FG) V.acj κ room)(fr:1000<=V.acj->gS A F κ.root)(f:X r0 g0)(a:Sat V.kt V.os s (L++(r0++(V.rr++F))) (g0++(V.gg++FG))):
  ∃SL,Std V ⟨X,σ,A,F,FG,s,r0,g0,κ,room,(SL,[]),L,s.heap.objs.size,0,s.toks,0⟩ (run s.heap.objs.size s.toks SL):=by
 have g:∀b o,V.kt.get b=some o->b<s.heap.objs.size:=λb o h=>by obtain⟨SL,a⟩:=a;exact jG (a.old b o h)
 refine Yf (q:=⟨X,σ,A,F,FG,s,r0,g0,κ,room,(λz=>#[],[]),L,0,0,0,0⟩) d fr f a λSL=>?_;obtain⟨e1,e2⟩:=e s.heap.objs.size s.toks SL;exact fx.ofS _ _ _ _ _ _ _ _ _ _ _ (e1▸(H g).run) e2
theorem bE.VW{room:Nat}(e:g8 prog w kt fuel c (.base (fp c)) room j pre ns S)(H:∀N t,(∀b o,kt.get b=some o->b<N)->Holds prog w kt os 0 (λ(_:Unit) _ _=>False) (λz z z=>False) ⟨false,out,X',[]⟩ ((S N t).res ns N t) X []):
  bE prog w kt os room c pre X out X':=by
 intro A s F FG r0 g0 i k a;obtain⟨SL,bN⟩:=sR (V:=⟨prog,w,kt,os,0,_,_,⟨false,out,X',[]⟩,[],[],[]⟩) (κ:=.base (fp c)) e (H _ _) i (λq=>absurd (show 1000<=0 from q) (by decide)) k a;refine dj ((iV (λq=>nomatch (show false=true from q)) (jg (λq=>nomatch (show false=true from q)) fuel) bN).own rfl) λr l ⟨d,L,g,f,er,h⟩=>⟨d,L,g,f,er.symm,h⟩
theorem bO.VW{room:Nat}(e:g8 prog w kt fuel c (.base (fp c)) room j pre ns S)(H:∀N t,(∀b o,kt.get b=some o->b<N)->Holds prog w kt os 1000 (λ(_:Unit) _ _=>False) (λz z z=>False) ⟨false,out,X',[]⟩ ((S N t).res ns N t) X []):
  bO prog w kt os room c pre X out X':=by
 intro A s F FG r0 g0 k d l a;obtain⟨SL,bN⟩:=sR (V:=⟨prog,w,kt,os,1000,_,_,⟨false,out,X',[]⟩,[],[],[]⟩) (κ:=.base (fp c)) e (H _ _) k (λz=>d) l a;refine dj ((iV (λq=>nomatch (show false=true from q)) (jg (λq=>nomatch (show false=true from q)) fuel) bN).own rfl) λr m ⟨f,L,g,h,er,i⟩=>⟨f,L,g,h,er.symm,i⟩
theorem bG.VW{room:Nat}{σ σ':List α}(e:g8 prog w kt fuel c (.fQ (fp c)) room j pre ns S)(H:∀N t,(∀b o,kt.get b=some o->b<N)->Holds prog w kt os acj It bL ⟨true,out,X',σ'⟩ ((S N t).res ns N t) X σ):
  bG prog w kt os acj It bL room c pre X σ out X' σ':=by
 intro fs rr gg l h CT A s F FG r0 g0 f m a;obtain⟨SL,bN⟩:=sR (V:=⟨prog,w,kt,os,acj,It,bL,⟨true,out,X',σ'⟩,fs,rr,gg⟩) (κ:=.fQ (fp c)) e (H _ _) ⟨f.1,h,l⟩ (λq=>(f.2 q).c) m a;have d:xJ (⟨prog,w,kt,os,acj,It,bL,⟨true,out,X',σ'⟩,fs,rr,gg⟩:Ev α):=λz A s F FG i L g n f k r=>CT A s F FG i L g n f k r;exact(iV d (jg d fuel) bN).seg rfl
theorem bE.of{room:Nat}(e:g8 prog w kt fuel c (.base (fp c)) room j pre ns S)(H:∀N t,Holds prog w kt os 0 (λ(_:Unit) _ _=>False) (λz z z=>False) ⟨false,out,X',[]⟩ ((S N t).res ns N t) X []):
  bE prog w kt os room c pre X out X':=bE.VW e λN t z=>H N t
theorem bO.of{room:Nat}(e:g8 prog w kt fuel c (.base (fp c)) room j pre ns S)(H:∀N t,Holds prog w kt os 1000 (λ(_:Unit) _ _=>False) (λz z z=>False) ⟨false,out,X',[]⟩ ((S N t).res ns N t) X []):
  bO prog w kt os room c pre X out X':=bO.VW e λN t z=>H N t
theorem bG.of{room:Nat}{σ σ':List α}(e:g8 prog w kt fuel c (.fQ (fp c)) room j pre ns S)(H:∀N t,Holds prog w kt os acj It bL ⟨true,out,X',σ'⟩ ((S N t).res ns N t) X σ):
  bG prog w kt os acj It bL room c pre X σ out X' σ':=bG.VW e λN t z=>H N t
theorem bE.mono{room room':Nat}(h:bE prog w kt os room c pre X out X')(l:room<=room'):bE prog w kt os room' c pre X out X':=
 λA s F FG r0 g0 a=>h A s F FG r0 g0 (a.le l)
end
def Ae(prog:Program)(w:World)(kt:KT)(a:Bool)(room j:Nat)(ns:List Num)(p:bK)(N t:Nat)(SL:m9):Run:=
 Qd prog w kt 1000000 p.c (match a with|true=>.fQ (fp p.c)|false=>.base (fp p.c)) room j p.pre ns p.lB N t SL
theorem g8.of{prog:Program}{w:World}{kt:KT}{room:Nat}(a:∀N t SL,(Ae prog w kt false room j ns p N t SL).S=((p.lB N t).res ns N t).run)(b:∀N t SL,(Ae prog w kt false room j ns p N t SL).A=(Ae prog w kt false room j ns p N t SL).B):g8 prog w kt 1000000 p.c (.base (fp p.c)) room j p.pre ns p.lB:=λN t SL=>⟨a N t SL,b N t SL⟩
theorem g8.ofS{prog:Program}{w:World}{kt:KT}{room:Nat}(a:∀N t SL,(Ae prog w kt true room j ns p N t SL).S=((p.lB N t).res ns N t).run)(b:∀N t SL,(Ae prog w kt true room j ns p N t SL).A=(Ae prog w kt true room j ns p N t SL).B):g8 prog w kt 1000000 p.c (.fQ (fp p.c)) room j p.pre ns p.lB:=λN t SL=>⟨a N t SL,b N t SL⟩
end
noncomputable def pz:Program:=PySem.Challenge.pw_qt0012_01
theorem KQ:PySem.Challenge.pw_qt0012_01=pz:=rfl
structure EP where(e e2 e3:Expr)(es:List Expr)(p:Pos)(s:Scope)(c:Const)(k:Nat)(n:PySem.Str)
noncomputable abbrev nE:Expr:=.Constant .none 0 default
abbrev Qe:EP:=⟨nE,nE,nE,[],default,default,.none,0,⟨⟨[]⟩⟩⟩
set_option backward.match.sparseCases false in
def ep:Expr->EP|.Call f a Y p=>{ Qe with e:=f,e2:=a.headD nE,es:=a,p:=p }|.Attribute v Y p=>{ Qe with e:=v,p:=p }|.Name n p=>{ Qe with n:=n,p:=p }|.GeneratorExp e (⟨t,i,Y,V⟩::U) s p=>{ Qe with e:=e,e2:=i,e3:=t,s:=s,p:=p }|.ListComp Y V s p=>{ Qe with s:=s,p:=p }|.Constant c k p=>{ Qe with c:=c,k:=k,p:=p }|.Compare l Y r p=>{ Qe with e:=l,e2:=r.headD nE,p:=p }|.Tuple l Y p=>{ Qe with es:=l,p:=p }|Y=>Qe
structure SP where(e e2:Expr)(es:List Expr)(b o:List Stmt)(h:List ExceptHandler)(a:Arguments)(s:Scope)(p:Pos)
abbrev KR:SP:=⟨nE,nE,[],[],[],[],⟨[],[],none,[],[],none,[]⟩,default,default⟩
set_option backward.match.sparseCases false in
def sp:Stmt->SP|.ClassDef Y V U b T O M J I E D=>{ KR with b:=b }|.FunctionDef Y a b V U T s O M J=>{ KR with a:=a,b:=b,s:=s }|.For t i b o p=>{ KR with e:=t,e2:=i,b:=b,o:=o,p:=p }|.While t b o p=>{ KR with e:=t,b:=b,o:=o,p:=p }|.If t b o p=>{ KR with e:=t,b:=b,o:=o,p:=p }|.Try b h Y V p=>{ KR with b:=b,h:=h,p:=p }|.Assign t v p=>{ KR with e:=v,es:=t,p:=p }|.AugAssign Y V v p=>{ KR with e:=v,p:=p }|.Expr v p=>{ KR with e:=v,p:=p }|.Return (some v) p=>{ KR with e:=v,p:=p }|Y=>KR
def Qf(s:Stmt):List Stmt:=(sp s).b
def bJ(s:Stmt):List Stmt:=(sp s).b
def gt(s:Stmt):Arguments:=(sp s).a
def mI(s:Stmt):Scope:=(sp s).s
def dH(i:Nat):Stmt:=pz.main.body.getD i (.Pass default)
def dc(i j:Nat):Stmt:=(Qf (dH i)).getD j (.Pass default)
noncomputable abbrev lT:String:=PySem.W.SZ.s2766695959194262286x5
noncomputable abbrev nL:String:=PySem.W.SZ.s2742458400755230247x6
noncomputable abbrev vg:String:=PySem.W.SZ.s14018661285674007319x4
noncomputable abbrev xK:String:=PySem.W.SZ.s17162191345867700912x4
noncomputable abbrev Af:String:=PySem.W.SZ.s11443829558043349243x14
noncomputable abbrev Ag:String:=PySem.W.SZ.s5699418376593618685x17
noncomputable abbrev Ah:String:=PySem.W.SZ.s6779124196712981104x10
noncomputable abbrev Ai:String:=PySem.W.SZ.s2924395122027826103x14
noncomputable abbrev Dk:String:=PySem.W.SZ.s7174869446012820540x8
def VX(o:Obj)(c:Stmt)(b qual:Str)(globals:Addr)(a:List (Str×Addr))(d e f h code ct:Value)(g:Option Addr)(i:Addr):Obj:=
 ⟨o.cls,o.dict,.func ⟨b,qual,gt c,.stmts (bJ c),mI c,globals,a,d,e,f,h,g,code,ct,i⟩,o.slots⟩
noncomputable def uT:Nat->Nat->List Nat->List Nat|0,Y,a=>a|k+1,n,a=>cond (Nat.beq n 0) a (uT k (Nat.div n 256) (Nat.mod n 256::a))
def uS(n:Nat):List Nat:=uT 99 n []
def VY:=uS 0x2f636c61696d2f6375742e7079
def Dl:=uS 0x6c61775f7174303031325f3031
def vh:=uS 0x5f5f646f635f5f
def KS:=uS 0x546f6b656e
def KU:=uS 0x536f757263654c6f636174696f6e
def KV:=uS 0x43546f6b656e
def KW:=uS 0x436f6d70696c65724572726f72
def KX:=uS 0x43686172
def KY:=uS 0x48616e644c6578657242617365
def KZ:=uS 0x536f7572636546696c65
def Aj:=uS 0x6372656174655f63686172616374657273
def Ak:=uS 0x74726967726170685f66696c746572
def Al:=uS 0x636f6e74696e7565645f6c696e65735f66696c746572
def Am:=uS 0x5f6c696e6573
def An:=uS 0x434c65786572
def Ao:=uS 0x434f7074696f6e73
def Ap:=uS 0x5f6c61775f544f4b454e53
def Aq:=uS 0x5f6c61775f5345414d53
def Ar:=uS 0x5f6c61775f637574
def As:=uS 0x5f6c61775f6c6179
def At:=uS 0x5f6c61775f72656164
def Au:=uS 0x6c6177
def ew:=uS 0x5f5f696e69745f5f
def Te:=uS 0x546f6b656e2e5f5f696e69745f5f
def Gk:=uS 0x707063692e6c616e672e636f6d6d6f6e
def oL:=uS 0x5f5f6d6f64756c655f5f
def oM:=uS 0x5f5f66697273746c696e656e6f5f5f
def vH:=uS 0x5f5f726570725f5f
def oO:=uS 0x5f5f7374617469635f617474726962757465735f5f
def lU:=uS 0x6c6f63
def sS:=uS 0x747970
def qI:=uS 0x76616c
def Tf:=uS 0x536f757263654c6f636174696f6e2e5f5f696e69745f5f
def Gm:=uS 0x66696c656e616d65
def K0:=uS 0x6c656e677468
def sT:=uS 0x726f77
def K1:=uS 0x736f75726365
def Tg:=uS 0x43546f6b656e2e5f5f696e69745f5f
def lV:=uS 0x5f5f636c6173735f5f
def Th:=uS 0x707063692e6c616e672e632e746f6b656e
def Av:=uS 0x5f5f646963745f5f
def vI:=uS 0x5f5f7765616b7265665f5f
def Ti:=uS 0x436f6d70696c65724572726f722e5f5f696e69745f5f
def jv:=uS 0x707063692e6c616e672e746f6f6c732e68616e646c65786572
def Tj:=uS 0x48616e644c65786572426173652e5f5f696e69745f5f
def na:=uS 0x746f6b656e697a65
def Tl:=uS 0x48616e644c65786572426173652e746f6b656e697a65
def K2:=uS 0x6e6578745f63686172
def Tn:=uS 0x48616e644c65786572426173652e6e6578745f63686172
def K4:=uS 0x6261636b75705f63686172
def To:=uS 0x48616e644c65786572426173652e6261636b75705f63686172
def Tp:=uS 0x48616e644c65786572426173652e656d6974
def K5:=uS 0x69676e6f7265
def Tq:=uS 0x48616e644c65786572426173652e69676e6f7265
def K6:=uS 0x616363657074
def Tr:=uS 0x48616e644c65786572426173652e616363657074
def K7:=uS 0x6163636570745f72756e
def Ts:=uS 0x48616e644c65786572426173652e6163636570745f72756e
def K8:=uS 0x6163636570745f73657175656e6365
def Tt:=uS 0x48616e644c65786572426173652e6163636570745f73657175656e6365
def Tu:=uS 0x48616e644c65786572426173652e6572726f72
def K9:=uS 0x657870656374
def Tv:=uS 0x48616e644c65786572426173652e657870656374
def Tw:=uS 0x536f7572636546696c652e5f5f696e69745f5f
def gz:=uS 0x707063692e6c616e672e632e6c65786572
def Tx:=uS 0x434c657865722e5f5f696e69745f5f
def La:=uS 0x6c65785f74657874
def Tz:=uS 0x434c657865722e6c65785f74657874
def TA:=uS 0x434c657865722e746f6b656e697a65
def Lb:=uS 0x6c65785f6964656e746966696572
def TC:=uS 0x434c657865722e6c65785f6964656e746966696572
def Lc:=uS 0x6c65785f6e756d626572
def TD:=uS 0x434c657865722e6c65785f6e756d626572
def Ld:=uS 0x6c65785f666c6f6174
def TE:=uS 0x434c657865722e6c65785f666c6f6174
def Le:=uS 0x6c65785f77686974657370616365
def TF:=uS 0x434c657865722e6c65785f77686974657370616365
def Lf:=uS 0x6c65785f6c696e65636f6d6d656e74
def TG:=uS 0x434c657865722e6c65785f6c696e65636f6d6d656e74
def Lg:=uS 0x6c65785f626c6f636b636f6d6d656e74
def TH:=uS 0x434c657865722e6c65785f626c6f636b636f6d6d656e74
def Lh:=uS 0x6c65785f737472696e67
def TJ:=uS 0x434c657865722e6c65785f737472696e67
def Li:=uS 0x6c65785f63686172
def TK:=uS 0x434c657865722e6c65785f63686172
def Lj:=uS 0x5f68616e646c655f6573636170655f636861726163746572
def TL:=uS 0x434c657865722e5f68616e646c655f6573636170655f636861726163746572
def TN:=uS 0x434f7074696f6e732e5f5f696e69745f5f
def vJ:=uS 0x707063692e6c616e672e632e6f7074696f6e73
def Lk:=uS 0x656e61626c65
def TO:=uS 0x434f7074696f6e732e656e61626c65
def Ll:=uS 0x64697361626c65
def TP:=uS 0x434f7074696f6e732e64697361626c65
def Lm:=uS 0x5f5f6765746974656d5f5f
def TQ:=uS 0x434f7074696f6e732e5f5f6765746974656d5f5f
def qJ:=uS 0x63686172
def Gn:=uS 0x746f6b656e5f627566666572
def Go:=uS 0x7075736865645f6261636b
def oP:=uS 0x63757272656e745f74657874
def Gp:=uS 0x636f7074696f6e73
def ib:=uS 0x63686172616374657273
def eG:=uS 0x73656c66
def Dm:=uS 0x736f757263655f66696c65
def xL:=uS 0x7472695f6d6170
def nM:=uS 0x70617274
def Dn:=uS 0x48616e644c65786572426173652e656d69742e3c6c6f63616c733e2e3c67656e657870723e2e
def Do:=uS 0x48616e644c65786572426173652e656d69742e3c6c6f63616c733e2e
def Ln:=uS 0x48616e644c65786572426173652e656d69742e3c6c6f63616c733e2e3c67656e657870723e
def xM:=uS 0x7370616365
def xN:=uS 0x6669727374
def nO:=uS 0x7375706572
noncomputable abbrev q(l:List Nat):Str:=⟨⟨l⟩⟩
noncomputable abbrev v(l:List Nat)(t:Tok):Value:=.str ⟨⟨l⟩⟩ t
noncomputable abbrev e(P:Params)(l:List Nat)(t:Tok)(x:Value):DictEntry:=⟨PyData.keyHash P ⟨⟨l⟩⟩,.str ⟨⟨l⟩⟩ t,x⟩
def jr(k:Bool)(nm b:List Nat)(t a c d r T:Nat):Obj:=⟨.type SZ.s5856160107412720595x4,none,.fields ⟨[v nm t,v b (t+1),v VY (t+2),.int a 0,.int c 0,.int 0 0,.int 0 0,.int d 0,.ref r,.bool true,.int 181 0,.ref (r+1),.none,cond k (.ref (r+2)) .none,cond k (.ref (r+3)) .none,.ref (cond k (r+4) (r+2)),.int T 0,.int a 0,v VY (T+1)]⟩,#[]⟩
def km(s:Stmt)(nm a m:List Nat)(b cd:Nat):Obj:=VX ⟨.type Dk,none,.plain,#[]⟩ s (q nm) (q a) 3 [] .none .none .none (v m b) (.ref cd) .none none 0
def o0(P:Params):Obj:=((boot_heap P).objs.toList.head?).getD default
def o2(P:Params):Obj:=⟨.none,none,(.dict ⟨[e P (uS 0x747970652e5f5f737562636c61737365735f5f2e457863657074696f6e2e30) 397 (.int 156 0),
 e P (uS 0x747970652e5f5f737562636c61737365735f5f2e457863657074696f6e2e6e) 398 (.int 1 0)]⟩ 2),#[]⟩
def o3(P:Params):Obj:=⟨(.type vg),none,(.dict ⟨[e P (uS 0x5f5f6e616d655f5f) 165 (v Dl 884),
 e P vh 166 .none,
 e P (uS 0x5f5f7061636b6167655f5f) 167 .none,
 e P (uS 0x5f5f6c6f616465725f5f) 168 (.builtin SZ.s7097527257260152453x26),
 e P (uS 0x5f5f737065635f5f) 169 .none,
 e P (uS 0x5f5f616e6e6f746174696f6e735f5f) 170 (.ref 6),
 e P (uS 0x5f5f6275696c74696e735f5f) 171 (.ref 4),
 e P (uS 0x5f5f66696c655f5f) 173 (v VY 172),
 e P (uS 0x5f5f6361636865645f5f) 174 .none,
 e P (uS 0x5f77616c6c) 193 (.ref 21),
 e P KS 241 (.ref 47),
 e P KU 297 (.ref 79),
 e P KV 358 (.ref 127),
 e P KW 400 (.ref 156),
 e P KX 440 (.ref 183),
 e P KY 562 (.ref 275),
 e P KZ 601 (.ref 303),
 e P Aj 614 (.ref 314),
 e P Ak 626 (.ref 321),
 e P Al 635 (.ref 328),
 e P Am 644 (.ref 335),
 e P An 792 (.ref 446),
 e P Ao 883 (.ref 514),
 e P Ap 891 (.ref 525),
 e P (uS 0x5f6c61775f4148454144) 932 (.ref 556),
 e P (uS 0x5f6c61775f454e44494e4753) 1006 (.ref 610),
 e P Aq 1012 (.ref 617),
 e P Ar 1018 (.ref 622),
 e P As 1041 (.ref 629),
 e P At 1052 (.ref 636),
 e P Au 1058 (.ref 641)]⟩ 31),#[]⟩
def o46(P:Params):Obj:=⟨(.type vg),none,(.dict ⟨[e P oL 203 (v Gk 194),
 e P oM 207 (.int 5 206),
 e P (uS 0x5f5f736c6f74735f5f) 211 (.ref 29),
 e P ew 221 (.ref 36),
 e P vH 228 (.ref 43),
 e P oO 232 (.ref 44),
 e P lU 234 (.ref 48),
 e P sS 236 (.ref 49),
 e P qI 238 (.ref 50),
 e P vh 239 .none]⟩ 5),#[]⟩
def o78(P:Params):Obj:=⟨(.type vg),none,(.dict ⟨[e P oL 249 (v Gk 194),
 e P oM 253 (.int 16 252),
 e P (uS 0x5f5f736c6f74735f5f) 259 (.ref 60),
 e P ew 271 (.ref 68),
 e P vH 278 (.ref 75),
 e P oO 284 (.ref 76),
 e P [99,111,108] 286 (.ref 80),
 e P Gm 288 (.ref 81),
 e P K0 290 (.ref 82),
 e P sT 292 (.ref 83),
 e P K1 294 (.ref 84),
 e P vh 295 .none]⟩ 7),#[]⟩
def Lo:Obj:=jr true ew Tg 312 31 6 3 96 322
def VZ:Obj:=VX ⟨(.type Dk),none,.plain,#[]⟩ (dc 5 0) (q ew) (q Tg) 3 [((q lV),90)] .none .none .none (v Th 298) (.ref 101) (.ref 95) none 0
def acx(P:Params):Obj:=⟨(.type vg),none,(.dict ⟨[e P oL 307 (v Th 298),
 e P oM 311 (.int 29 310),
 e P ew 324 (.ref 102),
 e P vH 331 (.ref 109),
 e P (uS 0x5f5f7374725f5f) 338 (.ref 116),
 e P (uS 0x636f7079) 347 (.ref 124),
 e P oO 350 (.ref 125),
 e P Av 353 (.ref 128),
 e P vI 355 (.ref 129),
 e P vh 356 .none]⟩ 5),#[]⟩
def acy(P:Params):Obj:=⟨(.type vg),none,(.dict ⟨[e P oL 368 (v (uS 0x707063692e636f6d6d6f6e) 359),
 e P oM 372 (.int 45 371),
 e P ew 382 (.ref 146),
 e P vH 389 (.ref 153),
 e P oO 393 (.ref 154),
 e P vI 395 (.ref 157),
 e P vh 396 .none]⟩ 3),#[]⟩
def acz(P:Params):Obj:=⟨(.type vg),none,(.dict ⟨[e P oL 410 (v jv 401),
 e P oM 414 (.int 59 413),
 e P ew 423 (.ref 173),
 e P vH 430 (.ref 180),
 e P oO 433 (.ref 181),
 e P Av 435 (.ref 184),
 e P vI 437 (.ref 185),
 e P vh 438 .none]⟩ 4),#[]⟩
def Dp:Obj:=jr true (uS 0x656d6974) Tp 487 98 2 3 224 495
def acA(P:Params):Obj:=⟨(.type vg),none,(.dict ⟨[e P oL 448 (v jv 401),
 e P oM 452 (.int 67 451),
 e P ew 459 (.ref 201),
 e P na 469 (.ref 208),
 e P K2 478 (.ref 216),
 e P K4 486 (.ref 223),
 e P (uS 0x656d6974) 497 (.ref 230),
 e P K5 504 (.ref 237),
 e P K6 513 (.ref 244),
 e P K7 521 (.ref 251),
 e P K8 532 (.ref 258),
 e P (uS 0x6572726f72) 542 (.ref 265),
 e P K9 550 (.ref 272),
 e P oO 555 (.ref 273),
 e P Av 557 (.ref 276),
 e P vI 559 (.ref 277),
 e P vh 560 .none]⟩ 4),#[]⟩
def acB(P:Params):Obj:=⟨(.type vg),none,(.dict ⟨[e P oL 572 (v gz 563),
 e P oM 576 (.int 142 575),
 e P ew 584 (.ref 293),
 e P vH 591 (.ref 300),
 e P oO 594 (.ref 301),
 e P Av 596 (.ref 304),
 e P vI 598 (.ref 305),
 e P vh 599 .none]⟩ 4),#[]⟩
def Lp:Obj:=jr true ew Tx 669 200 2 3 345 675
def V0:Obj:=VX ⟨(.type Dk),none,.plain,#[]⟩ (dc 17 6) (q ew) (q Tx) 3 [((q lV),339)] .none .none .none (v gz 563) (.ref 350) (.ref 344) none 0
def Lr:Obj:=jr true na TA 700 218 2 35 367 709
def V1:Obj:=VX ⟨(.type Dk),none,.plain,#[]⟩ (dc 17 9) (q na) (q TA) 3 [((q lV),339)] .none .none .none (v gz 563) (.ref 372) (.ref 366) none 0
def acC(P:Params):Obj:=⟨(.type vg),none,(.dict ⟨[e P oL 652 (v gz 563),
 e P oM 656 (.int 192 655),
 e P (uS 0x6c6f7765725f6c657474657273) 658 (v (uS 0x6162636465666768696a6b6c6d6e6f707172737475767778797a) 657),
 e P (uS 0x75707065725f6c657474657273) 660 (v (uS 0x4142434445464748494a4b4c4d4e4f505152535455565758595a) 659),
 e P (uS 0x62696e6172795f6e756d62657273) 662 (v [48,49] 661),
 e P (uS 0x6f6374616c5f6e756d62657273) 664 (v (uS 0x3031323334353637) 663),
 e P (uS 0x6e756d62657273) 666 (v (uS 0x30313233343536373839) 665),
 e P (uS 0x6865785f6e756d62657273) 668 (v (uS 0x30313233343536373839616263646566414243444546) 667),
 e P ew 677 (.ref 351),
 e P (uS 0x6c6578) 687 (.ref 358),
 e P La 699 (.ref 365),
 e P na 711 (.ref 373),
 e P (uS 0x6c65785f63) 719 (.ref 380),
 e P Lb 727 (.ref 387),
 e P Lc 735 (.ref 394),
 e P Ld 742 (.ref 401),
 e P Le 749 (.ref 408),
 e P Lf 757 (.ref 415),
 e P Lg 764 (.ref 422),
 e P Lh 772 (.ref 429),
 e P Li 779 (.ref 436),
 e P Lj 786 (.ref 443),
 e P oO 788 (.ref 444),
 e P vh 790 .none]⟩ 3),#[]⟩
def acD(P:Params):Obj:=⟨(.type vg),none,(.dict ⟨[e P oL 802 (v vJ 793),
 e P oM 806 (.int 488 805),
 e P ew 813 (.ref 462),
 e P (uS 0x6164645f696e636c7564655f70617468) 821 (.ref 469),
 e P (uS 0x6164645f696e636c7564655f7061746873) 829 (.ref 476),
 e P Lk 837 (.ref 483),
 e P Ll 845 (.ref 490),
 e P (uS 0x736574) 854 (.ref 497),
 e P Lm 862 (.ref 504),
 e P (uS 0x6164645f646566696e65) 871 (.ref 511),
 e P oO 876 (.ref 512),
 e P Av 878 (.ref 515),
 e P vI 880 (.ref 516),
 e P vh 881 .none]⟩ 4),#[]⟩
noncomputable def acE:Obj:=⟨(.type SZ.s9222952809800978799x4),none,(.seq ⟨[(.ref 527),(.ref 529),(.ref 531),(.ref 533),(.ref 535),(.ref 539),(.ref 543),(.ref 547),(.ref 552),(.ref 555)]⟩ 0),#[]⟩
noncomputable def acF:Obj:=⟨(.type SZ.s9222952809800978799x4),none,(.seq ⟨[(.ref 559),(.ref 561),(.ref 564),(.ref 568),(.ref 572),(.ref 576),(.ref 581),(.ref 585),(.ref 589),(.ref 593),(.ref 597),(.ref 601),(.ref 605),(.ref 609)]⟩ 0),#[]⟩
def V2:Obj:=km (dH 28) Au Au Dl 884 640
noncomputable def nZ:KT:=.node none .nil .nil
noncomputable def nS(o:Obj)(a b:KT):KT:=.node (some o) a b
noncomputable def nN(a b:KT):KT:=.node none a b
def bY(P:Params):KT:=(nS (o0 P) (nN (nS (o3 P) (nN (nN (nN (nN (nS (⟨(.type xK),none,(.cls ⟨(q KV),[(.ref 47)],[(.ref 127),(.ref 47),(.type nL)],126,(q KV),true,[(q lU),(q sS),(q qI)],[],false,none,false⟩),⟨[(some (.ref 87)),none,(some (v KV 300)),(some (v KV 308)),(some (.builtin Af)),(some (.bool true))]⟩⟩) .nil .nil) (nN (nN nZ .nil) .nil)) (nN (nN (nN nZ .nil) (nS (km (dc 17 15) Lf TG gz 563 414) .nil .nil)) (nS (km (dc 10 3) K4 To jv 401 222) (nS V0 .nil .nil) .nil))) (nS (⟨(.type xK),none,(.cls ⟨(q KS),[(.type nL)],[(.ref 47),(.type nL)],46,(q KS),false,[(q lU),(q sS),(q qI)],[(.ref 127)],false,none,false⟩),⟨[none,none,(some (v KS 196)),(some (v KS 204)),(some (.builtin Af)),(some (.bool false))]⟩⟩) (nS (⟨(.type xK),none,(.cls ⟨(q KU),[(.type nL)],[(.ref 79),(.type nL)],78,(q KU),false,[(q [99,111,108]),(q Gm),(q K0),(q sT),(q K1)],[],false,none,false⟩),⟨[none,none,(some (v KU 242)),(some (v KU 250)),(some (.builtin Af)),(some (.bool false))]⟩⟩) (nN (nS (jr true K9 Tv 543 138 2 3 266 548) nZ .nil) .nil) (nS (jr true na Tl 460 74 3 35 202 467) (nS (km (dH 16) Am Am gz 563 334) .nil .nil) .nil)) (nN (nN (nS (⟨(.type xK),none,(.cls ⟨(q KZ),[(.type nL)],[(.ref 303),(.type nL)],302,(q KZ),true,[],[],false,none,false⟩),⟨[none,none,(some (v KZ 565)),(some (v KZ 573)),(some (.builtin Af)),(some (.bool true))]⟩⟩) (nS (⟨(.type lT),none,(.seq ⟨[(.ref 558),(.int (-2) 936)]⟩ 0),#[]⟩) .nil .nil) .nil) .nil) .nil))) (nN (nN (nN .nil (nN (nS (jr true Al Al 627 172 1 35 322 633) .nil .nil) .nil)) .nil) (nN (nN (nN (nN nZ .nil) (nS (jr true Le TF 743 425 1 3 402 747) .nil .nil)) (nS (jr true K2 Tn 470 82 2 3 210 476) .nil .nil)) (nN (nS (⟨(.type xK),none,(.cls ⟨(q KX),[(.type nL)],[(.ref 183),(.type nL)],182,(q KX),true,[],[],false,none,false⟩),⟨[none,none,(some (v KX 403)),(some (v KX 411)),(some (.builtin Af)),(some (.bool true))]⟩⟩) (nN nZ .nil) .nil) (nN .nil (nS (jr true Lm TQ 855 515 2 3 498 860) .nil .nil)))))) (nN (nN (nS (jr true ew Te 212 8 4 3 30 219) (nS (jr true ew Tf 260 19 6 3 62 269) (nN .nil (nS (km (dc 17 11) Lb TC gz 563 386) .nil .nil)) .nil) (nN (nN (nN nZ .nil) .nil) (nN .nil (nS (km (dc 19 3) Lk TO vJ 793 482) .nil .nil)))) (nN (nS (⟨(.type Ag),none,(.fields ⟨[(v sT 291),(.ref 79),(.builtin Ah),(.builtin Ai),(.int 1 0)]⟩),#[]⟩) (nN (nS (⟨(.type xK),none,(.cls ⟨(q KY),[(.type nL)],[(.ref 275),(.type nL)],274,(q KY),true,[],[(.ref 446)],false,none,false⟩),⟨[none,none,(some (v KY 441)),(some (v KY 449)),(some (.builtin Af)),(some (.bool true))]⟩⟩) nZ .nil) .nil) (nN (nS (⟨(.type SZ.s15660640913423913556x4),none,(.cell (some (.ref 446))),#[]⟩) .nil .nil) .nil)) (nN (nN (nN nZ .nil) (nS (jr true Li TK 773 457 1 3 430 777) .nil .nil)) (nS (jr true K6 Tr 505 108 2 3 238 511) .nil .nil)))) (nN (nN (nN (nS (⟨(.type lT),none,(.seq ⟨[.none,.none]⟩ 0),#[]⟩) .nil .nil) .nil) (nN (nN (nN nZ .nil) .nil) .nil)) (nN (nN (nS (acy P) (nN nZ .nil) .nil) .nil) (nN (nN (nN nZ .nil) (nS (km (dc 17 19) Lj TL gz 563 442) .nil .nil)) (nS (km (dc 10 7) K7 Ts jv 401 250) (nS (jr true (uS 0x6c65785f63) (uS 0x434c657865722e6c65785f63) 712 237 1 3 374 717) (nS (jr true At At 1042 564 1 3 630 1050) .nil .nil) .nil) .nil)))))) (nN (nN (nN (nN (nN (nN (nS (jr true K8 Tt 522 120 2 3 252 530) (nS (acD P) .nil .nil) .nil) (nN (nS V2 .nil .nil) .nil)) (nN (nS (km (dH 14) Ak Ak gz 563 320) .nil .nil) .nil)) (nN .nil (nN (nN (nS (⟨(.type lT),none,(.seq ⟨[(.ref 608),(.int 2 1005)]⟩ 0),#[]⟩) .nil .nil) .nil) .nil))) (nS (⟨(.type Ag),none,(.fields ⟨[(v sS 235),(.ref 47),(.builtin Ah),(.builtin Ai),(.int 1 0)]⟩),#[]⟩) (nS (⟨(.type Ag),none,(.fields ⟨[(v Gm 287),(.ref 79),(.builtin Ah),(.builtin Ai),(.int 3 0)]⟩),#[]⟩) (nS (jr true ew Ti 373 47 4 3 140 380) (nN nZ .nil) (nS (km (dc 17 13) Ld TE gz 563 400) .nil .nil)) (nS (⟨(.type lT),none,(.seq ⟨[(.bool true)]⟩ 0),#[]⟩) (nN (nS (⟨(.type lT),none,(.seq ⟨[(.ref 592),(.int 2 984)]⟩ 0),#[]⟩) .nil .nil) .nil) .nil)) (nN (nN (nN (nS (⟨(.type lT),none,(.seq ⟨[(.ref 560),(.int (-2) 938)]⟩ 0),#[]⟩) .nil .nil) .nil) .nil) (nN .nil (nS (km (dc 19 5) (uS 0x736574) (uS 0x434f7074696f6e732e736574) vJ 793 496) .nil .nil))))) (nN (nN (nN (nN (nS (km (dc 10 9) (uS 0x6572726f72) Tu jv 401 264) .nil .nil) (nS (jr true Lc TD 728 397 1 3 388 733) .nil .nil)) (nS (km (dc 10 0) ew Tj jv 401 200) (nN (nS (⟨(.type lT),none,(.seq ⟨[(.ref 584),(.int (-1) 974)]⟩ 0),#[]⟩) .nil .nil) .nil) .nil)) (nN .nil (nN (nN (nS (km (dH 24) Aq Aq Dl 884 616) .nil .nil) .nil) (nS (jr true Ll TP 838 509 2 3 484 843) .nil .nil)))) (nN (nN .nil (nN (nN (nS (⟨(.type lT),none,(.seq ⟨[(.ref 600),(.int 3 995)]⟩ 0),#[]⟩) .nil .nil) .nil) .nil)) (nN (nN (nS (jr true Aj Aj 602 150 2 35 308 612) .nil .nil) .nil) .nil)))) (nN (nN (nN (nN .nil (nN (nN (nS (⟨(.type lT),none,(.seq ⟨[(.ref 580),(.int (-2) 968)]⟩ 0),#[]⟩) .nil .nil) .nil) .nil)) (nS Lo (nN (nS (km (dc 12 0) ew Tw gz 563 292) .nil .nil) (nS (jr true Lg TH 758 438 1 3 416 762) .nil .nil)) (nS Dp (nS (jr true (uS 0x6c6578) (uS 0x434c657865722e6c6578) 678 204 3 3 352 685) .nil .nil) .nil))) (nN (nN (nN (nN nZ .nil) .nil) (nN (nN (nS (⟨(.type lT),none,(.seq ⟨[(.ref 596),(.int (-1) 990)]⟩ 0),#[]⟩) .nil .nil) .nil) .nil)) (nN .nil (nN (nS V1 (nS (km (dH 26) As As Dl 884 628) .nil .nil) .nil) .nil)))) (nN (nN (nN (nN (nN (nS (km (dH 21) Ap Ap Dl 884 524) .nil .nil) .nil) .nil) (nN (nN (nS (⟨(.type lT),none,(.seq ⟨[(.ref 588),(.int 2 979)]⟩ 0),#[]⟩) .nil .nil) .nil) (nS (jr true ew TN 807 490 1 3 456 811) .nil .nil))) (nN (nS (km (dc 9 0) ew (uS 0x436861722e5f5f696e69745f5f) jv 401 172) .nil (nS (km (dc 17 17) Lh TJ gz 563 428) .nil .nil)) (nS (km (dc 10 5) K5 Tq jv 401 236) (nS (km (dc 17 8) La Tz gz 563 364) (nS (jr false Ar Ar 1013 527 3 3 618 1016) .nil .nil) .nil) .nil))) (nS (⟨(.type lT),none,(.seq ⟨[.none]⟩ 0),#[]⟩) (nN .nil (nN (nN (nS (⟨(.type lT),none,(.seq ⟨[(.ref 604),(.int 2 1000)]⟩ 0),#[]⟩) .nil .nil) .nil) .nil)) (nN (nN .nil (nS (acC P) .nil .nil)) .nil)))))) (nS (o2 P) (nS (⟨(.type SZ.s6658869562736209489x6),(some 0),.plain,#[]⟩) (nN (nN (nN (nN (nN .nil (nN (nS (jr false Au Au 1053 573 1 3 637 1056) .nil .nil) .nil)) (nN (nS (jr true Ak Ak 615 157 1 35 315 624) (nS (⟨(.type lT),none,(.seq ⟨[(.ref 575),(.int (-2) 960)]⟩ 0),#[]⟩) .nil .nil) .nil) .nil)) (nN .nil (nN (nN nZ .nil) .nil))) (nS (⟨(.type Ag),none,(.fields ⟨[(v lU 233),(.ref 47),(.builtin Ah),(.builtin Ai),(.int 2 0)]⟩),#[]⟩) (nS (⟨(.type Ag),none,(.fields ⟨[(v [99,111,108] 285),(.ref 79),(.builtin Ah),(.builtin Ai),(.int 4 0)]⟩),#[]⟩) (nN (nS (km (dc 10 10) K9 Tv jv 401 271) .nil .nil) (nS (jr true Ld TE 736 417 1 3 395 740) .nil .nil)) (nS (km (dc 10 1) na Tl jv 401 207) (nN nZ .nil) .nil)) (nN (nN (nN nZ .nil) .nil) (nN .nil (nS (jr true (uS 0x736574) (uS 0x434f7074696f6e732e736574) 846 512 3 3 491 852) .nil .nil))))) (nN (nN (nN (nN (nS (jr true (uS 0x6572726f72) Tu 533 133 2 3 259 540) .nil .nil) .nil) (nS (jr true ew Tj 453 69 1 3 195 457) (nS (km (dH 15) Al Al gz 563 327) nZ .nil) .nil)) (nN (nN (nN nZ .nil) .nil) (nN (nN (nS (jr true Aq Aq 1007 525 0 3 611 1010) .nil .nil) .nil) .nil))) (nN (nN (nN .nil (nS (km (dc 17 14) Le TF gz 563 407) .nil .nil)) (nS (VX ⟨(.type Dk),none,.plain,#[]⟩ (dc 10 2) (q K2) (q Tn) 3 [] (.ref 209) .none .none (v jv 401) (.ref 215) .none none 0) (nN nZ .nil) .nil)) (nN (nN (nN (nS (⟨(.type lT),none,(.seq ⟨[(.ref 567),(.int (-2) 948)]⟩ 0),#[]⟩) .nil .nil) .nil) .nil) (nN .nil (nS (km (dc 19 6) Lm TQ vJ 793 503) .nil .nil)))))) (nN (nN (nS (km (dc 2 1) ew Te Gk 194 35) (nS (VX ⟨(.type Dk),none,.plain,#[]⟩ (dc 3 1) (q ew) (q Tf) 3 [] (.ref 61) .none .none (v Gk 194) (.ref 67) .none none 0) .nil (nN (nN nZ .nil) .nil)) (nN (nN (nS (jr true ew Tw 577 144 2 3 287 582) .nil .nil) .nil) .nil)) (nN (nS (⟨(.type Ag),none,(.fields ⟨[(v K1 293),(.ref 79),(.builtin Ah),(.builtin Ai),(.int 0 0)]⟩),#[]⟩) .nil (nN (nN nZ .nil) .nil)) (nN (nN (nN (nS (⟨(.type lT),none,(.seq ⟨[(.ref 563),(.int (-2) 942)]⟩ 0),#[]⟩) .nil .nil) .nil) (nS (km (dc 17 18) Li TK gz 563 435) .nil .nil)) (nS (km (dc 10 6) K6 Tr jv 401 243) (nS Lr (nS (jr true As As 1019 533 3 3 623 1039) .nil .nil) .nil) .nil)))) (nN (nN (nN (nN (nN (nS (jr true Ap Ap 886 521 0 3 519 889) .nil .nil) .nil) .nil) (nN (nN nZ .nil) .nil)) (nN (nS (jr true ew (uS 0x436861722e5f5f696e69745f5f) 415 61 3 3 167 421) (nN nZ .nil) (nS (jr true Lh TJ 765 448 1 3 423 770) .nil .nil)) (nS (jr true K5 Tq 498 105 1 3 231 502) (nS (jr true La Tz 688 211 2 3 359 697) .nil .nil) .nil))) (nN (nN (nS (⟨(.type xK),none,(.cls ⟨(q KW),[(.type SZ.s5946037652744460706x9)],[(.ref 156),(.type SZ.s5946037652744460706x9),(.type SZ.s4278001404047624695x13),(.type nL)],155,(q KW),true,[],[],false,none,false⟩),⟨[(some (.ref 132)),none,(some (v KW 361)),(some (v KW 369)),(some (.builtin SZ.s5160863994218179198x17)),(some (.bool true))]⟩⟩) .nil .nil) (nN (nN nZ .nil) .nil)) (nN (nN (nN (nS (⟨(.type lT),none,(.seq ⟨[(.ref 571),(.int (-2) 954)]⟩ 0),#[]⟩) .nil .nil) .nil) .nil) (nN (nS (km (dc 17 10) (uS 0x6c65785f63) (uS 0x434c657865722e6c65785f63) gz 563 379) (nS (km (dH 27) At At Dl 884 635) .nil .nil) .nil) .nil)))))) (nN (nN (nN (nN (nN (nN (nS (km (dc 10 8) K8 Tt jv 401 257) (nS (⟨(.type xK),none,(.cls ⟨(q Ao),[(.type nL)],[(.ref 514),(.type nL)],513,(q Ao),true,[],[],false,none,false⟩),⟨[none,none,(some (v Ao 795)),(some (v Ao 803)),(some (.builtin Af)),(some (.bool true))]⟩⟩) .nil .nil) .nil) (nS (jr true Lb TC 720 391 1 3 381 725) .nil .nil)) .nil) (nN .nil (nN (nN nZ .nil) (nS (jr true Lk TO 830 506 2 3 477 835) .nil .nil)))) (nS (⟨(.type Ag),none,(.fields ⟨[(v qI 237),(.ref 47),(.builtin Ah),(.builtin Ai),(.int 0 0)]⟩),#[]⟩) (nS (⟨(.type Ag),none,(.fields ⟨[(v K0 289),(.ref 79),(.builtin Ah),(.builtin Ai),(.int 2 0)]⟩),#[]⟩) (nS (VX ⟨(.type Dk),none,.plain,#[]⟩ (dc 7 0) (q ew) (q Ti) 3 [] (.ref 139) .none .none (v (uS 0x707063692e636f6d6d6f6e) 359) (.ref 145) .none none 0) (nS (acA P) .nil .nil) .nil) .nil) .nil)) (nN (nN (nN (nN .nil (nS (km (dc 17 12) Lc TD gz 563 393) .nil .nil)) .nil) (nN .nil (nN .nil (nS (km (dc 19 4) Ll TP vJ 793 489) .nil .nil)))) (nN (nS (⟨(.type SZ.s15660640913423913556x4),none,(.cell (some (.ref 127))),#[]⟩) .nil .nil) (nN (nN (nS (km (dH 13) Aj Aj gz 563 313) .nil .nil) (nS (jr true Lj TL 780 466 1 3 437 784) .nil .nil)) (nS (jr true K7 Ts 514 116 2 3 245 519) .nil .nil))))) (nN (nN (nN .nil (nS VZ (nN .nil (nS (km (dc 17 16) Lg TH gz 563 421) .nil .nil)) (nS (km (dc 10 4) (uS 0x656d6974) Tp jv 401 229) (nS (km (dc 17 7) (uS 0x6c6578) (uS 0x434c657865722e6c6578) gz 563 357) .nil .nil) .nil))) (nN .nil (nN (nS (acz P) .nil .nil) .nil))) (nN (nS (o46 P) (nS (o78 P) .nil (nN (nS (jr true Am Am 636 186 1 35 329 642) .nil .nil) (nS (km (dc 19 0) ew TN vJ 793 461) .nil .nil))) (nN (nN (nS (acB P) nZ .nil) .nil) (nN (nN (nS (km (dH 25) Ar Ar Dl 884 621) .nil .nil) .nil) .nil))) (nN (nN (nN .nil (nS (jr true Lf TG 750 430 1 3 409 755) .nil .nil)) (nS (jr true K4 To 479 93 2 3 217 484) (nS Lp .nil .nil) .nil)) (nS (acx P) (nN .nil (nS (⟨(.type xK),none,(.cls ⟨(q An),[(.ref 275)],[(.ref 446),(.ref 275),(.type nL)],445,(q An),true,[],[],false,none,false⟩),⟨[(some (.ref 336)),none,(some (v An 645)),(some (v An 653)),(some (.builtin Af)),(some (.bool true))]⟩⟩) .nil .nil)) .nil)))))))
section
theorem pY{P:Nat->Prop}{l:List Nat}{k:Nat}(h:∀n,n∈l->P n)(a:∀m,P (m+k)):∀n,(n∈l\/k<=n)->P n:=λn hn=>by
 rcases hn with hn|hn
 ·exact h n hn
 ·have:=a (n-k);rwa [Nat.sub_add_cancel hn]at this
end
section
open PySem.Meets
variable{s:Shared}{a n t:Nat}{F:bH}{G:bR}{l xs:List Value}{x:Value}
def bV:b7:=λr g=>r=[]/\g=[]
inductive star(X Y:b7)(r:bH)(g:bR):Prop where|mk:∀r1 r2 g1 g2,(X r1 g1)->(Y r2 g2)->(r.Perm (r1++r2))->(g.Perm (g1++g2))->star X Y r g
section
variable{prog:Program}{w:World}{kt:KT}{os:OsState}
theorem bE.dx{g:String}{d:Args}{b:Builtin}{S:PySem.Spec}{room:Nat}{pre:bH}{out:Nat->Nat->L2->Result×bH}(i:plainId g=true)(j:entryFor table g=some b)(M:Meets (b d) S)(k:∀(A:Around)(R:Result->Shared->Prop)(s:Shared)(F:bH)(FG:bR),gY room A->Sat kt os s (pre++F) FG->
   (∀e c,Sat kt os e ((out e.heap.objs.size e.toks c).2++F) FG->R (out e.heap.objs.size e.toks c).1 e)->S A R s):
  bE prog w kt os room (.builtin g d) pre bV out (λz=>bV):=by
 rintro A s F FG r0 g0 m ⟨rfl,rfl⟩ f;refine g6 j ?_;rw[nG i];exact M prog w A (gT kt os out (λz=>bV) F FG) s
  (k A _ s F FG m (by simpa using f) λe c h=>⟨c,[],[],⟨rfl,rfl⟩,rfl,by simpa using h⟩)
theorem Sat.turn{o:Obj}{f:Obj->Obj}(h:Sat kt os s ((a,o)::F) G)(c:(f o).isFreed=false)(t:Nat)(hd:jW o=false:=by rfl)(b:jW (f o)=false:=by rfl):
  Sat kt os { s with heap:=s.heap.update a f,toks:=t } ((a,f o)::F) G:=by
 obtain⟨SL,h⟩:=h;exact⟨SL,eF.toks (eF.update (A:=[]) (B:=F) h (by rw[lN hd];exact c) (by rw[lN hd,lN b])) t⟩
end
noncomputable abbrev Gq:String:=PySem.W.SZ.s9222952809800978799x4
theorem oQ:"list" = Gq:=PySem.W.SZ.e9222952809800978799x4
def br(l:List Value)(n:Nat):Obj:=⟨.type Gq,none,.seq ⟨l⟩ n,#[]⟩
theorem dW(l:List Value)(n:Nat):br l n = { cls:=.type "list",dict:=none,data:=.seq ⟨l⟩ n,slots:=#[] }:=by
 unfold br;rw[<-oQ]
theorem xO(f:Array Value->Array Value)(l:List Value)(n:Nat):∃n',Obj.mapSeq f (br l n)=br (f ⟨l⟩).toList n':=⟨_,rfl⟩
noncomputable abbrev Gr:String:=PySem.W.SZ.s2931692696383300276x11
noncomputable abbrev V3:String:=PySem.W.SZ.s7634278170187095340x8
noncomputable abbrev Ls:String:=PySem.W.SZ.s8724155526344646327x10
theorem sU:"list.append" = Gr:=PySem.W.SZ.e2931692696383300276x11
theorem rM:"list.pop" = V3:=PySem.W.SZ.e7634278170187095340x8
theorem vK:"list.clear" = Ls:=PySem.W.SZ.e8724155526344646327x10
noncomputable def cZ:Nat:=100000
theorem lW(h:l.length<=cZ):(⟨l⟩:Array Value).size<=sizeLine:=by
 have:(⟨l⟩:Array Value).size=l.length:=rfl;rw[this];unfold cZ at h;rw[show sizeLine=16777216 from by decide];exact cu h (by decide)
def ee(a:Nat)(xs:List Value)(n:Nat)(v:Value):cX where
 c:=.builtin Gr ⟨[.ref a,v],[]⟩
 pre:=[(a,br xs n)]
 out _ _ b:=(rV .none,[(a,br (xs++[v]) (b.n 0))])
def vi(a:Nat)(x:Value)(xs:List Value)(n:Nat)(t:Nat):cX where
 c:=.builtin V3 ⟨[.ref a,.int 0 t],[]⟩
 pre:=[(a,br (x::xs) n)]
 out _ _ b:=(.ok (.ret x),[(a,br xs (b.n 0))])
def Aw(a:Nat)(x:Value)(xs:List Value)(n:Nat)(t:Nat):cX where
 c:=.builtin V3 ⟨[.ref a,.int (-1) t],[]⟩
 pre:=[(a,br (xs++[x]) n)]
 out _ _ b:=(.ok (.ret x),[(a,br xs (b.n 0))])
def Dq(a:Nat)(xs:List Value)(n:Nat):cX where
 c:=.builtin Ls ⟨[.ref a],[]⟩
 pre:=[(a,br xs n)]
 out _ _ b:=(rV .none,[(a,br [] (b.n 0))])
section
variable{prog:Program}{w:World}{kt:KT}{os:OsState}{room:Nat}
abbrev dq(prog:Program)(w:World)(kt:KT)(os:OsState)(room:Nat)(k:cX)(X:b7)(X':L2->b7):Prop:=bE prog w kt os room k.c k.pre X k.out X'
theorem io{f:Array Value->Array Value}{l':List Value}(h:Sat kt os s ((a,br l n)::F) G)(e:(f ⟨l⟩).toList=l')(t:Nat):
  ∃b,Sat kt os { s with heap:=s.heap.update a (Obj.mapSeq f),toks:=t } ((a,br l' b)::F) G:=by
 obtain⟨b,q⟩:=xO f l n;refine⟨b,?_⟩;have z:=h.turn (f:=Obj.mapSeq f) (by rw[q];rfl) t rfl (by rw[q];rfl);rw[q,e]at z;exact z
theorem bX{v:Value}(d:xs.length<=cZ:=by exact db rfl):dq prog w kt os room (ee a xs n v) bV (λy=>bV):=by
 refine bE.dx (b:=Builtin.«list.append») (by rw[<-sU];decide +kernel) (by rw[<-sU];exact entry_list_append) (PySem.AutoListH.list_append_list_val_0 a ⟨xs⟩ n v (lW d)) ?_;intro A R s F FG _ c k;refine⟨by rw[<-dW];exact c.own _ (.head _),?_⟩;obtain⟨e,z⟩:=io (f:=λx=>x.push v) c (l':=xs++[v]) (by simp) s.toks;exact k _ ⟨λy=>e,λy=>.none,λy=>[]⟩ z
theorem sV(d:xs.length<=cZ):dq prog w kt os room (Dq a xs n) bV (λy=>bV):=by
 refine bE.dx (b:=Builtin.«list.clear») (by rw[<-vK];decide +kernel) (by rw[<-vK];exact entryFor_of_tree (by kernel_rfl)) (PySem.AutoSeq1.list_clear_list_0 a ⟨xs⟩ n (lW d)) ?_;intro A R s F FG _ c k;refine⟨by rw[<-dW];exact c.own _ (.head _),?_⟩;obtain⟨e,z⟩:=io (f:=λx=>#[]) c (l':=[]) rfl s.toks;exact k _ ⟨λy=>e,λy=>.none,λy=>[]⟩ z
theorem g9(d:xs.length<cZ:=by exact db rfl):dq prog w kt os room (vi a x xs n t) bV (λy=>bV):=by
 refine bE.dx (b:=Builtin.«list.pop») (by rw[<-rM];decide +kernel) (by rw[<-rM];exact entryFor_of_tree (by kernel_rfl))
  (F5 a ⟨x::xs⟩ n 0 t 0 x (by decide) (by unfold seqIndex?;simp) rfl (lW (by rw[List.length_cons];exact d))) ?_
 intro A R s F FG _ c k;refine⟨by rw[<-dW];exact c.own _ (.head _),?_⟩;obtain⟨e,z⟩:=io (f:=λx=>x.eraseIdxIfInBounds 0) c (l':=xs) (by simp[Array.eraseIdxIfInBounds]) s.toks;exact k _ ⟨λy=>e,λy=>.none,λy=>[]⟩ z
theorem xP(d:xs.length<cZ):dq prog w kt os room (Aw a x xs n t) bV (λy=>bV):=by
 refine bE.dx (b:=Builtin.«list.pop») (by rw[<-rM];decide +kernel) (by rw[<-rM];exact entryFor_of_tree (by kernel_rfl))
  (F5 a ⟨xs++[x]⟩ n (-1) t xs.length x (by decide) (by unfold seqIndex?;simp;rw[acb];exact⟨⟨xm _,Int.lt_add_one_of_le (Int.le_refl _)⟩,Int.toNat_natCast _⟩) (by simp) (lW (by rw[c5];exact d))) ?_
 intro A R s F FG _ c k;refine⟨by rw[<-dW];exact c.own _ (.head _),?_⟩;obtain⟨e,z⟩:=io (f:=λx=>x.eraseIdxIfInBounds xs.length) c (l':=xs) (by simp[Array.eraseIdxIfInBounds];rw[List.eraseIdx_append_of_length_le (cO _)];simp) s.toks;exact k _ ⟨λy=>e,λy=>.none,λy=>[]⟩ z
end
end
section
variable{G Ir:bH}{Is:Nat->Nat->L2->Result×bH}
section
variable{prog:Program}{w:World}{kt:KT}{os:OsState}{room:Nat}{c:Code}{pre:bH}{X Y Z:b7}{out:Nat->Nat->L2->Result×bH}{X' Z':L2->b7}
theorem sW(h:X r g)(a:Y r2 g2):star X Y (r++r2) (g++g2):=⟨r,r2,g,g2,h,a,.refl _,.refl _⟩
theorem bE.star(h:bE prog w kt os room c pre X out X')(Y:b7):bE prog w kt os room c pre (star X Y) out (λa=>star (X' a) Y):=by
 rintro A s F FG r0 g0 g ⟨r1,r2,g1,g2,i,j,k,l⟩ m;have b:Sat kt os s (pre++(r1++(r2++F))) (g1++(g2++FG)):=
  (m.perm (by rw[<-bQ r1];exact(k.append_right F).append_left pre)).fv (by rw[<-bQ g1];exact l.append_right FG)
 refine dj (h A s (r2++F) (g2++FG) r1 g1 g i b) ?_;rintro r p ⟨a,n,o,d,e,f⟩;exact⟨a,n++r2,o++g2,sW d j,e,by simpa only[bQ]using f⟩
theorem bE.fr(h:bE prog w kt os room c pre bV out (λz=>bV))(Y:b7):bE prog w kt os room c pre Y out (λz=>Y):=by
 intro A s F FG r0 g0 d f g;refine dj (h A s (r0++F) (g0++FG) [] [] d ⟨rfl,rfl⟩ g) ?_;rintro r i ⟨a,j,k,⟨rfl,rfl⟩,e,b⟩;exact⟨a,r0,g0,f,e,b⟩
theorem bE.dP(h:bE prog w kt os room c pre X out X')(d:∀r g,Z r g->X r g)(f:∀a r g,X' a r g->Z' a r g):bE prog w kt os room c pre Z out Z':=by
 intro A s F FG r0 g0 i j k;refine dj (h A s F FG r0 g0 i (d _ _ j) k) ?_;rintro r o ⟨a,l,m,n,e,b⟩;exact⟨a,l,m,f _ _ _ n,e,b⟩
inductive xQ(G:bH)(X:b7)(r:bH)(g:bR):Prop where|mk:∀r',(G++r).Perm r'->X r' g->xQ G X r g
inductive Qg(a b:bH)(X:b7)(r:bH)(g:bR):Prop where|mk:∀r' g',(a++r).Perm (b++r')->g.Perm g'->X r' g'->Qg a b X r g
inductive Gs(a:Result×bH)(b:L2->Result×bH)(Z:L2->b7)(r:bH)(g:bR):Prop where|mk:∀ℓ r' g',a.1=(b ℓ).1->(a.2++r).Perm ((b ℓ).2++r')->g.Perm g'->Z ℓ r' g'->Gs a b Z r g
theorem bE.dX(h:bE prog w kt os room c pre X out X')(a:∀r g,Z r g->xQ G X r g):bE prog w kt os room c (pre++G) Z out X':=by
 intro A s F FG r0 g0 b d e;obtain⟨f,i,j⟩:=a _ _ d;refine h A s F FG f g0 b j (e.perm ?_);rw[bQ];refine fZ _ ?_;rw[<-bQ];exact i.append_right F
theorem bE.ej(h:bE prog w kt os room c pre X out X')(m:∀r g,Z r g->Qg Ir pre X r g)(n:∀N t a r g,X' a r g->Gs (out N t a) (Is N t) Z' r g):bE prog w kt os room c Ir Z Is Z':=by
 intro A s F FG r0 g0 o p q;obtain⟨u,v,x,y,z⟩:=m _ _ p;refine dj (h A s F FG u v o z ((q.perm ?_).fv (y.append_right FG))) ?_
 ·rw[<-bQ,<-bQ];exact x.append_right F
 ·rintro r l ⟨a,B,C,d,e,f⟩;obtain⟨b,r2,g2,e2,i,j,k⟩:=n l.heap.objs.size l.toks a B C d;refine⟨b,r2,g2,k,e.trans e2,(f.perm ?_).fv (j.append_right FG)⟩;rw[<-bQ,<-bQ];exact i.append_right F
theorem bE.Zb{ι:Type}{X:ι->b7}(h:∀i,bE prog w kt os room c pre (X i) out X'):bE prog w kt os room c pre (λr g=>∃i,X i r g) out X':=by
 rintro A s F FG r0 g0 a ⟨i,b⟩ d;exact h i A s F FG r0 g0 a b d
variable{tr:Sem PySem.Fin}{Zc:Nat->Nat->L2->Sem PySem.Fin×bH}
theorem c9.fr(h:c9 prog w kt os room c tr pre bV Zc (λz=>bV))(Y:b7):c9 prog w kt os room c tr pre Y Zc (λz=>Y):=by
 intro e f a g s F FG r0 g0 i j k;refine h e f a g s (r0++F) (g0++FG) [] [] ⟨rfl,rfl⟩ j ?_;rintro l b r1 g1 ⟨rfl,rfl⟩ d;exact k l b r0 g0 i d
variable{α:Type}{acj:Nat}{It:α->Value->bH->Prop}{bL:Result->bH->bR->Prop}{σ σ':List α}
theorem bG.fr(h:bG prog w kt os acj It bL room c pre bV σ out (λz=>bV) σ')(Y:b7):bG prog w kt os acj It bL room c pre Y σ out (λz=>Y) σ':=by
 intro fs rr gg f a CT A s F FG r0 g0 b g d;refine h fs (r0++rr) (g0++gg) f a ?_ A s F FG [] [] b ⟨rfl,rfl⟩ (by simpa only[bQ,List.nil_append]using d);rintro A s F FG e r1 g1 i b ⟨rfl,rfl⟩ d;exact CT A s F FG e r0 g0 i b g (by simpa only[bQ,List.nil_append]using d)
theorem bG.ej(h:bG prog w kt os acj It bL room c pre X σ out X' σ')(m:∀r g,Z r g->Qg Ir pre X r g)(n:∀N t a r g,X' a r g->Gs (out N t a) (Is N t) Z' r g):bG prog w kt os acj It bL room c Ir Z σ Is Z' σ':=by
 intro fs rr gg o d CT A s F FG r0 g0 e p f;obtain⟨q,u,v,x,y⟩:=m _ _ p;refine h fs rr gg o d ?_ A s F FG q u e y ((f.perm ?_).fv (x.append_right _))
 ·intro A s F FG a z B C e i f;obtain⟨b,r2,g2,e2,j,k,l⟩:=n s.heap.objs.size s.toks a z B i;rw[e2];refine CT A s F FG b r2 g2 C e l ((f.perm ?_).fv (k.append_right _));simpa only[bQ]using j.append_right (rr++F)
 ·simpa only[bQ]using v.append_right (rr++F)
theorem bE.e(h:bE prog w kt os room c pre X out X'):bO prog w kt os room c pre X out X':=λA s F FG r0 g0 a z b d=>h A s F FG r0 g0 a b d
theorem bO.mono{room':Nat}(h:bO prog w kt os room c pre X out X')(l:room<=room'):bO prog w kt os room' c pre X out X':=λA s F FG r0 g0 a=>h A s F FG r0 g0 (a.le l)
theorem bO.star(h:bO prog w kt os room c pre X out X')(Y:b7):bO prog w kt os room c pre (star X Y) out (λa=>star (X' a) Y):=by
 rintro A s F FG r0 g0 g i ⟨r1,r2,g1,g2,j,k,l,n⟩ o;have b:Sat kt os s (pre++(r1++(r2++F))) (g1++(g2++FG)):=
  (o.perm (by rw[<-bQ r1];exact(l.append_right F).append_left pre)).fv (by rw[<-bQ g1];exact n.append_right FG)
 refine dj (h A s (r2++F) (g2++FG) r1 g1 g (i.mono λp m=>dp _ m) j b) ?_;rintro r u ⟨a,q,t,d,e,f⟩;exact⟨a,q++r2,t++g2,sW d k,e,by simpa only[bQ]using f⟩
theorem bO.dP(h:bO prog w kt os room c pre X out X')(d:∀r g,Z r g->X r g)(f:∀a r g,X' a r g->Z' a r g):bO prog w kt os room c pre Z out Z':=by
 intro A s F FG r0 g0 i j k l;refine dj (h A s F FG r0 g0 i j (d _ _ k) l) ?_;rintro r p ⟨a,m,n,o,e,b⟩;exact⟨a,m,n,f _ _ _ o,e,b⟩
theorem bO.dX(h:bO prog w kt os room c pre X out X')(a:∀r g,Z r g->xQ G X r g):bO prog w kt os room c (pre++G) Z out X':=by
 intro A s F FG r0 g0 b d e f;obtain⟨i,j,k⟩:=a _ _ e;refine h A s F FG i g0 b d k (f.perm ?_);rw[bQ];refine fZ _ ?_;rw[<-bQ];exact j.append_right F
theorem bO.ej(h:bO prog w kt os room c pre X out X')(m:∀r g,Z r g->Qg Ir pre X r g)(n:∀N t a r g,X' a r g->Gs (out N t a) (Is N t) Z' r g):bO prog w kt os room c Ir Z Is Z':=by
 intro A s F FG r0 g0 o p q u;obtain⟨v,x,y,z,B⟩:=m _ _ q;refine dj (h A s F FG v x o p B ((u.perm ?_).fv (z.append_right FG))) ?_
 ·rw[<-bQ,<-bQ];exact y.append_right F
 ·rintro r l ⟨a,C,D,d,e,f⟩;obtain⟨b,r2,g2,e2,i,j,k⟩:=n l.heap.objs.size l.toks a C D d;refine⟨b,r2,g2,k,e.trans e2,(f.perm ?_).fv (j.append_right FG)⟩;rw[<-bQ,<-bQ];exact i.append_right F
end
end
section
open PySem.Meets
variable{XE:b7}{A:Around}{nm qn:Str}{M:Model}{F L r0:bH}{v:L2->Value}{FG G g0:bR}{g i nt qt room:Nat}{d:L2->bH}{E:Value->Shared->Prop}{s:Shared}
noncomputable abbrev Lt:String:=PySem.W.SZ.s15367754806057639460x18
noncomputable abbrev Lu:String:=PySem.W.SZ.s5991306692159431302x13
noncomputable abbrev Dr:String:=PySem.W.SZ.s2766695959194262286x5
theorem vL:"generator.__next__" = Lt:=PySem.W.SZ.e15367754806057639460x18
theorem Lv:"StopIteration" = Lu:=PySem.W.SZ.e5991306692159431302x13
theorem vM:"tuple" = Dr:=PySem.W.SZ.e2766695959194262286x5
def fw(a:Nat):Obj:=⟨.type Lu,none,.fields ⟨[.ref a,.none,.none,.none,.bool false,.none]⟩,#[]⟩
def jh(kt:KT):Prop:=∃o,kt.get cStatics=some o/\m8 o=true
section
variable{prog:Program}{w:World}{kt:KT}{os:OsState}{α:Type}{acj:Nat}{It:α->Value->bH->Prop}{bL:Result->bH->bR->Prop}
theorem Sat.setGen{c gs':GenState}(h:Sat kt os s L ((i,c)::G))(j:gs'.bare=true):Sat kt os (s.setGen i gs') L ((i,gs')::G):=by
 obtain⟨SL,h⟩:=h;have f:=h.kB _ (.head _);have lt:i<s.gens.size:=by
  rw[F6]at f;exact f.1
 refine⟨SL,h.old,h.own,h.free,h.nd,λq hq=>?_,h.Gf,λy a=>?_,h.C0⟩
 ·show(s.gens.setIfInBounds i gs')[q.1]?=some q.2;rcases c4.mp hq with rfl|hq
  ·simp[lt]
  ·have ne:=λe=>by
    have:=h.Gf;rw[fN,pR]at this;exact this.1 (by rw[show(i,c).1=q.1 from e];exact iE hq)
   rw[Array.getElem?_setIfInBounds_ne ne];exact h.kB q (.tail _ hq)
 ·have b:y∈s.gens.setIfInBounds i gs':=a;rcases Array.mem_or_eq_of_mem_setIfInBounds b with a|rfl
  ·exact h.bare y a
  ·exact j
theorem SegX.TR{c:Code}{t:Sem PySem.Fin}{fs:List Frame}{P P':End->Shared->Prop}(x:SegX M A c t fs s P)(h:∀e a,e.quiet=true->P e a->P' e a):SegX M A c t fs s P':=λj p k b=>by
 obtain⟨e,a,l,f,m⟩:=x j p k b;exact⟨e,a,l,f,h e a f m⟩
variable(prog w kt os acj It bL)in
def Qh(σ:List α)(a:bH)(b:bR):GenState->Prop|.fresh c=>∀A s F FG,Kh acj A F->Sat kt os s (a++F) (b++FG)->SegX (model prog w) A c (denote table c) [] s (qH prog w kt os acj It bL σ F FG)|.suspended k Y c V fs cl=>cl=false/\∀A s F FG,Kh acj A F->Sat kt os s (a++F) (b++FG)->SegX (model prog w) A c (k (.send .none)) fs s (qH prog w kt os acj It bL σ F FG)|Y=>False
structure fJ where(g i nt:Nat)(nm:Str)(qt:Nat)(qn:Str)
variable{y:fJ}
def cc(y:fJ):Obj:=jX y.i y.nt y.nm y.qt y.qn
variable(prog w kt os acj It bL)in
def nP(i:Nat)(σ:List α):b7:=λrr b=>∃a gg,b=(i,a)::gg/\Qh prog w kt os acj It bL σ rr gg a
def gm(i:Nat):b7:=λr a=>r=[]/\a=[(i,.finished)]
theorem kC(h:s.heap.get? g=some (jX i nt nm qt qn)):s.heap.IsGen g i:=
 ⟨_,_,_,h,by show Value.type VK=_;rw[<-P1],rfl,rfl⟩
theorem xR(I:jh kt){Q:PySem.Fin->Shared->Prop}{σ:List α}(u:Kh acj A ((g,jX i nt nm qt qn)::F))(J:nP prog w kt os acj It bL i σ r0 g0)(t:Sat kt os s ((g,jX i nt nm qt qn)::(r0++F)) (g0++FG))(C:∀(e:End)(D:Shared),e.quiet=true->qH prog w kt os acj It bL σ ((g,jX i nt nm qt qn)::F) ((i,.running)::FG) e D->
   wpAny (model prog w) A (match e.result with
    |.yielded v=>ret v
    |.returned v=>do
     if v==.none then raiseNew (<-newExc (.type "StopIteration") [])
     rule "generator.return-value";throw (<-newExc (.type "StopIteration") [v])
    |.raised e=>Builtin.Generator.genLeft (.ref g) e
    |.running=>do rule "generator.already-executing";raiseError "ValueError" "generator already executing"
    |.justStarted=>do rule "generator.send-to-fresh";raiseError "TypeError" "can't send non-None value to a just-started generator"
    |.finished=>do raiseNew (<-newExc (.type "StopIteration") [])) Q E (D.setGen i e.genState)):
  wpAny (model prog w) A (Builtin.Generator.genWake (.ref g) (.send .none)) Q E s:=by
 obtain⟨H,gg,rfl,b⟩:=J;have K:=kC (t.own (g,jX i nt nm qt qn) (.head _));have f:=t.kB (i,H) (.head _);obtain⟨o,ho,N⟩:=I;have q:=kA (t.old _ _ ho) N;have depth:A.depth<recursionLimit:=by
  have:=u.1.depth;show A.depth<1000;unfold oG at this;omega
 refine bI (ky (wpAny_genNumber K (bI (wpAny_genState f ?_))));have r:Sat kt os (s.setGen i .running) (r0++((g,jX i nt nm qt qn)::F)) (gg++((i,.running)::FG)):=by
  have z:=t;exact((z.setGen (gs':=.running) rfl).perm (ve [_] r0 F)).fv (by
   show([(i,GenState.running)]++(gg++FG)).Perm _;rw[<-bQ];exact(fu.append_right _).trans (by rw[bQ];exact .refl _))
 cases H with
 |running=>exact b.elim
 |finished=>exact b.elim
 |fresh c=>
  refine bI (wpAny_roomToWake q depth ?_);have x:=b A _ _ _ u r;exact wake_any _ prog w f (.inl ⟨rfl,rfl,rfl,rfl⟩) (λj=>j.In A) (λy h=>h) ((SegX.TR x) λe a m B j p n=>C e a m B j p n)
 |suspended k l c p fs cl=>
  refine bI (wpAny_roomToWake q depth ?_);have x:=b.2 A _ _ _ u r;exact wake_any _ prog w f (.inr ⟨k,l,p,cl,rfl,rfl⟩) (λj=>j.In A) (λy h=>h) ((SegX.TR x) λe a m B j p n=>C e a m B j p n)
theorem gY.in1{m n:Nat}(h:gY n A)(l:m+10<=n):gY m A.in1:=by
 refine⟨h.hd,?_,?_⟩
 ·have:=h.depth;have:=xG (show m<=n by exact cu (h9 _ _) l);show A.depth+fR m<=oG;omega
 ·have:=h.units;show A.units+1+m<=sL;omega
abbrev fe(g:Nat):Code:=.builtin Lt ⟨[.ref g],[]⟩
theorem nQ(h:jh kt){R:Result->Shared->Prop}{σ:List α}(j:Kh acj A.in1 ((g,jX i nt nm qt qn)::F))(k:nP prog w kt os acj It bL i σ r0 g0)(l:Sat kt os s ((g,jX i nt nm qt qn)::(r0++F)) (g0++FG))(m:∀(e:End)(b:Shared),e.quiet=true->qH prog w kt os acj It bL σ ((g,jX i nt nm qt qn)::F) ((i,.running)::FG) e b->
   wpAny (model prog w) A.in1 (match e.result with
    |.yielded v=>ret v
    |.returned v=>do
     if v==.none then raiseNew (<-newExc (.type "StopIteration") [])
     rule "generator.return-value";throw (<-newExc (.type "StopIteration") [v])
    |.raised e=>Builtin.Generator.genLeft (.ref g) e
    |.running=>do rule "generator.already-executing";raiseError "ValueError" "generator already executing"
    |.justStarted=>do rule "generator.send-to-fresh";raiseError "TypeError" "can't send non-None value to a just-started generator"
    |.finished=>do raiseNew (<-newExc (.type "StopIteration") []))
    (λfin a=>match fin with
     |.done f=>R (.ok f) a
     |.again c=>c.quiet=true/\codeAny (model prog w) A c R a) (λe a=>R (.error e) a) (b.setGen i e.genState)):
  codeAny (model prog w) A (fe g) R s:=by
 refine g6 (by rw[<-vL];exact rF) ?_;exact xR h j k l m
theorem mJ(b:acj+10<=room)(a:gY room A):Kh acj A.in1 F:=by
 have h:=a.depth;unfold oG at h;have:=Y4 (r:=room) (by omega);have e:acj%1000=acj:=Nat.mod_eq_of_lt (by omega);exact⟨by rw[e];exact a.in1 b,λq=>absurd q (by omega)⟩
theorem pZ(a:acj%1000+10<=room)(b:gY room A)(c:gS A F none)(p:Nat×Obj):Kh acj A.in1 (p::F):=
 ⟨b.in1 a,λz=>let⟨l,e,h⟩:=c.none;⟨l,e,λenv m=>(h env m).mono λz m=>.tail _ m⟩⟩
theorem sX(t:jh kt){x:α}{σ:List α}(j:∀a it,It x a it->∃b,a=v b/\it=d b)(m:Kh acj A.in1 ((y.g,cc y)::F))(u:nP prog w kt os acj It bL y.i (x::σ) r0 g0)(n:Sat kt os s ((y.g,cc y)::(r0++F)) (g0++FG)):
  codeAny (model prog w) A (fe y.g) (gT kt os (λZ Z b=>(.ok (.ret (v b)),(y.g,cc y)::d b)) (λb r1 g1=>nP prog w kt os acj It bL y.i σ (bk (d b)++r1) g1) F FG) s:=by
 refine nQ t m u n λe H B C=>?_;obtain⟨a,l,k,c,p,fs,it,L,h,rfl,o,q,r⟩:=C;obtain⟨b,rfl,rfl⟩:=j _ _ o;have f:fs.any Frame.guarded=false:=by
  have:(!(false||fs.any Frame.guarded))=true:=B;simpa using this
 refine ck ?_;refine⟨b,L,(y.i,.suspended k l c p fs (false||fs.any Frame.guarded))::h,⟨_,h,rfl,?_,λA s F FG m n=>r A s F FG m (by rw[<-bQ];exact n)⟩,rfl,?_⟩
 ·simpa using f
 ·have z:=q.fv (by
   show(h++([(y.i,GenState.running)]++FG)).Perm ([(y.i,GenState.running)]++(h++FG));rw[<-bQ];exact fu.append_right _)
  have D:=z.setGen (gs':=.suspended k l c p fs (false||fs.any Frame.guarded)) (by simp[GenState.bare,f]);exact D.perm (by
   show(d b++(L++([(y.g,cc y)]++F))).Perm ([(y.g,cc y)]++(d b++(L++F)));refine(fZ _ (ve L _ F)).trans (ve _ _ _))
theorem Ds(e:jh kt){x:α}{σ:List α}(c:∀a it,It x a it->∃b,a=v b/\it=d b)(f:acj+10<=room):
  bE prog w kt os room (fe y.g) [(y.g,cc y)] (nP prog w kt os acj It bL y.i (x::σ)) (λz z b=>(.ok (.ret (v b)),(y.g,cc y)::d b)) (λb r g=>nP prog w kt os acj It bL y.i σ (bk (d b)++r) g):=
 λz z z z z z h j k=>sX e c (mJ f h) j k
theorem Dt(e:jh kt){x:α}{σ:List α}(c:∀a it,It x a it->∃b,a=v b/\it=d b)(f:acj%1000+10<=room):
  bO prog w kt os room (fe y.g) [(y.g,cc y)] (nP prog w kt os acj It bL y.i (x::σ)) (λz z b=>(.ok (.ret (v b)),(y.g,cc y)::d b)) (λb r g=>nP prog w kt os acj It bL y.i σ (bk (d b)++r) g):=
 λz z z z z z h j k l=>sX e c (pZ f h j _) k l
theorem Iu(j:jh kt){x:α}{σ:List α}(e:∀a it,It x a it->∃b,a=v b/\it=d b)(k:∀b,bk (d b)=[])(l:acj+10<=room):
  bE prog w kt os room (fe y.g) [(y.g,cc y)] (nP prog w kt os acj It bL y.i (x::σ)) (λu u b=>(.ok (.ret (v b)),(y.g,cc y)::d b)) (λu=>nP prog w kt os acj It bL y.i σ):=by
 have z:=Ds (prog:=prog) (w:=w) (os:=os) (y:=y) (σ:=σ) (bL:=bL) j e l;intro A s F FG r0 g0 m n o;refine dj (z A s F FG r0 g0 m n o) ?_;rintro r p ⟨b,r1,g1,f,er,h⟩;refine⟨b,r1,g1,?_,er,h⟩;have c:=f;rw[k b]at c;exact c
theorem Sat.Zd{x y:Nat×Obj}(h:Sat kt os s (x::y::L) G):Sat kt os s (x::L) G:=
 (h.perm (L':=(x::L)++[y]) ((fu (l₁:=[y])).cons x)).drop
theorem kD{Q:Value->Shared->Prop}(h:Sat kt os s L G)(f:∀c a b,Sat kt os c ((a,fw b)::L) G->Q (.ref a) c):wpAny M A (newExc (.type "StopIteration") []) Q E s:=by
 refine bI (jD ?_ (by size_fits));refine bI (mF (by first|rfl|(simp only[firstArgMember];rfl)) ?_);refine jD ?_ (by size_fits);have y:=(h.alloc (o:={ cls:=.type "tuple",dict:=none,data:=.seq #[] }) rfl).alloc (o:={ cls:=.type "StopIteration",dict:=none,data:=.fields (#[.ref s.heap.objs.size,.none,.none,.none,.bool false,.none]++ownMembersOf (.type "StopIteration") []) }) rfl;refine f _ _ s.heap.objs.size ?_;have e:({ cls:=.type "StopIteration",dict:=none,data:=.fields (#[.ref s.heap.objs.size,.none,.none,.none,.bool false,.none]++ownMembersOf (.type "StopIteration") []) }:Obj)=fw s.heap.objs.size:=by
  rfl
 exact y.Zd
theorem sY(o:jh kt)(p:∀r L c,bL r L c->r=.ok (.ret .none)/\XE L c)(q:Kh acj A.in1 ((y.g,cc y)::F))(t:A.handled=none)(u:nP prog w kt os acj It bL y.i [] r0 g0)(x:Sat kt os s ((y.g,cc y)::(r0++F)) (g0++FG)):
  codeAny (model prog w) A (fe y.g) (gT kt os (λv v f=>(.error (.ref (f.n 0)),[(f.n 0,fw (f.n 1)),(y.g,cc y)])) (λv=>star (gm y.i) XE) F FG) s:=by
 refine nQ o q u x λe D H B=>?_;obtain⟨r,L,c,rfl,j,k⟩:=B;obtain⟨rfl,l⟩:=p _ _ _ j;have z:=k.fv (by
   show(c++([(y.i,GenState.running)]++FG)).Perm ([(y.i,GenState.running)]++(c++FG));rw[<-bQ];exact fu.append_right _)
 have C:=z.setGen (gs':=.finished) rfl;show wpAny _ _ (if(Value.none==Value.none)=true then _ else _) _ _ _;refine bI (kD C λm a b h=>bI ?_);refine bI (oz ?_);rw[show A.in1.handled=none from t];refine mE ?_;refine⟨⟨λn=>match n with|0=>a|_=>b,λv=>.none,λv=>[]⟩,L,(y.i,.finished)::c,?_,rfl,?_⟩
 ·exact⟨[],L,[(y.i,.finished)],c,⟨rfl,rfl⟩,l,.refl _,.refl _⟩
 ·exact h.perm (by
   show([(a,fw b)]++(L++([(y.g,cc y)]++F))).Perm ([(a,fw b)]++([(y.g,cc y)]++(L++F)));exact fZ _ (ve _ _ _))
theorem vN(e:jh kt)(f:∀r L b,bL r L b->r=.ok (.ret .none)/\XE L b)(h:acj+10<=room):
  bE prog w kt os room (fe y.g) [(y.g,cc y)] (nP prog w kt os acj It bL y.i []) (λz z a=>(.error (.ref (a.n 0)),[(a.n 0,fw (a.n 1)),(y.g,cc y)])) (λz=>star (gm y.i) XE):=
 λz z z z z z c j k=>sY e f (mJ h c) c.hd j k
theorem Du(e:jh kt)(f:∀r L b,bL r L b->r=.ok (.ret .none)/\XE L b)(h:acj%1000+10<=room):
  bO prog w kt os room (fe y.g) [(y.g,cc y)] (nP prog w kt os acj It bL y.i []) (λz z a=>(.error (.ref (a.n 0)),[(a.n 0,fw (a.n 1)),(y.g,cc y)])) (λz=>star (gm y.i) XE):=
 λz z z z z z c j k l=>sY e f (pZ h c j _) c.hd k l
theorem nT:
  bE prog w kt os room (fe y.g) [(y.g,cc y)] (gm y.i) (λz z c=>(.error (.ref (c.n 0)),[(c.n 0,fw (c.n 1)),(y.g,cc y)])) (λz=>gm y.i):=by
 rintro A s F FG r0 g0 l ⟨rfl,rfl⟩ f;refine g6 (by rw[<-vL];exact rF) ?_;show wpAny _ A.in1 (Builtin.Generator.genWake (.ref y.g) (.send .none)) _ _ s;have m:=kC (f.own (y.g,cc y) (.head _));have e:=f.kB (y.i,.finished) (.head _);refine bI (ky (wpAny_genNumber m (bI (wpAny_genState e ?_))));intro o p j;show Sem.wp _ _ (.resume _ _ _ _) _ _ _ _;refine⟨.finished,s,by unfold Wakes;rw[e];exact⟨rfl,rfl⟩,?_⟩;refine(?_:wpAny (model prog w) A.in1 (do raiseNew (<-newExc (.type "StopIteration") []):Sem PySem.Fin) _ _ s) o p j;refine bI (kD f λk a b h=>?_);refine bI (oz ?_);rw[show A.in1.handled=none from l.hd];refine mE ?_;exact⟨⟨λn=>match n with|0=>a|_=>b,λz=>.none,λz=>[]⟩,_,_,⟨rfl,rfl⟩,rfl,h⟩
end
noncomputable abbrev sN(l:List Nat)(h:PySem.W.S.low l=true):String:=PySem.W.S.litE (l.map UInt8.ofNat) l h rfl
theorem lj{s:String}{l:List Nat}{h:PySem.W.S.low l=true}(e:String.ofList (l.map Char.ofNat)=s):s=sN l h:=e▸PySem.W.S.litE_eq _ _ h rfl
end
def dm(l:List Value)(n:Nat):Obj:=⟨.type Dr,none,.seq ⟨l⟩ n,#[]⟩
structure ht where(a mt:Nat)(m:List Nat)(tt:Nat)(s:List Nat)
def rN(i:ht):Obj:=dm [.str ⟨⟨i.m⟩⟩ i.mt,.str ⟨⟨i.s⟩⟩ i.tt] 0
noncomputable def ek(l:List ht):List Value:=l.map λi=>.ref i.a
noncomputable def Gt(l:List ht):List (List Nat×Nat):=l.map λi=>(i.s,i.tt)
def ku(l:List ht):List Nat:=((Gt l).map (·.1)).flatten
noncomputable def lC:List (List Nat×List Nat)->Nat->Nat->List ht|[],Y,V=>[]|(m,s)::r,a,t=>⟨a,t,m,t+1,s⟩::lC r (a+1) (t+2)
def Qi(l:List ht):bH:=l.map λi=>(i.a,rN i)
def ce(B:bH):b7:=λr g=>r=B/\g=[]
def dr(P:Params)(B:bH)(a:Nat)(o:Obj):Prop:=(a,o)∈B\/(bY P).get a=some o
noncomputable def df(l:List (Int×Nat)):List Value:=l.map λp=>.int p.1 p.2
noncomputable def YX:List (Nat×List ht):=[(527,[⟨526,892,[71,65,80],893,[32]⟩]),
 (529,[⟨528,894,[71,65,80],895,[32,32]⟩]),
 (531,[⟨530,896,[71,65,80],897,[9]⟩]),
 (533,[⟨532,898,[78,79,84,69],899,[47,42,42,47]⟩]),
 (535,[⟨534,900,[69,78,68],901,[10]⟩]),
 (539,[⟨536,902,[71,65,80],903,[32]⟩,⟨537,904,[78,79,84,69],905,[47,42,10,42,47]⟩,⟨538,906,[71,65,80],907,[32]⟩]),
 (543,[⟨540,908,[71,65,80],909,[32]⟩,⟨541,910,[78,79,84,69],911,[12]⟩,⟨542,912,[71,65,80],913,[9]⟩]),
 (547,[⟨544,914,[69,78,68],915,[10]⟩,⟨545,916,[69,78,68],917,[10]⟩,⟨546,918,[71,65,80],919,[32]⟩]),
 (552,[⟨548,920,[71,65,80],921,[32]⟩,⟨549,922,[78,79,84,69],923,[47,47,121]⟩,⟨550,924,[69,78,68],925,[10]⟩,⟨551,926,[71,65,80],927,[32]⟩]),
 (555,[⟨553,928,[71,65,80],929,[32]⟩,⟨554,930,[78,79,84,69],931,[47,42,42,42,47]⟩])]
structure V4 where(a l:Nat)(its:List ht)(told:Int)(tt:Nat)
noncomputable def V5:List V4:=[⟨559,558,[⟨557,933,[69,78,68],934,[10]⟩],-2,936⟩,
 ⟨561,560,[],-2,938⟩,
 ⟨564,563,[⟨562,939,[71,65,80],940,[32,32]⟩],-2,942⟩,
 ⟨568,567,[⟨565,943,[69,78,68],944,[10]⟩,⟨566,945,[71,65,80],946,[9]⟩],-2,948⟩,
 ⟨572,571,[⟨569,949,[71,65,80],950,[32]⟩,⟨570,951,[78,79,84,69],952,[47,47,121]⟩],-2,954⟩,
 ⟨576,575,[⟨573,955,[69,78,68],956,[10]⟩,⟨574,957,[78,79,84,69],958,[47,42,122,42,47]⟩],-2,960⟩,
 ⟨581,580,[⟨577,961,[69,78,68],962,[10]⟩,⟨578,963,[78,79,84,69],964,[47,42,122,42,47]⟩,⟨579,965,[69,78,68],966,[10]⟩],-2,968⟩,
 ⟨585,584,[⟨582,969,[71,65,80],970,[32]⟩,⟨583,971,[66,65,68],972,[34,117,110]⟩],-1,974⟩,
 ⟨589,588,[⟨586,975,[71,65,80],976,[32]⟩,⟨587,977,[66,65,68],978,[39,92,113,39]⟩],2,979⟩,
 ⟨593,592,[⟨590,980,[69,78,68],981,[10]⟩,⟨591,982,[66,65,68],983,[39,120,121,39]⟩],2,984⟩,
 ⟨597,596,[⟨594,985,[71,65,80],986,[32]⟩,⟨595,987,[66,65,68],988,[47,42,117,110]⟩],-1,990⟩,
 ⟨601,600,[⟨598,991,[71,65,80],992,[32]⟩,⟨599,993,[66,65,68],994,[34,97,92,56,34]⟩],3,995⟩,
 ⟨605,604,[⟨602,996,[71,65,80],997,[9]⟩,⟨603,998,[66,65,68],999,[39,39,59]⟩],2,1000⟩,
 ⟨609,608,[⟨606,1001,[71,65,80],1002,[32]⟩,⟨607,1003,[66,65,68],1004,[47,47,32,121]⟩],2,1005⟩]
def rO:Nat->Nat×List ht:=λi=>YX.getD i (0,[])
def rP:Nat->V4:=λi=>V5.getD i ⟨0,0,[],0,0⟩
def hv:bH:=[(556,br (YX.map λp=>.ref p.1) 0),(610,br (V5.map λe=>.ref e.a) 0)]++(YX.map λp=>(p.1,br (ek p.2) 0))++(V5.map λe=>(e.l,br (ek e.its) 0))++Qi (YX.map (·.2)).flatten++Qi (V5.map (·.its)).flatten
def fS(B:bH):Prop:=∀p∈hv,p∈B
noncomputable def mZ(ps:Array Value):Obj:={ cls:=.none,data:=.fields ps }
inductive Ax(o:Obj):Prop where|mk:∀ps,(o=mZ ps)->(TriplesOk ps.toList)->Ax o
def Pl:b7:=λr g=>∃o,r=[(225,o)]/\g=[]/\Ax o
inductive nV(r:bH)(g_:bR):Prop where|mk:∀p B' j,(Ax p)->(fS B')->(r.Perm ((225,p)::(B'++j)))->nV r g_
def Ay(S:Nat)(xs:List Value)(n:Nat):cX where
 c:=.call (.ref 641) ⟨[.ref S],[]⟩
 pre:=[(S,br xs n)]
 out _ _ _:=(rV (.bool true),[(S,br xs n)])
 e:=true
def Az(p:World×OsState):Prop:=∀(S n:Nat)(ip:List (Int×Nat)),ip.length<=10000->
 bO pz p.1 (bY p.1.params) p.2 850 (Ay S (df ip) n).c (Ay S (df ip) n).pre (star (ce hv) Pl) (Ay S (df ip) n).out (λz=>nV)
theorem sZ:Nonempty (World×OsState):=⟨(⟨λz z=>0,{ strHash:=λz=>0,shareClass:=λz=>0,mergeTok:=id,idOf:=λz=>0,idOfShared:=λz z=>0,followText:=λz=>false,idOfImm:=λz=>0 }⟩,{})⟩
@[irreducible] def wo:World×OsState:=@Classical.epsilon _ sZ λp=>¬ Az p
@[irreducible] def w:World:=wo.1
@[irreducible] def os:OsState:=wo.2
def b1:Bool:=w.params.followText "special-get-raises"
def b2:Bool:=w.params.followText "comprehension-iter-twice"
theorem acG:wv w b1 b2=w:=Qc w
theorem Iv(h:Az (w,os))(p:World×OsState):Az p:=by
 refine Classical.byContradiction λhn=>?_;have:=Classical.epsilon_spec_aux sZ (λp=>¬ Az p) ⟨p,hn⟩;unfold w os wo at h;exact this h
theorem eu{a:Type _}{p:a->Prop}:∀x∈([]:List a),p x:=λz h=>(pQ h).elim
theorem two{a:Sort _}(f:Bool->a)(b:Bool):f b=f false\/f b=f true:=by cases b;exact .inl rfl;exact .inr rfl
section
variable{t:Thread}
noncomputable def Gu(p:Program)(w:World)(s:SharedT)(t:Thread):Option (SharedT×Thread):=PySem.W.Fast.tw10156331382660048174 (PySem.W.Fast.tw11892475500146522536 PySem.W.Fast.tw14364793385576792824) p w s t
theorem Lw{p:Program}{w:World}{s:SharedT}:Gu p w s t=stepT (denote treeTable) p w s t:=by
 unfold Gu;rw[<-PySem.W.Fast.te14364793385576792824,<-PySem.W.Fast.te11892475500146522536,<-PySem.W.Fast.te10156331382660048174]
noncomputable def okF(a:Nat)(b:Option Value)(t:Thread):Bool:=PySem.W.Fast.tw6613529449190102663 a b t
theorem V6{a:Nat}{b:Option Value}:okF a b t=stepOk a b t:=by
 unfold okF;rw[<-PySem.W.Fast.te6613529449190102663]
def rQ(p:Program)(w:World)(a:Nat)(b:Option Value):Nat->SharedT->Thread->Option SharedT
 |0,Y,V=>none
 |n+1,s,t=>match through t with
  |true=>some s
  |false=>match okF a b t with
   |false=>none
   |true=>match Gu p w s t with
    |some (c,d)=>rQ p w a b n c d
    |none=>none
theorem vO{p:Program}{w:World}{a:Nat}{b:Option Value}:∀{n:Nat}{s c:SharedT}{t:Thread},rQ p w a b n s t=some c->topRun treeTable p w a b n s.abs t=some c.abs
 |0,Y,V,U,h=>by cases h
 |n+1,s,c,t,h=>by
  unfold rQ at h;unfold topRun;cases he:through t with
  |true=>rw[he]at h;cases h;rfl
  |false=>
   rw[he]at h;rw[V6]at h;cases e:stepOk a b t with
   |false=>rw[e]at h;cases h
   |true=>
    rw[e]at h;cases d:Gu p w s t with
    |none=>rw[d]at h;cases h
    |some r=>obtain⟨f,g⟩:=r;rw[d]at h;rw[stepT_spec (Lw.symm.trans d)];exact vO h
noncomputable def mkT:List Obj->Nat->BT->BT|[],Y,t=>t|o::l,i,t=>mkT l (i+1) (t.ins i o)
def TS(P:Params)(os:OsState):SharedT:=⟨mkT (boot_heap P).objs.toList 0 .nil,(boot_heap P).objs.size,(boot_heap P).life,#[],boot_drawn,boot_toks,os⟩
theorem Iw(P:Params)(os:OsState):(TS P os).abs=⟨boot_heap P,#[],boot_drawn,boot_toks,os⟩:=by kernel_rfl
theorem Ix(P:Params):((boot_heap P).isNs mainGlobals&&(#[]:Array GenState).size==0)=true:=by kernel_rfl
def Iy(N:Nat)(w:World)(os:OsState):Option SharedT:=rQ pz w (boot_heap w.params).objs.size ((boot_heap w.params).nsMap mainGlobals "__annotations__") N (TS w.params os) (topStub pz)
theorem Ze{σ a d:Type}{o:Option σ}{f:σ->Bool}{g:σ->a}{h:σ->d}{b:a}{c:d}(e:o.map f=some true)(j:o.map g=some b)(k:o.map h=some c):o.map (λs=>(f s,g s,h s))=some (true,b,c):=by
 cases o with
 |none=>cases e
 |some s=>cases i:f s<;>simp_all
theorem Iz{q:Program}{a:List PySem.Str}{j:Shared->Bool}{l:Type}{m:Shared->l}{n:World->l}{N:Nat}(e:opening pz=plainProg pz.main.scope.names)(f:∀s,fenceModules? pz s=some s)(o:Nat.ble 600 N=true)(c:∀w os,(Iy N w os).map (λs=>(staticsOk (importedModules pz.main.body) (boot_heap w.params) s.abs.heap&&namesBound pz s.abs.heap&&gensDone s.abs&&laidKept (boot_heap w.params) s.abs.heap))=some true)(g:∀w os,(Iy N w os).map (λs=>openSeen q a (importedModules pz.main.body) j true s.abs)=some (openGood q a))(i:∀w os,(Iy N w os).map (λs=>m s.abs)=some (n w)):LeftO pz q a j m n N:=λw=>by
 obtain⟨⟨h,p,d,k,os⟩,e1,u⟩:=pO.mp (boot_open e o f w);obtain⟨rfl,rfl,rfl,rfl⟩:h=boot_heap w.params/\p=Array.mk []/\d=boot_drawn/\k=boot_toks:=by simpa using u
 obtain⟨b,v,x⟩:=pO.mp (Ze (c w os) (g w os) (i w os));obtain⟨l1,l2,y⟩:_/\_/\_:=by simpa only[Prod.mk.injEq]using x
 have r:=vO v;rw[Iw]at r;have t:topFrom treeTable pz w N ⟨boot_heap w.params,Array.mk [],boot_drawn,boot_toks,os⟩=some b.abs:=by
  unfold topFrom;dsimp only;rw[Ix,r];show(match staticsOk (importedModules pz.main.body) (boot_heap w.params) b.abs.heap&&namesBound pz b.abs.heap&&gensDone b.abs&&laidKept (boot_heap w.params) b.abs.heap with|true=>_|false=>_)=_;rw[l1]
 unfold openEnds;rw[e1];show(topFrom treeTable pz w N _).map _=_;rw[t];exact b8 some (Prod.ext l2 y)
end
def Qj:KT->Nat->Nat->List (Nat×Obj)
 |.nil,Y,V=>[]
 |.node v l r,s,b=>(match v with
  |some o=>[(b,o)]
  |none=>[])++(Qj l (2*s) (s+b)++Qj r (2*s) (2*s+b))
theorem mK:∀(t:KT)(s b i:Nat)(o:Obj),t.get i=some o->(s*i+b,o)∈Qj t s b
 |.nil,Y,V,U,T,h=>nomatch (show(none:Option Obj)=some _ from h)
 |.node v l r,s,b,i,o,h=>by
  rw[KT.get_node]at h;by_cases a:i=0
  ·rw[bP a]at h;subst a h;exact dQ _ (by rw[Nat.mul_zero,rv];exact .head _)
  ·rw[bu a]at h;refine dp _ ?_;by_cases p:i%2=1
   ·rw[bP p]at h;rw[KT.arith1 p];exact dQ _ (mK l _ _ _ _ h)
   ·rw[bu p]at h;rw[KT.arith2 a p];exact dp _ (mK r _ _ _ _ h)
noncomputable def Lx:List Nat:=[0,3,127,415,223,351,47,79,271,207,335,303,559,327,407,215,183,503,35,67,387,483,83,275,339,435,243,139,155,443,251,379,635,257,513,641,321,609,49,81,145,401,209,593,561,497,265,393,201,585,617,489,601,313,581,101,293,421,229,357,597,373,629,525,589,461,173,429,237,365,621,61,605,445,2,4,640,320,576,48,80,272,400,208,496,264,200,328,616,408,216,568,504,36,68,292,84,564,436,244,372,628,524,172,428,236,364,156,572,380,636,258,514,386,482,50,82,146,274,394,490,90,314,442,250,102,422,230,358,182,46,78,334,462,302,622,414,222,350,126,446]
noncomputable def Dv:List Nat:=[0,1,3,6,24,46,55,78,89,126,134,155,162,182,190,274,282,302,338,445,451,513]
noncomputable def Ly:Option Obj->Option (Option String)
 |none=>none
 |some o=>match o.data with
  |.dict ..=>(match o.cls with
   |.type n=>some (some n)
   |Y=>some none)
  |Y=>some none
def ktF(P:Params):Frag:=Qj (bY P) 1 0
theorem s0(P:Params):Qj (bY P) 1 0=ktF P:=by kernel_rfl
def vP(P:Params):Frag:=(225,mZ #[])::(hv++ktF P)
def oS:List Nat:=225::(hv.map (·.1)++Lx)
def Dw(s:Shared):List (Option Obj)×List (Option (Option String))×Nat:=(oS.map s.heap.get?,(List.range 642).map (λb=>Ly (s.heap.get? b)),s.heap.objs.size)
def IA(w:World):List (Option Obj)×List (Option (Option String))×Nat:=((vP w.params).map (λp=>some p.2),(List.range 642).map (λb=>some (if b∈Dv then some "dict" else none)),642)
noncomputable def vQ:List Nat:=[0,2,3,5,7,9,10,12,13,14,15,16,17,19,21,22,23,24,25,26,27,28]
def vq:Program:=view PySem.Challenge.pw_qt0012_01 vQ
noncomputable def s6:List PySem.Str:=[PySem.Str.ofString "Token",PySem.Str.ofString "SourceLocation",PySem.Str.ofString "CToken",PySem.Str.ofString "CompilerError",PySem.Str.ofString "CLexer",PySem.Str.ofString "_law_AHEAD",PySem.Str.ofString "_law_ENDINGS"]
theorem Zf(w:World)(os:OsState):(Iy 8650 w os).map (λs=>(staticsOk (importedModules pz.main.body) (boot_heap w.params) s.abs.heap&&namesBound pz s.abs.heap&&gensDone s.abs&&laidKept (boot_heap w.params) s.abs.heap))=some true:=by kernel_rfl
theorem Zg(w:World)(os:OsState):(Iy 8650 w os).map (λs=>openSeen (view pz vQ) s6 (importedModules pz.main.body) (λs=>xlAt (view pz vQ) [] s&&recOk (RowW.records PySem.Challenge.rw_qt0012_01.row.toRowW) s) true s.abs)=some (openGood (view pz vQ) s6):=by kernel_rfl
noncomputable def Qk(s:SharedT)(a:Nat):Option Obj:=match Nat.blt a s.n with
 |true=>alive ((s.tree.get a).getD default)
 |false=>none
theorem Ql(s:SharedT)(a:Nat):s.abs.heap.get? a=Qk s a:=by
 unfold Qk;cases h:Nat.blt a s.n with
 |false=>exact abs_get_none λq=>by rw[<-Nat.blt_eq,h]at q;cases q
 |true=>
  show(absHeap s.tree s.n s.life).get? a=_;unfold Heap.get?;rw[absHeap_at,bP (by rw[<-Nat.blt_eq];exact h)];generalize(s.tree.get a).getD default=o;obtain⟨c,d,b,sl⟩:=o;cases b<;>rfl
def V7(s:SharedT):List (Option Obj)×List (Option (Option String))×Nat:=(oS.map (Qk s),(List.range 642).map (λb=>Ly (Qk s b)),s.n)
theorem Zh(w:World)(os:OsState):(Iy 8650 w os).map V7=some (IA w):=by kernel_rfl
theorem V8:(λs:SharedT=>Dw s.abs)=V7:=funext λs=>by
 unfold Dw V7;rw[funext (Ql s),show s.abs.heap.objs.size=s.n from absHeap_size ..]
theorem Zi:LeftO pz (view pz vQ) s6 (λs=>xlAt (view pz vQ) [] s&&recOk (RowW.records PySem.Challenge.rw_qt0012_01.row.toRowW) s) Dw IA 8650:=
 Iz (by kernel_rfl) (λs=>by kernel_rfl) rfl Zf Zg (by rw[V8];exact Zh)
theorem Zj:LeftO PySem.Challenge.pw_qt0012_01 vq s6 (λs=>xlAt vq [] s&&recOk (RowW.records PySem.Challenge.rw_qt0012_01.row.toRowW) s) Dw IA 8650:=by
 unfold vq;rw[KQ];exact Zi
set_option maxHeartbeats 0 in
theorem Zk:OpenLaw.wellSaid PySem.Challenge.rw_qt0012_01=true:=by
 delta OpenLaw.wellSaid OpenRow.wellSaid OpenRow.partSaid OpenScript.wellSaid looksOpen
 with_reducible repeat' apply look_both
 all_goals decide +kernel
section
variable{r0:bH}{g0:bR}{y:fJ}{X1 X2 XE:b7}{v:L2->Value}{d:L2->bH}
inductive cl(X:b7)(r:bH)(g:bR):Prop where|mk:∀r' g',(r.Perm r')->(g.Perm g')->(X r' g')->cl X r g
theorem Gv{X:b7}{r:bH}{g:bR}(h:X r g):cl X r g:=⟨r,g,.refl _,.refl _,h⟩
section
variable{prog:Program}{w:World}{kt:KT}{os:OsState}{room:Nat}{c:Code}{pre:bH}{X Y Z:b7}{out:Nat->Nat->L2->Result×bH}{X' Z':L2->b7}
variable{α:Type}{acj:Nat}{It:α->Value->bH->Prop}{bL:Result->bH->bR->Prop}{σ σ':List α}
theorem bE.cl(h:bE prog w kt os room c pre X out X'):bE prog w kt os room c pre (cl X) out X':=
 h.ej (λr g ⟨e,f,i,j,a⟩=>⟨e,f,i.append_left _,j,a⟩) (λN t b r g a=>⟨b,r,g,rfl,.refl _,.refl _,a⟩)
theorem Qh.fresh(h:bG prog w kt os acj It bL room c pre X σ out X' [])(k:room<=acj%1000)(l:∀N t a r g,X' a r g->∃L' b,bL (out N t a).1 L' b/\((out N t a).2++r).Perm L'/\g.Perm b)(m:X r0 g0)(j:fp c=none:=by kernel_rfl):
  Qh prog w kt os acj It bL σ (pre++r0) g0 (.fresh c):=by
 intro A s F FG e f;refine h [] [] [] (λA e=>.nil (e.le k)) (by rw[j];exact .nil) ?_ A s F FG r0 g0 e m (by simpa only[bQ,List.nil_append]using f);intro A s F FG a r1 g1 u e i f x p j n;obtain⟨L',b,he,o,q⟩:=l s.heap.objs.size s.toks a r1 g1 i;refine⟨.ret (out s.heap.objs.size s.toks a).1,s,Runs.leaf _,rfl,_,L',b,rfl,he,?_⟩;refine Sat.fv (Sat.perm f ?_) (q.append_right FG);rw[<-bQ];exact o.append_right F
theorem nP.fresh{i:Nat}(h:bG prog w kt os acj It bL room c pre X σ out X' [])(e:room<=acj%1000)(f:∀N t a r g,X' a r g->∃L' b,bL (out N t a).1 L' b/\((out N t a).2++r).Perm L'/\g.Perm b)(j:X r0 g0)(k:fp c=none:=by kernel_rfl):
  nP prog w kt os acj It bL i σ (pre++r0) ((i,.fresh c)::g0):=⟨_,g0,rfl,Qh.fresh h e f j k⟩
variable(prog w kt os acj It bL)in
def xS(i:Nat)(XE:b7)(σ:List α):b7:=cl λr g=>nP prog w kt os acj It bL i σ r g\/(σ=[]/\star (gm i) XE r g)
theorem AA(f:jh kt){x:α}(e:∀a it,It x a it->∃b,a=v b/\it=d b)(j:acj+10<=room)(k:(λb=>bk (d b))=λz=>[]:=by kernel_rfl):
  bE prog w kt os room (fe y.g) [(y.g,cc y)] (xS prog w kt os acj It bL y.i XE (x::σ)) (λz z b=>(.ok (.ret (v b)),(y.g,cc y)::d b)) (λz=>xS prog w kt os acj It bL y.i XE σ):=by
 refine bE.cl (bE.dP (Iu f e (et k) j) (λr g h=>?_) (λb r g h=>Gv (.inl h)));rcases h with h|h
 ·exact h
 ·cases h.1
theorem bO.cl(h:bO prog w kt os room c pre X out X'):bO prog w kt os room c pre (cl X) out X':=
 h.ej (λr g ⟨e,f,i,j,a⟩=>⟨e,f,i.append_left _,j,a⟩) (λN t b r g a=>⟨b,r,g,rfl,.refl _,.refl _,a⟩)
theorem vR(f:jh kt){x:α}(e:∀a it,It x a it->∃b,a=v b/\it=d b)(j:acj%1000+10<=room):
  bO prog w kt os room (fe y.g) [(y.g,cc y)] (xS prog w kt os acj It bL y.i XE (x::σ)) (λz z b=>(.ok (.ret (v b)),(y.g,cc y)::d b)) (λb r g=>xS prog w kt os acj It bL y.i XE σ (bk (d b)++r) g):=by
 refine bO.cl (bO.dP (Dt f e j) (λr g h=>?_) (λb r g h=>Gv (.inl h)));rcases h with h|h
 ·exact h
 ·cases h.1
theorem bO.or(f:bO prog w kt os room c pre X1 out X')(i:bO prog w kt os room c pre X2 out X'):bO prog w kt os room c pre (λr g=>X1 r g\/X2 r g) out X':=by
 intro A s F FG r0 g0 a b j e;rcases j with h|h
 ·exact f A s F FG r0 g0 a b h e
 ·exact i A s F FG r0 g0 a b h e
theorem bE.or(e:bE prog w kt os room c pre X1 out X')(f:bE prog w kt os room c pre X2 out X'):bE prog w kt os room c pre (λr g=>X1 r g\/X2 r g) out X':=by
 intro A s F FG r0 g0 a i b;rcases i with h|h
 ·exact e A s F FG r0 g0 a h b
 ·exact f A s F FG r0 g0 a h b
theorem AB(e:jh kt)(f:∀r L b,bL r L b->r=.ok (.ret .none)/\XE L b)(j:acj+10<=room):
  bE prog w kt os room (fe y.g) [(y.g,cc y)] (xS prog w kt os acj It bL y.i XE []) (λz z a=>(.error (.ref (a.n 0)),[(a.n 0,fw (a.n 1)),(y.g,cc y)])) (λz=>xS prog w kt os acj It bL y.i XE []):=by
 refine bE.cl (bE.or (bE.dP (vN e f j) (λz z h=>h) (λa r g h=>Gv (.inr ⟨rfl,h⟩))) ?_);refine bE.dP (nT.star XE) (λr g h=>h.2) (λa r g h=>Gv (.inr ⟨rfl,h⟩))
theorem IB(e:jh kt)(f:∀r L b,bL r L b->r=.ok (.ret .none)/\XE L b)(j:acj+10<=room):
  bE prog w kt os room (fe y.g) [(y.g,cc y)] (xS prog w kt os acj It bL y.i XE []) (λz z a=>(.error (.ref (a.n 0)),[(a.n 0,fw (a.n 1)),(y.g,cc y)])) (λz=>star (gm y.i) XE):=by
 refine bE.cl (bE.or (vN e f j) ?_);exact bE.dP (nT.star XE) (λr g h=>h.2) (λa r g h=>h)
theorem s7(f:jh kt)(j:∀r L b,bL r L b->r=.ok (.ret .none)/\XE L b)(k:acj%1000+10<=room):
  bO prog w kt os room (fe y.g) [(y.g,cc y)] (xS prog w kt os acj It bL y.i XE []) (λz z a=>(.error (.ref (a.n 0)),[(a.n 0,fw (a.n 1)),(y.g,cc y)])) (λz=>star (gm y.i) XE):=by
 refine bO.cl (bO.or (Du f j k) ?_);exact(bE.dP (nT.star XE) (λr g h=>h.2) (λa r g h=>h)).e
end
end
section
variable{X:b7}{s:Shared}{A:Around}{out:Nat->Nat->L2->Result×bH}{E Q:Value->Shared->Prop}{FG g0:bR}{F r0:bH}{ns:List Num}{Γ:PySem.Ctx}{X':L2->b7}{m:Sem Value}
def hC:Flow->Sem PySem.Fin|.ret v=>ret v|Y=>ret .none
structure eT where(t:Sem Fin)(pre:bH)(lB:Nat->Nat->hS)
section
variable(prog:Program)(w:World)(kt:KT)
def AC(room:Nat)(ns:List Num)(p:eT)(c:Code)(N t:Nat)(SL:m9):Run:=
 Ky prog w.params kt 1000000 c (.base (fp c)) room p.t (SL,[]) p.pre N 0 t 0 [] ((p.lB N t).ins ns)
def eH(room:Nat)(ns:List Num)(p:eT):Prop:=
 ∀c N t SL,(AC prog w kt room ns p c N t SL).S=((p.lB N t).res ns N t).run/\(AC prog w kt room ns p c N t SL).A=(AC prog w kt room ns p c N t SL).B
variable{prog w kt}
theorem eH.of{room:Nat}{p:eT}(a:∀c N t SL,(AC prog w kt room ns p c N t SL).S=((p.lB N t).res ns N t).run)(b:∀c N t SL,(AC prog w kt room ns p c N t SL).A=(AC prog w kt room ns p c N t SL).B):eH prog w kt room ns p:=λc N t SL=>⟨a c N t SL,b c N t SL⟩
noncomputable def s8(Γ:PySem.Ctx)(A:Around):Around:=⟨A.handled,A.depth,A.frames.map λz=>envsOf Γ.below,none,A.units⟩
theorem qK(h:Γ.In A):Γ.Below (s8 Γ A):=by
 refine⟨h.1,?_,?_,?_,?_⟩
 ·have:=h.2.1;exact cu (h9 _ _) this
 ·intro l a;unfold s8 at a;cases q:A.frames with
  |none=>rw[q]at a;cases a
  |some l'=>rw[q]at a;injection a
 ·intro g b;cases b
 ·have:=h.2.2.2.2;exact cu (jE _ _) this
theorem Lz{c:Code}(d:Γ.code=c)(a:Γ.In A)(h:lh A c F):gS (s8 Γ A) F (fp c):=by
 obtain⟨b,e,l,f,g,i⟩:=h;rw[f,pushEnvs_eq]at e;have q:=a.2.2.1 _ e;rw[d]at q;have j:envsOf Γ.below=l:=List.append_cancel_left q;refine⟨l,?_,g,i⟩;unfold s8;rw[e,j];rfl
theorem AD{room:Nat}(a:gY room A):gY room (s8 Γ A):=⟨a.hd,a.depth,a.units⟩
structure eO where(c:Code)(t:Sem Fin)(pre:bH)(lB:Nat->Nat->hS)
variable{p:eO}
variable(prog w kt)in
def runC(room:Nat)(ns:List Num)(p:eO)(N t:Nat)(SL:m9):Run:=
 Ky prog w.params kt 1000000 p.c (.base (fp p.c)) room p.t (SL,[]) p.pre N 0 t 0 [] ((p.lB N t).ins ns)
variable(prog w kt)in
def c6(room:Nat)(ns:List Num)(p:eO):Prop:=
 ∀N t SL,(runC prog w kt room ns p N t SL).S=((p.lB N t).res ns N t).run/\(runC prog w kt room ns p N t SL).A=(runC prog w kt room ns p N t SL).B
theorem c6.of{room:Nat}(a:∀N t SL,(runC prog w kt room ns p N t SL).S=((p.lB N t).res ns N t).run)(b:∀N t SL,(runC prog w kt room ns p N t SL).A=(runC prog w kt room ns p N t SL).B):c6 prog w kt room ns p:=λN t SL=>⟨a N t SL,b N t SL⟩
theorem AE{os:OsState}{acj room:Nat}(o:p.t=m.bind λv=>.pure (.done (.ret v)))(e:c6 prog w kt room ns p)(H:∀N t,Holds prog w kt os acj (λ(_:Unit) _ _=>False) (λZ Z Z=>False) ⟨false,out,X',[]⟩ ((p.lB N t).res ns N t) X [])(r:gY room A)(i:1000<=acj->lh A p.c F)(u:X r0 g0)(x:Sat kt os s (p.pre++(r0++F)) (g0++FG))(k:∀(b:Shared) a r1 g1,X' a r1 g1->Sat kt os b ((out b.heap.objs.size b.toks a).2++(r1++F)) (g1++FG)->match(out b.heap.objs.size b.toks a).1 with
   |.ok (.ret v)=>Q v b
   |.error e=>E e b
   |Y=>True):
  PySem.wpAt (model prog w) A p.c m Q E s:=by
 intro Γ q l h;obtain⟨SL,bN⟩:=sR (V:=⟨prog,w,kt,os,acj,_,_,⟨false,out,X',[]⟩,[],[],[]⟩) (κ:=.base (fp p.c)) e (λZ=>H _ _) (AD r) (λz=>Lz l h (i z)) u x;have n:=b5.own (jg (λq=>nomatch (show false=true from q)) 1000000 p.c p.t [] _ _ bN) rfl Γ q l (qK h);rw[o,iH]at n;refine eE _ _ _ ?_ ?_ _ _ n
 ·intro v y b j;obtain⟨a,L,g,d,er,f⟩:=j;have:=k b a L g d f;rw[er]at this;exact this
 ·intro v y b j;obtain⟨a,L,g,d,er,f⟩:=j;have:=k b a L g d f;rw[er]at this;exact this
theorem j1{os:OsState}{room:Nat}(d:p.t=m.bind λv=>.pure (.done (.ret v)))(e:c6 prog w kt room ns p)(H:∀N t,Holds prog w kt os 0 (λ(_:Unit) _ _=>False) (λy y y=>False) ⟨false,out,X',[]⟩ ((p.lB N t).res ns N t) X [])(f:gY room A)(g:X r0 g0)(h:Sat kt os s (p.pre++(r0++F)) (g0++FG))(i:∀(a:Shared) b r1 g1,X' b r1 g1->Sat kt os a ((out a.heap.objs.size a.toks b).2++(r1++F)) (g1++FG)->match(out a.heap.objs.size a.toks b).1 with
   |.ok (.ret v)=>Q v a
   |.error e=>E e a
   |Y=>True):
  PySem.wpAt (model prog w) A p.c m Q E s:=AE d e H f (λz=>absurd z (by decide)) g h i
theorem kF{os:OsState}{room:Nat}{p:eT}(d:p.t=m.bind λv=>.pure (.done (.ret v)))(e:eH prog w kt room ns p)(H:∀N t,Holds prog w kt os 0 (λ(_:Unit) _ _=>False) (λz z z=>False) ⟨false,out,X',[]⟩ ((p.lB N t).res ns N t) X [])(f:gY room A)(g:X r0 g0)(h:Sat kt os s (p.pre++(r0++F)) (g0++FG))(i:∀(a:Shared) b r1 g1,X' b r1 g1->Sat kt os a ((out a.heap.objs.size a.toks b).2++(r1++F)) (g1++FG)->match(out a.heap.objs.size a.toks b).1 with
   |.ok (.ret v)=>Q v a
   |.error e=>E e a
   |Y=>True):
  wpAny (model prog w) A m Q E s:=λΓ q c=>
 j1 (p:=⟨Γ.code,p.t,p.pre,p.lB⟩) d (λN t SL=>e Γ.code N t SL) H f g h i Γ q rfl c
end
section
variable{w:World}{room:Nat}
def kTL(w:World)(a b:Bool)(room:Nat)(ns:List Num)(p:eT)(c:Code)(N t:Nat)(SL:m9):Run×Ob:=(λr:Run=>(r.S,r.A)) (AC pz (wv w a b) (bY w.params) room ns p c N t SL)
def kTR(w:World)(a b:Bool)(room:Nat)(ns:List Num)(p:eT)(c:Code)(N t:Nat)(SL:m9):Run×Ob:=(((p.lB N t).res ns N t).run,(AC pz (wv w a b) (bY w.params) room ns p c N t SL).B)
def Zl(w:World)(a:Bool)(room:Nat)(ns:List Num)(p:Bool->eT)(c:Code)(N t:Nat)(SL:m9):=(kTL w false a room ns (p false) c N t SL,kTL w true a room ns (p true) c N t SL)
def Zm(w:World)(a:Bool)(room:Nat)(ns:List Num)(p:Bool->eT)(c:Code)(N t:Nat)(SL:m9):=(kTR w false a room ns (p false) c N t SL,kTR w true a room ns (p true) c N t SL)
theorem eH.mk1{a:Bool}{p:Bool->eT}(h:∀c N t SL,Zl w a room ns p c N t SL=Zm w a room ns p c N t SL)(b:Bool):eH pz (wv w b a) (bY w.params) room ns (p b):=by
 cases b
 ·exact eH.of (λc N t SL=>b8 (λz=>z.1.1) (h c N t SL)) λc N t SL=>b8 (λz=>z.1.2) (h c N t SL)
 ·exact eH.of (λc N t SL=>b8 (λz=>z.2.1) (h c N t SL)) λc N t SL=>b8 (λz=>z.2.2) (h c N t SL)
def kCL(w:World)(a b:Bool)(room:Nat)(ns:List Num)(p:eO)(N t:Nat)(SL:m9):Run×Ob:=(λr:Run=>(r.S,r.A)) (runC pz (wv w a b) (bY w.params) room ns p N t SL)
def kCR(w:World)(a b:Bool)(room:Nat)(ns:List Num)(p:eO)(N t:Nat)(SL:m9):Run×Ob:=(((p.lB N t).res ns N t).run,(runC pz (wv w a b) (bY w.params) room ns p N t SL).B)
def AF(w:World)(a:Bool)(room:Nat)(ns:List Num)(p:Bool->eO)(N t:Nat)(SL:m9):=(kCL w false a room ns (p false) N t SL,kCL w true a room ns (p true) N t SL)
def AH(w:World)(a:Bool)(room:Nat)(ns:List Num)(p:Bool->eO)(N t:Nat)(SL:m9):=(kCR w false a room ns (p false) N t SL,kCR w true a room ns (p true) N t SL)
theorem c6.mk1{a:Bool}{p:Bool->eO}(h:∀N t SL,AF w a room ns p N t SL=AH w a room ns p N t SL)(b:Bool):c6 pz (wv w b a) (bY w.params) room ns (p b):=by
 cases b
 ·exact c6.of (λN t SL=>b8 (λz=>z.1.1) (h N t SL)) λN t SL=>b8 (λz=>z.1.2) (h N t SL)
 ·exact c6.of (λN t SL=>b8 (λz=>z.2.1) (h N t SL)) λN t SL=>b8 (λz=>z.2.2) (h N t SL)
theorem c6.mk2{ns:Bool->List Num}{p:Bool->Bool->eO}(h:∀N t SL,(AF w false room (ns false) (λb=>p b false) N t SL,AF w true room (ns true) (λb=>p b true) N t SL)=(AH w false room (ns false) (λb=>p b false) N t SL,AH w true room (ns true) (λb=>p b true) N t SL))(a c:Bool):c6 pz (wv w a c) (bY w.params) room (ns c) (p a c):=by
 cases c
 ·exact c6.mk1 (p:=λb=>p b false) (λN t SL=>b8 Prod.fst (h N t SL)) a
 ·exact c6.mk1 (p:=λb=>p b true) (λN t SL=>b8 Prod.snd (h N t SL)) a
theorem c6.mkA{a:Bool}{L:List Nat}{p:Nat->Bool->eO}(h:∀N t SL,L.map (λn=>AF w a room ns (p n) N t SL)=L.map λn=>AH w a room ns (p n) N t SL)(b:Bool)(n:Nat)(hn:n∈L):c6 pz (wv w b a) (bY w.params) room ns (p n b):=
 .mk1 (λN t SL=>lK.1 (h N t SL) n hn) b
end
end
section
variable{f:Bool->List Num}{L:List Nat}
abbrev gN:=@bE pz (wv w b1 b2) (bY w.params) os
abbrev rh:=@bG pz (wv w b1 b2) (bY w.params) os
abbrev fC:=@xS pz (wv w b1 b2) (bY w.params) os
abbrev vj:=@nP pz (wv w b1 b2) (bY w.params) os
abbrev lD:=@eH pz (wv w b1 b2) (bY w.params)
abbrev iq:=@c6 pz (wv w b1 b2) (bY w.params)
abbrev lX:=@c9 pz (wv w b1 b2) (bY w.params) os
abbrev qL:=@bO pz (wv w b1 b2) (bY w.params) os
abbrev TU:=@Holds pz (wv w b1 b2) (bY w.params) os
abbrev C1:=TU 0 (λ(_:Unit) _ _=>False) (λz z z=>False)
noncomputable def nA(p:Nat):Nat->Nat|0=>Nat.add (Nat.mul p (Nat.pow 16 102)) 0x20110001000000164033000300003600000020110001000000162011000100000016403300030000360040330003000036666|k+1=>nA (Nat.add (Nat.mul p 0x10000000000000000) 0x403300030000360) k
def Qm:=nA 0x11021000000100000100000160
def nAb:=nA 0x10000000020110000001000000160
noncomputable def Zn:=0x10dd0dd0dd00ed0000ed00ed000ed00000ed0fd0fd0dd0dd0dd00ed0000ed00ed000ed00000ed0fd0fd000fd0fd0fd0fd0fd0fd0200000ed00ed00000000000000000000000000000000044044b0b000000b0000000000b0b00b0000bccb0b000000b0000000000b0b00b0000bccb0b000000b0000000000b0b00b0000bccb0b000000b0000000000b0b00b0000bccb0b000000b0000000000b0b00b0000bcc00cccccccccccc0020000b0b000000000000000000000000000000000460550005000054605500050000540444497727707077727707077727707077020222
noncomputable def Zo:=0x1133302000202002000020030220002000021
noncomputable def Zp:=0x11020110001000000132100000010000010000013
noncomputable def Zq:=0x1102100001000001000001600403300030000360040330003000036066
noncomputable def LA:=0x110210000001000001000001300330
noncomputable def Zr:=0x110321000000100000100000130033330
noncomputable def Zs:=0x150030220002000025555
noncomputable def Zt:=0x115550030220002000025555
noncomputable def acK:=0x10ed0ed0ed00fd0000fd00fd000fd00000fd10d10d0ed0ed0ed00fd0000fd00fd000fd00000fd10d10d0010d10d10d10d10d10d0200000fd00fd00000000000000000000000000000000077077
noncomputable def Qn:=0x15044000400004333
noncomputable def TV:=0x11505500201100000100000016003030303320110000010000001600666600
noncomputable def oT:=0x1102100000010000010000013
noncomputable def TW:=0x110210000001000001000001600403300030000360040330003000036066
noncomputable def LB:=0x1140043505050552011000001000000130
noncomputable def Gw:=0x1110101122200220
noncomputable def TX:=0x13300003333344330fd0dd0dd50dd0dd00dd00dd0dd0dd50dd0dd00dd00dd0dd0dd50dd0dd00dd00dd0dd0dd50dd0dd00dd00dd0dd0dd50dd0dd00dd00dd0dd0505551
noncomputable def TY:=0x133000033333443310d0ed0ed60ed0ed00ed00ed0ed0ed60ed0ed00ed00ed0ed0ed60ed0ed00ed00ed0ed0ed60ed0ed00ed00ed0ed0ed60ed0ed00ed00ed0ed0606661
def V9:=nU 0x11021000000100000100000130033330 0x100 1 2 447
def Zu:=nU 0x11064033000300003600030003666 0 0 2 447
def m0:=nU 0 0x100 0 0 0
def Zv:=nU 0x11032100000010000010000013 0x100 0 0 477
def xT:=nU 0x11202 0x111 0 0 57
def Zw:=nU 0 0x11 0 0 57
def Qo:=nU 0x11202 0x11 0 0 197
def Zx:=nU 0x1103333386626606066626606066626606066020222 0 3 2 197
def Wa:=nU 0x1101011101011 0 0 0 0
def lY:=nU oT 0x100 0 1 557
def eU:=nU 0x1000000002011000000100000013 0x1100 1 1 0
def qM:=nU LA 0x100 1 2 557
def LC:=nU 0x11032100000010000010000013332011000100000013 0x100 0 2 557
def TZ:=nU 0x11021000010000010000013 0x100 0 0 557
def lZ:=nU 0 0x1000 0 0 0
def LD:=nU oT 0x100 0 1 527
def s9:=nU LA 0x100 1 1 557
def T0:=nU 0x11021000000100000100000160040330003000036000300036066 0x100000 0 3 554
def LF:=nU oT 0x100 0 0 557
def Gx:=nU 0x1102100000010000010000013000330 0x100 1 2 554
def Gy:=nU oT 0x100 0 1 554
def tc:=nU oT 0x100 0 0 554
def LG:=nU 0x110210000001000001000001600 0x100000 0 1 554
def td:=nU TW 0x100000 0 5 554
def LH:=nU 0x11021000000100000100000160040330003000036066 0x100000 0 4 557
def te:=nU 0x11202 0x11 0 0 297
def T1:=nU 0x1103022000200002500060006555 0 0 3 297
def tg:=nU 0x11404 0x13 0 0 237
def th:=nU 0x117057777555 0x16 0 1 237
def ti:=nU 0x1110100600 0x10 0 0 227
def T2:=nU 0x11707760403300030000310101116000c0bb000b0000b1010111600090880008000081010111600 0x16 0 10 237
def T3:=nU 0x112022227 0x11 0 1 237
def Zy:=nU 0x1110111177709088000800008 0x10 0 3 237
def Zz:=nU 0x112022205044000400004 0x11 0 1 237
def ZA:=nU 0x120202211111333300333300333300333300333300333300333300333300333300 0 0 0 0
def T4:=nU 0x113030 0x112 0 0 244
def LJ:=nU 0x11202 0x111 0 0 37
def T5:=nU 0x11406444420110000010000001600050005666333303033332011000001000000163030303320110000010000001600666600 0x13 1 9 397
def LK:=nU TV 0x14 1 6 387
def T6:=nU 0x11607666640330000030000003700020002777 0x15 0 2 397
def Gz:=nU 0x11 0x10 0 0 0
def AJ:=nU 0x10 0 0 0 0
def T7:=nU 0x12222220110020220000 0x101 1 0 0
def oU:=nU 0x11202 0x111 0 0 97
def AK:=nU 0x13e6e1 0 0 0 0
def T8:=nU 0x1140333337553e8e550505553e8e550505553e8e550505503e8e03e8e3e8e 0x13 3 2 97
def GA:=nU 0x11 0x10113 0 0 100
def LL:=nU 0x11 0x1223 0 0 0
def GB:=nU 0x1130303303010112002222220 0x11024 4 4 297
def iP:=nU 0x110400444 0 0 1 297
def qN:=nU 0x11000 0 0 2 297
def qO:=nU 0x110 0 0 0 297
def vS:=nU 0 0x124 1 0 0
def GC:=nU 0x1103010112002222220 0x11024 4 4 297
def vT:=nU 0x110111111 0x12 0 0 297
def GD:=nU 0x11044 0x14 1 0 297
def GF:=nU 0x11000 0x14 1 2 297
def GG:=nU 0x110 0 0 1 297
def T9:=nU 0x11202 0x11 0 0 97
def ZB:=nU 0x1150552222 0x14 0 1 97
def LM:=nU 0x1103 0 0 1 97
def Ua:=nU 0x1103005555333 0x13 0 2 97
def vU:=nU 0x115000400 0x14 1 4 97
def vV:=nU 0x110550055005 0 0 3 97
def LN:=nU 0x110555555555a88788080888788080888788080888788080888788080880707770055 0 4 6 97
def Ub:=nU 0x11 0x1000134 0 0 100
def oV:=nU 0 0x10000 0 0 0
def Uc:=nU 0x1120522225 0x11 0 0 97
def ZC:=nU 0x1155550edccbcc0c0cccbcc0c0cccbcc0c0cc0b0bbb 0x1000034 4 4 100
def ZD:=nU 0x1103344443 0 0 0 97
def LO:=nU 0x1140 0x13 0 0 97
def LP:=nU 0x1104444497767707077767707077767707077060666 0 4 5 97
def Ud:=nU 0x1104005555444 0x10 0 2 97
def LQ:=nU 0x1105555555550edccbcc0c0cccbcc0c0cccbcc0c0cccbcc0c0cccbcc0c0cc0b0bbb0055 0 4 6 97
def Ue:=nU 0x11 0x1400134 0 0 100
def ZE:=nU 0x11555512d10d10d0fd10d10d010d010d10d10d0fd10d10d010d010d10d10d0fd10d10d010d010d10d00fd00fd0fd0fd 0x1400034 4 4 100
def Uf:=nU 0x11021000000100000100000130033330 0x100 1 2 517
def gA:=nU LA 0x100 1 1 577
def Ug:=nU 0x11021000000100000100000160040330003000036666 0x100000 0 4 577
def Uh:=nU 0x100000000201100000010000001600000020110001000000162011000100000016403300030000360040330003000036666 0x1000400 1 10 0
def Ui:=nU (nA 0x110621000000100000100000160 0) 0x100000 0 11 577
def ma:=nU oT 0x100 0 1 577
def Uj:=nU (nA 0x1104033000300003621000000100000100000160 21) 0x100000 0 54 577
def Uk:=nU 0x110210000001000001000001400440 0x100 1 1 577
def Ul:=nU 0x110210000001000001000001700403300030000370040330003000037004033000300003700403300030000370020110001000000174033000300003700000020110001000000172011000100000017403300030000370040330003000037777 0x100000 0 20 577
def Um:=nU 0x1100003000003201100000100000014 0x12 0 2 567
def LR:=nU oT 0x100 0 1 532
def LS:=nU 0x13e7e2211 0x100 0 0 557
def Un:=nU 0x11303334201100010000140044440 0x12 1 3 197
def vW:=nU 0x1443 0 0 0 0
def GH:=nU LB 0x1200 0 3 637
def LU:=nU 0x11505555201100000100000013505050552011000001000000130 0x14 0 5 634
def Uo:=nU 0x13332220100000101001000000133 0 0 0 0
def GI:=nU 0x1333333 0x1000 0 4 717
def GJ:=nU 0x1202022 0 0 0 0
def ZF:=nU 0x11600404000000400000000000004000042020000002000000000000000002000000250404000000400000000000004000042020000002000000000000000002000000250404000000400000000000004000042020000002000000000000000002000000253022000002000000253022000002000000252020000002000000000000000002000000252020000002000000000000000002000000256666555 0x15 2 11 757
def LV:=nU 0x13e7e2211 0x100 0 0 777
def LW:=nU 0x13e6e01100010010000000133322100100000221 0 0 0 0
def Uq:=nU 0x133333e8e03e8e0000003e8e00000000000003e8e00003e8e33e8e03e8e0000003e8e00000000000003e8e00003e8e33e8e03e8e0000003e8e00000000000003e8e0000 0x134567 4 7 0
def Ur:=nU 0x11202 0x111 0 0 147
def Wb:=nU 0x110333330fd0dd0ddc0dd0dd00dd00dd0dd0ddc0dd0dd00dd00dd0dd0ddc0dd0dd00dd00dd0dd0c0ccc3333a883e8e880808883e8e880808883e8e880808803e8e03e8e3e8e 0 8 5 147
def Wc:=nU 0x111 0x138203 0 0 147
def gu:=nU 0x1101 0 0 1 147
def Wd:=nU 0x11222213d11d11d10d11d11d011d011d11d11d10d11d11d011d011d11d11d10d11d11d011d011d11d010d010d10d10d 0x11001331 4 2 150
def p0:=nU 0 0x1000000 0 0 0
def We:=nU 0x1122222213d11d11d10d11d11d011d011d11d11d10d11d11d011d011d11d11d10d11d11d011d011d11d11d10d11d11d011d011d11d010d010d10d10d 0x11001331 4 3 150
def LX:=nU 0x1180 0x17 1 0 147
def Wf:=nU 0x1133333314d12d12d11d12d12d012d012d12d12d11d12d12d012d012d12d12d11d12d12d012d012d12d12d11d12d12d012d012d12d011d011d11d11d 0x180102442 4 3 150
def Wg:=nU 0x11303331111188881 0x12 0 1 147
def Wh:=nU 0x11333314d12d12d11d12d12d012d012d12d12d11d12d12d012d012d12d12d11d12d12d012d012d12d011d011d11d11d 0x180112442 4 3 150
def xU:=nU 0x1110d01011333333333330fd0dd0ddc0dd0dd00dd00dd0dd0ddc0dd0dd00dd00dd0dd0ddc0dd0dd00dd00dd0dd0ddc0dd0dd00dd00dd0dd0ddc0dd0dd00dd00dd0dd0ddc0dd0dd00dd00dd0dd0c0ccc3333333386656606066656606066656606066656606066656606066050555003333330 0x1407100ed2 14 16 197
def xV:=nU 0x1101 0 0 1 197
def LY:=nU 0x110000700000730220000020000002aaa 0x1666 0 3 747
def LZ:=nU 0x110a6500005000005000005aaa 0x1011144444 0 1 757
def L0:=nU 0x11030033337553e8e550505553e8e550505553e8e550505503e8e03e8e3e8e 0 3 2 97
def xW:=nU 0x1101 0 0 1 247
def Dx:=nU 0 0x10003 0 0 0
def L3:=nU 0x1101001 0 0 2 147
def p3:=nU 0x11202 0x111 0 0 397
def xX:=nU 0x110333 0 0 2 397
def xY:=nU 0x110 0 0 1 397
def xZ:=nU 0x133 0x12 0 1 397
def x0:=nU 0x13e6e10 0 0 0 0
def ya:=nU 0x113e8e03e8e3e8e 0 0 0 397
def yb:=nU 0x1100 0 0 0 397
def yc:=nU 0x1102 0 0 1 397
def yd:=nU 0x1110111 0x10 0 0 397
def ye:=nU 0x13e6e0 0 0 0 0
def yf:=nU 0x113e8e03e8e7 0x16 1 0 397
def yg:=nU 0x11707174444 0x106 0 1 397
def yh:=nU 0x110660666 0 0 2 397
def yi:=nU 0x1106 0x12 0 0 397
def yj:=nU 0x11a0a1a 0x109 0 0 397
def L4:=nU 0x11c0c0cc0c04044900999 0x1a3b0dd 3 1 397
def ym:=nU 0x110111111 0x12 0 0 397
def yn:=nU 0x11bb00 0x136aaa 0 2 400
def L5:=nU 0x110c04044900999 0x1a3b0dd 3 1 397
def Wi:=nU 0x13e6e5333 0 0 0 0
def Wj:=nU 0x113e8e03e8e6 0x15 1 1 97
def Wk:=nU 0x1150 0x14 0 0 97
def Wl:=nU 0x11 0x1010224 0 0 100
def yo:=nU 0x11303 0x122 0 0 787
def p4:=nU 0x113030 0x122 0 0 787
def yp:=nU 0x101 0x13 0 0 0
def yq:=nU 0x13e6e 0 0 0 0
def L6:=nU 0x110033337553e8e550505553e8e550505553e8e550505503e8e03e8e3e8e 0 3 2 847
def L7:=nU 0x1112d06066111111111d0fd0fd0ed0fd0fd00fd00fd0fd0fd0ed0fd0fd00fd00fd0fd0fd0ed0fd0fd00fd00fd0fd0fd0ed0fd0fd00fd00fd0fd00ed00ed0ed0ed 0x199410d0 7 4 847
def L8:=nU 0x110bbb0bbbbbb1bd19d19d119d19d019d019d19d19d119d19d019d019d19d19d119d19d019d019d19d19d119d19d019d019d19d010111 0x154 3 3 847
def L9:=nU 0x110000fd0fd0fd0fd0fd0fd22d20d20d120d20d020d020d20d20d120d20d020d020d20d20d120d20d020d020d20d20d120d20d020d020d20d010111 0 3 4 847
def Ma:=nU 0x11016d2ad0a0aa0016d002100001000001000001 0x121fd0fd0fd0fd0000000 1 0 847
def Mb:=nU 0x11014d2100001000001000001 0x10dd 0 1 847
def Wm:=nU 0x1150505505030331 0x113246 3 0 784
def Mc:=nU 0x15111 0x1113254 1 0 0
def Wn:=nU 0x1105030331 0x113246 3 0 784
def Wo:=nU 0x100001 0 0 2 0
def Wp:=nU 0x1101003022000200002100001 0x13 0 3 147
abbrev RP(room j:Nat)(ns:List Num)(p:bK):Prop:=g8 pz (wv w b1 b2) (bY w.params) 1000000 p.c (.base (fp p.c)) room j p.pre ns p.lB
abbrev RS(room j:Nat)(ns:List Num)(p:bK):Prop:=g8 pz (wv w b1 b2) (bY w.params) 1000000 p.c (.fQ (fp p.c)) room j p.pre ns p.lB
def kL(a b seg:Bool)(room j:Nat)(ns:List Num)(p:bK)(N t:Nat)(SL:m9):Run×Ob:=(λr:Run=>(r.S,r.A)) (Ae pz (wv w a b) (bY w.params) seg room j ns p N t SL)
def kR(a b seg:Bool)(room j:Nat)(ns:List Num)(p:bK)(N t:Nat)(SL:m9):Run×Ob:=(((p.lB N t).res ns N t).run,(Ae pz (wv w a b) (bY w.params) seg room j ns p N t SL).B)
def Ki(a seg:Bool)(room j:Nat)(ns:List Num)(p:bK)(N t:Nat)(SL:m9):=(kL false a seg room j ns p N t SL,kL true a seg room j ns p N t SL)
def Kj(a seg:Bool)(room j:Nat)(ns:List Num)(p:bK)(N t:Nat)(SL:m9):=(kR false a seg room j ns p N t SL,kR true a seg room j ns p N t SL)
section
variable{seg:Bool}{room j:Nat}{ns:List Num}{p:bK}
theorem RP.a(h:kL b1 b2 false room j ns p=kR b1 b2 false room j ns p:=by kernel_rfl):RP room j ns p:=
 g8.of (λN t SL=>b8 (λf=>(f N t SL).1) h) λN t SL=>b8 (λf=>(f N t SL).2) h
theorem RS.a(h:kL b1 b2 true room j ns p=kR b1 b2 true room j ns p:=by kernel_rfl):RS room j ns p:=
 g8.ofS (λN t SL=>b8 (λf=>(f N t SL).1) h) λN t SL=>b8 (λf=>(f N t SL).2) h
theorem GK{a:Bool}(h:Ki a seg room j ns p=Kj a seg room j ns p)(b:Bool):kL b a seg room j ns p=kR b a seg room j ns p:=by
 funext N t SL
 cases b
 ·exact b8 (λf=>(f N t SL).1) h
 ·exact b8 (λf=>(f N t SL).2) h
theorem RP.b(h:Ki b2 false room j ns p=Kj b2 false room j ns p:=by kernel_rfl):RP room j ns p:=.a (GK h b1)
theorem RS.b(h:Ki b2 true room j ns p=Kj b2 true room j ns p:=by kernel_rfl):RS room j ns p:=.a (GK h b1)
theorem Us(h:(Ki false seg room j (f false) p,Ki true seg room j (f true) p)=(Kj false seg room j (f false) p,Kj true seg room j (f true) p))(b a:Bool):kL b a seg room j (f a) p=kR b a seg room j (f a) p:=by
 cases a
 ·exact GK (b8 Prod.fst h) b
 ·exact GK (b8 Prod.snd h) b
theorem RP.d(h:(Ki false false room j (f false) p,Ki true false room j (f true) p)=(Kj false false room j (f false) p,Kj true false room j (f true) p):=by kernel_rfl):RP room j (f b2) p:=.a (Us h b1 b2)
theorem RS.d(h:(Ki false true room j (f false) p,Ki true true room j (f true) p)=(Kj false true room j (f false) p,Kj true true room j (f true) p):=by kernel_rfl):RS room j (f b2) p:=.a (Us h b1 b2)
theorem RP.e{p:Nat->bK}(h:L.map (λn=>Ki b2 false room j ns (p n))=L.map λn=>Kj b2 false room j ns (p n):=by kernel_rfl):∀n,n∈L->RP room j ns (p n):=
 λn hn=>.b (lK.1 h n hn)
theorem RS.e{p:Nat->bK}(h:L.map (λn=>Ki b2 true room j ns (p n))=L.map λn=>Kj b2 true room j ns (p n):=by kernel_rfl):∀n,n∈L->RS room j ns (p n):=
 λn hn=>.b (lK.1 h n hn)
end
theorem eH.b{room:Nat}{ns:List Num}{p:eT}(h:Zl w b2 room ns (λz=>p)=Zm w b2 room ns (λz=>p):=by kernel_rfl):eH pz (wv w b1 b2) (bY w.params) room ns p:=eH.mk1 (p:=λz=>p) (λc N t SL=>b8 (λf=>f c N t SL) h) b1
theorem c6.b{room:Nat}{ns:List Num}{p:eO}(h:AF w b2 room ns (λz=>p)=AH w b2 room ns (λz=>p):=by kernel_rfl):c6 pz (wv w b1 b2) (bY w.params) room ns p:=c6.mk1 (p:=λz=>p) (λN t SL=>b8 (λf=>f N t SL) h) b1
theorem c6.d{room:Nat}{p:eO}(h:(AF w false room (f false) (λz=>p),AF w true room (f true) (λz=>p))=(AH w false room (f false) (λz=>p),AH w true room (f true) (λz=>p)):=by kernel_rfl):c6 pz (wv w b1 b2) (bY w.params) room (f b2) p:=c6.mk2 (ns:=f) (p:=λz z=>p) (λN t SL=>b8 (λf=>(f.1 N t SL,f.2 N t SL)) h) b1 b2
theorem c6.e{room:Nat}{ns:List Num}{p:Nat->eO}(h:L.map (λn=>AF w b2 room ns (λz=>p n))=L.map λn=>AH w b2 room ns (λz=>p n):=by kernel_rfl):∀n,n∈L->c6 pz (wv w b1 b2) (bY w.params) room ns (p n):=λn hn=>c6.mkA (p:=λn z=>p n) (λN t SL=>lK.2 λn hn=>b8 (λf=>f N t SL) (lK.1 h n hn)) b1 n hn
end
theorem cm{P:Prop}(h:let G0:=P;G0):P:=h
section
variable{X':L2->b7}{r:Result}{L:bH}{N fuel j t:Nat}{ns:List Num}{S:Nat->Nat->hS}
theorem Kk{room:Nat}{P:Prop}(h:(none:Option Nat)=some room):P:=nomatch h
set_option backward.match.sparseCases false
noncomputable def Res.rC:Res->Option Nat|.call false false Y r ..=>some r|Y=>none
noncomputable def Res.rE:Res->Option Nat|.call true false Y r ..=>some r|Y=>none
noncomputable def Res.rS:Res->Option Nat|.call Y true V r ..=>some r|Y=>none
noncomputable def Res.rT:Res->Option Nat|.step false Y r ..=>some r|Y=>none
noncomputable def Res.rU:Res->Option Nat|.step true Y r ..=>some r|Y=>none
noncomputable def Res.isY:Res->Bool|.jf ..=>true|Y=>false
noncomputable def Res.isK:Res->Bool|.dG ..=>true|Y=>false
noncomputable def Res.isP:Res->Bool|.pos ..=>true|Y=>false
noncomputable def Res.isB:Res->Bool|.stk ..=>true|Y=>false
noncomputable def Res.isF:Res->Option (Bool×Result×bH×Nat×Nat)|.fin seg r L N t=>some (seg,r,L,N,t)|Y=>none
noncomputable def Res.c:Res->Code|.call Y V c ..=>c|.step Y c ..=>c|.gen c Y=>c|Y=>.builtin "" {}
noncomputable def Res.room:Res->Nat|.call Y V U r ..=>r|.step Y V r ..=>r|Y=>0
noncomputable def Res.pre:Res->bH|.call Y V U T p ..=>p|.step Y V U T p ..=>p|Y=>[]
noncomputable def Res.out:Res->Nat->Nat->L2->Result×bH|.call Y V U T O M J o I=>o|Y=>λz z z=>(rV .none,[])
noncomputable def Res.tr:Res->Sem Fin|.step Y V U t ..=>t|Y=>.raise .none
noncomputable def Res.ZG:Res->Nat->Nat->L2->Sem Fin×bH|.step Y V U T O M J o I=>o|Y=>λz z z=>(.raise .none,[])
noncomputable def Res.nx:Res->Nat->Nat->L2->Res|.call Y V U T O M J I n=>n|.step Y V U T O M J I n=>n|r=>λz z z=>r
noncomputable def Res.ny:Res->Nat->Nat->Res|.jf Y V U T n=>n|r=>λz z=>r
def Res.v:Res->Value|.jf v ..=>v|Y=>.none
noncomputable def Res.it:Res->bH|.jf Y i ..=>i|Y=>[]
noncomputable def Res.np:Res->Pos->Res|.pos n=>n|r=>λz=>r
noncomputable def Res.nb:Res->Pos->List (Code×Pos)->Res|.stk n=>n|r=>λz z=>r
noncomputable def Res.nk:Res->Res|.dG Y V r=>r|r=>r
noncomputable def Res.ka:Res->Nat|.dG a Y V=>a|Y=>0
noncomputable def Res.ko:Res->Obj|.dG Y o V=>o|Y=>default
structure HE(α:Type)where(acj:Nat)(It:α->Value->bH->Prop)(bL:Result->bH->bR->Prop)(G:Gl α)(e:Bool)(he:e=true->1000<=acj)
namespace HE
variable{α:Type}{E:HE α}{R:Res}{X:b7}{σ:List α}
def H(E:HE α)(R:Res)(X:b7)(σ:List α):Prop:=Holds pz (wv w b1 b2) (bY w.params) os E.acj E.It E.bL E.G R X σ
end HE
section
variable{α:Type}{E:HE α}{R:Res}{X:b7}{σ:List α}
theorem bx{room:Nat}(a:R.rC=some room)(d:bE pz (wv w b1 b2) (bY w.params) os room R.c R.pre X R.out X')(f:∀N_ t_ l_,let R_:=R.nx N_ t_ l_;let X_:=X' l_;E.H R_ X_ σ):E.H R X σ:=by
 cases R with
 |call e s=>cases e with
  |false=>cases s with
   |false=>injection a with a;subst a;exact⟨X',d,f⟩
   |true=>exact Kk a
  |true=>exact Kk a
 |_=>exact Kk a
theorem bz{room:Nat}(a:R.rC=some room)(d:bE pz (wv w b1 b2) (bY w.params) os room R.c R.pre bV R.out λz=>bV)(f:∀N_ t_ l_,let R_:=R.nx N_ t_ l_;E.H R_ X σ):E.H R X σ:=bx (X':=λz=>X) a (d.fr X) f
theorem cF{room:Nat}(a:(R.rE,E.e)=(some room,true))(d:bO pz (wv w b1 b2) (bY w.params) os room R.c R.pre X R.out X')(f:∀N_ t_ l_,let R_:=R.nx N_ t_ l_;let X_:=X' l_;E.H R_ X_ σ):E.H R X σ:=by
 have b:E.e=true:=b8 Prod.snd a
 replace a:R.rE=some room:=b8 Prod.fst a
 cases R with
 |call e s=>cases e with
  |true=>cases s with
   |false=>injection a with a;subst a;exact⟨X',⟨E.he b,d⟩,f⟩
   |true=>exact Kk a
  |false=>cases s<;>exact Kk a
 |_=>exact Kk a
theorem cE{room:Nat}{σ':List α}(a:R.rS=some room)(d:bG pz (wv w b1 b2) (bY w.params) os E.acj E.It E.bL room R.c R.pre X σ R.out X' σ')(f:∀N_ t_ l_,let R_:=R.nx N_ t_ l_;let X_:=X' l_;E.H R_ X_ σ'):E.H R X σ:=by
 cases R with
 |call e s=>cases s with
  |true=>cases e with
   |false=>injection a with a;subst a;exact⟨X',σ',d,f⟩
   |true=>injection a with a;subst a;exact⟨X',σ',d,f⟩
  |false=>cases e<;>exact Kk a
 |_=>exact Kk a
theorem cS{room:Nat}(a:R.rT=some room)(d:c9 pz (wv w b1 b2) (bY w.params) os room R.c R.tr R.pre X R.ZG X')(f:∀N_ t_ l_,let R_:=R.nx N_ t_ l_;let X_:=X' l_;E.H R_ X_ σ):E.H R X σ:=by
 cases R with
 |step e=>cases e with
  |false=>injection a with a;subst a;exact⟨X',d,f⟩
  |true=>exact Kk a
 |_=>exact Kk a
theorem cK{room:Nat}(a:(R.rU,E.e)=(some room,true))(d:dt pz (wv w b1 b2) (bY w.params) os room R.c R.tr R.pre X R.ZG X')(f:∀N_ t_ l_,let R_:=R.nx N_ t_ l_;let X_:=X' l_;E.H R_ X_ σ):E.H R X σ:=by
 have b:E.e=true:=b8 Prod.snd a
 replace a:R.rU=some room:=b8 Prod.fst a
 cases R with
 |step e=>cases e with
  |true=>injection a with a;subst a;exact⟨X',⟨E.he b,d⟩,f⟩
  |false=>exact Kk a
 |_=>exact Kk a
theorem cQ{x:α}{σ':List α}(a:(R.isY,σ)=(true,x::σ'))(b:E.It x R.v R.it)(f:∀N_ t_,let R_:=R.ny N_ t_;let X_:=Y7 (bk R.it) X;E.H R_ X_ σ'):E.H R X σ:=by
 have c:σ=x::σ':=b8 Prod.snd a
 replace a:R.isY=true:=b8 Prod.fst a
 cases R with
 |jf=>exact⟨x,σ',c,b,f⟩
 |_=>exact Bool.noConfusion a
theorem cT(a:(R.isK,jW R.ko)=(true,false))(b:∀r0 g0,X r0 g0->(R.ka,R.ko)∈r0\/(bY w.params).get R.ka=some R.ko)(f:let R_:=R.nk;E.H R_ X σ):E.H R X σ:=by
 have hd:jW R.ko=false:=b8 Prod.snd a
 replace a:R.isK=true:=b8 Prod.fst a
 cases R with
 |dG=>exact⟨⟨hd,b⟩,f⟩
 |_=>exact Bool.noConfusion a
theorem cR(a:R.isP=true)(f:∀p,let R_:=R.np p;E.H R_ X σ):E.H R X σ:=by
 cases R with
 |pos=>exact f
 |_=>exact Bool.noConfusion a
theorem heB(a:R.isB=true)(f:∀p b,let R_:=R.nb p b;E.H R_ X σ):E.H R X σ:=by
 cases R with
 |stk=>exact f
 |_=>exact Bool.noConfusion a
theorem cB{seg:Bool}(e:R.isF=some (seg,r,L,N,t))(f:seg=E.G.seg)(h:∀r0 g0,X r0 g0->Dg E.G r L N t r0 g0)(g:seg=true->σ=E.G.Za:=by exact λh=>Bool.noConfusion h):E.H R X σ:=by
 cases R with
 |fin=>injection e with a;injection a with a b;injection b with b c;injection c with c d;injection d with d i;subst a b c d i;exact⟨f,h,g⟩
 |_=>exact nomatch (show(none:Option (Bool×Result×bH×Nat×Nat))=some (seg,r,L,N,t)from e)
theorem cC(a:L2)(h:∀r0 g0,X r0 g0->E.G.X' a r0 g0:=by exact λz z h=>h)(b:R.isF=some (false,r,L,N,t):=by exact rfl)(c:false=E.G.seg:=by exact rfl)(e1:(E.G.post N t a).1=r:=by exact rfl)(e2:L=(E.G.post N t a).2:=by exact rfl):E.H R X σ:=
 cB b c (λr0 g0 q=>⟨a,r0,g0,e1,h r0 g0 q,e2▸.refl _,.refl _⟩) λq=>nomatch q
theorem bA(a:L2)(h:∀r0 g0,X r0 g0->E.G.X' a r0 g0:=by exact λz z h=>h)(b:R.isF=some (true,r,L,N,t):=by exact rfl)(c:true=E.G.seg:=by exact rfl)(e1:(E.G.post N t a).1=r:=by exact rfl)(e2:L=(E.G.post N t a).2:=by exact rfl)(d:σ=E.G.Za:=by exact rfl):E.H R X σ:=
 cB b c (λr0 g0 q=>⟨a,r0,g0,e1,h r0 g0 q,e2▸.refl _,.refl _⟩) λz=>d
end
section
variable{α:Type}{acj:Nat}{It:α->Value->bH->Prop}{bL:Result->bH->bR->Prop}
theorem bE.o{room:Nat}{c:Code}{pre:bH}{X:b7}{out:Nat->Nat->L2->Result×bH}(_:j=j)(e:g8 pz (wv w b1 b2) (bY w.params) fuel c (.base (fp c)) room j pre ns S)(h:let E_:HE Unit:=⟨0,λz z z=>False,λz z z=>False,⟨false,out,X',[]⟩,false,nofun⟩;∀N_ t_,let R_:=(S N_ t_).res ns N_ t_;E_.H R_ X []):
  bE pz (wv w b1 b2) (bY w.params) os room c pre X out X':=bE.of e h
theorem bO.o{room:Nat}{c:Code}{pre:bH}{X:b7}{out:Nat->Nat->L2->Result×bH}(_:j=j)(e:g8 pz (wv w b1 b2) (bY w.params) fuel c (.base (fp c)) room j pre ns S)(h:let E_:HE Unit:=⟨1000,λz z z=>False,λz z z=>False,⟨false,out,X',[]⟩,true,λz=>cO _⟩;∀N_ t_,let R_:=(S N_ t_).res ns N_ t_;E_.H R_ X []):
  bO pz (wv w b1 b2) (bY w.params) os room c pre X out X':=bO.of e h
theorem bG.o{room:Nat}{c:Code}{pre:bH}{X:b7}{σ σ':List α}{out:Nat->Nat->L2->Result×bH}(_:j=j)(e:g8 pz (wv w b1 b2) (bY w.params) fuel c (.fQ (fp c)) room j pre ns S)(h:let E_:HE α:=⟨acj,It,bL,⟨true,out,X',σ'⟩,Nat.ble 1000 acj,db⟩;∀N_ t_,let R_:=(S N_ t_).res ns N_ t_;E_.H R_ X σ):
  bG pz (wv w b1 b2) (bY w.params) os acj It bL room c pre X σ out X' σ':=bG.of e h
theorem HE.of{G:Gl α}{R:Res}{X:b7}{σ:List α}(h:let E_:HE α:=⟨acj,It,bL,G,Nat.ble 1000 acj,db⟩;let R_:=R;E_.H R_ X σ):Holds pz (wv w b1 b2) (bY w.params) os acj It bL G R X σ:=h
end
end
local macro_rules |`(tactic|exists $f,$t)=>`(tactic|refine $f rfl $t ?_)|`(tactic|exists $f,$t,$_)=>`(tactic|(refine $f rfl $t ?_;intros))
section
inductive PT where|l (i:Nat)|c (i:Nat) (t:PT)|a (x y:PT)|n
variable{α:Type}
noncomputable def PT.den(b:List (List α))(d:List α):PT->List α
 |.l i=>b.getD i []
 |.c i t=>match d[i]? with
  |some p=>p::t.den b d
  |none=>t.den b d
 |.a x y=>x.den b d++y.den b d
 |.n=>[]
noncomputable def PT.flat:PT->List Nat|.l i=>[2*i]|.c i t=>(2*i+1)::t.flat|.a x y=>x.flat++y.flat|.n=>[]
noncomputable def PT.part(a:List (List α))(b:List α)(k:Nat):List α:=match k%2 with
 |0=>a.getD (k/2) []
 |Y=>b[k/2]?.toList
theorem PT.Md(d:List (List α))(b:List α)(t:PT):t.den d b=(t.flat.map (PT.part d b)).flatten:=by
 induction t with
 |l i=>
  have e:PT.part d b (2*i)=d.getD i []:=by unfold PT.part;rw[Nat.mul_mod_right,Nat.mul_div_cancel_left i (by decide)];rfl
  show _=PT.part d b (2*i)++[];rw[e,dU];rfl
 |c i t f=>
  have e:PT.part d b (2*i+1)=b[i]?.toList:=by unfold PT.part;rw[Nat.mul_add_mod,ad8];rfl
  show _=PT.part d b (2*i+1)++_;rw[e,<-f];show(match b[i]? with
   |some p=>p::t.den d b
   |none=>t.den d b)=_
  cases b[i]?<;>rfl
 |a x y g h=>
  show x.den d b++y.den d b=((x.flat++y.flat).map _).flatten;rw[fc,xb,g,h]
 |n=>rfl
theorem PT.perm(a:List (List α))(b:List α)(x y:PT)(h:x.flat.isPerm y.flat=true):(x.den a b).Perm (y.den a b):=by
 rw[PT.Md,PT.Md];exact((List.isPerm_iff.mp h).map _).flatten
noncomputable def PT.dec:Nat->Nat->List PT->PT
 |0,Y,st=>st.headD .n
 |k+1,u,st=>cond (Nat.beq u 0) (st.headD .n) (PT.dec k (Nat.div u 16) (cond (Nat.beq (Nat.mod u 16) 10) (match st with
  |x1::y1::r1=>.a x1 y1::r1
  |r1=>r1) (cond (Nat.beq (Nat.mod u 16) 12) (match st with
  |.l b::d::r1=>.c b d::r1
  |r1=>r1) (cond (Nat.beq (Nat.mod u 16) 14) (.n::st) (.l (Nat.mod u 16)::st)))))
theorem PT.q(a:List (List α))(b:List α)(u v:Nat)(h:(PT.dec 99 u []).flat.isPerm (PT.dec 99 v []).flat=true):((PT.dec 99 u []).den a b).Perm ((PT.dec 99 v []).den a b):=PT.perm a b _ _ h
end
abbrev Ut:String:=sN [108,105,115,116,46,95,95,108,101,110,95,95] rfl
theorem AL:"list.__len__" = Ut:=lj rfl
abbrev GL:String:=sN [108,105,115,116,46,95,95,97,100,100,95,95] rfl
theorem AM:"list.__add__" = GL:=lj rfl
abbrev tj:String:=sN [108,105,115,116,46,95,95,99,111,110,116,97,105,110,115,95,95] rfl
theorem nc:"list.__contains__" = tj:=lj rfl
abbrev tm:String:=sN [115,116,114,46,95,95,99,111,110,116,97,105,110,115,95,95] rfl
theorem nf:"str.__contains__" = tm:=lj rfl
abbrev Me:String:=sN [115,116,114,46,95,95,97,100,100,95,95] rfl
theorem oW:"str.__add__" = Me:=lj rfl
abbrev Uu:String:=sN [115,116,114,46,95,95,109,117,108,95,95] rfl
theorem AN:"str.__mul__" = Uu:=lj rfl
abbrev Uv:String:=sN [105,110,116,46,95,95,109,111,100,95,95] rfl
theorem AO:"int.__mod__" = Uv:=lj rfl
abbrev Mf:String:=sN [105,110,116,46,95,95,102,108,111,111,114,100,105,118,95,95] rfl
theorem vX:"int.__floordiv__" = Mf:=lj rfl
abbrev ZH:String:=sN [105,110,116,46,95,95,108,116,95,95] rfl
theorem GN:"int.__lt__" = ZH:=lj rfl
abbrev aec:String:=sN [105,110,116,46,95,95,97,100,100,95,95] rfl
abbrev aed:String:=sN [105,110,116,46,95,95,115,117,98,95,95] rfl
abbrev Uw:String:=sN [116,117,112,108,101,46,95,95,97,100,100,95,95] rfl
theorem Mg:"tuple.__add__" = Uw:=lj rfl
abbrev ZI:String:=sN [115,116,114,46,95,95,110,101,95,95] rfl
theorem GP:"str.__ne__" = ZI:=lj rfl
noncomputable abbrev Mh:String:=PySem.W.SZ.s14018661285674007319x4
def cy(l:List DictEntry)(n:Nat):Obj:=⟨.type Mh,none,.dict ⟨l⟩ n,#[]⟩
theorem p5(l:List DictEntry)(n:Nat):jW (cy l n)=false:=by kernel_rfl
noncomputable def hz(P:Params)(l:List Nat):Int:=PySem.W.ZFast.zw12210062019545310541 (P.strHash ⟨l⟩)
abbrev eN(P:Params)(l:List Nat)(t:Tok)(x:Value):DictEntry:=⟨hz P l,.str ⟨⟨l⟩⟩ t,x⟩
abbrev eW:List Nat->Tok->Value->DictEntry:=eN w.params
noncomputable def slO(d:Nat)(fn:Value)(row:Int)(rt:Nat)(a:Int)(ct:Nat)(lt:Nat):Obj:=
 ⟨.ref 79,some d,.plain,⟨[some (.int a ct),some fn,some (.int 1 lt),some (.int row rt),some .none]⟩⟩
noncomputable def ey(d:Nat):Obj:=⟨.ref 183,some d,.plain,#[]⟩
structure Ch where(code:Nat)(row col:Int)(file:Value)
structure gv where(a d l sd k1 k2 ct rt lt st:Nat)
def lk(x:gv)(c:Ch):Obj:=
 cy [eW qJ x.k1 (.str ⟨⟨[c.code]⟩⟩ x.st),eW lU x.k2 (.ref x.l)] 2
def eI(x:gv)(c:Ch):Obj:=slO x.sd c.file c.row x.rt c.col x.ct x.lt
def dJ(x:gv)(c:Ch):bH:=[(x.a,ey x.d),(x.d,lk x c),(x.l,eI x c)]
structure fD where(S SD TB PB CT CO:Nat)(gn:fJ)(k1 k2 k3 k4 k5:Nat)
noncomputable def ir(a:Nat):Obj:=⟨.ref 446,some a,.plain,#[]⟩
def ZJ(x:fD):Obj:=cy [eW Gn x.k1 (.ref x.TB),
 eW Go x.k2 (.ref x.PB),eW oP x.k3 (.ref x.CT),
 eW Gp x.k4 (.ref x.CO),eW ib x.k5 (.ref x.gn.g)] 5
def bF(x:fD):bH:=[(x.S,ir x.SD),(x.SD,ZJ x)]
section
open PySem.Meets PySem.Builtin PySem.Builtin.Str
noncomputable def l1(n:Nat):L2:=⟨λz=>n,λz=>.none,λz=>[]⟩
def ZK(a:Nat)(xs:List Value)(n:Nat):cX where
 c:=.builtin Ut ⟨[.ref a],[]⟩
 pre:=[(a,br xs n)]
 out _ _ b:=(rV (.int (Int.ofNat xs.length) (b.n 0)),[(a,br xs n)])
noncomputable def ri(s:Str)(c:Nat):Bool:=!(occurrences s ⟨⟨[c]⟩⟩ 0 s.length 1).isEmpty
def j2(s:Str)(t:Nat)(c:Nat)(u:Nat)(b:Bool):cX where
 c:=.builtin tm ⟨[.str s t,.str ⟨⟨[c]⟩⟩ u],[]⟩
 pre:=[]
 out _ _ _:=(rV (.bool b),[])
section
variable{prog:Program}{w:World}{kt:KT}{os:OsState}{room:Nat}
theorem ji{a:Nat}{xs:List Value}{n:Nat}:dq prog w kt os room (ZK a xs n) bV (λz=>bV):=by
 refine bE.dx (b:=Builtin.«list.__len__») (by rw[<-AL];decide +kernel) (by rw[<-AL];exact entryFor_of_tree (by kernel_rfl)) (PySem.AutoListH.list___len___list_0 a ⟨xs⟩ n) ?_;intro A R s F FG _ c k;refine⟨by rw[<-dW];exact c.own _ (.head _),?_⟩;exact k _ (l1 s.toks) (c.toks _)
theorem nW(s sub:Str)(t u:Tok):Meets (Builtin.«str.__contains__» ⟨[.str s t,.str sub u],[]⟩) (λz R st=>R (.ok (.ret (.bool (!(occurrences s sub 0 s.length 1).isEmpty)))) st):=
 .of_wp λprog w A R s h=>by
  obtain⟨a,g,d,tk,os⟩:=s
  wp_walk
  exact⟨_,rfl,h⟩
theorem ik{s:Str}{t c u:Nat}{b:Bool}(h:ri s c=b):dq prog w kt os room (j2 s t c u b) bV (λy=>bV):=by
 refine bE.dx (b:=Builtin.«str.__contains__») (by rw[<-nf];decide +kernel) (by rw[<-nf];exact entryFor_of_tree (by kernel_rfl)) (nW s _ t u) ?_;intro A R st F FG _ a k;have z:=k st (l1 0) a;rw[<-h]at z;exact z
end
end
section
open PySem.Meets PySem.Builtin PySem.Builtin.Str
def IC(a b:List Nat)(s t:Nat):cX where
 c:=.builtin Me ⟨[.str ⟨⟨a⟩⟩ s,.str ⟨⟨b⟩⟩ t],[]⟩
 pre:=[]
 out _ _ d:=(rV (.str ⟨⟨a++b⟩⟩ (d.n 0)),[])
section
variable{prog:Program}{w:World}{kt:KT}{os:OsState}{room:Nat}
theorem Mi(a b:List Nat):((⟨⟨a⟩⟩:Str)++(⟨⟨b⟩⟩:Str))=⟨⟨a++b⟩⟩:=by
 show Str.mk _=Str.mk _
 congr 1
 apply Array.ext';simp
theorem i4{a b:List Nat}{s t:Nat}(f:a.length+b.length<=10000):dq prog w kt os room (IC a b s t) bV (λy=>bV):=by
 refine bE.dx (b:=Builtin.«str.__add__») (by rw[<-oW];decide +kernel) (by rw[<-oW];exact entryFor_of_tree (by kernel_rfl)) (gives_str_add ⟨⟨a⟩⟩ ⟨⟨b⟩⟩ s t).meets ?_;intro A R st F FG _ c k;show Made.post _ _ _;by_cases d:a=[]
 ·subst d;exact k st (l1 t) c
 ·have e1:(((⟨⟨a⟩⟩:Str).length==0)=true)=False:=by
   simp[PySem.Str.length,d]
  simp only[e1,ia];by_cases e:b=[]
  ·subst e;have z:=k st (l1 s) c;simp only[IC,l1,dU]at z;exact z
  ·have e2:(((⟨⟨b⟩⟩:Str).length==0)=true)=False:=by
    simp[PySem.Str.length,e]
   simp only[e2,ia];rw[Mi];refine⟨?_,k { st with toks:=st.toks+1 } (l1 st.toks) (c.toks _)⟩;show(a++b).length<=sizeLine;rw[c5];exact cu f (by decide)
end
end
section
open PySem.Meets PySem.Builtin PySem.Builtin.Str
theorem ZL{M:Model}{A:Around}{E:Value->Shared->Prop}{s:Shared}{a:Bool}{Q:Bool->Shared->Prop}(h:∀b,Q b s):wpAny M A (pure a) Q E s:=ck (h a)
set_option maxHeartbeats 1000000 in
theorem tn{v:Value}{u:Tok}{p:Shared->Prop}{iv:Shared->Value}{sh:Shared->Shared}(H:∀{prog:Program}{w:World}{A:Around}{E:Value->Shared->Prop}{s:Shared}{Q:Value->Shared->Prop},p s->Q (iv s) (sh s)->wpAny (model prog w) A (pyIter v) Q E s):
  Meets (Builtin.«enumerate.__new__» ⟨[.type "enumerate",v,.int 1 u],[]⟩) (λz R s=>p s/\
   R (.ok (.ret (.ref (sh s).heap.objs.size))) { sh s with heap:=(sh s).heap.push { cls:=.type "enumerate",data:=.fields #[.none,.bool false,iv s,rawInt 1,.none,.none] } }):=
 .of_wp λprog w A R s h=>by
  obtain⟨c,h⟩:=h;have a:=sub_enumerate
  wp_walk
  refine wpAny_stack_any λst=>ZL λb=>?_;cases b<;>(wp_walk using H c;exact⟨_,rfl,h⟩)
theorem oX(it l:Addr)(i:Nat)(u:Tok):
  Meets (Builtin.«enumerate.__new__» ⟨[.type "enumerate",.ref it,.int 1 u],[]⟩) (λz R s=>s.heap.IsListIter it l i/\
   R (.ok (.ret (.ref s.heap.objs.size))) { s with heap:=s.heap.push { cls:=.type "enumerate",data:=.fields #[.none,.bool false,.ref it,rawInt 1,.none,.none] } }):=
 tn (iv:=λz=>.ref it) (sh:=λs=>s) λa h=>wpAny_pyIter_listiter a h
theorem yr(it:Addr)(i:Nat)(u:Tok):
  Meets (Builtin.«enumerate.__new__» ⟨[.type "enumerate",.ref it,.int 1 u],[]⟩) (λz R s=>s.heap.IsGen it i/\
   R (.ok (.ret (.ref s.heap.objs.size))) { s with heap:=s.heap.push { cls:=.type "enumerate",data:=.fields #[.none,.bool false,.ref it,rawInt 1,.none,.none] } }):=
 tn (iv:=λz=>.ref it) (sh:=λs=>s) λa h=>xA a h
theorem yt(x:Str)(t u:Tok):
  Meets (Builtin.«enumerate.__new__» ⟨[.type "enumerate",.str x t,.int 1 u],[]⟩) (λz R s=>True/\
   R (.ok (.ret (.ref (s.heap.push { cls:=.type (strIterType x),data:=.fields #[.str x t,.int 0 0] }).objs.size)))
    { s with heap:=(s.heap.push { cls:=.type (strIterType x),data:=.fields #[.str x t,.int 0 0] }).push { cls:=.type "enumerate",data:=.fields #[.none,.bool false,.ref s.heap.objs.size,rawInt 1,.none,.none] } }):=
 tn (p:=λz=>True) (iv:=λs=>.ref s.heap.objs.size) (sh:=λs=>{ s with heap:=s.heap.push { cls:=.type (strIterType x),data:=.fields #[.str x t,.int 0 0] } }) λz h=>wpAny_pyIter_strU h
noncomputable abbrev oY:String:=PySem.W.SZ.s14340494229221121180x9
noncomputable abbrev j3:String:=PySem.W.SZ.s7696299940892295456x17
noncomputable abbrev yu:String:=PySem.W.SZ.s3492446563574874994x13
theorem mc:"enumerate" = oY:=PySem.W.SZ.e14340494229221121180x9
theorem gU:"enumerate.__new__" = j3:=PySem.W.SZ.e7696299940892295456x17
theorem vY:"list_iterator" = yu:=PySem.W.SZ.e3492446563574874994x13
def eB(l k:Nat):Obj:=⟨.type yu,none,.fields ⟨[.ref l,.int (Int.ofNat k) 0]⟩,#[]⟩
def c7(a:Value)(it:Nat)(k:Int)(b:Value):Obj:=⟨.type oY,none,.fields ⟨[a,.bool false,.ref it,.int k 0,.none,b]⟩,#[]⟩
noncomputable def iu(a:String)(x:Str)(t k:Nat):Obj:=⟨.type a,none,.fields ⟨[.str x t,.int (Int.ofNat k) 0]⟩,#[]⟩
def Wq(f l i u:Nat):cX where
 c:=.builtin j3 ⟨[.type oY,.ref f,.int 1 u],[]⟩
 pre:=[(f,eB l i)]
 out _ _ a:=(rV (.ref (a.n 0)),[(a.n 0,c7 .none f 1 .none),(f,eB l i)])
def Wr(y:fJ)(u:Nat):cX where
 c:=.builtin j3 ⟨[.type oY,.ref y.g,.int 1 u],[]⟩
 pre:=[(y.g,cc y)]
 out _ _ a:=(rV (.ref (a.n 0)),[(a.n 0,c7 .none y.g 1 .none),(y.g,cc y)])
def Mj(x:Str)(t u:Nat):cX where
 c:=.builtin j3 ⟨[.type oY,.str x t,.int 1 u],[]⟩
 pre:=[]
 out _ _ a:=(rV (.ref (a.n 0)),[(a.n 0,c7 .none (a.n 1) 1 .none),(a.n 1,iu (strIterType x) x t 0)])
section
variable{prog:Program}{w:World}{kt:KT}{os:OsState}{room:Nat}
theorem j4(it:Nat):c7 .none it 1 .none = { cls:=.type "enumerate",dict:=none,data:=.fields #[.none,.bool false,.ref it,rawInt 1,.none,.none] }:=by
 unfold c7;rw[<-mc];rfl
theorem Dy{f l i u:Nat}:dq prog w kt os room (Wq f l i u) bV (λy=>bV):=by
 refine bE.dx (b:=Builtin.«enumerate.__new__») (by rw[<-gU];decide +kernel) (by rw[<-gU];exact entryFor_of_tree (by kernel_rfl)) (by rw[<-mc];exact oX f l i u) ?_;intro A R s F FG _ a k;have c:=a.own (f,eB l i) (.head _);refine⟨⟨_,c,by show Value.type yu=_;rw[<-vY],rfl⟩,?_⟩;have z:=a.alloc (o:=c7 .none f 1 .none) rfl;rw[j4]at z;refine k { s with heap:=s.heap.push _ } ⟨λy=>s.heap.objs.size,λy=>.none,λy=>[]⟩ ?_;show Sat kt os _ ((s.heap.objs.size,c7 .none f 1 .none)::_) _;rw[j4];exact z
theorem Dz{y:fJ}{u:Nat}:dq prog w kt os room (Wr y u) bV (λx=>bV):=by
 refine bE.dx (b:=Builtin.«enumerate.__new__») (by rw[<-gU];decide +kernel) (by rw[<-gU];exact entryFor_of_tree (by kernel_rfl)) (by rw[<-mc];exact yr y.g y.i u) ?_;intro A R s F FG _ a k;refine⟨kC (a.own (y.g,cc y) (.head _)),?_⟩;have z:=a.alloc (o:=c7 .none y.g 1 .none) rfl;rw[j4]at z;refine k { s with heap:=s.heap.push _ } ⟨λx=>s.heap.objs.size,λx=>.none,λx=>[]⟩ ?_;show Sat kt os _ ((s.heap.objs.size,c7 .none y.g 1 .none)::_) _;rw[j4];exact z
theorem DA{x:Str}{t u:Nat}:dq prog w kt os room (Mj x t u) bV (λy=>bV):=by
 refine bE.dx (b:=Builtin.«enumerate.__new__») (by rw[<-gU];decide +kernel) (by rw[<-gU];exact entryFor_of_tree (by kernel_rfl)) (by rw[<-mc];exact yt x t u) ?_;intro A R s F FG _ a k;have z:=(a.alloc (o:=iu (strIterType x) x t 0) rfl).alloc (o:=c7 .none s.heap.objs.size 1 .none) rfl;rw[j4]at z;refine⟨trivial,k _ ⟨λn=>match n with|0=>(s.heap.push (iu (strIterType x) x t 0)).objs.size|_=>s.heap.objs.size,λy=>.none,λy=>[]⟩ ?_⟩;show Sat kt os _ ((_,c7 .none s.heap.objs.size 1 .none)::(_,_)::_) _;rw[j4];exact z
end
end
abbrev yv:String:=sN [115,116,114,95,97,115,99,105,105,95,105,116,101,114,97,116,111,114,46,95,95,110,101,120,116,95,95] rfl
theorem kG:"str_ascii_iterator.__next__" = yv:=lj rfl
abbrev fT:String:=sN [101,110,117,109,101,114,97,116,101,46,95,95,110,101,120,116,95,95] rfl
section
open PySem.Meets PySem.Builtin PySem.Builtin.Str
variable{out:Nat->Nat->L2->Result×bH}{it k l n t:Nat}{xs:List Value}{x:Str}
noncomputable abbrev yw:String:=PySem.W.SZ.s3213454002840115300x22
theorem kH:"list_iterator.__next__" = yw:=PySem.W.SZ.e3213454002840115300x22
noncomputable abbrev dY:String:=PySem.W.SZ.s13500813778147066322x18
theorem vZ:"str_ascii_iterator" = dY:=PySem.W.SZ.e13500813778147066322x18
section
variable{prog:Program}{w:World}{kt:KT}{os:OsState}{room:Nat}
theorem bE.vk{d:String}{a:Args}{b:Builtin}{pre:bH}{X:b7}{X':L2->b7}(g:plainId d=true)(i:entryFor table d=some b)(H:∀(A:Around)(s:Shared)(F:bH)(FG:bR)(r0:bH)(g0:bR),gY room A->X r0 g0->Sat kt os s (pre++(r0++F)) (g0++FG)->
   wpAny (model prog w) A.in1 (b a) (λfin c=>∃f,fin=.done f/\gT kt os out X' F FG (.ok f) c) (λe c=>gT kt os out X' F FG (.error e) c) s):
  bE prog w kt os room (.builtin d a) pre X out X':=by
 intro A s F FG r0 g0 j m o;refine g6 i ?_;rw[nG g];refine iI (H A s F FG r0 g0 j m o) (λfin c h=>?_) (λe c h=>h);obtain⟨f,rfl,h⟩:=h;exact h
theorem gB{F:bH}{FG:bR}{r:Result}{s':Shared}(a:L2)(e:r=(out s'.heap.objs.size s'.toks a).1)(h:Sat kt os s' ((out s'.heap.objs.size s'.toks a).2++F) FG):
  gT kt os out (λz=>bV) F FG r s':=⟨a,[],[],⟨rfl,rfl⟩,e,h⟩
def dd(it l k:Nat)(xs:List Value)(n:Nat)(v:Value):cX where
 c:=.builtin yw ⟨[.ref it],[]⟩
 pre:=[(it,eB l k),(l,br xs n)]
 out _ _ _:=(.ok (.ret v),[(it,eB l (k+1)),(l,br xs n)])
theorem b6{v:Value}(d:xs[k]?=some v):dq prog w kt os room (dd it l k xs n v) bV (λy=>bV):=by
 refine bE.vk (b:=Builtin.«list_iterator.__next__») (by rw[<-kH];decide +kernel) (by rw[<-kH];exact entryFor_of_tree (by kernel_rfl)) ?_;rintro A s F FG r0 g0 g ⟨rfl,rfl⟩ a;have ho:=a.own (it,eB l k) (.head _);have c:=a.own (l,br xs n) (.tail _ (.head _));show wpAny _ _ (field (.ref it) 0 >>= _) _ _ s;refine bI (eQ ho rfl (x:=.ref l) rfl ?_);show wpAny _ _ (if(Value.ref l==Value.none)=true then _ else _) _ _ s;rw[bu (show ¬ ((Value.ref l==Value.none)=true)from Bool.false_ne_true)];show wpAny _ _ (field (.ref it) 1 >>= _) _ _ s;refine bI (eQ ho rfl (x:=.int k 0) rfl ?_);show wpAny _ _ (seqItems? (.ref l) >>= _) _ _ s;refine bI (oy c rfl ?_);have e:(⟨xs⟩:Array Value)[k]?=some v:=by simpa using d
 simp only[Int.toNat_natCast,e];refine bI (lM ho rfl (by show 1<2;decide) (ck ⟨_,rfl,gB (l1 0) rfl ?_⟩));have z:=a.turn (f:=Obj.mapFields (·.setIfInBounds 1 (rawInt (k+1)))) rfl s.toks;exact z
noncomputable def l2(a b:Nat):L2:=⟨λn=>match n with|0=>a|_=>b,λz=>.none,λz=>[]⟩
def Ws(k:Nat):Obj:=⟨.type yu,none,.fields ⟨[.none,.int (Int.ofNat k) 0]⟩,#[]⟩
def eV(it l k:Nat)(xs:List Value)(n:Nat):cX where
 c:=.builtin yw ⟨[.ref it],[]⟩
 pre:=[(it,eB l k),(l,br xs n)]
 out _ _ a:=(.error (.ref (a.n 0)),[(a.n 0,fw (a.n 1)),(it,Ws k),(l,br xs n)])
theorem cA(g:xs[k]?=none):dq prog w kt os room (eV it l k xs n) bV (λy=>bV):=by
 refine bE.vk (b:=Builtin.«list_iterator.__next__») (by rw[<-kH];decide +kernel) (by rw[<-kH];exact entryFor_of_tree (by kernel_rfl)) ?_;rintro A s F FG r0 g0 i ⟨rfl,rfl⟩ c;have ho:=c.own (it,eB l k) (.head _);have d:=c.own (l,br xs n) (.tail _ (.head _));show wpAny _ _ (field (.ref it) 0 >>= _) _ _ s;refine bI (eQ ho rfl (x:=.ref l) rfl ?_);show wpAny _ _ (if(Value.ref l==Value.none)=true then _ else _) _ _ s;rw[bu (show ¬ ((Value.ref l==Value.none)=true)from Bool.false_ne_true)];show wpAny _ _ (field (.ref it) 1 >>= _) _ _ s;refine bI (eQ ho rfl (x:=.int k 0) rfl ?_);show wpAny _ _ (seqItems? (.ref l) >>= _) _ _ s;refine bI (oy d rfl ?_);have j:(⟨xs⟩:Array Value)[k]?=none:=by simpa using g
 simp only[Int.toNat_natCast,j];refine bI (oC (bI (lM ho rfl (by show 0<2;decide) ?_)));have z:=c.turn (f:=Obj.mapFields (·.setIfInBounds 0 .none)) rfl s.toks;refine bI (kD z λe a b h=>?_);show wpAny _ _ (handled >>= _) _ _ _;refine bI (oz ?_);rw[show A.in1.handled=none from i.hd];refine bI (ck (mE ?_));exact gB (l2 a b) rfl h
def DB(it:Nat)(x:Str)(t k c:Nat):cX where
 c:=.builtin yv ⟨[.ref it],[]⟩
 pre:=[(it,iu dY x t k)]
 out _ _ a:=(rV (.str ⟨⟨[c]⟩⟩ (a.n 0)),[(it,iu dY x t (k+1))])
theorem nX{c:Nat}(d:x.cps[k]?=some c):dq prog w kt os room (DB it x t k c) bV (λy=>bV):=by
 refine bE.vk (b:=Builtin.«str_ascii_iterator.__next__») (by rw[<-kG];decide +kernel) (by rw[<-kG];exact entryFor_of_tree (by kernel_rfl)) ?_;rintro A s F FG r0 g0 e ⟨rfl,rfl⟩ a;have ho:=a.own (it,iu dY x t k) (.head _);show wpAny _ _ (field (.ref it) 0 >>= _) _ _ s;refine bI (eQ ho rfl (x:=.str x t) rfl ?_);show wpAny _ _ (field (.ref it) 1 >>= _) _ _ s;refine bI (eQ ho rfl (x:=.int k 0) rfl ?_);simp only[Int.toNat_natCast,d];have z:=a.turn (f:=Obj.mapFields (·.setIfInBounds 1 (rawInt (k+1)))) rfl (s.toks+1);exact bI (lM ho rfl (by show 1<2;decide) (bI (wpAny_mkStr (ck ⟨_,rfl,gB (l1 s.toks) rfl z⟩) (by show 1<=sizeLine;decide))))
def Wt(k:Nat):Obj:=⟨.type dY,none,.fields ⟨[.none,.int (Int.ofNat k) 0]⟩,#[]⟩
def Mk(it:Nat)(x:Str)(t k:Nat):cX where
 c:=.builtin yv ⟨[.ref it],[]⟩
 pre:=[(it,iu dY x t k)]
 out _ _ a:=(.error (.ref (a.n 0)),[(a.n 0,fw (a.n 1)),(it,Wt k)])
theorem v0(e:x.cps[k]?=none):dq prog w kt os room (Mk it x t k) bV (λy=>bV):=by
 refine bE.vk (b:=Builtin.«str_ascii_iterator.__next__») (by rw[<-kG];decide +kernel) (by rw[<-kG];exact entryFor_of_tree (by kernel_rfl)) ?_;rintro A s F FG r0 g0 g ⟨rfl,rfl⟩ c;have ho:=c.own (it,iu dY x t k) (.head _);show wpAny _ _ (field (.ref it) 0 >>= _) _ _ s;refine bI (eQ ho rfl (x:=.str x t) rfl ?_);show wpAny _ _ (field (.ref it) 1 >>= _) _ _ s;refine bI (eQ ho rfl (x:=.int k 0) rfl ?_);simp only[Int.toNat_natCast,e];refine bI (oC (bI (lM ho rfl (by show 0<2;decide) (bI (wpAny_letGo ?_)))));have z:=c.turn (f:=Obj.mapFields (·.setIfInBounds 0 .none)) rfl s.toks;refine bI (kD z λd a b h=>?_);show wpAny _ _ (handled >>= _) _ _ _;refine bI (oz ?_);rw[show A.in1.handled=none from g.hd];refine bI (ck (mE ?_));exact gB (l2 a b) rfl h
end
end
section
noncomputable def e8(l:L2):gv:=⟨l.n 0,l.n 1,l.n 2,l.n 3,l.n 4,l.n 5,l.n 6,l.n 7,l.n 8,l.n 9⟩
variable(x:fD)(vs:Str)(vt:Nat)(c:Ch)
def ic:cX where
 c:=.call (.ref 216) ⟨[.ref x.S],[]⟩
 pre:=bF x
 out _ _ l:=(rV (.ref (l.n 0)),bF x++dJ (e8 l) c)
def mL:cX where
 c:=.call (.ref 216) ⟨[.ref x.S],[]⟩
 pre:=bF x
 out _ _ l:=(rV .none,bF x)
def p6(y:gv)(c:Ch):cX where
 c:=.call (.ref 223) ⟨[.ref x.S,.ref y.a],[]⟩
 pre:=bF x++dJ y c
 out _ _ l:=(rV .none,bF x)
def Qp:bK:=⟨.call (.ref 244) ⟨[.ref x.S,.str vs vt],[]⟩,bF x,λN t=>.con (ic x c) λz z l=>.con (j2 vs vt c.code (l.n 9) true) λz z z=>
  .fin (rV (.bool true)) (bF x++dJ (e8 l) c)⟩
theorem AP:RP 450 2 [V9,Zu,nU 0 0x100000 0 0 0] (Qp x vs vt c):=.a
def Qq:bK:=⟨.call (.ref 244) ⟨[.ref x.S,.str vs vt],[]⟩,bF x,λN t=>.con (ic x c) λz z l=>.con (j2 vs vt c.code (l.n 9) false) λz z z=>.con (p6 x (e8 l) c) λz z z=>
  .fin (rV (.bool false)) (bF x)⟩
theorem AQ:RP 450 2 [V9,Zu,nU 0x11062100000010000010000016 0x100000 0 0 447,m0] (Qq x vs vt c):=.a
def Qr:bK:=⟨.call (.ref 244) ⟨[.ref x.S,.str vs vt],[]⟩,bF x,λN t=>.con (mL x) λz z l=>
  .fin (rV (.bool false)) (bF x)⟩
theorem AR:RP 450 2 [V9,nU 0x1400444402032100000010000010000013333 0x100 1 3 0] (Qr x vs vt):=.a
end
section
variable(x:fD)(FL:Nat)(vs:Str)(vt k1:Nat)(k2:Nat)
def cD(l:List DictEntry)(n:Nat):Obj:=⟨.type lO,none,.dict ⟨l⟩ n,#[]⟩
def tq(s:Stmt)(env:Env):Code:=.whileLoop (sp s).e (sp s).b (sp s).o env
def m3(s:Stmt)(it:Value)(env:Env):Code:=.forLoop (sp s).e it (sp s).b (sp s).o env
def b9(a:Stmt)(i:Nat):Stmt:=(bJ a).getD i (.Pass default)
def hV(a:Stmt)(FL:Nat)(qual:Str)(fn cd:Nat):Env:=⟨mI a,FL,3,[],qual,some fn,.ref cd,some FL,0⟩
def iW(b:Bool):cX where
 c:=.call (.ref 244) ⟨[.ref x.S,.str vs vt],[]⟩
 pre:=bF x
 out _ _ l:=(rV (.bool b),bF x)
def ZM:Env:=hV (dc 10 7) FL (q (uS 0x48616e644c65786572426173652e6163636570745f72756e2e3c6c6f63616c733e2e)) 251 250
def acM:Obj:=cD [eW eG k1 (.ref x.S),eW (uS 0x76616c6964) k2 (.str vs vt)] 2
def tu:cX where
 c:=tq (b9 (dc 10 7) 0) (ZM FL)
 pre:=bF x++[(FL,acM x vs vt k1 k2)]
 out _ _ l:=(oN,bF x)
def Wu:bK:=(tu x FL vs vt k1 k2).YW λN t=>.con (iW x vs vt true) λz z l=>.con (tu x FL vs vt k1 k2) λz z z=>.fin oN (bF x)
theorem DC:RP 480 0 [Zv,nU 0x11 0x1000 0 0 480,m0] (Wu x FL vs vt k1 k2):=.a
def Wv:bK:=(tu x FL vs vt k1 k2).YW λN t=>.con (iW x vs vt false) λz z l=>.fin oN (bF x)
theorem DD:RP 480 0 [Zv,m0] (Wv x FL vs vt k1 k2):=.a
def Ww:bK:=⟨.call (.ref 251) ⟨[.ref x.S,.str vs vt],[]⟩,bF x,λN t=>.con (tu x N vs vt t (t+1)) λz z z=>.fin (rV .none) (bF x)⟩
theorem DE:RP 500 2 [nU 0x110033330 0x1000 1 2 497,m0] (Ww x vs vt):=.a
def Qs(ct:List Value)(n:Nat):bK:=⟨.call (.ref 237) ⟨[.ref x.S],[]⟩,bF x++[(x.CT,br ct n)],λN t=>.con (Dq x.CT ct n) λz z l=>.fin (rV .none) (bF x++[(x.CT,br [] (l.n 0))])⟩
theorem AS ct n:RP 400 2 [nU 0x1130333320110000010000001400440 0x12 1 2 397,nU 0 0x1011 0 0 0] (Qs x ct n):=.a
end
section
variable(en it:Nat)(y:fJ)(k:Nat)(s:Str)(l j:Nat)(x:Str)(n t:Nat)(old:Value)(xs:List Value)
def Qt(c:Nat)(old:Value):bK:=⟨.builtin fT ⟨[.ref en],[]⟩,[(en,c7 .none it (Int.ofNat k) old),(it,iu dY x t j)],λN d=>.con (DB it x t j c) λa b l1=>.fin (rV (.ref a)) [(a,dm [.int (Int.ofNat k) b,.str ⟨⟨[c]⟩⟩ (l1.n 0)] 0),(en,c7 (.int (Int.ofNat a) 0) it (Int.ofNat (k+1)) (.str ⟨⟨[c]⟩⟩ (l1.n 0))),(it,iu dY x t (j+1))]⟩
theorem AT c old:RP 30 0 [nU 0x112021 0x11 0 0 20,nU 0x122222222222222 0x1012 1 1 0] (Qt en it k j x t c old):=.a
def Wx:bK:=⟨.builtin fT ⟨[.ref en],[]⟩,[(en,c7 .none it (Int.ofNat k) old),(it,iu dY x t j)],λN a=>.con (Mk it x t j) λb c l1=>.fin (.error (.ref (l1.n 0))) [(l1.n 0,fw (l1.n 1)),(en,c7 .none it (Int.ofNat k) old)]⟩
theorem DF:RP 30 0 [nU 0x112021 0x11 0 0 20,nU 0 0x110 0 0 0] (Wx en it k j x t old):=.a
def Qu(v old:Value):bK:=⟨.builtin fT ⟨[.ref en],[]⟩,[(en,c7 .none it (Int.ofNat k) old),(it,eB l j),(l,br xs n)],λN c=>.con (dd it l j xs n v) λa b l1=>.fin (rV (.ref a)) [(a,dm [.int (Int.ofNat k) b,v] 0),(en,c7 (.int (Int.ofNat a) 0) it (Int.ofNat (k+1)) v),(it,eB l (j+1)),(l,br xs n)]⟩
theorem AU v old:RP 30 0 [nU 0x112021 0x111 0 0 20,nU 0x133333333333333 0x10023 1 1 0] (Qu en it k l j n xs v old):=.a
def Wy(old:Value):bK:=⟨.builtin fT ⟨[.ref en],[]⟩,[(en,c7 .none it (Int.ofNat k) old),(it,eB l j),(l,br xs n)],λN a=>.con (eV it l j xs n) λb c l1=>.fin (.error (.ref (l1.n 0))) [(l1.n 0,fw (l1.n 1)),(l,br xs n)]⟩
theorem DG old:RP 30 0 [nU 0x112021 0x111 0 0 20,nU 0 0x110 0 0 0] (Wy en it k l j n xs old):=.a
def GQ:cX where
 c:=fe y.g
 pre:=[(y.g,cc y)]
 out _ _ a:=(rV (.str s (a.n 0)),[(y.g,cc y)])
def GR:cX where
 c:=fe y.g
 pre:=[(y.g,cc y)]
 out _ _ a:=(.error (.ref (a.n 0)),[(a.n 0,fw (a.n 1)),(y.g,cc y)])
def Qv(y:fJ)(s:Str)(old:Value):bK:=⟨.builtin fT ⟨[.ref en],[]⟩,[(en,c7 .none y.g (Int.ofNat k) old),(y.g,cc y)],λN c=>.con (GQ y s) λa b l1=>.fin (rV (.ref a)) [(a,dm [.int (Int.ofNat k) b,.str s (l1.n 0)] 0),(en,c7 (.int (Int.ofNat a) 0) y.g (Int.ofNat (k+1)) (.str s (l1.n 0))),(y.g,cc y)]⟩
theorem AV y s old:RP 100 0 [nU 0x112021 0x11 0 0 90,nU 0x122222222222222 0x1012 1 1 0] (Qv en k y s old):=.a
def Wz(y:fJ)(old:Value):bK:=⟨.builtin fT ⟨[.ref en],[]⟩,[(en,c7 .none y.g (Int.ofNat k) old),(y.g,cc y)],λN a=>.con (GR y) λb c l1=>.fin (.error (.ref (l1.n 0))) [(l1.n 0,fw (l1.n 1)),(y.g,cc y)]⟩
theorem DH y old:RP 100 0 [nU 0x112021 0x11 0 0 90,m0] (Wz en k y old):=.a
end
noncomputable def Ml(N:Value->Sem (Option Value))(L:Expr->Value->Value->Sem Unit):
  { t:Expr->Value->List Stmt->List Stmt->Env->Sem Fin//N=PySem.W.ZFast.zw9404975358583537561->L=PySem.W.ZFast.zw1578499551869305889->t=PySem.W.ZFast.zw15207555903498437823 }:=by
 refine⟨?t,λa b=>?p⟩
 case p=>
  delta PySem.W.ZFast.zw15207555903498437823
  rw[<-a,<-b]
section
open PySem.Meets
set_option backward.match.sparseCases false in
noncomputable def Mm(t:Sem PySem.Fin):Sem PySem.Fin:=match t with
 |.at Y k=>k ()
 |t=>t
def oZ(L:Expr->Value->Value->Sem Unit)(v:Value)(c:Code):Sem PySem.Fin:=match c with
 |.forLoop a it body orelse env=>Mm (R.onRaiseR ((Ml (λz=>.pure (some v)) L).1 a it body orelse env) λx=>R.bindR (PySem.W.ZFast.noteFrameY x env) λz=>PySem.W.ZFast.zw1623429502029203251 x)
 |Y=>.unsupported ""
theorem yx(v:Value)(a:Expr)(it:Value)(body orelse:List Stmt)(env:Env):
  ∃(b:Sem PySem.Fin)(H:Value->Sem Unit),∀L,oZ L v (.forLoop a it body orelse env)=R.onRaiseR (R.bindR (L a it v) λz=>b) H:=
 ⟨_,_,λL=>rfl⟩
section
variable{prog:Program}{w:World}{kt:KT}{os:OsState}{room:Nat}
theorem Mn{b g it:Nat}{k:Int}{c:Value}{a:List Expr}{h:Nat}{d:Pos}{body orelse:List Stmt}{env:Env}:
  c9 prog w kt os room (.forLoop (.Tuple a h d) (.ref b) body orelse env) (oZ PySem.W.ZFast.zw1578499551869305889 (.ref g) (.forLoop (.Tuple a h d) (.ref b) body orelse env)) [(b,c7 (.int (Int.ofNat g) 0) it k c)] bV
   (λy y y=>(oZ (λy y y=>.pure ()) (.ref g) (.forLoop (.Tuple a h d) (.ref b) body orelse env),[(b,c7 .none it k c)])) (λy=>bV):=by
 rintro n t i u s F FG r0 g0 ⟨rfl,rfl⟩ l o;obtain⟨m,H,e⟩:=yx (.ref g) (.Tuple a h d) (.ref b) body orelse env;rw[e,<-jb,<-eh,<-PySem.W.ZFast.ze1578499551869305889,gL,dI,eg];refine i _ _ _ s λq p y j=>?_;have ho:=l.own (b,c7 (.int (Int.ofNat g) 0) it k c) (.head _);have z:=l.turn (f:=Obj.mapFields (·.setIfInBounds 0 .none)) rfl s.toks;have fin:=o { s with heap:=s.heap.update b (Obj.mapFields (·.setIfInBounds 0 .none)) } (l1 0) [] [] ⟨rfl,rfl⟩ z;rw[e,<-jb,<-eh,gL,dI]at fin;refine(?_:wpAny (model prog w) n (letOwnedTupleGo _ _ _) _ _ s) q p j;refine bI (wpAny_load ho ?_);show wpAny _ _ (if(["enumerate","zip","dict_itemiterator","dict_reverseitemiterator","odict_iterator","itertools.zip_longest","itertools.pairwise"].contains oY&&(#[Value.int (Int.ofNat g) 0,.bool false,.ref it,.int k 0,.none,c]:Array Value)[0]?==some (rawInt g))=true then _ else _) _ _ s;have r:["enumerate","zip","dict_itemiterator","dict_reverseitemiterator","odict_iterator","itertools.zip_longest","itertools.pairwise"].contains oY=true:=by rw[<-mc];decide +kernel
 rw[bP (by rw[r];simp[rawInt])];refine bI (oC ?_);refine(lM ho rfl (by show 0<6;decide) ?_:wpAny _ _ (setField (.ref b) 0 .none) _ _ s);exact fin
end
end
section
def dy(s:Stmt):List Stmt:=(sp s).b
variable(FL en:Nat)(it k:Nat)(j:Nat)(x:Str)
def me(c:Code)(en b it:Nat)(k:Int)(a:Value):vf where
 c:=c
 tr:=oZ PySem.W.ZFast.zw1578499551869305889 (.ref b) c
 pre:=[(en,c7 (.int (Int.ofNat b) 0) it k a)]
 out _ _ _:=(oZ (λz z z=>.pure ()) (.ref b) c,[(en,c7 .none it k a)])
def tw(t c:Nat)(b:Value):cX where
 c:=.builtin fT ⟨[.ref en],[]⟩
 pre:=[(en,c7 .none it (Int.ofNat k) b),(it,iu dY x t j)]
 out _ _ a:=(rV (.ref (a.n 0)),[(a.n 0,dm [.int (Int.ofNat k) (a.n 1),.str ⟨⟨[c]⟩⟩ (a.n 2)] 0),(en,c7 (.int (Int.ofNat (a.n 0)) 0) it (Int.ofNat (k+1)) (.str ⟨⟨[c]⟩⟩ (a.n 2))),(it,iu dY x t (j+1))])
def v6:Env:=hV (dH 13) FL (q (uS 0x6372656174655f636861726163746572732e3c6c6f63616c733e2e)) 314 313
def jx:Code:=m3 (b9 (dH 13) 0) (.ref en) (v6 FL)
def jy:Code:=m3 ((dy (b9 (dH 13) 0)).getD 1 (.Pass default)) (.ref en) (v6 FL)
noncomputable def ZN(d:Nat):Obj:=⟨.ref 303,some d,.plain,#[]⟩
def ZO(k1 k2:Nat)(fn:Value)(row:Int)(rt:Nat):Obj:=cy [eW Gm k1 fn,eW sT k2 (.int row rt)] 2
structure yy where(f sf sd FL k1 k2 k3 k4 k5 k6:Nat)
variable(y:yy)
def Ux(b a:Value):Obj:=cD [eW [102] y.k1 (.ref y.f),eW Dm y.k2 (.ref y.sf),eW sT y.k3 b,eW (uS 0x6c696e65) y.k4 a] 4
def o1(b a:Value)(c d e:Nat)(g h i:Value):Obj:=cD [eW [102] y.k1 (.ref y.f),eW Dm y.k2 (.ref y.sf),eW sT y.k3 b,eW (uS 0x6c696e65) y.k4 a,
 eW [99,111,108] c g,eW qJ d h,eW lU e i] 7
def fX(fn:Value)(row:Int)(rt:Nat):bH:=[(y.sf,ZN y.sd),(y.sd,ZO y.k5 y.k6 fn row rt)]
def AW(en it k j:Nat)(x:Str)(xt:Nat)(e b a fn:Value)(f g h:Nat)(i l m:Value)(row:Int)(rt:Nat):cX where
 c:=jy y.FL en
 pre:=[(y.FL,o1 y b a f g h i l m),(en,c7 .none it (Int.ofNat k) e),(it,iu dY x xt j)]++fX y fn row rt
 out _ _ d:=(oN,[(y.FL,o1 y b a f g h (d.v 0) (d.v 1) (d.v 2))]++fX y fn row rt)
def ZP(en it:Nat)(x:Str)(c:Nat)(xt:Nat)(rn d lt:Nat)(e:Str)(fn:Value)(row:Int)(rt:Nat):bK:=⟨jy y.FL en,[(y.FL,Ux y (.int (Int.ofNat rn) d) (.str e lt)),(en,c7 .none it 1 .none),(it,iu dY x xt 0)]++fX y fn row rt,λN t=>.con (tw en it 1 0 x xt c .none) λz z l=>.step (me (jy y.FL en) en (l.n 0) it 2 (.str ⟨⟨[c]⟩⟩ (l.n 2))) λb a z=>
  .jf (.ref (b+7)) (dJ ⟨b+7,b+6,b+4,b+3,a+21,a+23,l.n 1,rt,a+4,l.n 2⟩ ⟨c,row,1,fn⟩) [y.FL,en,it,y.sf,y.sd] λN t=>
  .con (AW y en it 2 1 x xt (.str ⟨⟨[c]⟩⟩ (l.n 2)) (.int (Int.ofNat rn) d) (.str e lt) fn a (a+1) (a+16) (.int 1 (l.n 1)) (.str ⟨⟨[c]⟩⟩ (l.n 2)) (.ref (b+4)) row rt) λg h f=>
  .fin oN ([(y.FL,o1 y (.int (Int.ofNat rn) d) (.str e lt) a (a+1) (a+16) (f.v 0) (f.v 1) (f.v 2))]++fX y fn row rt)⟩
theorem ID(en it:Nat)(x:Str)(c:Nat)(xt:Nat)(rn d lt:Nat)(e:Str)(fn:Value)(row:Int)(rt:Nat)(h:(∃fs t,fn=.str fs t)\/fn=.none):RS 60 0 [xT,Zw,.n (.b Zn 0x1ac0dd 9 24 0x111103 0) 0,.z (.a 0x11 0x100000 0 0) 60,.z (.a 0 0x1000 0 0) 0] (ZP y en it x c xt rn d lt e fn row rt):=by
 rcases h with⟨fs,t,rfl⟩|rfl
 ·exact .b
 ·exact .b
def GS(t:Nat)(b:Value):cX where
 c:=.builtin fT ⟨[.ref en],[]⟩
 pre:=[(en,c7 .none it (Int.ofNat k) b),(it,iu dY x t j)]
 out _ _ a:=(.error (.ref (a.n 0)),[(a.n 0,fw (a.n 1)),(en,c7 .none it (Int.ofNat k) b)])
def ZQ(en it k j:Nat)(x:Str)(c:Nat)(xt:Nat)(b:Value)(rn d lt:Nat)(e:Str)(fn:Value)(f g h:Nat)(o p q:Value)(row:Int)(rt:Nat):bK:=⟨jy y.FL en,(AW y en it k j x xt b (.int (Int.ofNat rn) d) (.str e lt) fn f g h o p q row rt).pre,λN t=>.con (tw en it k j x xt c b) λz z l=>.step (me (jy y.FL en) en (l.n 0) it (Int.ofNat (k+1)) (.str ⟨⟨[c]⟩⟩ (l.n 2))) λa i z=>
  .jf (.ref (a+7)) (dJ ⟨a+7,a+6,a+4,a+3,i+21,i+23,l.n 1,rt,i+4,l.n 2⟩ ⟨c,row,Int.ofNat k,fn⟩) [y.FL,en,it,y.sf,y.sd] λN t=>
  .con (AW y en it (k+1) (j+1) x xt (.str ⟨⟨[c]⟩⟩ (l.n 2)) (.int (Int.ofNat rn) d) (.str e lt) fn f g h (.int (Int.ofNat k) (l.n 1)) (.str ⟨⟨[c]⟩⟩ (l.n 2)) (.ref (a+4)) row rt) λr s m=>
  .fin oN ([(y.FL,o1 y (.int (Int.ofNat rn) d) (.str e lt) f g h (m.v 0) (m.v 1) (m.v 2))]++fX y fn row rt)⟩
theorem IE(en it k j:Nat)(x:Str)(c:Nat)(xt:Nat)(d:Value)(rn e lt:Nat)(f:Str)(fn:Value)(g i l:Nat)(m o p:Value)(row:Int)(rt:Nat)(h:(∃fs t,fn=.str fs t)\/fn=.none):RS 60 0 [xT,Zw,.n (.b Zn 0x1ac0dd 9 24 0x111103 0) 0,.z (.a 0x11 0x100000 0 0) 60,.z (.a 0 0x1000 0 0) 0] (ZQ y en it k j x c xt d rn e lt f fn g i l m o p row rt):=by
 rcases h with⟨fs,t,rfl⟩|rfl
 ·exact .b
 ·exact .b
def ZR(en it k j:Nat)(x:Str)(xt:Nat)(a:Value)(rn b lt:Nat)(c:Str)(fn:Value)(d e f:Nat)(g h i:Value)(row:Int)(rt:Nat):bK:=⟨jy y.FL en,(AW y en it k j x xt a (.int (Int.ofNat rn) b) (.str c lt) fn d e f g h i row rt).pre,λN t=>.con (GS en it k j x xt a) λz z l=>.fin oN ([(y.FL,o1 y (.int (Int.ofNat rn) b) (.str c lt) d e f g h i)]++fX y fn row rt)⟩
theorem IF(en it k j:Nat)(x:Str)(xt:Nat)(b:Value)(rn c lt:Nat)(d:Str)(fn:Value)(e f g:Nat)(i l m:Value)(row:Int)(rt:Nat)(h:(∃fs t,fn=.str fs t)\/fn=.none):RS 60 0 [xT,.z (.a 0x101 0x1222 0 0) 0] (ZR y en it k j x xt b rn c lt d fn e f g i l m row rt):=by
 rcases h with⟨fs,t,rfl⟩|rfl
 ·exact .a
 ·exact .a
end
section
open PySem.Meets PySem.Builtin PySem.Builtin.Str
noncomputable def jI(o:Array Nat)(k c:Nat):Array Nat×Nat:=if c==9 then(o++Array.replicate (8-k%8) 32,k+(8-k%8))else(o.push c,if c==10||c==13 then 0 else k+1)
def j5:List Nat->Array Nat->Nat->Array Nat×Nat|[],o,k=>(o,k)|c::l,o,k=>j5 l (jI o k c).1 (jI o k c).2
def cI(s:Str):Str:=⟨(j5 s.cps.toList #[] 0).1⟩
theorem nY{M:Model}{A:Around}{E:Value->Shared->Prop}{s:Shared}{Q:Array Nat×Nat->Shared->Prop}:∀(l:List Nat)(o:Array Nat)(k:Nat),o.size+8*l.length<=sizeLine->Q (j5 l o k) s->
  wpAny M A (forIn l (o,k) λc __s=>
      have out:=__s.fst;
      have a:=__s.snd;
      if(c==9)=true then
       have blanks:=if(8:Int)>0 then Int.toNat 8-a%Int.toNat 8 else 0;
       have __do_jp:=λ(__r:Unit)=>
        have out:=out++Array.replicate blanks 32;
        have a:=a+blanks;
        (pure (ForInStep.yield (out,a)):Sem (ForInStep (Array Nat×Nat)));
       if tooLong (out.size+blanks)=true then do
        let __r<-unsupported "str.expandtabs:memory"
        __do_jp __r
       else __do_jp ()
      else
       have out:=out.push c;
       have a:=if(c==10||c==13)=true then 0 else a+1;
       pure (ForInStep.yield (out,a))) Q E s
 |[],o,k,b,h=>by
  rw[List.forIn_nil];exact ck h
 |c::l,o,k,b,h=>by
  rw[xx];rw[List.length_cons]at b;refine bI ?_;dsimp only;unfold j5 at h;cases d:(c==9)with
  |true=>
   unfold jI at h;rw[d,bP rfl]at h;rw[bP rfl];have e:(if(8:Int)>0 then Int.toNat 8-k%Int.toNat 8 else 0)=8-k%8:=by exact rfl
   rw[e];have nt:tooLong (o.size+(8-k%8))=false:=by
    unfold tooLong;exact h8 (Nat.not_lt.2 (cu (h9 ..) (ex8 b (Nat.sub_le ..))))
   rw[nt,bu (by decide)];refine ck ?_;exact nY l _ _ (by rw[xq,Array.size_replicate];exact ex8 b (Nat.sub_le ..)) h
  |false=>
   unfold jI at h;rw[d]at h;simp only[sC,ia]at h ⊢;refine ck ?_;exact nY l _ _ (by rw[rx];exact ex8 b (by decide)) h
theorem tx:∀(l:List Nat)(o:Array Nat)(k:Nat),(j5 l o k).1.size<=o.size+8*l.length
 |[],o,k=>cO _
 |c::l,o,k=>by
  have h:=tx l (jI o k c).1 (jI o k c).2;have z:(jI o k c).1.size<=o.size+8:=by
   unfold jI
   split
   ·simp only[xq,Array.size_replicate];have:8-k%8<=8:=Nat.sub_le _ _;exact w9 this _
   ·rw[rx];exact w9 (by decide) _
  rw[List.length_cons,Nat.mul_succ,Nat.add_comm (8*_),<-Gb];exact cu h (Nat.add_le_add_right z _)
theorem qP:∀(l:List Nat)(o:Array Nat)(k:Nat),l.contains 9=false->(j5 l o k).1.toList=o.toList++l
 |[],o,k,Y=>(dU _).symm
 |c::l,o,k,h=>by
  rw[List.contains_cons,Bool.or_eq_false_iff]at h;have a:(c==9)=false:=by
   cases q:c==9 with
   |false=>rfl
   |true=>rw[je.mp q]at h;exact absurd h.1 (by decide)
  unfold j5 jI;rw[a];simp only[sC,ia];rw[qP l _ _ h.2];simp
theorem p7(s:Str)(t:Tok)(a:8*s.cps.toList.length<=sizeLine):Meets (Builtin.«str.expandtabs» ⟨[.str s t],[]⟩) (λz R st=>(∀u n,R (.ok (.ret (.str (cI s) u))) { st with toks:=n })):=
 .of_wp λprog w A R c h=>by
  obtain⟨i,g,d,tk,os⟩:=c
  wp_walk
  cases f:s.cps.contains 9 with
  |false=>
   rw[bP (by rfl)];have e:cI s=s:=by
    unfold cI;have:=qP s.cps.toList #[] 0 (by simpa using f);cases s with
    |mk cps=>simp only at this ⊢;congr 1;apply Array.ext';simpa using this
   have b:=h t tk;rw[e]at b
   wp_walk
   exact⟨_,rfl,b⟩
  |true=>
   rw[bu (by decide)];dsimp only;rw[<-Array.forIn_toList];refine bI (nY s.cps.toList #[] 0 (by simpa using a) ?_);have sz:=tx s.cps.toList #[] 0;show wpAny _ _ (retStr (cI s)) _ _ _;unfold retStr;refine bI (wpAny_mkStr (ck ⟨_,rfl,h tk (tk+1)⟩) ?_);show(cI s).cps.size<=sizeLine;unfold cI;simp only[List.size_toArray,Array.size_empty,rv,List.length_nil]at sz ⊢;exact cu sz a
noncomputable abbrev GU:String:=PySem.W.SZ.s5201195761148385418x14
theorem tz:"str.expandtabs" = GU:=PySem.W.SZ.e5201195761148385418x14
def yz(s:Str)(t:Nat):cX where
 c:=.builtin GU ⟨[.str s t],[]⟩
 pre:=[]
 out _ _ a:=(rV (.str (cI s) (a.n 0)),[])
section
variable{prog:Program}{w:World}{kt:KT}{os:OsState}{room:Nat}
theorem qQ{s:Str}{t:Nat}(c:8*s.cps.toList.length<=sizeLine):dq prog w kt os room (yz s t) bV (λz=>bV):=by
 refine bE.dx (b:=Builtin.«str.expandtabs») (by rw[<-tz];decide +kernel) (by rw[<-tz];exact entryFor_of_tree (by kernel_rfl)) (p7 s t c) ?_;intro A R st F FG _ a k u n;exact k { st with toks:=n } (l1 u) (a.toks n)
end
end
section
variable(y:yy)(en it:Nat)(x:Str)(k:Nat)(s:Str)(old tA:Value)(fn mf:Value)(row:Int)(rt:Nat)(dk:Int)
def tB:Obj:=cD [eW [102] y.k1 (.ref y.f),eW Dm y.k2 (.ref y.sf)] 2
def tC:cX where
 c:=.builtin fT ⟨[.ref en],[]⟩
 pre:=[(en,c7 .none it (Int.ofNat k) old)]
 out _ _ a:=(rV (.ref (a.n 0)),[(a.n 0,dm [.int (Int.ofNat k) (a.n 1),.str s (a.n 2)] 0),(en,c7 (.int (Int.ofNat (a.n 0)) 0) it (Int.ofNat (k+1)) (.str s (a.n 2)))])
def yA:cX where
 c:=.builtin fT ⟨[.ref en],[]⟩
 pre:=[(en,c7 .none it (Int.ofNat k) old)]
 out _ _ a:=(.error (.ref (a.n 0)),[(a.n 0,fw (a.n 1))])
def DI(t u:Nat):cX where
 c:=.builtin j3 ⟨[.type oY,.str x t,.int 1 u],[]⟩
 pre:=[]
 out _ _ a:=(rV (.ref (a.n 0)),[(a.n 0,c7 .none (a.n 1) 1 .none),(a.n 1,iu dY x t 0)])
def Mo(xt:Nat)(tA mf fn:Value)(row:Int)(rt:Nat):cX where
 c:=jy y.FL en
 pre:=[(y.FL,Ux y tA mf),(en,c7 .none it 1 .none),(it,iu dY x xt 0)]++fX y fn row rt
 out _ _ a:=(oN,[(y.FL,o1 y tA mf (a.n 0) (a.n 1) (a.n 2) (a.v 0) (a.v 1) (a.v 2))]++fX y fn row rt)
def tD(fn:Value)(b d e:Nat)(f g h:Value)(row:Int)(rt:Nat)(dk:Int):cX where
 c:=jx y.FL en
 pre:=[(y.FL,o1 y tA mf b d e f g h),(en,c7 .none it (Int.ofNat k) old)]++fX y fn row rt
 out _ _ a:=(oN,fX y fn dk (a.n 0))
def WA:bK:=⟨jx y.FL en,[(y.FL,tB y),(en,c7 .none it 1 .none)]++fX y fn row rt,λN t=>.con (tC en it 1 s .none) λz z l1=>.step (me (jx y.FL en) en (l1.n 0) it 2 (.str s (l1.n 2))) λh b z=>
  .con (yz s (l1.n 2)) λi e c=>.con (DI (cI s) (c.n 0) (e+1)) λj l d=>.pos λp=>
  .con (Mo { y with k3:=b,k4:=b+1 } (d.n 0) (d.n 1) (cI s) (c.n 0) (.int 1 (l1.n 1)) (.str (cI s) (c.n 0)) fn row rt) λm f a=>
  .con (tD { y with k3:=b,k4:=b+1 } en it 2 (.str s (l1.n 2)) (.int 1 (l1.n 1)) (.str (cI s) (c.n 0)) fn (a.n 0) (a.n 1) (a.n 2) (a.v 0) (a.v 1) (a.v 2) (row+1) (f+2) dk) λo q g=>
  .fin oN (fX y fn dk (g.n 0))⟩
theorem DJ:RS 200 0 [Qo,nU 0 0x11 0 0 197,Zx,nU 0x1100030033 0 0 2 187,Wa,.z (.a 0x11 0x122004 0 0) 197,.z (.a Zo 0x10020 0 5) 200,.z (.a 0 0x100 0 0) 0] (WA y en it s fn row rt dk):=.b
def WB(xt:Nat)(tA mf fn:Value)(b d e:Nat)(f g h:Value)(row:Int)(rt:Nat):cX where
 c:=jy y.FL en
 pre:=[(y.FL,o1 y tA mf b d e f g h),(en,c7 .none it 1 .none),(it,iu dY x xt 0)]++fX y fn row rt
 out _ _ a:=(oN,[(y.FL,o1 y tA mf b d e (a.v 0) (a.v 1) (a.v 2))]++fX y fn row rt)
def WC(fn:Value)(b c d:Nat)(f g h:Value)(row:Int)(rt:Nat)(dk:Int):bK:=⟨jx y.FL en,(tD y en it k old tA mf fn b c d f g h row rt dk).pre,λN t=>.con (tC en it k s old) λx x l1=>.step (me (jx y.FL en) en (l1.n 0) it (Int.ofNat (k+1)) (.str s (l1.n 2))) λo q x=>
  .con (yz s (l1.n 2)) λr j a=>.con (DI (cI s) (a.n 0) (j+1)) λu w i=>.pos λp=>
  .con (WB y (i.n 0) (i.n 1) (cI s) (a.n 0) (.int (Int.ofNat k) (l1.n 1)) (.str (cI s) (a.n 0)) fn b c d f g h row rt) λz l e=>
  .con (tD y en it (k+1) (.str s (l1.n 2)) (.int (Int.ofNat k) (l1.n 1)) (.str (cI s) (a.n 0)) fn b c d (e.v 0) (e.v 1) (e.v 2) (row+1) (l+2) dk) λA B m=>
  .fin oN (fX y fn dk (m.n 0))⟩
theorem DK fn c a2 d v1 v2 v3 row rt dk:RS 200 0 [Qo,nU 0 0x11 0 0 197,Zx,nU 0x1100030033 0 0 2 187,Wa,.z (.a 0x11 0x122004 0 0) 197,.z (.a Zo 0x10020 0 5) 200,.z (.a 0 0x100 0 0) 0] (WC y en it k s old tA mf fn c a2 d v1 v2 v3 row rt dk):=.b
def WD(fn:Value)(a b c:Nat)(d e f:Value)(row:Int)(rt:Nat):bK:=⟨jx y.FL en,(tD y en it k old tA mf fn a b c d e f row rt row).pre,λN t=>.con (yA en it k old) λz z l1=>.fin oN (fX y fn row rt)⟩
theorem DL fn b a2 c v1 v2 v3 row rt:RS 200 0 [Qo,.z (.a 0x101 0x122 0 0) 0] (WD y en it k old tA mf fn b a2 c v1 v2 v3 row rt):=.a
def WE:bK:=⟨jx y.FL en,[(y.FL,tB y),(en,c7 .none it 1 .none)]++fX y fn row rt,λN t=>.con (yA en it 1 .none) λz z l1=>.fin oN (fX y fn row rt)⟩
theorem DM:RS 200 0 [Qo,.z (.a 0x101 0x122 0 0) 0] (WE y en it fn row rt):=.a
end
section
def Mp(f u:Nat):cX where
 c:=.builtin j3 ⟨[.type oY,.ref f,.int 1 u],[]⟩
 pre:=[]
 out _ _ a:=(rV (.ref (a.n 0)),[(a.n 0,c7 .none f 1 .none)])
variable(y:yy)(fn:Value)(row:Int)(rt:Nat)(dk:Int)
def GV(b it:Nat)(fn:Value)(row:Int)(rt:Nat)(dk:Int):cX where
 c:=jx y.FL b
 pre:=[(y.FL,tB y),(b,c7 .none it 1 .none)]++fX y fn row rt
 out _ _ a:=(oN,fX y fn dk (a.n 0))
def WF:bK:=⟨.func (bJ (dH 13)) (v6 y.FL),[(y.FL,tB y)]++fX y fn row rt,λN t=>.con (Mp y.f t) λa b l1=>.pos λp=>.con (GV y (l1.n 0) y.f fn row rt dk) λz z l2=>.fin (rV .none) (fX y fn dk (l2.n 0))⟩
theorem DN:RS 210 0 [nU 0x11000100 0 0 1 197,Wa,.z (.a 0x11 0x10001 0 0) 207,.z (.a 0 0x100 0 0) 0] (WF y fn row rt dk):=.b
def WG:bK:=⟨.call (.ref 314) ⟨[.ref y.f,.ref y.sf],[]⟩,fX y fn row rt,λN t=>.gen (.func (bJ (dH 13)) (v6 N)) λg=>.fin (rV (.ref (N+1))) ([(N,tB { y with FL:=N,k1:=t,k2:=t+1 }),(N+1,jX g (t+2) ⟨⟨[99,114,101,97,116,101,95,99,104,97,114,97,99,116,101,114,115]⟩⟩ (t+3) ⟨⟨[99,114,101,97,116,101,95,99,104,97,114,97,99,116,101,114,115]⟩⟩)]++fX y fn row rt)⟩
theorem DO:RP 40 2 [nU 0x1033330 0 0 0 0,nU 0 0x10022 2 4 0] (WG y fn row rt):=.a
end
section
variable{en it j k room t:Nat}{old:Value}{x:Str}
noncomputable def cV(ns:List Nat)(vs:List Value:=[]):L2:=⟨λn=>ns.getD n 0,λn=>vs.getD n .none,λz=>[]⟩
inductive qR(P:Params)(c:Ch)(v:Value)(it:bH):Prop where|mk:∀a:gv,(v=.ref a.a)->(it=dJ a c)->qR P c v it
noncomputable def signs(row:Int)(fn:Value):Nat->List Nat->List Ch|Y,[]=>[]|k,c::cs=>⟨c,row,Int.ofNat k,fn⟩::signs row fn (k+1) cs
abbrev DZ(w:World)(a b:Bool)(os:OsState)(room:Nat)(k:cX)(X:b7)(X':L2->b7):Prop:=gN room k.c k.pre X k.out X'
abbrev cN:=@DZ w b1 b2 os
abbrev DSZ(w:World)(d e:Bool)(os:OsState){a:Type}(acj:Nat)(b:a->Value->bH->Prop)(bL:Result->bH->bR->Prop)(room:Nat)(k:cX)(X:b7)(σ:List a)(X':L2->b7)(σ':List a):Prop:=
 rh acj b bL room k.c k.pre X σ k.out X' σ'
abbrev jJ:=@DSZ w b1 b2 os
section
theorem rR{prog:Program}{f:World}{kt:KT}{s:Stmt}{e:Env}{d:Nat}{k:Int}(h:∃a b p,(sp s).e=.Tuple a b p):
  c9 prog f kt os room (me (m3 s (.ref en) e) en d it k old).c (me (m3 s (.ref en) e) en d it k old).tr (me (m3 s (.ref en) e) en d it k old).pre bV (me (m3 s (.ref en) e) en d it k old).out (λz=>bV):=by
 obtain⟨a,b,p,h⟩:=h;unfold m3;rw[h];exact Mn
theorem o4{c:Nat}(a:30<=room)(b:x.cps[j]?=some c):cN room (tw en it k j x t c old) bV (λz=>bV):=by
 refine bE.mono (room:=30) (bE.o rfl (AT en it k j x t c old) ?_) a;intro f N t _;refine bx (X':=λz=>bV) rfl (nX b) ?_;intro d e l1 _ _;exact cC (cV [d,e,l1.n 0])
theorem AX(a:30<=room)(b:x.cps[j]?=none):cN room (GS en it k j x t old) bV (λz=>bV):=by
 refine bE.mono (room:=30) (bE.o rfl (DF en it k j x t old) ?_) a;intro c N t _;refine bx (X':=λz=>bV) rfl (v0 b) ?_;intro d e l1 _ _;exact cC l1
variable{acj:Nat}{bL:Result->bH->bR->Prop}
def isFn(fn:Value):Prop:=(∃fs ft,fn=.str fs ft)\/fn=.none
theorem tE:∃a b p,(sp ((dy (b9 (dH 13) 0)).getD 1 (.Pass default))).e=.Tuple a b p:=⟨(ep (sp ((dy (b9 (dH 13) 0)).getD 1 (.Pass default))).e).es,0,(ep (sp ((dy (b9 (dH 13) 0)).getD 1 (.Pass default))).e).p,by kernel_rfl⟩
theorem p8{y:yy}{en it:Nat}{x:Str}{xt rn b lt:Nat}{d:Str}{fn:Value}(h:isFn fn){e f g:Nat}{row:Int}{rt:Nat}{σ:List Ch}:
  ∀(cs:List Nat)(k j:Nat)(old v1 v2 v3:Value),x.cps.toList.drop j=cs->
  jJ acj (qR w.params) bL 60 (AW y en it k j x xt old (.int (Int.ofNat rn) b) (.str d lt) fn e f g v1 v2 v3 row rt) bV (signs row fn k cs++σ) (λz=>bV) σ
 |[],k,j,old,v1,v2,v3,hd=>by
  have hn:x.cps[j]?=none:=by
   have m:x.cps.toList.length<=j:=nH.mp hd;have:x.cps.size<=j:=by simpa using m
   simp[this]
  exists bG.o,IF y en it k j x xt old rn b lt d fn e f g v1 v2 v3 row rt h,0;refine bx (X':=λz=>bV) rfl (AX (by decide) hn) ?_;intro N t a _ _;exact bA (cV [] [v1,v2,v3])
 |c::cs,k,j,old,v1,v2,v3,hd=>by
  have p:x.cps[j]?=some c:=by
   have:x.cps.toList[j]?=some c:=by
    rw[<-ja,hd];rfl
   simpa using this
  have i:x.cps.toList.drop (j+1)=cs:=by
   rw[<-kv,hd];rfl
  have q:=@p8 y en it x xt rn b lt d fn h e f g row rt σ cs (k+1) (j+1);exists bG.o,IE y en it k j x c xt old rn b lt d fn e f g v1 v2 v3 row rt h,0;refine bx (X':=λz=>bV) rfl (o4 (by decide) p) ?_;intro N t a _ _;refine cS (X':=λz=>bV) rfl (rR tE) ?_;intro r s l _ _;exists cQ,⟨_,rfl,rfl⟩,0;skip;refine cE (X':=λz=>bV) (σ':=σ) rfl (q _ _ _ _ i) ?_;intro N t a _ _;exact bA a
end
end
section
variable{room:Nat}
theorem Kg.le{m n:Nat}{A:Around}{fs:List Frame}(h:Kg n A fs)(l:m<=n):Kg m A fs:=⟨h.hd,by have:=h.depth;have:=xG l;omega,by have:=h.units;omega,h.split,h.bare⟩
theorem bG.mono{prog:Program}{w:World}{kt:KT}{os:OsState}{room':Nat}{c:Code}{pre:bH}{X:b7}{out:Nat->Nat->L2->Result×bH}{X':L2->b7}{a:Type}{acj:Nat}{b:a->Value->bH->Prop}{bL:Result->bH->bR->Prop}{σ σ':List a}(h:bG prog w kt os acj b bL room c pre X σ out X' σ')(l:room<=room'):bG prog w kt os acj b bL room' c pre X σ out X' σ':=
 λfs rr gg d=>h fs rr gg (λA e=>(d A e).le l)
structure jj(s:PySem.Str):Prop where(len:8*s.cps.toList.length<=sizeLine)(asc:strIterType (cI s)=dY)(ne:(cI s).cps.toList≠[])
def fK(fn:Value)(row:Int)(s:PySem.Str):List Ch:=signs row fn 1 (cI s).cps.toList
def cw(fn:Value):Int->List PySem.Str->List Ch|Y,[]=>[]|row,s::ss=>fK fn row s++cw fn (row+1) ss
section
theorem tF{x:PySem.Str}{t u:Nat}(h:strIterType x=dY):cN room (DI x t u) bV (λy=>bV):=by
 have z:=@DA pz (wv w b1 b2) (bY w.params) os room x t u;unfold dq Mj at z;rw[h]at z;exact z
variable{acj:Nat}{bL:Result->bH->bR->Prop}
theorem DP{y:yy}{b it:Nat}{x:PySem.Str}{xt rn d lt:Nat}{e:PySem.Str}{fn:Value}(g:isFn fn){row:Int}{rt:Nat}{σ:List Ch}{c:Nat}{cs:List Nat}(h:x.cps.toList=c::cs):
  jJ acj (qR w.params) bL 60 (Mo y b it x xt (.int (Int.ofNat rn) d) (.str e lt) fn row rt) bV (signs row fn 1 (c::cs)++σ) (λz=>bV) σ:=by
 have j:x.cps[0]?=some c:=by
  have:x.cps.toList[0]?=some c:=by rw[h];rfl
  simpa using this
 have hd:x.cps.toList.drop 1=cs:=by rw[h];rfl
 have k:=λl a2 m old v1 v2 v3=>@p8 acj bL y b it x xt rn d lt e fn g l a2 m row rt σ cs 2 1 old v1 v2 v3 hd;exists bG.o,ID y b it x c xt rn d lt e fn row rt g,0;refine bx (X':=λz=>bV) rfl (o4 (by decide) j) ?_;intro N t n _ _;refine cS (X':=λz=>bV) rfl (rR tE) ?_;intro q f i _ _;exists cQ,⟨_,rfl,rfl⟩,0;skip;refine cE (X':=λz=>bV) (σ':=σ) rfl (k _ _ _ _ _ _ _) ?_;intro N t a _ _;exact bA (cV [f,f+1,f+16] [a.v 0,a.v 1,a.v 2])
structure ZS(w:World)(b1 b2:Bool)(os:OsState)(Src:List PySem.Str->b7)(f8:b7)(it:Nat):Prop where(new:∀ss u room,30<=room->cN room (Mp it u) (Src ss) (λz=>Src ss))(next:∀s ss en k old room,120<=room->cN room (tC en it k s old) (Src (s::ss)) (λz=>Src ss))(stop:∀en k old room,120<=room->cN room (yA en it k old) (Src []) (λz=>f8))
abbrev DQ:=@ZS w b1 b2 os
theorem tG:∃a b p,(sp (b9 (dH 13) 0)).e=.Tuple a b p:=⟨(ep (sp (b9 (dH 13) 0)).e).es,0,(ep (sp (b9 (dH 13) 0)).e).p,by kernel_rfl⟩
theorem tH{Src:List PySem.Str->b7}{f8:b7}{it:Nat}(q:DQ Src f8 it){y:yy}{m:Nat}{fn:Value}(u:isFn fn){f g h:Nat}{σ:List Ch}:
  ∀(ss:List PySem.Str)(k:Nat)(row dk:Int)(rt:Nat)(old b a v1 v2 v3:Value),(∀s∈ss,jj s)->row+ss.length=dk->
  jJ acj (qR w.params) bL 200 (tD y m it k old b a fn f g h v1 v2 v3 row rt dk) (Src ss) (cw fn row ss++σ) (λZ=>f8) σ
 |[],k,row,dk,rt,old,b,a,v1,v2,v3,ok,er=>by
  have er:row=dk:=by simpa using er
  subst er;exists bG.o,DL y m it k old b a fn f g h v1 v2 v3 row rt,0;refine bx (X':=λZ=>f8) rfl (q.stop _ _ _ _ (by decide)) ?_;intro N t B _ _;exact bA (cV [rt])
 |s::ss,k,row,dk,rt,old,b,a,v1,v2,v3,ok,er=>by
  have r:row+1+ss.length=dk:=by rw[Int.add_assoc,Int.add_comm 1];exact er
  have C:=@tH Src f8 it q y m fn u f g h σ ss (k+1) (row+1) dk;have i:=ok s (.head _);exists bG.o,DK y m it k s old b a fn f g h v1 v2 v3 row rt dk,0;refine bx (X':=λZ=>Src ss) rfl (q.next s ss _ _ _ _ (by decide)) ?_;intro E F j _ _;exists cS,(rR tG).fr _,0;exists bz,qQ i.len;intro I J c _;exists bz,tF i.asc;intro K L d _;refine cR rfl ?_;intro p _;skip;refine cE (X':=λZ=>Src ss) (σ':=cw fn (row+1) ss++σ) rfl (?_) ?zk;case zk=>(intro M O x _ _;refine cE (σ':=σ) rfl (C _ _ _ _ _ _ _ (λs D=>ok s (.tail _ D)) r) ?_;intro N t l _ _;exact bA l)
  have z:=(@p8 acj bL y (d.n 0) (d.n 1) (cI s) (c.n 0) k (j.n 1) (c.n 0) (cI s) fn u f g h row rt (cw fn (row+1) ss++σ) _ 1 0 .none v1 v2 v3 rfl).fr (Src ss);rw[List.drop_zero]at z;have e:cw fn row (s::ss)++σ=signs row fn 1 (cI s).cps.toList++(cw fn (row+1) ss++σ):=by
   show(fK fn row s++_)++σ=_;rw[bQ];rfl
  rw[e];exact z.mono (by decide)
theorem AY{Src:List PySem.Str->b7}{f8:b7}{it:Nat}(i:DQ Src f8 it){y:yy}{h:Nat}{fn:Value}(k:isFn fn){σ:List Ch}:
  ∀(ss:List PySem.Str)(row dk:Int)(rt:Nat),(∀s∈ss,jj s)->row+ss.length=dk->
  jJ acj (qR w.params) bL 200 (GV y h it fn row rt dk) (Src ss) (cw fn row ss++σ) (λZ=>f8) σ
 |[],row,dk,rt,ok,er=>by
  have er:row=dk:=by simpa using er
  subst er;exists bG.o,DM y h it fn row rt,0;refine bx (X':=λZ=>f8) rfl (i.stop _ _ _ _ (by decide)) ?_;intro N t v _ _;exact bA (cV [rt])
 |s::ss,row,dk,rt,ok,er=>by
  have j:row+1+ss.length=dk:=by rw[Int.add_assoc,Int.add_comm 1];exact er
  have d:=ok s (.head _);exists bG.o,DJ y h it s fn row rt dk,0;refine bx (X':=λZ=>Src ss) rfl (i.next s ss _ _ _ _ (by decide)) ?_;intro z A f _ _;exists cS,(rR tG).fr _;intro B l m _ _;exists bz,qQ d.len;intro C D a _;exists bz,tF d.asc;intro E F b _;refine cR rfl ?_;intro p _;skip;refine cE (X':=λZ=>Src ss) (σ':=cw fn (row+1) ss++σ) rfl (?_) ?zk;case zk=>(intro G H q _ _;refine cE (σ':=σ) rfl (@tH acj bL Src f8 it i _ h fn k _ _ _ σ ss 2 (row+1) dk _ _ _ _ _ _ _ (λs x=>ok s (.tail _ x)) j) ?_;intro N t g _ _;exact bA g)
  have e:cw fn row (s::ss)++σ=signs row fn 1 (cI s).cps.toList++(cw fn (row+1) ss++σ):=by
   show(fK fn row s++_)++σ=_;rw[bQ];rfl
  rw[e];cases r:(cI s).cps.toList with
  |nil=>exact absurd r d.ne
  |cons c cs=>
   exact((@DP acj bL { y with k3:=l,k4:=l+1 } (b.n 0) (b.n 1) (cI s) (a.n 0) 1 (f.n 1) (a.n 0) (cI s) fn k row rt (cw fn (row+1) ss++σ) c cs r).fr (Src ss)).mono (by decide)
end
inductive GW(P:Params)(y:yy)(fn:Value)(dk:Int)(f8:b7)(L:bH)(g:bR):Prop where|mk:∀rt L1,(L.Perm (fX y fn dk rt++L1))->(f8 L1 g)->GW P y fn dk f8 L g
def ie(X:b7)(r:Result)(L:bH)(g:bR):Prop:=r=rV .none/\X L g
noncomputable def iJ(a:L2)(nm:List Nat):fJ:=⟨a.n 0,a.n 1,a.n 2,⟨⟨nm⟩⟩,a.n 3,⟨⟨nm⟩⟩⟩
noncomputable def jK:List Nat:=[99,114,101,97,116,101,95,99,104,97,114,97,99,116,101,114,115]
def GX(P:Params)(y:yy)(fn:Value)(row:Int)(rt:Nat):cX where
 c:=.call (.ref 314) ⟨[.ref y.f,.ref y.sf],[]⟩
 pre:=fX y fn row rt
 out _ _ a:=(rV (.ref (a.n 0)),[((a.n 0),cc (iJ a jK))])
section
theorem AZ{acj:Nat}{bL:Result->bH->bR->Prop}{Src:List PySem.Str->b7}{f8:b7}{y:yy}(d:DQ Src f8 y.f){fn:Value}(e:isFn fn){ss:List PySem.Str}{row dk:Int}{rt:Nat}(ok:∀s∈ss,jj s)(er:row+ss.length=dk):
  rh acj (qR w.params) bL 210 (.func (bJ (dH 13)) (v6 y.FL)) ([(y.FL,tB y)]++fX y fn row rt) (Src ss) (cw fn row ss)
   (λx x c=>(.ok (.ret .none),fX y fn dk (c.n 0))) (λx=>f8) []:=by
 exists bG.o,DN y fn row rt dk,0;exists bx,d.new ss _ _ (by decide);intro h i a _ _;refine cR rfl ?_;intro p _;refine cE (X':=λx=>f8) (σ':=[]) rfl (?_) ?zk;case zk=>(intro N t b _ _;exact bA b)
 have z:=(@AY acj bL Src f8 y.f d y (a.n 0) fn e [] ss row dk rt ok er).mono (room':=207) (by decide);rw[dU]at z;exact z
theorem yB{Src:List PySem.Str->b7}{f8:b7}{y:yy}(d:DQ Src f8 y.f){fn:Value}(e:isFn fn){ss:List PySem.Str}{row dk:Int}{rt:Nat}(i:∀s∈ss,jj s)(er:row+ss.length=dk)(j:40<=room:=by decide):
  cN room (GX w.params y fn row rt) (Src ss) (λa=>fC 220 (qR w.params) (ie (GW w.params y fn dk f8)) (a.n 1) (GW w.params y fn dk f8) (cw fn row ss)):=by
 refine bE.mono (room:=40) (bE.o rfl (DO y fn row rt) ?_) j;intro l N t _;intro g;refine cB rfl rfl (?_);rintro r0 g0 ⟨c,k,rfl⟩
 let b:yy:={ y with FL:=N,k1:=t,k2:=t+1 }
 have z:vj 220 (qR w.params) (ie (GW w.params y fn dk f8)) g (cw fn row ss) (([(N,tB b)]++fX b fn row rt)++r0) ((g,.fresh (.func (bJ (dH 13)) (v6 N)))::c):=
  nP.fresh (@AZ 220 _ Src f8 b d fn e ss row dk rt i er) (by decide)
   (λN t a r g h=>⟨_,g,⟨rfl,a.n 0,r,.refl _,h⟩,.refl _,.refl _⟩) k
 refine⟨cV [N+1,g,t+2,t+3],_,_,rfl,⟨_,_,.refl _,.refl _,.inl z⟩,?_,.refl _⟩;show((N,_)::(N+1,_)::(fX y fn row rt++r0)).Perm ((N+1,_)::(N,_)::(fX b fn row rt++r0));exact .swap _ _ _
end
end
section
noncomputable abbrev Qw:String:=PySem.W.SZ.s6181755712446570794x6
variable(x:fD)(f:Nat)
def gC(S:Nat):Obj:=⟨.type Qw,none,.fields ⟨[.ref f,.ref S]⟩,#[]⟩
def gV(a:List Nat)(b:Nat):cX where
 c:=.call (.ref 230) ⟨[.ref x.S,.str ⟨⟨a⟩⟩ b],[]⟩
 pre:=bF x
 out _ _ l:=(rV .none,bF x)
def f9(vs:List Nat)(vt:Nat):cX where
 c:=.call (.ref 251) ⟨[.ref x.S,.str ⟨⟨vs⟩⟩ vt],[]⟩
 pre:=bF x
 out _ _ l:=(rV .none,bF x)
def kI:cX where
 c:=.call (.ref 237) ⟨[.ref x.S],[]⟩
 pre:=bF x
 out _ _ l:=(rV .none,bF x)
abbrev di(P:Params)(x:fD)(vs:List Nat)(vt:Nat)(b:Bool):cX:=iW x ⟨⟨vs⟩⟩ vt b
def A0(fn f:Nat):cX where
 c:=.call (.ref fn) ⟨[.ref x.S],[]⟩
 pre:=bF x
 out _ _ l:=(rV (.ref (l.n 0)),bF x++[(l.n 0,gC f x.S)])
def eJ(N f:Nat):hS:=.fin (rV (.ref N)) (bF x++[(N,gC f x.S)])
noncomputable def yC:List Nat:=[97,98,99,100,101,102,103,104,105,106,107,108,109,110,111,112,113,114,115,116,117,118,119,120,121,122,65,66,67,68,69,70,71,72,73,74,75,76,77,78,79,80,81,82,83,84,85,86,87,88,89,90,48,49,50,51,52,53,54,55,56,57,95]
def ZT:bK:=⟨.call (.ref 387) ⟨[.ref x.S],[]⟩,bF x,λN t=>.con (f9 x yC (t+7)) λc a l1=>.con (gV x [73,68] a) λb d l2=>eJ x b 380⟩
theorem IG:RP 560 2 [nU 0x110321000000100000100000133300002011000100000013002011000100000013201100010000001300330 0x100 1 9 557,lY,eU] (ZT x):=.a
def ZU:bK:=⟨.call (.ref 408) ⟨[.ref x.S],[]⟩,bF x,λN t=>.con (f9 x [32,9] (t+1)) λc a l1=>.con (gV x [87,83] a) λb d l2=>eJ x b 380⟩
theorem IH:RP 560 2 [qM,lY,eU] (ZU x):=.a
def Qx:bK:=⟨.call (.ref 394) ⟨[.ref x.S],[]⟩,bF x,λN t=>.con (di w.params x [48] (t+1) false) λh i l1=>.con (f9 x [48,49,50,51,52,53,54,55,56,57] 665) λc d l2=>
  .con (di w.params x [46] d false) λe a b=>.con (di w.params x [76,108,85,117] a false) λe a b=>.con (di w.params x [76,108,85,117] a false) λe a b=>.con (di w.params x [76,108,85,117] a false) λj g b=>
  .con (gV x [78,85,77,66,69,82] g) λc d l2=>eJ x c 380⟩
theorem A1:RP 560 2 [qM,LC,lY,lY,lY,lY,lY,eU] (Qx x):=.a
def Qy:bK:=⟨.call (.ref 394) ⟨[.ref x.S],[]⟩,bF x,λN t=>.con (di w.params x [48] (t+1) true) λh c l1=>.con (di w.params x [120,88] c true) λh c l1=>.con (f9 x [48,49,50,51,52,53,54,55,56,57,97,98,99,100,101,102,65,66,67,68,69,70] 667) λd e l2=>
  .con (di w.params x [46] e false) λg a b=>.con (di w.params x [76,108,85,117] a false) λg a b=>.con (di w.params x [76,108,85,117] a false) λg a b=>.con (di w.params x [76,108,85,117] a false) λj i b=>
  .con (gV x [78,85,77,66,69,82] i) λd e l2=>eJ x d 380⟩
theorem A2:RP 560 2 [qM,lY,LC,lY,lY,lY,lY,lY,eU] (Qy x):=.a
def Qz:bK:=⟨.call (.ref 394) ⟨[.ref x.S],[]⟩,bF x,λN t=>.con (di w.params x [48] (t+1) false) λc d l1=>.con (f9 x [48,49,50,51,52,53,54,55,56,57] 665) λe a l2=>
  .con (di w.params x [46] a true) λg h i=>.con (A0 x 401 380) λj k b=>eJ x (b.n 0) 380⟩
theorem A3:RP 560 2 [qM,LC,lY,TZ,lZ] (Qz x):=.a
def Mq:bK:=⟨.call (.ref 401) ⟨[.ref x.S],[]⟩,bF x,λN t=>.con (f9 x [48,49,50,51,52,53,54,55,56,57] 665) λb a l2=>
  .con (di w.params x [101,69,112,80] a true) λd c e=>.con (di w.params x [43,45] c true) λd c e=>.con (f9 x [48,49,50,51,52,53,54,55,56,57] 665) λb a l2=>
  .con (gV x [78,85,77,66,69,82] a) λb a l2=>eJ x b 380⟩
theorem yD:RP 530 2 [nU 0x1102011000100000013210000001000001000001300330 0x100 1 2 527,LD,LD,nU Zp 0x100 0 1 527,LD,eU] (Mq x):=.a
end
section
noncomputable def cX.give(k:cX)(L:bH):cX:={ k with pre:=k.pre++L }
variable(x:fD)(c c1:Ch)(c2 d:Ch)(c3:Ch)
def dR:cX where
 c:=.call (.ref 216) ⟨[.ref x.S],[(⟨⟨[101,111,102]⟩⟩,.bool false)]⟩
 pre:=bF x
 out _ _ l:=(rV (.ref (l.n 0)),bF x++dJ (e8 l) c)
noncomputable def Ch.as(n:Nat):Ch:=⟨n,c.row,c.col,c.file⟩
def Mr:bK:=⟨.call (.ref 415) ⟨[.ref x.S],[]⟩,bF x,λN t=>.con (ic x (c.as 121)) λb e l1=>.con ((ic x (d.as 10)).give (dJ (e8 l1) (c.as 121))) λf g l2=>.con (p6 x (e8 l2) (d.as 10)) λh i j=>
  .con (kI x) λa k l=>eJ x a 380⟩
theorem yE:RP 560 2 [s9,T0,nU 0x110621000000100000100000160040330003000036000300036066 0x100000 0 3 557,LF,eU] (Mr x c d):=.b
def Ms(d:Ch):bK:=⟨.call (.ref 415) ⟨[.ref x.S],[]⟩,bF x,λN t=>.con (ic x (c.as 121)) λb e l1=>.con ((mL x).give (dJ (e8 l1) (c.as 121))) λf g l2=>
  .con (kI x) λa h i=>eJ x a 380⟩
theorem yF:RP 560 2 [s9,T0,nU 0x11021000000100000100000134004444020321000000100000100000133033 0x100 1 3 557,nU 0x1000000002011000000100000013 0x1200 1 1 0] (Ms x c d):=.b
def QA:bK:=⟨.call (.ref 422) ⟨[.ref x.S],[]⟩,bF x,λN t=>.con (di w.params x [42] (t+1) true) λe a l1=>.con (di w.params x [47] a true) λf g l2=>.con (kI x) λb h i=>eJ x b 380⟩
theorem A4:RP 560 2 [Gx,Gy,tc,eU] (QA x):=.a
def QB:bK:=⟨.call (.ref 422) ⟨[.ref x.S],[]⟩,bF x,λN t=>.con (di w.params x [42] (t+1) false) λb a l1=>.con (dR x c) λb a e=>.con ((di w.params x [42] a true).give (dJ (e8 e) c)) λb a l1=>.con (di w.params x [47] a true) λg h l2=>.con (kI x) λf i j=>eJ x f 380⟩
theorem A5:RP 560 2 [Gx,tc,LG,Gy,tc,eU] (QB x c):=.a
def QC:bK:=⟨.call (.ref 422) ⟨[.ref x.S],[]⟩,bF x,λN t=>.con (di w.params x [42] (t+1) true) λb a l1=>.con (di w.params x [47] a false) λb a l1=>.con (di w.params x [42] a true) λb a l1=>.con (di w.params x [47] a true) λf g l2=>.con (kI x) λe h i=>eJ x e 380⟩
theorem A6:RP 560 2 [Gx,Gy,nU 0x11021000000100000100000130 0x100 0 1 554,Gy,tc,eU] (QC x):=.a
def WI:cX where
 c:=.call (.ref 443) ⟨[.ref x.S],[]⟩
 pre:=bF x
 out _ _ l:=(rV .none,bF x)
def QD(e:Ch):bK:=⟨.call (.ref 429) ⟨[.ref x.S],[]⟩,bF x,λN t=>.con (dR x (c1.as 97)) λb a l1=>.con ((dR x (c2.as 32)).give (dJ (e8 l1) (c1.as 97))) λb a l2=>.con ((dR x (c3.as 98)).give (dJ (e8 l2) (c2.as 32))) λb a f=>
  .con ((dR x (e.as 34)).give (dJ (e8 f) (c3.as 98))) λb a g=>.con ((gV x [83,84,82,73,78,71] (a+3)).give (dJ (e8 g) (e.as 34))) λh i l2=>eJ x h 380⟩
theorem A7 a:RP 560 2 [s9,td,td,td,LH,eU] (QD x c1 c2 c3 a):=.b
def QE:bK:=⟨.call (.ref 429) ⟨[.ref x.S],[]⟩,bF x,λN t=>.con (dR x (c1.as 92)) λb a l1=>.con ((WI x).give (dJ (e8 l1) (c1.as 92))) λb a l2=>
  .con (dR x (c2.as 34)) λb a e=>.con ((gV x [83,84,82,73,78,71] (a+3)).give (dJ (e8 e) (c2.as 34))) λf g l2=>eJ x f 380⟩
theorem A8:RP 560 2 [s9,nU Zq 0x100000 0 5 554,tc,LH,eU] (QE x c1 c2):=.b
def QF:bK:=⟨.call (.ref 429) ⟨[.ref x.S],[]⟩,bF x,λN t=>.con (dR x (c1.as 47)) λb a l1=>.con ((dR x (c2.as 42)).give (dJ (e8 l1) (c1.as 47))) λb a l2=>
  .con ((dR x (c3.as 34)).give (dJ (e8 l2) (c2.as 42))) λb a e=>.con ((gV x [83,84,82,73,78,71] (a+3)).give (dJ (e8 e) (c3.as 34))) λf g l2=>eJ x f 380⟩
theorem A9:RP 560 2 [s9,td,td,LH,eU] (QF x c1 c2 c3):=.b
def yG(vs:List Nat)(vt:Nat):cX where
 c:=.call (.ref 272) ⟨[.ref x.S,.str ⟨⟨vs⟩⟩ vt],[]⟩
 pre:=bF x
 out _ _ l:=(rV .none,bF x)
def QG:bK:=⟨.call (.ref 436) ⟨[.ref x.S],[]⟩,bF x,λN t=>.con (di w.params x [92] (t+1) false) λb a l1=>.con (dR x c1) λb a l2=>.con ((yG x [39] a).give (dJ (e8 l2) c1)) λb a l1=>.con (gV x [67,72,65,82] a) λe f l2=>eJ x e 380⟩
theorem Ba:RP 560 2 [qM,LF,nU 0x11021000000100000100000160 0x100000 0 1 557,lY,eU] (QG x c1):=.a
def QH(c1:Ch):bK:=⟨.call (.ref 436) ⟨[.ref x.S],[]⟩,bF x,λN t=>.con (di w.params x [92] (t+1) true) λb a l1=>.con (WI x) λb a l2=>.con (yG x [39] a) λb a l1=>.con (gV x [67,72,65,82] a) λe f l2=>eJ x e 380⟩
theorem Bb:RP 560 2 [qM,TZ,lY,lY,eU] (QH x c1):=.a
def acN:bK:=⟨.call (.ref 443) ⟨[.ref x.S],[]⟩,bF x,λN t=>.con (di w.params x [39,34,63,92,97,98,102,110,114,116,118,101] (t+1) true) λa b l1=>.fin (rV .none) (bF x)⟩
theorem Mt:RP 530 2 [nU LA 0x100 1 2 527,m0] (acN x):=.a
def QI(vs:Str)(vt:Nat):bK:=⟨.call (.ref 272) ⟨[.ref x.S,.str vs vt],[]⟩,bF x,λN t=>.con (iW x vs vt true) λa b l1=>.fin (rV .none) (bF x)⟩
theorem Bc vs vt:RP 530 2 [nU Zr 0x100 1 2 527,m0] (QI x vs vt):=.a
end
section
variable{bs:Value}
variable(y:fJ)(FL k1:Nat)(F:Obj)(k2 k3:Nat)(ch:Value)(c:Ch)(a:gv)(b:Ch)
def kJ:cX where
 c:=fe y.g
 pre:=[(y.g,cc y)]
 out _ _ d:=(rV (.ref (d.n 0)),(y.g,cc y)::dJ (e8 d) c)
def yH:cX where
 c:=fe y.g
 pre:=[(y.g,cc y)]
 out _ _ d:=(.error (.ref (d.n 0)),[(d.n 0,fw (d.n 1)),(y.g,cc y)])
def Bd:Env:=hV (dH 15) FL (q (uS 0x636f6e74696e7565645f6c696e65735f66696c7465722e3c6c6f63616c733e2e)) 328 327
def mh(g:Nat):Code:=m3 (b9 (dH 15) 1) (.ref g) (Bd FL)
def GY:Obj:=cD [eW ib k1 (.ref y.g)] 1
def GZ(bs:Value):Obj:=cD [eW ib k1 (.ref y.g),eW (uS 0x6261636b736c617368) k2 bs] 2
def lm(bs ch:Value):Obj:=cD [eW ib k1 (.ref y.g),eW (uS 0x6261636b736c617368) k2 bs,eW qJ k3 ch] 3
def hH(y:fJ)(F:Obj)(L:bH):cX where
 c:=mh FL y.g
 pre:=[(FL,F),(y.g,cc y)]++L
 out _ _ d:=(oN,[(y.g,cc y)])
noncomputable def WJ:List Nat:=[10,12,13,32,33,34,35,39,40,42,43,45,46,47,48,49,50,56,57,59,61,62,63,70,76]
def acO(n:Nat):bK:=⟨mh FL y.g,[(FL,GZ y k1 k2 .none),(y.g,cc y)],λN t=>.con (kJ y (c.as n)) λe d l1=>.jf (.ref (l1.n 0)) (dJ (e8 l1) (c.as n)) [FL,y.g] λN t=>
  .con (hH FL y (lm y k1 k2 d .none (.ref (l1.n 0))) []) λf h i=>.fin oN [(y.g,cc y)]⟩
theorem Mu(y:fJ)(FL k1 k2:Nat)(c:Ch):∀n,(n∈WJ\/93<=n)->RS 300 0 [te,.n (.b Zs 0x1111 0 3 0x101 0) 0,.z (.a 0x11 0x100 0 0) 300,.z (.a 0 0x10 0 0) 0] (acO y FL k1 k2 c n):=
 pY (RS.e) λd=>.b
def acP(bs ch:Value)(c:Ch)(n:Nat):bK:=⟨mh FL y.g,[(FL,lm y k1 k2 k3 bs ch),(y.g,cc y)],λN t=>.con (kJ y (c.as n)) λd e l1=>.jf (.ref (l1.n 0)) (dJ (e8 l1) (c.as n)) [FL,y.g] λN t=>
  .con (hH FL y (lm y k1 k2 k3 bs (.ref (l1.n 0))) []) λf h i=>.fin oN [(y.g,cc y)]⟩
theorem Mv(y:fJ)(FL k1 k2 k3:Nat)(h:bs=.none\/bs=.bool false)(ch:Value)(c:Ch):∀n,(n∈WJ\/93<=n)->RS 300 0 [te,.n (.b Zs 0x1111 0 3 0x101 0) 0,.z (.a 0x11 0x100 0 0) 300,.z (.a 0 0x10 0 0) 0] (acP y FL k1 k2 k3 bs ch c n):=by
 rcases h with rfl|rfl
 ·exact pY (RS.e) λd=>.b
 ·exact pY (RS.e) λd=>.b
def acQ:bK:=⟨mh FL y.g,[(FL,GZ y k1 k2 .none),(y.g,cc y)],λN t=>.con (kJ y (c.as 92)) λe d l1=>.con (hH FL y (lm y k1 k2 d (.ref (l1.n 0)) (.ref (l1.n 0))) (dJ (e8 l1) (c.as 92))) λf h i=>.fin oN [(y.g,cc y)]⟩
theorem Mw:RS 300 0 [te,.z (.a Zt 0x100004 0 4) 300,.z (.a 0 0x10 0 0) 0] (acQ y FL k1 k2 c):=.b
def acR(bs ch:Value)(c:Ch):bK:=⟨mh FL y.g,[(FL,lm y k1 k2 k3 bs ch),(y.g,cc y)],λN t=>.con (kJ y (c.as 92)) λd e l1=>.con (hH FL y (lm y k1 k2 k3 (.ref (l1.n 0)) (.ref (l1.n 0))) (dJ (e8 l1) (c.as 92))) λf h i=>.fin oN [(y.g,cc y)]⟩
theorem Mx(h:bs=.none\/bs=.bool false)(ch:Value)(c:Ch):RS 300 0 [te,.z (.a Zt 0x100004 0 4) 300,.z (.a 0 0x10 0 0) 0] (acR y FL k1 k2 k3 bs ch c):=by
 rcases h with rfl|rfl
 ·exact .b
 ·exact .b
def acS(c:Ch):bK:=⟨mh FL y.g,[(FL,lm y k1 k2 k3 (.ref a.a) ch),(y.g,cc y)]++dJ a b,λN t=>.con (kJ y c) λe d l1=>.con (j2 ⟨⟨[13,10]⟩⟩ (d+2) c.code (l1.n 9) true) λf h l2=>
  .con (hH FL y (lm y k1 k2 k3 (.bool false) (.ref (l1.n 0))) []) λi j k=>.fin oN [(y.g,cc y)]⟩
theorem My c:RS 300 0 [te,T1,.z (.a 0x1155 0x104 0 1) 300,.z (.a 0 0x10 0 0) 0] (acS y FL k1 k2 k3 ch a b c):=.a
def acT(c:Ch):bK:=⟨mh FL y.g,[(FL,lm y k1 k2 k3 (.ref a.a) ch),(y.g,cc y)]++dJ a b,λN t=>.con (kJ y c) λe d l1=>.con (j2 ⟨⟨[13,10]⟩⟩ (d+2) c.code (l1.n 9) false) λf h l2=>
  .jf (.ref a.a) (dJ a b) ([FL,y.g]++(dJ (e8 l1) c).map (·.1)) λN t=>.jf (.ref (l1.n 0)) (dJ (e8 l1) c) [FL,y.g] λN t=>
  .con (hH FL y (lm y k1 k2 k3 (.bool false) (.ref (l1.n 0))) []) λi j k=>.fin oN [(y.g,cc y)]⟩
theorem Mz c:RS 300 0 [te,T1,.n (.b 0x15 0x1555 0 0 0x100004 0) 0,.n (.b 0x11 0x1222 0 0 0x100 0) 0,.z (.a 0x1111 0x100 0 1) 300,.z (.a 0 0x10 0 0) 0] (acT y FL k1 k2 k3 ch a b c):=.a
def clE:bK:=⟨mh FL y.g,[(FL,F),(y.g,cc y)],λN t=>.con (yH y) λd e l1=>.fin oN [(y.g,cc y)]⟩
theorem G1:RS 300 0 [te,.z (.a 0x101 0x11 0 0) 0] (clE y FL F):=.a
def WK:bK:=⟨.func (bJ (dH 15)) (Bd FL),[(FL,GY y k1),(y.g,cc y)],λN t=>.pos λp=>.con (hH FL y (GZ y k1 t .none) []) λz z l2=>.fin (rV .none) [(y.g,cc y)]⟩
theorem DR:RS 310 0 [nU 0x1202022111 0 0 0 0,.z (.a 0x11 0x100 0 1) 307,.z (.a 0 0x10 0 0) 0] (WK y FL k1):=.b
def WM:bK:=⟨.call (.ref 328) ⟨[.ref y.g],[]⟩,[(y.g,cc y)],λN t=>.gen (.func (bJ (dH 15)) (Bd N)) λg=>.fin (rV (.ref (N+1))) ([(N,GY y t),(N+1,jX g (t+1) ⟨⟨[99,111,110,116,105,110,117,101,100,95,108,105,110,101,115,95,102,105,108,116,101,114]⟩⟩ (t+2) ⟨⟨[99,111,110,116,105,110,117,101,100,95,108,105,110,101,115,95,102,105,108,116,101,114]⟩⟩),(y.g,cc y)])⟩
theorem DS:RP 40 2 [nU 0x10220 0 0 0 0,nU 0 0x1011 2 3 0] (WM y):=.a
end
section
open PySem.Meets
variable{d n t:Nat}{ks:List (List Nat×Nat×Value)}{P:Params}{key:Str}
noncomputable abbrev Uy:String:=PySem.W.SZ.s7605591312241722700x17
noncomputable abbrev Uz:String:=PySem.W.SZ.s5658353481640781935x16
noncomputable abbrev UA:String:=PySem.W.SZ.s11797481509799174649x16
theorem Be:"dict.__contains__" = Uy:=PySem.W.SZ.e7605591312241722700x17
theorem Bf:"dict.__getitem__" = Uz:=PySem.W.SZ.e5658353481640781935x16
theorem Bg:"dict.__setitem__" = UA:=PySem.W.SZ.e11797481509799174649x16
theorem MA:"dict" = Mh:=PySem.W.SZ.e14018661285674007319x4
def c0(P:Params)(ks:List (List Nat×Nat×Value)):List DictEntry:=ks.map λk=>eN P k.1 k.2.1 k.2.2
def strAt(ks:List (List Nat×Nat×Value))(k:Str):Option Value:=(ks.find? λe=>decide ((⟨⟨e.1⟩⟩:Str)=k)).map (·.2.2)
def o5(d:Nat)(es:List DictEntry)(n:Nat)(key:Str)(t:Nat)(b:Bool):cX where
 c:=.builtin Uy ⟨[.ref d,.str key t],[]⟩
 pre:=[(d,cy es n)]
 out _ _ a:=(rV (.bool b),[(d,cy es n)])
def o6(d:Nat)(es:List DictEntry)(n:Nat)(key:Str)(t:Nat)(v:Value):cX where
 c:=.builtin Uz ⟨[.ref d,.str key t],[]⟩
 pre:=[(d,cy es n)]
 out _ _ a:=(.ok (.ret v),[(d,cy es n)])
section
variable{prog:Program}{w:World}{kt:KT}{os:OsState}{room:Nat}
theorem G2(w:World)(l:List Nat)(a:l≠[]):hz w.params l=hashStr w ⟨⟨l⟩⟩:=by
 unfold hz hashStr;rw[<-PySem.W.ZFast.ze12210062019545310541];rw[bu (by simpa using a)]
theorem qS(k x:Str)(t:Tok):Value.isStrOf k (.str x t)=decide (x=k):=by
 show(x==k)=_;rfl
theorem isStrOf_self(k:Str)(t:Tok):Value.isStrOf k (.str k t)=true:=by rw[qS];simp
theorem yI(P:Params)(ks:List (List Nat×Nat×Value))(k:Str):findBy Value.isStrOf ⟨c0 P ks⟩ k=strAt ks k:=by
 unfold findBy strAt c0
 induction ks with
 |nil=>rfl
 |cons a ks b=>
  simp only[fN,List.find?_toArray,List.find?_cons]at b ⊢;rw[qS];cases h:decide ((⟨⟨a.1⟩⟩:Str)=k)with
  |true=>simp
  |false=>simpa using b
theorem mi{s:Shared}{G:bR}{L:bH}(f:P.strHash=w.params.strHash)(b:ks.all (λk=>!k.1.isEmpty)=true)(h:Sat kt os s ((d,cy (c0 P ks) n)::L) G):
  s.heap.MapOf (strKind prog w) d (strAt ks):=by
 refine⟨_,_,_,h.own _ (.head _) (p5 _ _),⟨by show Value.type Mh=_;rw[<-MA],rfl,rfl⟩,rfl,?_,λk=>yI P ks k⟩;intro e he;have c:e∈c0 P ks:=by simpa using he
 obtain⟨a,g,rfl⟩:=dO.mp c;have i:a.1≠[]:=by have:=f0.mp b a g;simpa using this
 refine⟨⟨⟨a.1⟩⟩,pV ⟨⟨a.1⟩⟩ a.2.1,?_⟩;show hz P a.1=hashStr w ⟨⟨a.1⟩⟩;rw[<-G2 _ _ i];unfold hz;rw[f]
theorem o7{b:Bool}(e:P.strHash=w.params.strHash)(a:ks.all (λk=>!k.1.isEmpty)=true)(hn:(d==sysModules)=false)(f:(strAt ks key).isSome=b):
  dq prog w kt os room (o5 d (c0 P ks) n key t b) bV (λy=>bV):=by
 rintro A s F FG r0 g0 g ⟨rfl,rfl⟩ c;refine g6 (b:=Builtin.«dict.__contains__») (by rw[<-Be];exact entryFor_of_tree (by kernel_rfl)) ?_;rw[nG (by rw[<-Be];decide +kernel)];have m:=mi (prog:=prog) (w:=w) e a c;have z:=meets_dict_contains (prog:=prog) (w:=w) (knd:=strKind prog w) (d:=d) (k:=key) (key:=.str key t) (pV key t) hn;refine z A (gT kt os (o5 d (c0 P ks) n key t b).out (λy=>bV) F FG) s ⟨_,m,?_⟩;rw[f];exact⟨l1 0,[],[],⟨rfl,rfl⟩,rfl,c.toks _⟩
theorem kK{v:Value}(e:P.strHash=w.params.strHash)(a:ks.all (λk=>!k.1.isEmpty)=true)(f:strAt ks key=some v):
  dq prog w kt os room (o6 d (c0 P ks) n key t v) bV (λy=>bV):=by
 rintro A s F FG r0 g0 g ⟨rfl,rfl⟩ c;refine g6 (b:=Builtin.«dict.__getitem__») (by rw[<-Bf];exact entryFor_of_tree (by kernel_rfl)) ?_;rw[nG (by rw[<-Bf];decide +kernel)];have m:=mi (prog:=prog) (w:=w) e a c;have z:=meets_dict_getitem (prog:=prog) (w:=w) (knd:=strKind prog w) (d:=d) (k:=key) (key:=.str key t) (pV key t);exact z A (gT kt os (o6 d (c0 P ks) n key t v).out (λy=>bV) F FG) s ⟨_,v,m,f,⟨l1 0,[],[],⟨rfl,rfl⟩,rfl,c.toks _⟩⟩
end
end
section
variable(y:fJ)(FL k1:Nat)
def Bh:Env:=hV (dH 14) FL (q (uS 0x74726967726170685f66696c7465722e3c6c6f63616c733e2e)) 321 320
def yJ(g:Nat):Code:=m3 (b9 (dH 14) 2) (.ref g) (Bh FL)
structure MB where(FL TM B k1 k2 k3 k4 k5:Nat)
variable(x:MB)
def G3:Obj:=cD [eW ib x.k1 (.ref y.g),eW xL x.k2 (.ref x.TM),eW [98,117,102] x.k3 (.ref x.B)] 3
def UB(a:Value):Obj:=cD [eW ib x.k1 (.ref y.g),eW xL x.k2 (.ref x.TM),eW [98,117,102] x.k3 (.ref x.B),eW qJ x.k4 a] 4
def G4(a b:Value):Obj:=cD [eW ib x.k1 (.ref y.g),eW xL x.k2 (.ref x.TM),eW [98,117,102] x.k3 (.ref x.B),eW qJ x.k4 a,eW lU x.k5 b] 5
def o8(a:Value)(b:List DictEntry)(m:Nat):Obj:=cD (eW ib x.k1 (.ref y.g)::eW xL x.k2 (.ref x.TM)::eW [98,117,102] x.k3 (.ref x.B)::eW qJ x.k4 a::b) m
def DT(a b:Value):Nat->Obj|0=>G3 y x|1=>UB y x a|Y=>G4 y x a b
noncomputable def ZV(a:L2):gv:=⟨a.n 3,a.n 4,a.n 5,a.n 6,a.n 7,a.n 8,a.n 9,a.n 10,a.n 11,a.n 12⟩
noncomputable def MC(a:L2):gv:=⟨a.n 13,a.n 14,a.n 15,a.n 16,a.n 17,a.n 18,a.n 19,a.n 20,a.n 21,a.n 22⟩
def UC(y:fJ)(b:Nat)(c d:Ch)(a:L2):bH:=
 [(x.FL,DT y { x with k4:=a.n 1,k5:=a.n 2 } (a.v 0) (a.v 1) b),(x.B,br [.ref (a.n 3),.ref (a.n 13)] (a.n 0)),(y.g,cc y)]++dJ (ZV a) c++dJ (MC a) d
def rW(y:fJ)(F:Obj)(a:List Value)(n:Nat)(es:List DictEntry)(L:bH)(d:Nat)(e f:Ch):cX where
 c:=yJ x.FL y.g
 pre:=[(x.FL,F),(x.TM,cy es 9),(x.B,br a n),(y.g,cc y)]++L
 out _ _ b:=(oN,UC x y d e f b)
def WN(z:MB)(y:fJ)(F:Obj)(b:List Value)(n:Nat)(es:List DictEntry)(L:bH)(a:Nat)(c d:Ch):hS:=.con (rW z y F b n es L a c d) λv v l=>.fin oN (UC x y a c d l)
def WO(F:Obj)(es:List DictEntry)(b:List Value)(n:Nat)(L:bH)(c:Ch)(f:Nat->Nat->L2->L2->hS):bK:=⟨yJ x.FL y.g,[(x.FL,F),(x.TM,cy es 9),(x.B,br b n),(y.g,cc y)]++L,λz z=>.con (kJ y c) λz a l1=>.con (ee x.B b n (.ref (l1.n 0))) λz z l2=>.con (ZK x.B (b++[.ref (l1.n 0)]) (l2.n 0)) λz d z=>f a d l1 l2⟩
def acU(es:List DictEntry)(n:Nat)(c:Ch)(a:Nat)(b d:Ch):bK:=WO y x (G3 y x) es [] n [] c λe f l1 l2=>
  WN x x y (UB y { x with k4:=e } (.ref (l1.n 0))) [.ref (l1.n 0)] (l2.n 0) es (dJ (e8 l1) c) a b d
theorem MD es n c d e e1:RS 240 0 [tg,th,ti,.z (.a 0x1100 0x10000055 0 2) 240,.z (.a 0 0x1000000000 0 0) 0] (acU y x es n c d e e1):=.b
def acV(es:List DictEntry)(n:Nat)(b a:Value)(c:Ch)(d:Nat)(e f:Ch):bK:=WO y x (G4 y x b a) es [] n [] c λg h l1 l2=>
  WN x x y (G4 y x (.ref (l1.n 0)) a) [.ref (l1.n 0)] (l2.n 0) es (dJ (e8 l1) c) d e f
theorem ME es n ch d c e f e1:RS 240 0 [tg,th,ti,.z (.a 0x1100 0x10000055 0 2) 240,.z (.a 0 0x1000000000 0 0) 0] (acV y x es n ch d c e f e1):=.b
def trB(es:List DictEntry)(n:Nat)(f:Value)(d:List DictEntry)(m:Nat)(b:gv)(e c:Ch)(g:Nat)(h i:Ch):bK:=WO y x (o8 y x f d m) es [.ref b.a] n (dJ b e) c λj k l1 l2=>
  WN x x y (o8 y x (.ref (l1.n 0)) d m) [.ref b.a,.ref (l1.n 0)] (l2.n 0) es (dJ b e++dJ (e8 l1) c) g h i
theorem QJ es n ch tl m d e c f g e1:RS 240 0 [tg,th,ti,.z (.a 0x1100 0x10003330055 0 2) 240,.z (.a 0 0x1000000000 0 0) 0] (trB y x es n ch tl m d e c f g e1):=.b
def trC(es:List DictEntry)(n:Nat)(i:Value)(f:List DictEntry)(m:Nat)(d b:gv)(h e c:Ch)(k:Nat)(j:Nat)(l o:Ch):bK:=WO y x (o8 y x i f m) es [.ref d.a,.ref b.a] n (dJ d (h.as k)++dJ b e) c λr p l1 l2=>
  .con (vi x.B (.ref d.a) [.ref b.a,.ref (l1.n 0)] (l2.n 0) (p+5)) λs u q=>
  .jf (.ref d.a) (dJ d (h.as k)) ([x.FL,x.TM,x.B,y.g]++(dJ b e).map (·.1)++(dJ (e8 l1) c).map (·.1)) λN t=>
  WN x x y (o8 y x (.ref (l1.n 0)) f m) [.ref b.a,.ref (l1.n 0)] (q.n 0) es (dJ b e++dJ (e8 l1) c) j l o
theorem QK(y:fJ)(x:MB)(es:List DictEntry)(n:Nat)(d:Value)(f:List DictEntry)(m:Nat)(g h:gv)(i j c:Ch)(l:Nat)(o p:Ch):∀k,(k∈[10,12,13,32,33,34,35,39,40,42,43,45,46,47,48,49,50,56,57,59,61,62]\/64<=k)->RS 240 0 [tg,th,ti,nU 0x11101111600090880008000081010111600 0x10 0 6 237,.n (.b 0 0x1777 0 0 0x10003330055 0) 0,.z (.a 0x11 0x10000000000 0 0) 240,.z (.a 0 0x1000000000 0 0) 0] (trC y x es n d f m g h i j c k l o p):=
 pY (RS.e) λq=>.b
def trD(es:List DictEntry)(n:Nat)(i:Value)(f:List DictEntry)(m:Nat)(d b:gv)(h e c:Ch)(k:Nat)(j:Nat)(l o:Ch):bK:=WO y x (o8 y x i f m) es [.ref d.a,.ref b.a] n (dJ d (h.as 63)++dJ b (e.as k)) c λr p l1 l2=>
  .con (vi x.B (.ref d.a) [.ref b.a,.ref (l1.n 0)] (l2.n 0) (p+8)) λs u q=>
  .jf (.ref d.a) (dJ d (h.as 63)) ([x.FL,x.TM,x.B,y.g]++(dJ b (e.as k)).map (·.1)++(dJ (e8 l1) c).map (·.1)) λN t=>
  WN x x y (o8 y x (.ref (l1.n 0)) f m) [.ref b.a,.ref (l1.n 0)] (q.n 0) es (dJ b (e.as k)++dJ (e8 l1) c) j l o
theorem QL(y:fJ)(x:MB)(es:List DictEntry)(n:Nat)(d:Value)(f:List DictEntry)(m:Nat)(g h:gv)(i j c:Ch)(l:Nat)(o p:Ch):∀k,(k∈[10,32,47]\/64<=k)->RS 240 0 [tg,th,ti,nU 0x111011116000c0bb000b0000b1010111600090880008000081010111600 0x10 0 9 237,.n (.b 0 0x1777 0 0 0x10003330055 0) 0,.z (.a 0x11 0x10000000000 0 0) 240,.z (.a 0 0x1000000000 0 0) 0] (trD y x es n d f m g h i j c k l o p):=
 pY (RS.e) λq=>.b
def trE(es:List DictEntry)(n:Nat)(j:Value)(f:List DictEntry)(m:Nat)(d b:gv)(h e c:Ch)(k:Nat)(l o:Ch):bK:=WO y x (o8 y x j f m) es [.ref d.a,.ref b.a] n (dJ d (h.as 63)++dJ b (e.as 63)) c λr s l1 l2=>
  .con (o5 x.TM es 9 ⟨⟨[c.code]⟩⟩ (l1.n 9) false) λp i z=>
  .con (vi x.B (.ref d.a) [.ref b.a,.ref (l1.n 0)] (l2.n 0) i) λp i q=>
  .jf (.ref d.a) (dJ d (h.as 63)) ([x.FL,x.TM,x.B,y.g]++(dJ b (e.as 63)).map (·.1)++(dJ (e8 l1) c).map (·.1)) λN t=>
  WN x x y (o8 y x (.ref (l1.n 0)) f m) [.ref b.a,.ref (l1.n 0)] (q.n 0) es (dJ b (e.as 63)++dJ (e8 l1) c) k l o
theorem QM es n ch tl m d e f g c h i e1:RS 240 0 [tg,th,ti,T2,T3,.n (.b 0 0x1777 0 0 0x10003330016 0) 0,.z (.a 0x11 0x10000000000 0 0) 240,.z (.a 0 0x1000000000 0 0) 0] (trE y x es n ch tl m d e f g c h i e1):=.b
def trF(h:Nat->MB)(es:List DictEntry)(n:Nat)(fs:Nat)(k m:Value)(b e:gv)(i o c:Ch)(vt:Nat)(p:Nat)(q r:Ch):bK:=WO y x (DT y x k m fs) es [.ref b.a,.ref e.a] n (dJ b (i.as 63)++dJ e (o.as 63)) (c.as 47) λA C l1 l2=>
  .con (o5 x.TM es 9 ⟨⟨[47]⟩⟩ (l1.n 9) true) λs d Z=>
  .con (vi x.B (.ref b.a) [.ref e.a,.ref (l1.n 0)] (l2.n 0) d) λs d u=>
  .con (vi x.B (.ref e.a) [.ref (l1.n 0)] (u.n 0) (d+2)) λD v w=>.con (vi x.B (.ref (l1.n 0)) [] (w.n 0) v) λE F z=>.con (o6 x.TM es 9 ⟨⟨[47]⟩⟩ (l1.n 9) (.str ⟨⟨[92]⟩⟩ vt)) λf j Z=>
  .jf (.ref (f+1)) (dJ ⟨f+1,f,b.l,b.sd,j+5,j+7,b.ct,b.rt,b.lt,vt⟩ (i.as 92)) [x.FL,x.TM,x.B,y.g] λN t=>
  WN x (h (d+1)) y (G4 y (h (d+1)) (.str ⟨⟨[92]⟩⟩ vt) (.ref b.l)) [] (z.n 0) es [] p q r
noncomputable def acW:Nat->Nat->MB|1,k=>{ x with k5:=k }|Y,V=>x
theorem QN(es:List DictEntry)(n:Nat){s:Nat}(h:s=1\/s=2)(d e:Value)(f g:gv)(i j c:Ch)(vt:Nat)(k:Nat)(l m:Ch):RS 240 0 [tg,th,ti,T2,T3,Zy,nU 0x11101111770 0x10 0 1 237,Zz,.n (.b acK 0x190dd0ed 3 8 0x10006 0) 0,.z (.a 0x11 0x10000 0 0) 240,.z (.a 0 0x1000000000 0 0) 0] (trF y x (acW x s) es n s d e f g i j c vt k l m):=by
 rcases h with rfl|rfl
 ·exact .b
 ·exact .b
def WP(F:Obj):bK:=⟨yJ x.FL y.g,[(x.FL,F),(y.g,cc y)],λN t=>.con (yH y) λa b l1=>.fin oN [(x.FL,F),(y.g,cc y)]⟩
theorem DV F:RS 240 0 [nU 0x11202 0x11 0 0 237,.z (.a 0x101 0x112 0 0) 0] (WP y x F):=.a
def G5:Obj:=cD [eW ib k1 (.ref y.g)] 1
noncomputable def n0(t:Nat):List (List Nat×Nat×Value):=[([61],t+0,.str ⟨⟨[35]⟩⟩ (t+1)),([40],t+2,.str ⟨⟨[91]⟩⟩ (t+3)),([41],t+4,.str ⟨⟨[93]⟩⟩ (t+5)),([60],t+6,.str ⟨⟨[123]⟩⟩ (t+7)),([62],t+8,.str ⟨⟨[125]⟩⟩ (t+9)),([45],t+10,.str ⟨⟨[126]⟩⟩ (t+11)),([33],t+12,.str ⟨⟨[124]⟩⟩ (t+13)),([47],t+14,.str ⟨⟨[92]⟩⟩ (t+15)),([39],t+16,.str ⟨⟨[94]⟩⟩ (t+17))]
noncomputable def trX(N k1 t k4 k5:Nat):MB:=⟨FL,N,N+1,k1,t+27,t+28,k4,k5⟩
def WQ(h:Nat)(d c:Ch):bK:=⟨.func (bJ (dH 14)) (Bh FL),[(FL,G5 y k1),(y.g,cc y)],λa t=>.pos λp=>.con (rW (trX FL a k1 t 0 0) y (G3 y (trX FL a k1 t 0 0)) [] 0 (c0 w.params (n0 t)) [] h d c) λb i l1=>.pos λp=>
  .con (dd b (a+1) 0 [.ref (l1.n 3),.ref (l1.n 13)] (l1.n 0) (.ref (l1.n 3))) λe f l2=>
  .jf (.ref (l1.n 3)) (dJ (ZV l1) d) ([FL,a+1,b,y.g]++(dJ (MC l1) c).map (·.1)) λN t=>.con (dd b (a+1) 1 [.ref (l1.n 3),.ref (l1.n 13)] (l1.n 0) (.ref (l1.n 13))) λe f l2=>
  .jf (.ref (l1.n 13)) (dJ (MC l1) c) [FL,a+1,b,y.g] λN t=>.con (eV b (a+1) 2 [.ref (l1.n 3),.ref (l1.n 13)] (l1.n 0)) λe f l2=>.fin (rV .none) [(y.g,cc y)]⟩
theorem DW{c:Nat}(h:c=1\/c=2)(d e:Ch):RS 250 0 [ZA,.z (.a 0x11 0x10110 2 29) 247,nU 0x1a020221 0 0 0 0,nU 0x11a0a0 0x119 1 0 244,.n (.b 0x1333 0x1444 0 1 0x10000012 0) 0,T4,.n (.b 0x1333 0x1444 0 1 0x10012 0) 0,T4,.z (.a 0x101 0x14 0 0) 0] (WQ y FL k1 c d e):=by
 rcases h with rfl|rfl
 ·exact .b
 ·exact .b
def WR:bK:=⟨.call (.ref 321) ⟨[.ref y.g],[]⟩,[(y.g,cc y)],λN t=>.gen (.func (bJ (dH 14)) (Bh N)) λg=>.fin (rV (.ref (N+1))) ([(N,G5 y t),(N+1,jX g (t+1) ⟨⟨[116,114,105,103,114,97,112,104,95,102,105,108,116,101,114]⟩⟩ (t+2) ⟨⟨[116,114,105,103,114,97,112,104,95,102,105,108,116,101,114]⟩⟩),(y.g,cc y)])⟩
theorem DX:RP 40 2 [nU 0x10220 0 0 0 0,nU 0 0x1011 2 3 0] (WR y):=.a
end
section
noncomputable abbrev MF:String:=PySem.W.SZ.s6722704394060455958x9
theorem v7:"str.split" = MF:=PySem.W.SZ.e6722704394060455958x9
noncomputable abbrev o9:String:=PySem.W.SZ.s8077881857196166566x16
theorem iw:"list.__getitem__" = o9:=PySem.W.SZ.e8077881857196166566x16
variable(FL k1:Nat)(t t0:Nat)(k2 it:Nat)(p l:Nat)(s:Str)(tl:L2->List DictEntry)(m:Nat)
def n4(t u:Nat)(last:Str):cX where
 c:=.builtin MF ⟨[.str s t,.str ⟨⟨[10]⟩⟩ u],[]⟩
 pre:=[]
 out _ _ a:=(rV (.ref (a.n 0)),[(a.n 0,br (a.l 0++[.str last (a.n 1)]) (a.n 2))])
def v8:Env:=hV (dH 16) FL (q (uS 0x5f6c696e65732e3c6c6f63616c733e2e)) 335 334
def p9:Code:=m3 (b9 (dH 16) 1) (.ref it) (v8 FL)
def Bi:Obj:=cD [eW (uS 0x747874) k1 (.str s t)] 1
noncomputable abbrev qa:String:=PySem.W.SZ.s4674234679698826739x5
theorem qb:"slice" = qa:=PySem.W.SZ.e4674234679698826739x5
def tI:Obj:=⟨.type qa,none,.fields ⟨[.none,.int (-1) t,.none]⟩,#[]⟩
def DY(b t n:Nat)(xs:List Value)(v:Value):cX where
 c:=.builtin o9 ⟨[.ref p,.ref b],[]⟩
 pre:=[(p,br (xs++[v]) n),(b,tI t)]
 out _ _ a:=(rV (.ref (a.n 0)),[(a.n 0,br xs 0),(p,br (xs++[v]) n)])
def mj(t n:Nat)(xs:List Value)(v:Value):cX where
 c:=.builtin o9 ⟨[.ref p,.int (-1) t],[]⟩
 pre:=[(p,br (xs++[v]) n)]
 out _ _ a:=(.ok (.ret v),[(p,br (xs++[v]) n)])
def UD(p:Nat):Obj:=cD [eW (uS 0x747874) k1 (.str s t),eW (uS 0x7061727473) k2 (.ref p)] 2
def ml(p:Nat)(tl:List DictEntry)(m:Nat):Obj:=cD (eW (uS 0x747874) k1 (.str s t)::eW (uS 0x7061727473) k2 (.ref p)::tl) m
def yK(p n:Nat)(s:Str)(xs ys:List Value)(tl:L2->List DictEntry)(m:Nat):cX where
 c:=p9 FL it
 pre:=[(FL,UD k1 t0 k2 s p),(it,eB l 0),(l,br xs 0),(p,br ys n)]
 out _ _ a:=(oN,[(FL,ml k1 t0 k2 s p (tl a) m),(p,br ys n)])
noncomputable def Bj(f:Nat->Nat):Nat->List Nat|0=>[]|k+1=>f k::Bj f k
def QO(f:Nat->Nat)(k:Nat)(tl:L2->List DictEntry)(m:Nat):bK:=⟨.func (bJ (dH 16)) (v8 FL),[(FL,Bi k1 t0 s)],λN t=>.con (n4 s t0 t ⟨⟨Bj f k⟩⟩) λc a l1=>.con (DY (l1.n 0) c (a+2) (l1.n 2) (l1.l 0) (.str ⟨⟨Bj f k⟩⟩ (l1.n 1))) λd h l2=>.pos λp=>
   .con (yK FL k1 t0 a d (l2.n 0) (l1.n 0) (l1.n 2) s (l1.l 0) (l1.l 0++[.str ⟨⟨Bj f k⟩⟩ (l1.n 1)]) tl m) λi e j=>
   .con (mj (l1.n 0) (e+1) (l1.n 2) (l1.l 0) (.str ⟨⟨Bj f k⟩⟩ (l1.n 1))) λg b z=>.con (mj (l1.n 0) (b+3) (l1.n 2) (l1.l 0) (.str ⟨⟨Bj f k⟩⟩ (l1.n 1))) λg b z=>
   .jf (.str ⟨⟨Bj f k⟩⟩ (l1.n 1)) [] [FL] λN t=>.fin (rV .none) []⟩
theorem Bk(FL k1 t0:Nat)(s:Str)(f:Nat->Nat)(tl:L2->List DictEntry)(m:Nat):∀k,k∈[1,2,3,4,5,6,7,8,9,10,11,12,13,14,15,16,17,18,19,20,21,22,23,24,25,26,27,28,29,30,31,32,33,34,35,36,37,38,39,40,41,42,43,44,45,46,47,48,49,50,51,52]->RS 50 0 [nU 0x1101 0 0 1 47,nU 0x111011100222 0x110 1 3 47,nU 0x1401011 0 0 0 0,.z (.a 0x11 0x10022 1 0) 47,nU 0x1120222001 0x11 0 2 47,nU 0x1110111002000 0x10 0 4 47,.n (.b 0 0 0 0 0x11 0) 0,.z (.a 0 0 0 0) 0] (QO FL k1 t0 s f k tl m):=
 RS.e
def QP:bK:=⟨.func (bJ (dH 16)) (v8 FL),[(FL,Bi k1 t0 s)],λN t=>.con (n4 s t0 t ⟨⟨[]⟩⟩) λb a l1=>.con (DY (l1.n 0) b (a+2) (l1.n 2) (l1.l 0) (.str ⟨⟨[]⟩⟩ (l1.n 1))) λc e l2=>.pos λp=>
   .con (yK FL k1 t0 a c (l2.n 0) (l1.n 0) (l1.n 2) s (l1.l 0) (l1.l 0++[.str ⟨⟨[]⟩⟩ (l1.n 1)]) tl m) λf d g=>
   .con (mj (l1.n 0) (d+1) (l1.n 2) (l1.l 0) (.str ⟨⟨[]⟩⟩ (l1.n 1))) λh i z=>.fin (rV .none) []⟩
theorem Bl:RS 50 0 [nU 0x1101 0 0 1 47,nU 0x111011100222 0x110 1 3 47,nU 0x1401011 0 0 0 0,.z (.a 0x11 0x10022 1 0) 47,nU 0x1120222001 0x11 0 2 47,.z (.a 0x1000 0 0 2) 0] (QP FL k1 t0 s tl m):=.b
def pc(p n j:Nat)(F:Obj)(s:Str)(xs ys:List Value)(tl:L2->List DictEntry)(m:Nat):cX where
 c:=p9 FL it
 pre:=[(FL,F),(it,eB l j),(l,br xs 0),(p,br ys n)]
 out _ _ a:=(oN,[(FL,ml k1 t0 k2 s p (tl a) m),(p,br ys n)])
def QQ(a:Str)(d:Nat)(b:Str)(f:Nat):cX where
 c:=.builtin Me ⟨[.str a d,.str b f],[]⟩
 pre:=[]
 out _ _ e:=(rV (.str (a++b) (e.n 0)),[])
def acY(p n j:Nat)(s x:Str)(xt:Nat)(xs ys:List Value)(tl:L2->List DictEntry)(m:Nat):bK:=⟨p9 FL it,(pc FL k1 t0 k2 it l p n j (ml k1 t0 k2 s p [] 2) s xs ys tl m).pre,λN t=>.con (dd it l j xs 0 (.str x xt)) λc a l1=>.con (QQ x xt ⟨⟨[10]⟩⟩ (a+1)) λd e l2=>.jf (.str (x++⟨⟨[10]⟩⟩) (l2.n 0)) [] [FL,it,l,p] λN t=>
  .con (pc FL k1 t0 k2 it l p n (j+1) (ml k1 t0 k2 s p [eW nM a (.str x xt)] 3) s xs ys tl m) λf g b=>.fin oN [(FL,ml k1 t0 k2 s p (tl b) m),(p,br ys n)]⟩
theorem MG p n j s x xt xs ys tl m:RS 40 0 [LJ,nU 0x110333 0 0 2 37,.n (.b 0 0 0 0 0x10002 0) 0,.z (.a 0x11 0x10000 0 0) 40,.z (.a 0 0x100 0 0) 0] (acY FL k1 t0 k2 it l p n j s x xt xs ys tl m):=.a
def acZ(k3 it l p n j:Nat)(s x:Str)(xt:Nat)(v:Value)(xs ys:List Value)(tl:L2->List DictEntry)(m:Nat):bK:=⟨p9 FL it,(pc FL k1 t0 k2 it l p n j (ml k1 t0 k2 s p [eW nM k3 v] 3) s xs ys tl m).pre,λN t=>.con (dd it l j xs 0 (.str x xt)) λc a l1=>.con (QQ x xt ⟨⟨[10]⟩⟩ (a+1)) λd e l2=>.jf (.str (x++⟨⟨[10]⟩⟩) (l2.n 0)) [] [FL,it,l,p] λN t=>
  .con (pc FL k1 t0 k2 it l p n (j+1) (ml k1 t0 k2 s p [eW nM k3 (.str x xt)] 3) s xs ys tl m) λf g b=>.fin oN [(FL,ml k1 t0 k2 s p (tl b) m),(p,br ys n)]⟩
theorem MH k3 it l p n j s x xt v xs ys tl m:RS 40 0 [LJ,nU 0x110333 0 0 2 37,.n (.b 0 0 0 0 0x10002 0) 0,.z (.a 0x11 0x10000 0 0) 40,.z (.a 0 0x100 0 0) 0] (acZ FL k1 t0 k2 k3 it l p n j s x xt v xs ys tl m):=.a
def ac0(p n j:Nat)(F:Obj)(xs ys:List Value):bK:=⟨p9 FL it,[(FL,F),(it,eB l j),(l,br xs 0),(p,br ys n)],λN t=>.con (eV it l j xs 0) λa b l1=>.fin oN [(FL,F),(p,br ys n)]⟩
theorem Bm p n j F xs ys:RS 40 0 [LJ,.z (.a 0x101 0x133 0 0) 0] (ac0 FL it l p n j F xs ys):=.a
def WS(t0:Nat):bK:=⟨.call (.ref 335) ⟨[.str s t0],[]⟩,[],λN t=>.gen (.func (bJ (dH 16)) (v8 N)) λg=>.fin (rV (.ref (N+1))) ([(N,Bi t t0 s),(N+1,jX g (t+1) ⟨⟨[95,108,105,110,101,115]⟩⟩ (t+2) ⟨⟨[95,108,105,110,101,115]⟩⟩)])⟩
theorem D0 t0:RP 40 2 [nU 0x10110 0 0 0 0,nU 0 0x100 2 3 0] (WS s t0):=.a
end
noncomputable def txt(v:Value):Option PySem.Str:=match v with
 |.str s Y=>some s
 |Y=>none
theorem tJ{v:Value}{s:PySem.Str}(h:txt v=some s):∃t,v=.str s t:=by
 cases v<;>cases h;exact⟨_,rfl⟩
def own(L:bH):b7:=λr g=>r=L/\g=[]
def WT(f l n:Nat)(xs:List Value)(ss:List PySem.Str):b7:=λr g=>∃j,r=[(f,eB l j),(l,br xs n)]/\g=[]/\(xs.drop j).map txt=ss.map some
section
theorem QR{f l n:Nat}{xs:List Value}:DQ (WT f l n xs) (own [(l,br xs n)]) f where
 new ss u room hr:=by
  refine bE.Zb λj=>?_;refine((@Dy pz (wv w b1 b2) (bY w.params) os room f l j u).fr (λr g=>r=[(l,br xs n)]/\g=[]/\(xs.drop j).map txt=ss.map some)).ej ?_ ?_
  ·rintro r g ⟨rfl,rfl,h⟩;exact⟨[(l,br xs n)],[],.refl _,.refl _,rfl,rfl,h⟩
  ·rintro N t a r g ⟨rfl,rfl,h⟩;exact⟨a,_,_,rfl,.refl _,.refl _,j,rfl,rfl,h⟩
 next s ss en k old room hr:=by
  refine bE.Zb λj=>?_;intro A st F FG r0 g0 c d i;obtain⟨rfl,rfl,h⟩:=d;cases hd:xs.drop j with
  |nil=>rw[hd]at h;cases h
  |cons v vs=>
   rw[hd]at h;have y:txt v=some s:=by injection h
   have B:vs.map txt=ss.map some:=by injection h
   obtain⟨t,rfl⟩:=tJ y;have m:xs[j]?=some (.str s t):=by rw[<-ja,hd];rfl
   have p:xs.drop (j+1)=vs:=by rw[<-kv,hd];rfl
   have z:cN room ⟨.builtin fT ⟨[.ref en],[]⟩,[(en,c7 .none f (Int.ofNat k) old),(f,eB l j),(l,br xs n)],
     λZ Z a=>(.ok (.ret (.ref (a.n 0))),[(a.n 0,dm [.int (Int.ofNat k) (a.n 1),.str s t] 0),(en,c7 (.int (Int.ofNat (a.n 0)) 0) f (Int.ofNat (k+1)) (.str s t)),(f,eB l (j+1)),(l,br xs n)]),false⟩ bV (λZ=>bV):=by
    refine bE.mono (bE.o rfl (AU en f k l j n xs (.str s t) old) ?_) (by exact cu (jE _ _) hr);intro C N D _;refine bx (X':=λZ=>bV) rfl (b6 m) ?_;intro q x l1 _ _;exact cC (cV [q,x])
   refine dj (z A st F FG [] [] c ⟨rfl,rfl⟩ i) ?_;rintro r E ⟨a,r1,g1,⟨rfl,rfl⟩,e,b⟩;exact⟨cV [a.n 0,a.n 1,t],_,_,⟨j+1,rfl,rfl,by rw[p];exact B⟩,e,b⟩
 stop en k old room hr:=by
  refine bE.Zb λj=>?_;intro A st F FG r0 g0 c d i;obtain⟨rfl,rfl,h⟩:=d;have hd:xs.drop j=[]:=by simpa using h
  have m:xs[j]?=none:=by rw[<-ja,hd];rfl
  have z:cN room ⟨.builtin fT ⟨[.ref en],[]⟩,[(en,c7 .none f (Int.ofNat k) old),(f,eB l j),(l,br xs n)],
    λZ Z a=>(.error (.ref (a.n 0)),[(a.n 0,fw (a.n 1)),(l,br xs n)]),false⟩ bV (λZ=>bV):=by
   refine bE.mono (bE.o rfl (DG en f k l j n xs old) ?_) (by exact cu (jE _ _) hr);intro C N D _;refine bx (X':=λZ=>bV) rfl (cA m) ?_;intro q x l1 _ _;exact cC l1
  refine dj (z A st F FG [] [] c ⟨rfl,rfl⟩ i) ?_;rintro r E ⟨a,r1,g1,⟨rfl,rfl⟩,e,b⟩;exact⟨a,_,_,⟨rfl,rfl⟩,e,b⟩
inductive vn(s:PySem.Str)(v:Value)(it:bH):Prop where|mk:∀t,(v=.str s t)->(it=[])->vn s v it
def ZW(w:World)(b c:Bool)(os:OsState)(R:Nat)(y:fJ)(X:b7)(ss:List PySem.Str):b7:=λr g=>∃a,r=(y.g,cc y)::a/\fC R vn (ie X) y.i X ss a g
theorem QS(f:jh (bY w.params)){R:Nat}(j:R<=80){y:fJ}{X:b7}:DQ (ZW w b1 b2 os R y X) (λr g=>∃d,r=(y.g,cc y)::d/\fC R vn (ie X) y.i X [] d g) y.g where
 new ss u room hr:=by
  refine((@Dz pz (wv w b1 b2) (bY w.params) os room y u).fr (fC R vn (ie X) y.i X ss)).ej ?_ ?_
  ·rintro r g ⟨d,rfl,h⟩;exact⟨d,g,.refl _,.refl _,h⟩
  ·rintro N t b r g h;exact⟨b,_,_,rfl,.refl _,.refl _,r,rfl,h⟩
 next s ss en k old room hr:=by
  have c:cN 90 (GQ y s) (fC R vn (ie X) y.i X (s::ss)) (λx=>fC R vn (ie X) y.i X ss):=
   (AA f (λa it ⟨t,e,e2⟩=>⟨cV [t],e,e2⟩) (by exact Nat.add_le_add_right j _))
  have z:cN room ⟨.builtin fT ⟨[.ref en],[]⟩,[(en,c7 .none y.g (Int.ofNat k) old),(y.g,cc y)],
     λx x b=>(.ok (.ret (.ref (b.n 0))),[(b.n 0,dm [.int (Int.ofNat k) (b.n 1),.str s (b.n 2)] 0),(en,c7 (.int (Int.ofNat (b.n 0)) 0) y.g (Int.ofNat (k+1)) (.str s (b.n 2))),(y.g,cc y)]),false⟩
     (fC R vn (ie X) y.i X (s::ss)) (λx=>fC R vn (ie X) y.i X ss):=by
    refine bE.mono (bE.o rfl (AV en k y s old) ?_) (by exact cu (jE _ _) hr);intro p N q _;exists bx,c;intro l m l1 _ _;exact cC (cV [l,m,l1.n 0])
  refine z.ej ?_ ?_
  ·rintro r g ⟨d,rfl,h⟩;exact⟨d,g,.refl _,.refl _,h⟩
  ·rintro N t b r g h;exact⟨b,_,_,rfl,.refl _,.refl _,r,rfl,h⟩
 stop en k old room hr:=by
  have c:cN 90 (GR y) (fC R vn (ie X) y.i X []) (λx=>fC R vn (ie X) y.i X []):=
   (AB f (λr L v h=>h) (by exact Nat.add_le_add_right j _))
  have z:cN room ⟨.builtin fT ⟨[.ref en],[]⟩,[(en,c7 .none y.g (Int.ofNat k) old),(y.g,cc y)],
     λx x b=>(.error (.ref (b.n 0)),[(b.n 0,fw (b.n 1)),(y.g,cc y)]),false⟩
     (fC R vn (ie X) y.i X []) (λx=>fC R vn (ie X) y.i X []):=by
    refine bE.mono (bE.o rfl (DH en k y old) ?_) (by exact cu (jE _ _) hr);intro p N q _;exists bx,c;intro l m l1 _ _;exact cC l1
  refine z.ej ?_ ?_
  ·rintro r g ⟨d,rfl,h⟩;exact⟨d,g,.refl _,.refl _,h⟩
  ·rintro N t b r g h;exact⟨b,_,_,rfl,.refl _,.refl _,r,rfl,h⟩
end
section
open PySem.Meets PySem.Builtin PySem.Builtin.Str
variable{last s:PySem.Str}{j n p t t0:Nat}{init:List PySem.Str}{xs:List Value}{v:Value}{c:Code}{pre:bH}{out:Nat->Nat->L2->Result×bH}
def pd(p:Prop):b7:=λr g=>r=[]/\g=[]/\p
noncomputable def va:PySem.Str:=⟨⟨[10]⟩⟩
def iX(s:PySem.Str):List PySem.Str:=partsBetween s (occurrences s va 0 s.length (s.length+1)) 1
theorem pe:∀(t:Nat)(ps:List PySem.Str),(strsFrom t ps).map txt=ps.map some
 |t,[]=>rfl
 |t,p::ps=>by
  show txt (.str p t)::(strsFrom (t+1) ps).map txt=some p::ps.map some;rw[pe (t+1) ps];rfl
theorem ng:∀(t:Nat)(ps:List PySem.Str)(p:PySem.Str),strsFrom t (ps++[p])=strsFrom t ps++[.str p (t+ps.length)]
 |t,[],p=>rfl
 |t,q::ps,p=>by
  show .str q t::strsFrom (t+1) (ps++[p])=.str q t::(strsFrom (t+1) ps++[.str p (t+(q::ps).length)]);rw[ng (t+1) ps p,List.length_cons,show t+1+ps.length=t+(ps.length+1)from by exact xi _ _ _]
section
variable{prog:Program}{w:World}{kt:KT}{os:OsState}{room:Nat}
theorem tK{u:Nat}(f:iX s=init++[last])(q:1<=s.length)(r:s.length<=10000):
  bE prog w kt os room (n4 s t u last).c (n4 s t u last).pre bV (n4 s t u last).out (λd=>pd ((d.l 0).map txt=init.map some)):=by
 have i:(decide (s.length<va.length)||decide (Str.strKind s<Str.strKind va))=false:=by
  have a:¬ (s.length<va.length):=by
   have:va.length=1:=rfl;rw[this];exact Nat.not_lt.mpr q
  have b:¬ (Str.strKind s<Str.strKind va):=by
   have:Str.strKind va=1:=by decide +kernel
   rw[this];unfold Str.strKind
   split
   ·exact by decide
   ·split<;>omega
  rw[h8 a,h8 b];rfl
 have k:(va.length==0)=false:=rfl;rintro A st F FG r0 g0 x ⟨rfl,rfl⟩ m;refine g6 (b:=Builtin.«str.split») (by rw[<-v7];exact entryFor_of_tree (by kernel_rfl)) ?_;rw[nG (by rw[<-v7];decide +kernel)];cases g:(occurrences s va 0 s.length (s.length+1)).isEmpty with
 |true=>
  have e:occurrences s va 0 s.length (s.length+1)=[]:=xr.mp g;unfold iX at f;rw[e]at f;have e2:partsBetween s [] 1=[s]:=by
   show[strSub s 0 s.length]=[s];rw[StrLaws.sub_whole]
  rw[e2]at f;have e3:init=[]/\last=s:=by
   cases init with
   |nil=>injection f with h _;exact⟨rfl,h.symm⟩
   |cons p init=>injection f with _ h;cases init<;>cases h
  obtain⟨rfl,rfl⟩:=e3;refine meets_str_split_not_found last va t u i k g prog w A (gT kt os (n4 last t u last).out (λd=>pd ((d.l 0).map txt=([]:List PySem.Str).map some)) F FG) st ?_;have z:=m.alloc (o:=br [.str last t] 0) rfl;rw[dW]at z;refine⟨⟨λn=>match n with|0=>st.heap.objs.size|1=>t|_=>0,λy=>.none,λy=>[]⟩,[],[],⟨rfl,rfl,rfl⟩,rfl,?_⟩;show Sat kt os _ ((st.heap.objs.size,br [.str last t] 0)::_) _;rw[dW];exact z
 |false=>
  have hn:(partsBetween s (occurrences s va 0 s.length (s.length+1)) va.length).length<=sizeLine:=by
   rw[length_partsBetween];have:=StrLaws.occ_length_le s va 0 s.length (s.length+1);rw[show sizeLine=16777216 from by decide];omega
  have e:partsBetween s (occurrences s va 0 s.length (s.length+1)) va.length=init++[last]:=f;refine meets_str_split_sep s va t u i k g (by rw[show sizeLine=16777216 from by decide];exact cu r (by decide)) hn prog w A (gT kt os (n4 s t u last).out (λd=>pd ((d.l 0).map txt=init.map some)) F FG) st ?_;rw[e];show gT kt os _ _ _ _ _ _;rw[ng];have z:=(m.alloc (o:=br (strsFrom st.toks init++[.str last (st.toks+init.length)]) 0) rfl).toks (st.toks+(init++[last]).length);rw[dW]at z;refine⟨⟨λn=>match n with|0=>st.heap.objs.size|1=>st.toks+init.length|_=>0,λy=>.none,λy=>strsFrom st.toks init⟩,[],[],⟨rfl,rfl,pe _ _⟩,rfl,?_⟩;show Sat kt os _ ((st.heap.objs.size,br (strsFrom st.toks init++[.str last (st.toks+init.length)]) 0)::_) _;rw[dW];exact z
theorem iY{s:Shared}{a:Nat}(h:s.heap.get? a=some (br xs n)):s.heap.IsList a ⟨xs⟩:=by
 rw[dW]at h;exact⟨_,h,rfl,n,rfl⟩
theorem v9{a b:PySem.Str}{x y:Nat}(h:1<=b.length)(i:a.length+b.length<=10000):dq prog w kt os room (QQ a x b y) bV (λv=>bV):=by
 refine bE.dx (b:=Builtin.«str.__add__») (by rw[<-oW];decide +kernel) (by rw[<-oW];exact entryFor_of_tree (by kernel_rfl)) (gives_str_add a b x y).meets ?_;intro A R s F FG _ d k;have l:(b.length==0)=false:=by simp;exact Nat.ne_of_gt h
 by_cases f:a.length=0
 ·have g:(a.length==0)=true:=by simp[f]
  have e:a++b=b:=by
   have:a.cps=#[]:=Array.eq_empty_of_size_eq_zero f;cases a;cases b;simp only at this;subst this;show(⟨_++_⟩:PySem.Str)=_;simp
  rw[g];have z:=k s (l1 y) d;have e3:((QQ a x b y).out s.heap.objs.size s.toks (l1 y)).1=.ok (.ret (.str b y)):=by
   show Except.ok (Flow.ret (.str (a++b) y))=_;rw[e]
  rw[e3]at z;exact z
 ·have g:(a.length==0)=false:=by simp[f]
  rw[g,l];refine⟨?_,?_⟩
  ·show(a.cps++b.cps).size<=sizeLine;rw[xq,show sizeLine=16777216 from by decide];have:a.cps.size=a.length:=rfl;have:b.cps.size=b.length:=rfl;exact cu i (by decide)
  ·exact k _ (l1 s.toks) (d.toks _)
theorem kM(g:xs.length<=10000):dq prog w kt os room (mj p t n xs v) bV (λz=>bV):=by
 refine bE.vk (b:=Builtin.«list.__getitem__») (by rw[<-iw];decide +kernel) (by rw[<-iw];exact entryFor_of_tree (by kernel_rfl)) ?_;rintro A s F FG r0 g0 h ⟨rfl,rfl⟩ d;have a:=d.own (p,br (xs++[v]) n) (.head _);have fin:gT kt os (mj p t n xs v).out (λz=>bV) F FG (.ok (.ret v)) s:=gB (l1 0) rfl d;have e:seqIndex? (-1) (⟨xs++[v]⟩:Array Value).size=some xs.length:=by
  rw[MeetsSeq.seqIndex_neg (by decide) (by simp;omega)];simp;omega
 have f:(⟨xs++[v]⟩:Array Value)[xs.length]?=some v:=by simp
 have f1:=AutoSeq1.idx_int
 wp_walk using wpAny_loadPart' a
 rw[e];simp only[Option.bind_some,f,Option.map_some];exact ck ⟨_,rfl,fin⟩
theorem tL{d:Nat}(k:xs.length<=10000):dq prog w kt os room (DY p d t n xs v) bV (λy=>bV):=by
 refine bE.vk (b:=Builtin.«list.__getitem__») (by rw[<-iw];decide +kernel) (by rw[<-iw];exact entryFor_of_tree (by kernel_rfl)) ?_;rintro A s F FG r0 g0 u ⟨rfl,rfl⟩ h;have f:=h.own (p,br (xs++[v]) n) (.head _);have a:=h.own (d,tI t) (.tail _ (.head _));have l:s.heap.IsList p ⟨xs++[v]⟩:=iY f;have g:s.TypeIs (.ref d) "slice":=⟨_,a,by show Value.type qa=_;rw[<-qb]⟩
 show wpAny _ _ (Builtin.List.listSubscript? (.ref d) >>= _) _ _ s;refine bI ?_;unfold Builtin.List.listSubscript?;refine bI (rB g slice_no_index ?_);simp only[Option.isNone_none,oB];refine ck ?_;show wpAny _ _ (typeOf (.ref d) >>= _) _ _ s;refine bI (rK g ?_);rw[bu (by decide)];rw[listSliceParts_eq];have hd:(tI t).data=.fields #[.none,.int (-1) t,.none]:=rfl;refine bI (bI (eQ a hd (x:=.none) rfl (bI (pT .none ?_))));rw[bu (by decide)];refine bI (eQ a hd (x:=.none) rfl (bI (pT .none ?_)));refine bI (eQ a hd (x:=.int (-1) t) rfl (bI (pT (.int (-1) t) (ck ?_))));refine bI (m:=Builtin.List.listItems (.ref p)) ?_;unfold Builtin.List.listItems;have i:(br (xs++[v]) n).data=.seq ⟨xs++[v]⟩ n:=rfl;refine bI (oy f i (ck ?_));refine bI (mF (sliceIndices_raw none (some (-1)) none (⟨xs++[v]⟩:Array Value).size (by simp)) ?_);have q:sliceBounds none (some (-1)) none (⟨xs++[v]⟩:Array Value).size=(((0:Nat):Int),((xs.length:Nat):Int),1):=by
  simp[sliceBounds];exact ab5 _
 have e:(sliceRange ((0:Nat):Int) ((xs.length:Nat):Int) 1).filterMap ((⟨xs++[v]⟩:Array Value)[·]?)=xs:=by
  rw[rD,Nat.sub_zero,pick_run];simp
 rw[q];dsimp only;rw[e];refine bI (jD (ck ⟨_,rfl,?_⟩) (by show xs.length<=sizeLine;rw[show sizeLine=16777216 from by decide];exact cu k (by decide)));have z:=h.alloc (o:=br xs 0) rfl;refine gB (l1 s.heap.objs.size) rfl ?_;have r:Sat kt os { s with heap:=s.heap.push { cls:=.type "list",dict:=none,data:=.seq ⟨xs⟩ 0,slots:=#[] } } ((s.heap.objs.size,br xs 0)::(p,br (xs++[v]) n)::F) FG:=by
  rw[<-dW];exact Sat.drop (R:=[(d,tI t)]) (z.perm (kx _ (kx _ (fu (l₁:=[(d,tI t)])))))
 exact r
end
section
variable{acj:Nat}{bL:Result->bH->bR->Prop}
noncomputable def nlAdd(s:PySem.Str):PySem.Str:=s++⟨⟨[10]⟩⟩
def QT(a:L2):List DictEntry:=[eW nM (a.n 0) (a.v 0)]
def WU:List PySem.Str->L2->List DictEntry|[]=>λz=>[]|Y::V=>QT
noncomputable def WV:List PySem.Str->Nat|[]=>2|Y::V=>3
theorem Bn{ss:List PySem.Str}(h:(xs.drop j).map txt=(s::ss).map some):∃t,xs[j]?=some (.str s t)/\(xs.drop (j+1)).map txt=ss.map some:=by
 cases hd:xs.drop j with
 |nil=>rw[hd]at h;cases h
 |cons v vs=>
  rw[hd]at h;have a:txt v=some s:=by injection h
  have b:vs.map txt=ss.map some:=by injection h
  obtain⟨t,rfl⟩:=tJ a;exact⟨t,by rw[<-ja,hd];rfl,by rw[<-kv,hd];exact b⟩
theorem Bo(h:(xs.drop j).map txt=([]:List PySem.Str).map some):xs[j]?=none:=by
 have hd:xs.drop j=[]:=by simpa using h
 rw[<-ja,hd];rfl
theorem Bp{FL k1 t0 k2 it l p n:Nat}{s:PySem.Str}{xs ys:List Value}{σ:List PySem.Str}:∀(ss:List PySem.Str)(j k3:Nat)(v:Value),(xs.drop j).map txt=ss.map some->(∀x∈ss,x.length<=9000)->
  jJ acj vn bL 40 (pc FL k1 t0 k2 it l p n j (ml k1 t0 k2 s p [eW nM k3 v] 3) s xs ys (QT) 3) bV (ss.map nlAdd++σ) (λc=>bV) σ
 |[],j,k3,v,h,b=>by
  have z:rh acj vn bL 40 (p9 FL it) _ bV ([]++σ) (λc c a=>(.ok .next,[(FL,ml k1 t0 k2 s p [eW nM k3 v] 3),(p,br ys n)])) (λc=>bV) σ:=
   bG.o rfl (Bm FL it l p n j (ml k1 t0 k2 s p [eW nM k3 v] 3) xs ys) (by intro i N t _;exists bx,cA (Bo h);intro N t a _ _;exact bA a)
  exact z.ej (λr g h=>⟨r,g,.refl _,.refl _,h⟩) (λN t a r g h=>⟨cV [k3] [v],r,g,rfl,.refl _,.refl _,h⟩)
 |x::ss,j,k3,v,h,b=>by
  obtain⟨t,k,m⟩:=Bn h;have d:=b x (.head _);exists bG.o,MH FL k1 t0 k2 k3 it l p n j s x t v xs ys (QT) 3;intro i N q _;exists bx,b6 k,0;exists bx,v9 (by decide) (by show x.length+1<=10000;exact sD d (by decide)),0;exists cQ,⟨_,rfl,rfl⟩,0;refine cE (σ':=σ) rfl (Bp ss (j+1) k3 _ m (λy u=>b y (.tail _ u))) ?_;intro N t a _ _;exact bA a
theorem Bq{FL k1 t0 k2 it l p n:Nat}{s:PySem.Str}{xs ys:List Value}{σ:List PySem.Str}(ss:List PySem.Str)(h:xs.map txt=ss.map some)(d:∀x∈ss,x.length<=9000):
  jJ acj vn bL 40 (yK FL k1 t0 k2 it l p n s xs ys (WU ss) (WV ss)) bV (ss.map nlAdd++σ) (λv=>bV) σ:=by
 cases ss with
 |nil=>
  exact bG.o rfl (Bm FL it l p n 0 (UD k1 t0 k2 s p) xs ys) (by intro g N t _;exists bx,cA (Bo (j:=0) h);intro N t a _ _;exact bA a)
 |cons x ss=>
  obtain⟨t,i,k⟩:=Bn (j:=0) h;have b:=d x (.head _);exists bG.o,MG FL k1 t0 k2 it l p n 0 s x t xs ys (QT) 3,0;exists bx,b6 i,0;exists bx,v9 (by decide) (by show x.length+1<=10000;exact sD b (by decide)),0;exists cQ,⟨_,rfl,rfl⟩,0;refine cE (σ':=σ) rfl (Bp ss 1 _ _ k (λy q=>d y (.tail _ q))) ?_;intro N t a _ _;exact bA a
theorem G6{f g:Nat->Nat}:∀k,(∀i,i<k->f i=g i)->Bj f k=Bj g k
 |0,Y=>rfl
 |k+1,h=>by
  show f k::Bj f k=g k::Bj g k;rw[h k (Nat.lt_succ_self k),G6 k λi a=>h i (Nat.lt_succ_of_lt a)]
theorem G7:∀l:List Nat,∃f,l=Bj f l.length
 |[]=>⟨λz=>0,rfl⟩
 |c::cs=>by
  obtain⟨f,a⟩:=G7 cs;refine⟨λi=>if i=cs.length then c else f i,?_⟩;show c::cs=(if cs.length=cs.length then c else _)::Bj _ cs.length;rw[bP rfl]
  congr 1
  refine a.trans (G6 _ λi b=>?_);rw[bu (rG b)]
theorem bE.pure{p:Prop}{room:Nat}{prog:Program}{w:World}{kt:KT}{os:OsState}(h:p->bE prog w kt os room c pre bV out (λz=>bV)):bE prog w kt os room c pre (pd p) out (λz=>pd p):=by
 rintro A s F FG r0 g0 b ⟨rfl,rfl,a⟩ d;exact((h a).fr (pd p)) A s F FG [] [] b ⟨rfl,rfl,a⟩ d
theorem bG.pure{p:Prop}{room:Nat}{prog:Program}{w:World}{kt:KT}{os:OsState}{b:Type}{acj:Nat}{d:b->Value->bH->Prop}{bL:Result->bH->bR->Prop}{σ σ':List b}(h:p->bG prog w kt os acj d bL room c pre bV σ out (λz=>bV) σ'):bG prog w kt os acj d bL room c pre (pd p) σ out (λz=>pd p) σ':=by
 rintro fs rr gg f a CT A s F FG r0 g0 g ⟨rfl,rfl,e⟩ i;exact((h e).fr (pd p)) fs rr gg f a CT A s F FG [] [] g ⟨rfl,rfl,e⟩ i
def fz(init:List PySem.Str)(last:PySem.Str):List PySem.Str:=init.map nlAdd++(if last.cps.toList=[]then[]else[last])
theorem Br{FL k1:Nat}(y:iX s=init++[last])(z:1<=s.length)(A:s.length<=9000)(B:∀x∈init,x.length<=9000)(E:init.length<=9000)(q:last.cps.toList.length<=52):
  rh acj vn bL 50 (.func (bJ (dH 16)) (v8 FL)) [(FL,Bi k1 t0 s)] bV (fz init last) (λv v b=>(.ok (.ret .none),[])) (λv=>bV) []:=by
 have len:∀(b:L2),(b.l 0).map txt=init.map some->(b.l 0).length<=10000:=λb h=>by
  have:=b8 List.length h;rw[fb,fb]at this;omega
 by_cases he:last.cps.toList=[]
 ·have e:last=⟨⟨[]⟩⟩:=by
   cases last with
   |mk cps=>cases cps;simp only at he;subst he;rfl
  subst e;exists bG.o,Bl FL k1 t0 s (WU init) (WV init),0;exists bx,tK y z (by exact cu A (by decide));intro G r a _ _;skip;exists bx,bE.pure λd=>tL (len _ d);intro u H g _ _;refine cR rfl ?_;intro p _;refine cE (σ':=[]) rfl (bG.pure λd=>?_) ?zk;case zk=>(intro I J i _ _;exists bx,bE.pure λd=>kM (len _ d);intro N t b _ _;exact bA b (λr0 g0 h=>⟨h.1,h.2.1⟩))
  exact(@Bq acj bL FL k1 t0 r u (g.n 0) (a.n 0) (a.n 2) s (a.l 0) (a.l 0++[.str ⟨⟨[]⟩⟩ (a.n 1)]) [] init d B).mono (room':=47) (by decide)
 ·obtain⟨f,C⟩:=G7 last.cps.toList;have e:last=⟨⟨Bj f last.cps.toList.length⟩⟩:=by
   cases last with
   |mk cps=>cases cps;simp only at C ⊢;rw[<-C]
  have e2:fz init last=init.map nlAdd++[last]:=by
   unfold fz;rw[bu he]
  have K:last.cps.toList.length≠0:=λh=>he (Gc.mp h);rw[e2];generalize last.cps.toList.length=k at *;subst e;have L:k∈[1,2,3,4,5,6,7,8,9,10,11,12,13,14,15,16,17,18,19,20,21,22,23,24,25,26,27,28,29,30,31,32,33,34,35,36,37,38,39,40,41,42,43,44,45,46,47,48,49,50,51,52]:=(by decide +kernel:∀k<53,k≠0->k∈[1,2,3,4,5,6,7,8,9,10,11,12,13,14,15,16,17,18,19,20,21,22,23,24,25,26,27,28,29,30,31,32,33,34,35,36,37,38,39,40,41,42,43,44,45,46,47,48,49,50,51,52]) k (sE q) K;exists bG.o,Bk FL k1 t0 s f (WU init) (WV init) k L,0;exists bx,tK y z (by exact cu A (by decide));intro G r a _ _;skip;exists bx,bE.pure λd=>tL (len _ d);intro u H g _ _;refine cR rfl ?_;intro p _;refine cE (σ':=[⟨⟨Bj f k⟩⟩]) rfl (bG.pure λd=>?_) ?zk;case zk=>(intro I J i _ _;exists bx,bE.pure λd=>kM (len _ d),0;exists bx,bE.pure λd=>kM (len _ d);intro P Q m _ _;refine cQ (x:=_) (σ':=[]) rfl (⟨_,rfl,rfl⟩) ?_;intro N t _ _;exact bA m (λr0 g0 h=>⟨h.1,h.2.1⟩))
  exact(@Bq acj bL FL k1 t0 r u (g.n 0) (a.n 0) (a.n 2) s (a.l 0) (a.l 0++[.str ⟨⟨Bj f k⟩⟩ (a.n 1)]) [⟨⟨Bj f k⟩⟩] init d B).mono (room':=47) (by decide)
noncomputable def rj:List Nat:=[95,108,105,110,101,115]
def UE(s:PySem.Str)(t:Nat):cX where
 c:=.call (.ref 335) ⟨[.str s t],[]⟩
 pre:=[]
 out _ _ a:=(rV (.ref (a.n 0)),[((a.n 0),cc (iJ a rj))])
theorem II(f:iX s=init++[last])(i:1<=s.length)(k:s.length<=9000)(l:∀x∈init,x.length<=9000)(b:init.length<=9000)(d:last.cps.toList.length<=52){room:Nat}(m:40<=room):
  cN room (UE s t0) bV (λa=>fC 50 vn (ie bV) (a.n 1) bV (fz init last)):=by
 refine bE.mono (room:=40) (bE.o rfl (D0 s t0) ?_) m;intro u N t _;intro g;refine cB rfl rfl (?_);rintro r0 g0 ⟨e,q,rfl⟩;have z:vj 50 vn (ie bV) g (fz init last) ([(N,Bi t t0 s)]++r0) ((g,.fresh (.func (bJ (dH 16)) (v8 N)))::e):=
  nP.fresh (Br f i k l b d) (by decide) (λN t a r g h=>⟨_,g,⟨rfl,h⟩,.refl _,.refl _⟩) q
 refine⟨cV [N+1,g,t+1,t+2],_,_,rfl,⟨_,_,.refl _,.refl _,.inl z⟩,?_,.refl _⟩;exact .swap _ _ _
end
end
section
open PySem.Meets PySem.Builtin PySem.Builtin.Str
variable{x:Int}{a n t:Nat}{xs:List Value}
noncomputable abbrev D3:String:=PySem.W.SZ.s17016399989312754722x8
theorem wa:"str.join" = D3:=PySem.W.SZ.e17016399989312754722x8
noncomputable abbrev UF:String:=PySem.W.SZ.s9290617385737656809x15
theorem Bs:"str.__getitem__" = UF:=PySem.W.SZ.e9290617385737656809x15
def tM(x:Int)(t:Nat)(y:Int)(u:Nat)(r:Int):cX where
 c:=.builtin Uv ⟨[.int x t,.int y u],[]⟩
 pre:=[]
 out _ _ b:=(rV (.int r (b.n 0)),[])
def qT(a:Nat)(xs:List Value)(n:Nat)(b:Nat)(ys:List Value)(m:Nat):cX where
 c:=.builtin GL ⟨[.ref a,.ref b],[]⟩
 pre:=[(a,br xs n),(b,br ys m)]
 out _ _ d:=(rV (.ref (d.n 0)),[(d.n 0,br (xs++ys) 0),(a,br xs n),(b,br ys m)])
def ZX(a:Nat)(xs:List Value)(n:Nat)(x:Int)(t:Nat)(b:Bool):cX where
 c:=.builtin tj ⟨[.ref a,.int x t],[]⟩
 pre:=[(a,br xs n)]
 out _ _ _:=(rV (.bool b),[(a,br xs n)])
noncomputable def iQ(l:List (List Nat×Nat)):List Value:=l.map λp=>.str ⟨⟨p.1⟩⟩ p.2
def MI(t a:Nat)(l:List (List Nat×Nat))(n:Nat):cX where
 c:=.builtin D3 ⟨[.str ⟨⟨[]⟩⟩ t,.ref a],[]⟩
 pre:=[(a,br (iQ l) n)]
 out _ _ b:=(rV (.str ⟨⟨(l.map (·.1)).flatten⟩⟩ (b.n 0)),[(a,br (iQ l) n)])
section
variable{prog:Program}{w:World}{kt:KT}{os:OsState}{room:Nat}
theorem ff{y r:Int}{u:Nat}(d:y≠0)(h:x.fmod y=r):dq prog w kt os room (tM x t y u r) bV (λv=>bV):=by
 refine bE.dx (b:=Builtin.«int.__mod__») (by rw[<-AO];decide +kernel) (by rw[<-AO];exact entryFor_of_tree (by kernel_rfl)) (mG (PySem.AutoIntG6.int___mod___int_int_1 x t y u (by simpa using d))) ?_;intro A R s F FG _ c k;have z:=k { s with toks:=s.toks+1 } (l1 s.toks) (c.toks _);rw[<-h]at z;exact z
theorem j6{b m:Nat}{ys:List Value}(d:xs.length+ys.length<=cZ):dq prog w kt os room (qT a xs n b ys m) bV (λy=>bV):=by
 refine bE.dx (b:=Builtin.«list.__add__») (by rw[<-AM];decide +kernel) (by rw[<-AM];exact entryFor_of_tree (by kernel_rfl)) (PySem.AutoSeq1.list___add___list_list_0 a ⟨xs⟩ n b ⟨ys⟩ m (by
  have:=lW (l:=xs++ys) (by simpa using d);simpa using this)) ?_
 intro A R s F FG _ c k;refine⟨by rw[<-dW];exact c.own _ (.head _),by rw[<-dW];exact c.own _ (.tail _ (.head _)),?_⟩;refine k _ (l1 s.heap.objs.size) ?_;have z:=(c.alloc (o:=br (xs++ys) 0) rfl)
 have e:((⟨xs⟩:Array Value)++⟨ys⟩)=⟨xs++ys⟩:=by simp
 have e2:br (xs++ys) 0 = { cls:=Value.type "list",data:=Data.seq ((⟨xs⟩:Array Value)++⟨ys⟩) }:=by rw[dW,e]
 rw[<-e2];exact z
theorem Bt{b:Bool}(ys:List (Int×Nat))(d:xs=ys.map λp=>.int p.1 p.2)(h:(ys.any λp=>p.1==x)=b):dq prog w kt os room (ZX a xs n x t b) bV (λu=>bV):=by
 refine bE.dx (b:=Builtin.«list.__contains__») (by rw[<-nc];decide +kernel) (by rw[<-nc];exact entryFor_of_tree (by kernel_rfl)) (PySem.MeetsSeq.list_contains a ⟨xs⟩ n (.int x t) (λv=>match v with|.int y _=>y==x|_=>false) (by
  subst d;intro y f;obtain⟨p,_,rfl⟩:=dO.1 (Array.mem_def.1 f);exact PySem.MeetsSeq.EqGives.int _ _ _ _)) ?_
 intro A R s F FG _ c k;refine⟨by rw[<-dW];exact c.own _ (.head _),?_⟩;have z:=k s (l1 0) c;have e:(Array.any ⟨xs⟩ λv=>match v with|.int y _=>y==x|_=>false)=b:=by
  subst d;rw[<-h,List.any_toArray,List.any_map];rfl
 rw[e];exact z
theorem tN:∀(l:List (List Nat))(di:List Nat),(l.map λx=>(⟨⟨x⟩⟩:PySem.Str)).foldl (λdi p=>di++(⟨⟨[]⟩⟩:PySem.Str).cps++p.cps) (⟨di⟩:Array Nat)=⟨di++l.flatten⟩
 |[],di=>by simp
 |x::l,di=>by
  rw[fN,List.foldl_cons];have e:(⟨di⟩:Array Nat)++(⟨⟨[]⟩⟩:PySem.Str).cps++(⟨⟨x⟩⟩:PySem.Str).cps=⟨di++x⟩:=by simp
  rw[e,tN l,List.flatten_cons,bQ]
theorem IJ(l:List (List Nat)):Builtin.Str.glued (⟨⟨[]⟩⟩:PySem.Str) (l.map λx=>(⟨⟨x⟩⟩:PySem.Str))=⟨⟨l.flatten⟩⟩:=by
 cases l with
 |nil=>rfl
 |cons x l=>
  unfold Builtin.Str.glued;rw[fN,List.drop_one,List.tail_cons];show(⟨_⟩:PySem.Str)=_;rw[show(List.headD ((⟨⟨x⟩⟩:PySem.Str)::l.map λx=>(⟨⟨x⟩⟩:PySem.Str)) PySem.Str.empty).cps=(⟨x⟩:Array Nat)from rfl,tN l x];rfl
theorem wb:∀(l:List (List Nat))(k:Nat),(l.map λx=>(⟨⟨x⟩⟩:PySem.Str)).foldl (λa p=>a+p.length+(⟨⟨[]⟩⟩:PySem.Str).length) k=k+l.flatten.length
 |[],k=>by exact rfl
 |x::l,k=>by
  rw[fN,List.foldl_cons,wb l,List.flatten_cons,c5];show k+x.length+0+_=_;omega
theorem jk{l:List (List Nat×Nat)}(j:(l.map (·.1)).flatten.length<=100000):dq prog w kt os room (MI t a l n) bV (λy=>bV):=by
 have f:(l.map λp=>((⟨⟨p.1⟩⟩:PySem.Str),p.2)).map (·.1)=(l.map (·.1)).map λx=>(⟨⟨x⟩⟩:PySem.Str):=by simp
 have d:tooLong (((l.map λp=>((⟨⟨p.1⟩⟩:PySem.Str),p.2)).map (·.1)).toArray.foldl (· + ·.length+(⟨⟨[]⟩⟩:PySem.Str).length) 0)=false:=by
  rw[f];have e2:=wb (l.map (·.1)) 0;have e3:((l.map (·.1)).map λx=>(⟨⟨x⟩⟩:PySem.Str)).toArray.foldl (λa p=>a+p.length+(⟨⟨[]⟩⟩:PySem.Str).length) 0=0+(l.map (·.1)).flatten.length:=by simpa using e2
  rw[e3];unfold tooLong;rw[show sizeLine=16777216 from by decide];exact h8 (by omega)
 refine bE.dx (b:=Builtin.«str.join») (by rw[<-wa];decide +kernel) (by rw[<-wa];exact entryFor_of_tree (by kernel_rfl)) (meets_str_join_list ⟨⟨[]⟩⟩ t a (l.map λp=>(⟨⟨p.1⟩⟩,p.2)) d) ?_;intro A R s F FG _ c k;have ho:=c.own (a,br (iQ l) n) (.head _);refine⟨⟨_,ho,?_⟩,post_join _ ⟨joinFit_length d,λg h=>?_⟩⟩
 ·refine⟨by show Value.type Gq=_;rw[<-oQ],n,?_⟩;show Data.seq ⟨iQ l⟩ n=_;have e:strValues (l.map λp=>((⟨⟨p.1⟩⟩:PySem.Str),p.2))=iQ l:=by simp[iQ,strValues]
  rw[e]
 ·have z:=k { s with toks:=h } (l1 g) (c.toks _);have i:Txt.join ⟨⟨[]⟩⟩ ((l.map λp=>((⟨⟨p.1⟩⟩:PySem.Str),p.2)).map (·.1))=⟨⟨(l.map (·.1)).flatten⟩⟩:=by
   rw[f];exact IJ _
  rw[i];exact z
end
end
section
open PySem.Meets PySem.Builtin PySem.Builtin.Str
noncomputable abbrev WW:String:=PySem.W.SZ.s13014049009108672802x3
theorem rX:"len" = WW:=PySem.W.SZ.e13014049009108672802x3
def ltC(x:Int)(t:Nat)(y:Int)(u:Nat)(b:Bool):cX where
 c:=.builtin ZH ⟨[.int x t,.int y u],[]⟩
 pre:=[]
 out _ _ a:=(rV (.bool b),[])
def wc(x:List Nat)(t:Nat)(n:Int):cX where
 c:=.builtin WW ⟨[.str ⟨⟨x⟩⟩ t],[]⟩
 pre:=[]
 out _ _ a:=(rV (.int n (a.n 0)),[])
def Bu(a b:Value):Obj:=⟨.type qa,none,.fields ⟨[a,b,.none]⟩,#[]⟩
def WX(x:List Nat)(t a:Nat)(d e:Value)(y:List Nat):cX where
 c:=.builtin UF ⟨[.str ⟨⟨x⟩⟩ t,.ref a],[]⟩
 pre:=[(a,Bu d e)]
 out _ _ b:=(rV (.str ⟨⟨y⟩⟩ (b.n 0)),[])
def QU(x:List Nat)(t:Nat)(y:List Nat)(u:Nat)(b:Bool):cX where
 c:=.builtin ZI ⟨[.str ⟨⟨x⟩⟩ t,.str ⟨⟨y⟩⟩ u],[]⟩
 pre:=[]
 out _ _ a:=(rV (.bool b),[])
end
theorem dr.dG{P:Params}{B:bH}{a:Nat}{o:Obj}(h:dr P B a o):∀r0 g0,ce B r0 g0->(a,o)∈r0\/(bY P).get a=some o:=by
 rintro r0 g0 ⟨rfl,rfl⟩;exact h
def WY(x:fD)(a d:Nat)(ct:List Value)(b c:Nat):bK:=⟨.call (.ref 216) ⟨[.ref x.S],[(⟨⟨[101,111,102]⟩⟩,.bool false)]⟩,bF x++[(x.PB,br [.ref a] b),(x.CT,br ct c),(a,ey d)],λN t=>.con (ee x.CT ct c (.ref a)) λe f l2=>
  .fin (rV (.ref a)) (bF x++[(x.PB,br [] (b+1)),(x.CT,br (ct++[.ref a]) (l2.n 0)),(a,ey d)])⟩
theorem D4 x a d ct n1 n2:RP 400 2 [T5,nU 0x1666 0x100111 0 0 0] (WY x a d ct n1 n2):=.a
def WZ(x:fD)(c:Ch)(ct:List Value)(a b:Nat):bK:=⟨.call (.ref 216) ⟨[.ref x.S],[(⟨⟨[101,111,102]⟩⟩,.bool false)]⟩,bF x++[(x.PB,br [] a),(x.CT,br ct b),(x.gn.g,cc x.gn)],λN t=>.con { c:=fe x.gn.g,pre:=[(x.gn.g,cc x.gn)],out:=λz z l=>(rV (.ref (l.n 0)),[(x.gn.g,cc x.gn),(l.n 0,ey (l.n 1))]) } λz z l=>.con (ee x.CT ct b (.ref (l.n 0))) λd e l2=>
  .fin (rV (.ref (l.n 0))) (bF x++[(x.PB,br [] a),(x.CT,br (ct++[.ref (l.n 0)]) (l2.n 0)),(x.gn.g,cc x.gn),(l.n 0,ey (l.n 1))])⟩
theorem D5 x c ct n1 n2:RP 400 2 [LK,T6,nU 0x1777 0x1000333 0 0 0] (WZ x c ct n1 n2):=.a
section
def eS(s:Stmt):Expr:=(sp s).e
def QV(e:Expr):Expr:=(ep e).e2
def kN(e:Expr):Scope:=(ep e).s
def GE:Expr:=QV (eS (b9 (dc 10 4) 0))
variable(C:Nat)(cd:Value)(it ct:Nat)(n k1:Nat)(j:Nat)(F:Obj)(xs:List Value)
def pf:Env:=⟨kN GE,C,3,[],q Dn,none,cd,some C,0⟩
def pg(it:Nat):Obj:=cD [eW [46,48] k1 (.ref it)] 1
def Bv(it k2:Nat)(v:Value):Obj:=cD [eW [46,48] k1 (.ref it),eW [99] k2 v] 2
def gj(L:bH):cX where
 c:=.compLoop GE 0 (.ref it) .none (pf C cd)
 pre:=[(C,F),(it,eB ct j),(ct,br xs n)]++L
 out _ _ a:=(oN,[(ct,br xs n)]++L)
def ac1(k1:Nat)(xs:List Value)(a:gv)(c:Ch):bK:=⟨.compLoop GE 0 (.ref it) .none (pf C cd),[(C,pg k1 it),(it,eB ct j),(ct,br xs n),(a.a,ey a.d),(a.d,lk a c)],λN t=>.con (dd it ct j xs n (.ref a.a)) λe b l1=>.jf (.str ⟨⟨[c.code]⟩⟩ a.st) [] [C,it,ct,a.a,a.d] λN t=>
  .con (gj C cd it ct n (j+1) (Bv k1 it b (.ref a.a)) xs [(a.a,ey a.d),(a.d,lk a c)]) λN t l=>.fin oN [(ct,br xs n),(a.a,ey a.d),(a.d,lk a c)]⟩
def D6(c:Bool):List Num:=match c with
 |false=>[xT,.n (.b Qn 0 0 2 0x100002 0) 0,.z (.a 0x11 0x100000 0 0) 60,.z (.a 0 0x1000 0 0) 0]
 |true=>[xT,.n (.b Qn 0 0 2 0x100002 0) 0,.z (.a 0x11 0x100000 0 0) 60,.z (.a 0 0x1000 0 0) 0]
theorem MJ k1 xs a c:RS 60 0 (D6 b2) (ac1 C cd it ct n j k1 xs a c):=.d (f:=D6)
def ac2(k1 k2:Nat)(v:Value)(xs:List Value)(a:gv)(c:Ch):bK:=⟨.compLoop GE 0 (.ref it) .none (pf C cd),[(C,Bv k1 it k2 v),(it,eB ct j),(ct,br xs n),(a.a,ey a.d),(a.d,lk a c)],λN t=>.con (dd it ct j xs n (.ref a.a)) λb e l1=>.jf (.str ⟨⟨[c.code]⟩⟩ a.st) [] [C,it,ct,a.a,a.d] λN t=>
  .con (gj C cd it ct n (j+1) (Bv k1 it k2 (.ref a.a)) xs [(a.a,ey a.d),(a.d,lk a c)]) λN t l=>.fin oN [(ct,br xs n),(a.a,ey a.d),(a.d,lk a c)]⟩
def D7(c:Bool):List Num:=match c with
 |false=>[xT,.n (.b Qn 0 0 2 0x100002 0) 0,.z (.a 0x11 0x100000 0 0) 60,.z (.a 0 0x1000 0 0) 0]
 |true=>[xT,.n (.b Qn 0 0 2 0x100002 0) 0,.z (.a 0x11 0x100000 0 0) 60,.z (.a 0 0x1000 0 0) 0]
theorem ML k1 k2 v xs a c:RS 60 0 (D7 b2) (ac2 C cd it ct n j k1 k2 v xs a c):=.d (f:=D7)
def geE:bK:=⟨.compLoop GE 0 (.ref it) .none (pf C cd),[(C,F),(it,eB ct j),(ct,br xs n)],λN t=>.con (eV it ct j xs n) λa b l1=>.fin oN [(ct,br xs n)]⟩
def G8(b:Bool):List Num:=match b with
 |false=>[xT,.z (.a 0x11 0x12 0 0) 0]
 |true=>[xT,.z (.a 0x11 0x12 0 0) 0]
theorem G9:RS 60 0 (G8 b2) (geE C cd it ct n j F xs):=.d (f:=G8)
def geS:bK:=⟨.compStart GE 0 (.ref it) .none (pf C cd),[(C,pg k1 it),(it,eB ct 0),(ct,br xs n)],λN t=>.con (gj C cd it ct n 0 (pg k1 it) xs []) λN t l=>.fin oN [(ct,br xs n)]⟩
noncomputable def MM(b:Bool):List Num:=match b with
 |false=>[.z (.a 0x11202022 0x1000 0 0) 70,.z (.a 0 0x10 0 0) 0]
 |true=>[.z (.a 0x11 0x1000 0 0) 70,.z (.a 0 0x10 0 0) 0]
theorem QW:RS 70 0 (MM b2) (geS C cd it ct n k1 xs):=.d (f:=MM)
end
section
variable(x:fD)(a d:Nat)(ct:List Value)(n1 n2:Nat)
def W0:bK:=⟨.call (.ref 216) ⟨[.ref x.S],[]⟩,bF x++[(x.PB,br [.ref a] n1),(x.CT,br ct n2),(a,ey d)],λN t=>.con (ee x.CT ct n2 (.ref a)) λb c l2=>
  .fin (rV (.ref a)) (bF x++[(x.PB,br [] (n1+1)),(x.CT,br (ct++[.ref a]) (l2.n 0)),(a,ey d)])⟩
theorem D8:RP 400 2 [T5,nU 0x166 0x100111 0 0 0] (W0 x a d ct n1 n2):=.a
def W1(c:Ch)(ct:List Value)(n1 n2:Nat):bK:=⟨.call (.ref 216) ⟨[.ref x.S],[]⟩,bF x++[(x.PB,br [] n1),(x.CT,br ct n2),(x.gn.g,cc x.gn)],λN t=>.con { c:=fe x.gn.g,pre:=[(x.gn.g,cc x.gn)],out:=λz z l=>(rV (.ref (l.n 0)),[(x.gn.g,cc x.gn),(l.n 0,ey (l.n 1))]) } λz z l=>.con (ee x.CT ct n2 (.ref (l.n 0))) λb e l2=>
  .fin (rV (.ref (l.n 0))) (bF x++[(x.PB,br [] n1),(x.CT,br (ct++[.ref (l.n 0)]) (l2.n 0)),(x.gn.g,cc x.gn),(l.n 0,ey (l.n 1))])⟩
theorem D9 c ct n1 n2:RP 400 2 [LK,T6,nU 0x177 0x1000333 0 0 0] (W1 x c ct n1 n2):=.a
def W2:bK:=⟨.call (.ref 216) ⟨[.ref x.S],[]⟩,bF x++[(x.PB,br [] n1),(x.CT,br ct n2),(x.gn.g,cc x.gn)],λN t=>.con { c:=fe x.gn.g,pre:=[(x.gn.g,cc x.gn)],out:=λz z l=>(.error (.ref (l.n 0)),[(l.n 0,fw (l.n 1)),(x.gn.g,cc x.gn)]) } λz z l=>
  .fin (rV .none) (bF x++[(x.PB,br [] n1),(x.CT,br ct n2),(x.gn.g,cc x.gn)])⟩
theorem Ea:RP 400 2 [LK,nU 0x1777771 0x112222 0 1 0] (W2 x ct n1 n2):=.a
def W3:bK:=⟨.call (.ref 223) ⟨[.ref x.S,.ref a],[]⟩,bF x++[(x.PB,br [] n1),(x.CT,br (ct++[.ref a]) n2),(a,ey d)],λN t=>.con (Aw x.CT (.ref a) ct n2 (t+4)) λb c l2=>
  .fin (rV .none) (bF x++[(x.PB,br [.ref a] (n1+1)),(x.CT,br ct (l2.n 0)),(a,ey d)])⟩
theorem Eb:RP 400 2 [nU 0x11400044442011000001000000160005000560066660 0x13 1 5 397,nU 0x1444040644443022000002000000260 0x100111 0 2 0] (W3 x a d ct n1 n2):=.a
end
section
def gO(e:Expr):Expr:=(ep e).e2
def n5(s:Stmt):List Expr:=(sp s).es
variable(x:fD)(FL k1:Nat)(k2 tt:Nat)(ty:List Nat)
def eX:Env:=hV (dc 10 4) FL (q Do) 230 229
def gW(S:Nat)(ty:List Nat)(tt:Nat):Obj:=cD [eW eG k1 (.ref S),eW sS k2 (.str ⟨⟨ty⟩⟩ tt)] 2
def tO(k3 S:Nat)(ty:List Nat)(tt:Nat)(v:Value):Obj:=cD [eW eG k1 (.ref S),eW sS k2 (.str ⟨⟨ty⟩⟩ tt),eW qI k3 v] 3
noncomputable abbrev Ec:String:=PySem.W.SZ.s8788111523789015523x23
theorem IK:"object.__getattribute__" = Ec:=PySem.W.SZ.e8788111523789015523x23
def W4:eT:=⟨PySem.W.R.bindR (PySem.W.ZFast.zw1381439984260040727 (.ref 446) (q (uS 0x5f5f6765746174747269627574655f5f))) λo=>.pure (.done (.ret (match o with|some v=>v|none=>.none))),[],λN t=>.fin (rV (.builtin Ec)) []⟩
theorem MN:lD 100 [nU 0x100000 0 0 0 0] (W4):=
 eH.b
def W5(e:Expr)(env:Env):Sem PySem.Fin:=PySem.W.R.bindR (PySem.W.ZFast.zw14044960220447912780 e env) λv=>.pure (.done (.ret v))
def cJ(e:Expr):Expr:=(ep (ep e).e).e
def MO:eT:=⟨W5 (cJ (eS (b9 (dc 10 4) 0))) (eX FL),[],λN t=>.fin (rV (.str ⟨⟨[]⟩⟩ t)) []⟩
theorem IL:lD 100 [nU 0 0 0 1 0] (MO FL):=
 eH.b
def W6:eT:=⟨PySem.W.R.bindR (PySem.W.ZFast.zw14684505520029207082 (.ref x.S)) λv=>.pure (.done (.ret v)),bF x,λN t=>.fin (rV (.ref 446)) (bF x)⟩
theorem MP:lD 100 [nU 0x11 0x100 0 0 0] (W6 x):=
 eH.b
def kO(e:Expr):Expr:=(ep e).e
def MQ:eT:=⟨W5 (kO (gO GE)) (eX FL),[(FL,gW k1 k2 x.S ty tt)],λN t=>.fin (rV (.ref x.S)) [(FL,gW k1 k2 x.S ty tt)]⟩
theorem Ed:lD 100 [Gz] (MQ x FL k1 k2 tt ty):=
 eH.b
noncomputable abbrev yL:String:=PySem.W.SZ.s12821932242650758744x20
theorem Ee:"proto.getattr_hooked" = yL:=PySem.W.SZ.e12821932242650758744x20
def W7(tk:Nat):bK:=⟨.builtin yL ⟨[.ref x.S,.str (q oP) tk],[]⟩,bF x,λN t=>.fin (rV (.ref x.CT)) (bF x)⟩
theorem Ef tk:RP 100 0 [nU 0x12011000001 0x100 0 0 0] (W7 x tk):=.a
def W8(FL it:Nat)(cd:Value):eT where
 t:=PySem.W.R.bindR (PySem.W.ZFast.zw6600643334278800223 3 0) λb=>PySem.W.R.bindR (PySem.W.ZFast.zw11113344188204177931 (kN GE) 3 [] [(q [46,48],.ref it)] (q Dn) none cd none b) λa=>
  PySem.W.R.bindR (PySem.W.ZFast.zw2426001476595277715 (.compStart GE 0 (.ref it) .none a) (q (uS 0x3c67656e657870723e)) (q Ln)) λv=>.pure (.done (.ret v))
 pre:=[]
 lB N t:=.gen (.compStart GE 0 (.ref it) .none (pf N cd)) λg=>.fin (rV (.ref (N+1))) [(N,pg t it),(N+1,jX g (t+1) ⟨⟨[60,103,101,110,101,120,112,114,62]⟩⟩ (t+2) ⟨⟨[72,97,110,100,76,101,120,101,114,66,97,115,101,46,101,109,105,116,46,60,108,111,99,97,108,115,62,46,60,103,101,110,101,120,112,114,62]⟩⟩)]
theorem MR it cd:lD 100 [nU 0x11100 0 0 0 0,nU 0 0x100 2 3 0] (W8 FL it cd):=
 eH.b
def W9(s:Str)(u:Nat):eT:=⟨PySem.W.R.bindR (PySem.W.ZFast.zw15591190973536708279 (.str s u) [PySem.W.ZFast.zw17772580674575903948 ((n5 (b9 (dc 10 4) 0)).getD 0 (.Constant .none 0 default)) (eX FL)]) λz=>.pure (.done (.ret .none)),[(FL,gW k1 k2 x.S ty tt)],λN t=>.fin (rV .none) [(FL,tO k1 k2 t x.S ty tt (.str s u))]⟩
theorem MT s u:lD 100 [nU 0x111 0x10 0 1 0] (W9 x FL k1 k2 tt ty s u):=
 eH.b
end
section
variable{FL R k1 room:Nat}{E X:b7}{c:Ch}{σ:List Ch}{y:fJ}{Up:List Ch->b7}
theorem bG.lose{prog:Program}{w:World}{kt:KT}{os:OsState}{c:Code}{pre L:bH}{out:Nat->Nat->L2->Result×bH}{X':L2->b7}{b:Type}{acj:Nat}{d:b->Value->bH->Prop}{bL:Result->bH->bR->Prop}{σ σ':List b}(h:bG prog w kt os acj d bL room c pre X σ out X' σ'):bG prog w kt os acj d bL room c (pre++L) X σ out X' σ':=by
 intro fs rr gg e a CT A s F FG r0 g0 f g i;refine h fs rr gg e a CT A s F FG r0 g0 f g (Sat.drop (R:=L) (Sat.perm i ?_));rw[bQ,bQ];refine fZ _ ?_;exact fu
noncomputable def qU:List Nat:=[10,12,13,32,33,34,35,39,40,42,43,45,46,47,48,49,50,56,57,59,61,62,63,70,76,95,97,98,99,101,110,113,117,120,121,122]
theorem Ha{n:Nat}(h:n∈qU):n∈WJ\/93<=n:=by
 revert h;revert n;decide +kernel
def Kl(c:Ch):Prop:=c.code=92\/c.code∈qU
noncomputable def lp:List Ch->List Ch
 |[]=>[]
 |c::cs=>if c.code=92 then(match cs with
   |[]=>[]
   |d::a=>if d.code=10\/d.code=13 then lp a else c::d::lp a)else c::lp cs
theorem Eg(h:c.code≠92):lp (c::σ)=c::lp σ:=by cases σ<;>exact bu h
theorem ab7{d:Ch}(h:c.code=92):lp (c::d::σ)=if d.code=10\/d.code=13 then lp σ else c::d::lp σ:=bP h
section
structure ZY(w:World)(b1 b2:Bool)(os:OsState)(R:Nat)(y:fJ)(Up:List Ch->b7):Prop where(next:∀c σ room,R<=room->cN room (kJ y c) (Up (c::σ)) (λz=>Up σ))(stop:∀room,R<=room->cN room (yH y) (Up []) (λz=>Up []))
abbrev e9:=@ZY w b1 b2 os
def UG(w:World)(a b:Bool)(os:OsState)(R:Nat)(y:fJ)(Up:List Ch->b7)(E:b7):Prop:=∀room,R<=room->cN room (yH y) (Up []) (λz=>E)
abbrev jL:=@UG w b1 b2 os
theorem we(a:jh (bY w.params)):jL (R+10) y (fC R (qR w.params) (ie X) y.i X) (star (gm y.i) X):=
 λroom b=>IB a (λr L d h=>h) b
theorem qc(f:jh (bY w.params)):e9 (R+10) y (fC R (qR w.params) (ie X) y.i X)where
 next c σ room hr:=AA (v:=λb=>.ref (b.n 0)) (d:=λb=>dJ (e8 b) c) f
  (λa it ⟨z,e,e2⟩=>⟨cV [z.a,z.d,z.l,z.sd,z.k1,z.k2,z.ct,z.rt,z.lt,z.st],e,e2⟩) hr
 stop room hr:=AB f (λr L g h=>h) hr
variable{acj:Nat}{bL:Result->bH->bR->Prop}
theorem QX(n:Nat)(h:n=92\/n∈qU):ri ⟨⟨[13,10]⟩⟩ n=(decide (n=10\/n=13)):=by
 rcases h with rfl|h
 ·decide +kernel
 ·revert h;revert n;decide +kernel
theorem Hb{y:fJ}{Up:List Ch->b7}(j:e9 290 y Up){E:b7}(z:jL 290 y Up E){FL k1 k2:Nat}:∀(n:Nat)(σ:List Ch),σ.length<=n->(∀c∈σ,Kl c)->
  (∀k3 bs ch,bs=.none\/bs=.bool false->jJ acj (qR w.params) bL 300 (hH FL y (lm y k1 k2 k3 bs ch) []) (Up σ) (lp σ) (λZ=>E) [])/\
  (∀k3 ch (a:gv) (b:Ch),b.code=92->jJ acj (qR w.params) bL 300 (hH FL y (lm y k1 k2 k3 (.ref a.a) ch) (dJ a b)) (Up σ) (lp (b::σ)) (λZ=>E) [])
 |n,[],Y,V=>by
  have en:∀F:Obj,jJ acj (qR w.params) bL 300 (hH FL y F []) (Up []) [] (λZ=>E) []:=λF=>by
   exists bG.o,G1 y FL F,0;exists bx,z _ (by decide);intro N t f _ _;exact bA f
  refine⟨λk3 bs ch Z=>en _,λk3 ch a b m=>?_⟩;have e:lp [b]=[]:=bP m;rw[e];exact(en _).lose (L:=dJ a b)
 |0,c::σ,p,Y=>by simp at p
 |n+1,c::σ,p,ok=>by
  have r:σ.length<=n:=by rw[List.length_cons]at p;exact Nat.le_of_lt_succ p
  have s:∀c∈σ,Kl c:=λd hd=>ok d (.tail _ hd);have hc:=ok c (.head _);have q:=@Hb y Up j E z FL k1 k2 n σ r s;constructor
  ·intro k3 bs ch i;rcases hc with hc|hc
   ·obtain⟨A,cr,cl,u⟩:=c;obtain rfl:A=92:=hc;exists bG.o,Mx y FL k1 k2 k3 i ch ⟨92,cr,cl,u⟩,0;exists bx,j.next ⟨92,cr,cl,u⟩ σ _ (by decide);intro v x g _ _;refine cE (σ':=[]) rfl (q.2 k3 _ (e8 g) ⟨92,cr,cl,u⟩ rfl) ?_;intro N t f _ _;exact bA f
   ·have hn:c.code≠92:=λe=>by rw[e]at hc;revert hc;decide
    have e:lp (c::σ)=c::lp σ:=Eg hn;rw[e];exists bG.o,Mv y FL k1 k2 k3 i ch c c.code (Ha hc),0;exists bx,j.next c σ _ (by decide);intro v x g _ _;exists cQ,⟨_,rfl,rfl⟩,0;refine cE (σ':=[]) rfl (q.1 k3 _ _ i) ?_;intro N t f _ _;exact bA f
  ·intro k3 ch a b m;have h:=QX c.code hc;by_cases hd:c.code=10\/c.code=13
   ·have e:lp (b::c::σ)=lp σ:=(ab7 m).trans (bP hd);rw[e];rw[i9 hd]at h;exists bG.o,My y FL k1 k2 k3 ch a b c,0;exists bx,j.next c σ _ (by decide);intro v x g _ _;exists bz,ik h,0;refine cE (σ':=[]) rfl (q.1 k3 _ _ (.inr rfl)) ?_;intro N t f _ _;exact bA f
   ·have e:lp (b::c::σ)=b::c::lp σ:=(ab7 m).trans (bu hd);rw[e];rw[h8 hd]at h;exists bG.o,Mz y FL k1 k2 k3 ch a b c,0;exists bx,j.next c σ _ (by decide);intro v x g _ _;exists bz,ik h,0;exists cQ,⟨a,rfl,rfl⟩,0;exists cQ,⟨e8 g,rfl,rfl⟩,0;refine cE (σ':=[]) rfl (q.1 k3 _ _ (.inr rfl)) ?_;intro N t f _ _;exact bA f
theorem MU(f:e9 290 y Up)(i:jL 290 y Up E){k2:Nat}:∀(σ:List Ch),(∀c∈σ,Kl c)->
  jJ acj (qR w.params) bL 300 (hH FL y (GZ y k1 k2 .none) []) (Up σ) (lp σ) (λz=>E) []
 |[],Y=>by
  exists bG.o,G1 y FL _,0;exists bx,i _ (by decide);intro N t a _ _;exact bA a
 |c::σ,ok=>by
  have g:∀c∈σ,Kl c:=λd hd=>ok d (.tail _ hd);have k:=λR EP=>@Hb R EP y Up f E i FL k1 k2 σ.length σ (cO _) g;rcases ok c (.head _)with hc|hc
  ·obtain⟨l,cr,cl,h⟩:=c;obtain rfl:l=92:=hc;exists bG.o,Mw y FL k1 k2 ⟨92,cr,cl,h⟩,0;exists bx,f.next ⟨92,cr,cl,h⟩ σ _ (by decide);intro m n b _ _;refine cE (σ':=[]) rfl ((k _ _).2 _ _ (e8 b) ⟨92,cr,cl,h⟩ rfl) ?_;intro N t a _ _;exact bA a
  ·have hn:c.code≠92:=λe=>by rw[e]at hc;revert hc;decide
   have e:lp (c::σ)=c::lp σ:=Eg hn;rw[e];exists bG.o,Mu y FL k1 k2 c c.code (Ha hc),0;exists bx,f.next c σ _ (by decide);intro m n b _ _;exists cQ,⟨_,rfl,rfl⟩,0;refine cE (σ':=[]) rfl ((k _ _).1 _ _ _ (.inl rfl)) ?_;intro N t a _ _;exact bA a
end
noncomputable def yM:List Nat:=[99,111,110,116,105,110,117,101,100,95,108,105,110,101,115,95,102,105,108,116,101,114]
def MV(y:fJ):cX where
 c:=.call (.ref 328) ⟨[.ref y.g],[]⟩
 pre:=[(y.g,cc y)]
 out _ _ a:=(rV (.ref (a.n 0)),[((a.n 0),cc (iJ a yM))])
inductive Bw(y:fJ)(E:b7)(r:bH)(g:bR):Prop where|mk:∀r',(r=(y.g,cc y)::r')->(E r' g)->Bw y E r g
section
theorem Bx{acj:Nat}{bL:Result->bH->bR->Prop}(b:e9 290 y Up)(d:jL 290 y Up E)(ok:∀c∈σ,Kl c):
  rh acj (qR w.params) bL 310 (.func (bJ (dH 15)) (Bd FL)) [(FL,GY y k1),(y.g,cc y)] (Up σ) (lp σ) (λz z a=>(.ok (.ret .none),[(y.g,cc y)])) (λz=>E) []:=by
 exists bG.o,DR y FL k1,0;refine cR rfl ?_;intro p _;refine cE (σ':=[]) rfl ((MU b d σ ok).mono (by decide)) ?_;intro N t a _ _;exact bA a
theorem Hc(d:e9 290 y Up)(e:jL 290 y Up E)(f:∀c∈σ,Kl c)(i:40<=room:=by decide):
  cN room (MV y) (Up σ) (λa=>fC 320 (qR w.params) (ie (Bw y E)) (a.n 1) (Bw y E) (lp σ)):=by
 refine bE.mono (room:=40) (bE.o rfl (DS y) ?_) i;intro k N t _;intro g;refine cB rfl rfl (?_);rintro r0 g0 ⟨b,j,rfl⟩;have z:vj 320 (qR w.params) (ie (Bw y E)) g (lp σ) ([(N,GY y t),(y.g,cc y)]++r0) ((g,.fresh (.func (bJ (dH 15)) (Bd N)))::b):=
  nP.fresh (Bx d e f) (by decide) (λN t a r g h=>⟨_,g,⟨rfl,r,rfl,h⟩,.refl _,.refl _⟩) j
 refine⟨cV [N+1,g,t+1,t+2],_,_,rfl,⟨_,_,.refl _,.refl _,.inl z⟩,?_,.refl _⟩;exact .swap _ _ _
end
end
section
variable{cH bU:List Ch}{x:fD}{Up:List Ch->b7}{c:Ch}
theorem MW(a:List bH)(b:List Nat)(h:(List.range a.length).isPerm b=true):a.flatten.Perm (b.map (λi=>a.getD i [])).flatten:=by
 have e:a=(List.range a.length).map (λi=>a.getD i []):=by
  apply List.ext_getElem
  ·simp
  ·intro i f d;simp at d;simp[d]
 conv=>lhs;rw[e]
 exact((List.isPerm_iff.mp h).map _).flatten
noncomputable def bS(l:List (gv×Ch)):List Value:=l.map λp=>.ref p.1.a
def bW(l:List (gv×Ch)):bH:=l.flatMap λp=>dJ p.1 p.2
theorem ix(l:List (gv×Ch))(p:gv×Ch):bS (l++[p])=bS l++[.ref p.1.a]:=by simp[bS]
theorem By(l:List (gv×Ch))(p:gv×Ch):bW (l++[p])=bW l++dJ p.1 p.2:=by simp[bW]
structure Tk where(typ val:List Nat)(at_:Ch)
variable{toks:List Tk}
structure tP where(a d:Nat)(l:gv)(tt vt:Nat)
noncomputable def IM(y:tP)(k:Tk):Obj:=⟨.ref 47,some y.d,.plain,⟨[some (.ref y.l.l),some (.str ⟨⟨k.typ⟩⟩ y.tt),some (.str ⟨⟨k.val⟩⟩ y.vt)]⟩⟩
def yN(y:tP)(k:Tk):bH:=[(y.a,IM y k),(y.l.l,eI y.l k.at_)]
noncomputable def fO(l:List (tP×Tk)):List Value:=l.map λp=>.ref p.1.a
def fA(l:List (tP×Tk)):bH:=l.flatMap λp=>yN p.1 p.2
structure LxN where(n1 n2 n3:Nat)
def tQ(x:fD)(n:LxN)(a b:List (gv×Ch))(d:List (tP×Tk)):bH:=
 [(x.PB,br (bS b) n.n1),(x.CT,br (bS a) n.n2),(x.TB,br (fO d) n.n3),(x.gn.g,cc x.gn)]
inductive co(x:fD)(Up:List Ch->b7)(cH bU:List Ch)(toks:List Tk)(r:bH)(g:bR):Prop where|mk:∀n cp pb tp σ r',(cp.map (·.2)=cH)->(pb.map (·.2)++σ=bU)->(pb.length<=1)->(tp.map (·.2)=toks)->(r.Perm (tQ x n cp pb tp++(bW cp++(bW pb++(fA tp++r')))))->(Up σ r' g)->co x Up cH bU toks r g
inductive tS(x:fD)(Up:List Ch->b7)(a:gv)(c:Ch)(cH bU:List Ch)(toks:List Tk)(r:bH)(g:bR):Prop where|mk:∀n cp tp r',(cp.map (·.2)=cH)->(tp.map (·.2)=toks)->(r.Perm (tQ x n (cp++[(a,c)]) [] tp++(bW cp++(fA tp++r'))))->(Up bU r' g)->tS x Up a c cH bU toks r g
theorem tS.back{a:gv}{r:bH}{g:bR}(h:tS x Up a c cH bU toks r g):
  co x Up (cH++[c]) bU toks (dJ a c++r) g:=by
 obtain⟨n,b,d,e,f,i,j,k⟩:=h;refine⟨n,b++[(a,c)],[],d,bU,e,by simp[f],rfl,by decide,i,?_,k⟩;refine(j.append_left (dJ a c)).trans ?_;rw[By];exact PT.q [_,_,_,_,_] [] 0xa0a1a2a34 0xa1aa20aea34 rfl
section
def Xa(y:gv)(c:Ch):bH:=[(y.d,lk y c),(y.l,eI y c)]
noncomputable abbrev ig:Nat:=4000
theorem kP(l:List (gv×Ch)):(bS l).length=l.length:=by simp[bS]
theorem b0(O:e9 340 x.gn Up)(G:cH.length<=ig:=by exact db rfl){room:Nat}(H:400<=room:=by decide):
  cN room (ic x c) (co x Up cH (c::bU) toks) (λb=>tS x Up (e8 b) c cH bU toks):=by
 intro A s F FG r0 g0 I P J;obtain⟨n,i,Q,w,σ,m,C,y,k,K,j,L⟩:=P;have D:i.length<=ig:=by rw[<-C,fb]at G;exact G
 have p:(bS i).length<=cZ:=by rw[kP];exact cu D (by decide)
 match Q,y,k,j with
 |[],y,k,j=>
  obtain rfl:σ=c::bU:=y;have z:gN 400 (.call (.ref 216) ⟨[.ref x.S],[]⟩) (bF x++[(x.PB,br [] n.n1),(x.CT,br (bS i) n.n2),(x.gn.g,cc x.gn)]) (Up (c::bU))
    (λ_ _ b=>(.ok (.ret (.ref (b.n 0))),bF x++[(x.PB,br [] n.n1),(x.CT,br (bS i++[.ref (b.n 0)]) (b.n 10)),(x.gn.g,cc x.gn),(b.n 0,ey (b.n 1))]))
    (λb=>λr g=>∃m,r=Xa (e8 b) c++m/\Up bU m g):=by
   exists bE.o,D9 x c (bS i) n.n1 n.n2;intro R N t _;refine bx (X':=λb=>λr g=>∃m,r=Xa (e8 b) c++m/\Up bU m g) rfl (?_) ?zk;case zk=>(intro T U f _ _;exists bz,bX p;intro N2 t2 B _;exact cC (cV [f.n 0,f.n 1,f.n 2,f.n 3,f.n 4,f.n 5,f.n 6,f.n 7,f.n 8,f.n 9,B.n 0]))
   exact(O.next c bU _ (by decide)).ej (λr g h=>⟨r,g,.refl _,.refl _,h⟩) (λN t b r g h=>⟨b,_,g,rfl,.refl _,.refl _,r,rfl,h⟩)
  have u:=J.perm (L':=(bF x++[(x.PB,br [] n.n1),(x.CT,br (bS i) n.n2),(x.gn.g,cc x.gn)])++(m++([(x.TB,br (fO w) n.n3)]++(bW i++(fA w++F))))) (by
   refine((j.append_right F).append_left (bF x)).trans ?_;exact PT.q [_,_,_,_,_] [_,_,_,_] 0xa0aac0c1c2c3ea1aea234 0xaa0c0c1c3ea3ac2ea1a24 rfl)
  refine dj (z A s _ FG m g0 (I.le H) L u) ?_;rintro r V ⟨b,W,M,⟨r2,rfl,E⟩,e,v⟩;refine⟨b,_,M,⟨⟨n.n1,b.n 10,n.n3⟩,i,w,r2,C,K,.refl _,E⟩,e,v.perm ?_⟩;unfold tQ;rw[ix];exact PT.q [_,_,_,_,_] [_,_,_,_,_,_,_] 0xaa0c0c1c2c3eaac4c5e1ac6ea2a34 0xaa0c3c4c5eaac0c1c6c2ea2a314 rfl
 |[(a,X)],y,k,j=>
  injection y with Y Z;subst Y;obtain rfl:σ=bU:=Z;have z:gN 400 (.call (.ref 216) ⟨[.ref x.S],[]⟩) (bF x++[(x.PB,br [.ref a.a] n.n1),(x.CT,br (bS i) n.n2),(a.a,ey a.d)]) bV
    (λ_ _ b=>(.ok (.ret (.ref a.a)),bF x++[(x.PB,br [] (n.n1+1)),(x.CT,br (bS i++[.ref a.a]) (b.n 0)),(a.a,ey a.d)])) (λb=>bV):=by
   exists bE.o,D8 x a.a a.d (bS i) n.n1 n.n2;intro R N t _;exists bx,bX p;intro T U f _ _;exact cC f
  have u:=J.perm (L':=(bF x++[(x.PB,br [.ref a.a] n.n1),(x.CT,br (bS i) n.n2),(a.a,ey a.d)])++([]++(Xa a X++(m++([(x.TB,br (fO w) n.n3)]++([(x.gn.g,cc x.gn)]++(bW i++(fA w++F)))))))) (by
   refine((j.append_right F).append_left (bF x)).trans ?_;exact PT.q [_,_,_,_,_] [_,_,_,_,_,_,_] 0xa0aac0c1c2c3ea1aac4c5c6eea234 0xaa0c0c1c4eaeac5c6ea3ac2eac3ea1a24 rfl)
  refine dj (z A s _ (g0++FG) [] [] (I.le H) ⟨rfl,rfl⟩ u) ?_;rintro r V ⟨b,W,M,⟨rfl,rfl⟩,e,v⟩;refine⟨cV [a.a,a.d,a.l,a.sd,a.k1,a.k2,a.ct,a.rt,a.lt,a.st],_,g0,⟨⟨n.n1+1,b.n 0,n.n3⟩,i,w,m,C,K,.refl _,L⟩,e,v.perm ?_⟩;unfold tQ;rw[ix];exact PT.q [_,_,_,_,_] [_,_,_,_,_,_,_] 0xaa0c0c1c2eaeac3c4ea1ac5eac6ea2a34 0xaa0c2c3c4eaac0c1c5c6ea2a314 rfl
 |_::_::_,y,k,j=>simp at k
end
end
section
set_option backward.match.sparseCases false in
noncomputable def cg(t:Sem PySem.Fin):Sem PySem.Fin:=match t with
 |.point Y k=>k ()
 |t=>t
variable(x:fD)(ty:List Nat)(tt:Nat)(a:gv)(c:Ch)(ct:List Value)
def Bz(FL k1 k2:Nat)(ty:List Nat)(tt:Nat)(a:gv)(c:Ch)(ct:List Value)(e:Nat)(d:List Nat):vf where
 c:=.func (bJ (dc 10 4)) (eX FL)
 tr:=cg (dZ (.func (bJ (dc 10 4)) (eX FL)))
 pre:=bF x++[(FL,gW k1 k2 x.S ty tt),(x.CT,br (.ref a.a::ct) e)]++dJ a c
 out _ _ b:=(cg (dZ (.func ((bJ (dc 10 4)).drop 1) (eX FL))),bF x++[(FL,tO k1 k2 (b.n 0) x.S ty tt (.str ⟨⟨d⟩⟩ (b.n 1))),(x.CT,br (.ref a.a::ct) e)]++dJ a c)
def emP(e:List Value)(f g:Nat)(b:List Nat):bK:=⟨.call (.ref 230) ⟨[.ref x.S,.str ⟨⟨ty⟩⟩ tt],[]⟩,bF x++[(x.CT,br (.ref a.a::ct) f),(x.TB,br e g)]++dJ a c,λN t=>.step (Bz x N t (t+1) ty tt a c ct f b) λd i l1=>
  .con (ee x.TB e g (.ref (d+1))) λj k l2=>.con (Dq x.CT (.ref a.a::ct) f) λm o h=>
  .fin (rV .none) (bF x++[(x.CT,br [] (h.n 0)),(x.TB,br (e++[.ref (d+1)]) (l2.n 0)),(d+1,IM ⟨d+1,d,a,tt,l1.n 1⟩ ⟨ty,b,c⟩),(a.l,eI a c)])⟩
theorem QY tb n2 n3 val:RP 500 2 [nU 0x10088880 0x11110500 1 2 497,nU 0x11803888820110000010000001333a0a000000a0000000000a0a00a0000abb70000b00a0a000000a0000000000a0a00a0000abba0a000000a0000000000a0a00a0000abb00bbbbbbbb020000a0a0000000000000000000000000000000003330330605500050000504040444201100000100000013 0x17 3 13 497,nU 0x11505555302200000200000024 0x14 0 1 497,nU 0 0x1350022 0 0 0] (emP x ty tt a c ct tb n2 n3 val):=.a
end
section
noncomputable abbrev iK:String:=PySem.W.SZ.s4290257624100764138x5
theorem IN:"super" = iK:=PySem.W.SZ.e4290257624100764138x5
def cW(s:Stmt):Expr:=(sp s).e
def dz(e:Expr):List Expr:=(ep e).es
def fg(e:Expr):Pos:=(ep (ep e).e).p
def cL(e:Expr):Pos:=(ep e).p
variable(FL S:Nat)(d k:Nat)
def ph(e:Expr)(nm:Str)(env:Env)(a:Nat):Sem PySem.Fin:=
 PySem.W.R.bindR (PySem.W.ZFast.zw13401596951702201221 (cJ e) nm (fg e) (cL e) env (.ref a) ((dz e).length+0) (PySem.W.ZFast.zw4897270859577272712 (cL e) (PySem.W.ZFast.zw13897175071876407860 (dz e) env)) (PySem.W.ZFast.zw621762911399731506 (cL e) (PySem.W.ZFast.zw11621922129505618389 [] env))) λv=>.pure (.done (.ret v))
def MX(env:Env)(nm:Str):Sem PySem.Fin:=PySem.W.R.bindR (PySem.W.ZFast.zw8468629109055619292 env nm) λv=>.pure (.done (.ret v))
def gD:Env:=⟨mI (dc 5 0),FL,3,[(q lV,90)],q (uS 0x43546f6b656e2e5f5f696e69745f5f2e3c6c6f63616c733e2e),some 102,.ref 101,some FL,0⟩
structure UH where(ty vl sp:List Nat)(tt vt st:Nat)(fi:Bool)(l:Nat)
variable(y:UH)
noncomputable def Eh:List Value:=[.str ⟨⟨y.ty⟩⟩ y.tt,.str ⟨⟨y.vl⟩⟩ y.vt,.str ⟨⟨y.sp⟩⟩ y.st,.bool y.fi,.ref y.l]
def qd:Obj:=cD [eW eG k (.ref S),eW sS (k+1) (.str ⟨⟨y.ty⟩⟩ y.tt),eW qI (k+2) (.str ⟨⟨y.vl⟩⟩ y.vt),eW xM (k+3) (.str ⟨⟨y.sp⟩⟩ y.st),eW xN (k+4) (.bool y.fi),eW lU (k+5) (.ref y.l)] 6
def UI:eT:=⟨MX (gD FL) (q nO),[],λN t=>.fin (rV (.type iK)) []⟩
theorem IP:lD 100 [nU 0x100 0 0 0 0] (UI FL):=
 eH.b
def UJ:eT:=⟨MX (gD FL) (q lV),[],λN t=>.fin (rV (.ref 127)) []⟩
theorem IQ:lD 100 [AJ] (UJ FL):=
 eH.b
def UK:eT:=⟨MX (gD FL) (q eG),[(FL,qd S k y)],λN t=>.fin (rV (.ref S)) [(FL,qd S k y)]⟩
theorem IR:lD 100 [Gz] (UK FL S k y):=
 eH.b
noncomputable def Xb:eT:=⟨PySem.W.R.bindR (PySem.W.ZFast.zw10380811246957099773 (.ref 127)) λb=>.pure (.done (.ret (.bool b))),[],λN t=>.fin (rV (.bool true)) []⟩
theorem MY:lD 100 [AJ] (Xb):=
 eH.b
noncomputable def yO(a:List (Option Value)):Obj:=⟨.ref 127,some d,.plain,⟨a⟩⟩
def tT(c S d:Nat):Obj:=⟨.type iK,none,.fields ⟨[.ref c,.ref S,.ref d]⟩,#[]⟩
def ZZ:bK:=⟨.call (.type iK) ⟨[.ref 127,.ref S],[]⟩,[(S,yO d [])],λN t=>.fin (rV (.ref N)) [(N,tT 127 S 127),(S,yO d [])]⟩
theorem IS:RP 200 0 [T7] (ZZ S d):=.a
def MZ(S' d k a:Nat)(y:UH)(z:gv)(c:Ch):eO:=⟨.func (bJ (dc 5 0)) (gD FL),ph (cW (b9 (dc 5 0) 0)) (q ew) (gD FL) a,[(a,tT 127 (S'+642) 127),(S'+642,yO d []),(d,cy [] 0),(FL,qd (S'+642) k y),(y.l,eI z c)],λN t=>.fin (rV .none) [(S'+642,yO d [some (.ref y.l),some (.str ⟨⟨y.ty⟩⟩ y.tt),some (.str ⟨⟨y.vl⟩⟩ y.vt)]),(d,cy [] 0),(FL,qd (S'+642) k y),(y.l,eI z c)]⟩
theorem Ei S' d k a y z c:iq 200 [nU 0x12020000002000000000000202002000000277500007002020000002000000000000202002000000277202000000200000000000020200200000027700777777770260064440000000011101011 0x11111 2 8 0] (MZ FL S' d k a y z c):=
 c6.b
def Z0(z:gv)(c:Ch):vf where
 c:=.func (bJ (dc 5 0)) (gD FL)
 tr:=cg (dZ (.func (bJ (dc 5 0)) (gD FL)))
 pre:=[(S,yO d []),(d,cy [] 0),(FL,qd S k y),(y.l,eI z c)]
 out _ _ a:=(cg (dZ (.func ((bJ (dc 5 0)).drop 1) (gD FL))),[(S,yO d [some (.ref y.l),some (.str ⟨⟨y.ty⟩⟩ y.tt),some (.str ⟨⟨y.vl⟩⟩ y.vt)]),(d,cy [] 0),(FL,qd S k y),(y.l,eI z c)])
def ctD(k1 k2:Nat)(y:UH):Obj:=cy [eW xM k1 (.str ⟨⟨y.sp⟩⟩ y.st),eW xN k2 (.bool y.fi)] 2
def Z1(z:gv)(c:Ch):bK:=⟨.call (.ref 127) ⟨Eh y,[]⟩,[(y.l,eI z c)],λN t=>.step (Z0 (N+2) (N+1) N t y z c) λb a l1=>.fin (rV (.ref (N+1))) [(N+1,yO N [some (.ref y.l),some (.str ⟨⟨y.ty⟩⟩ y.tt),some (.str ⟨⟨y.vl⟩⟩ y.vt)]),(N,ctD (a+1) (a+3) y),(y.l,eI z c)]⟩
theorem IU z c:RP 300 0 [nU 0x100444444444444020000303000000000000000000000000000000 0x10112 3 6 287,nU 0x122201000001010010000001332220100000101001000000133 0x1100 0 4 0] (Z1 y z c):=.a
end
section
def Z2(s:Stmt):Expr:=(sp s).e
def Ej(e:Expr):Scope:=(ep e).s
def UL:Expr:=(dz (Z2 (b9 (dH 25) 0))).getD 0 (.Constant .none 0 default)
variable(FL D:Nat)(it ch:Nat)(j k1:Nat)(k2:Nat)(v1 v2:Value)
def Xc:Env:=hV (dH 25) FL (q (uS 0x5f6c61775f6375742e3c6c6f63616c733e2e)) 622 621
def UM(e:Expr)(D:Nat)(env:Env):Env:={ scope:=Ej e,locals:=D,globals:=env.globals,cells:=[],qual:=env.qual,func:=none,code:=env.code,frame:=env.frame,builtins:=env.builtins }
def mM(a:Nat):Code:=.compLoop UL 0 (.ref it) (.ref a) (UM UL D (Xc FL))
def Km:Obj:=cy [eW (uS 0x6d61726b) k1 v1,eW (uS 0x7069656365) k2 v2] 2
def Ek:Obj:=cy [] 0
def tU(a n k1 k2:Nat)(xs:List Value)(d:Nat)(ys e:List Value)(v1 v2:Value):cX where
 c:=mM FL D it a
 pre:=[(D,Km k1 k2 v1 v2),(it,eB ch j),(ch,br xs d),(a,br ys n)]
 out _ _ b:=(oN,[(D,Km k1 k2 (b.v 0) (b.v 1)),(ch,br xs d),(a,br (ys++e) (b.n 0))])
def Z3(b:Nat)(xs:List Value)(e:Nat)(g:List Value)(i:ht):bK:=⟨mM FL D it b,[(D,Ek),(it,eB ch 0),(ch,br xs e),(b,br [] 0)],λN t=>.con (dd it ch 0 xs e (.ref i.a)) λk f h=>.dG i.a (rN i) <| .con (ee b [] 0 (.str ⟨⟨i.s⟩⟩ i.tt)) λl o d=>.con (tU FL D it ch 1 b (d.n 0) f (f+1) xs e [.str ⟨⟨i.s⟩⟩ i.tt] g (.str ⟨⟨i.m⟩⟩ i.mt) (.str ⟨⟨i.s⟩⟩ i.tt)) λp q c=>.fin oN [(D,Km f (f+1) (c.v 0) (c.v 1)),(ch,br xs e),(b,br (.str ⟨⟨i.s⟩⟩ i.tt::g) (c.n 0))]⟩
theorem IV di xs nn a i:RP 100 0 [oU,AK,T8,GA,lZ] (Z3 FL D it ch di xs nn a i):=.b
def Z4(b n k1 k2:Nat)(xs:List Value)(e:Nat)(ys f:List Value)(v1 v2:Value)(i:ht):bK:=⟨mM FL D it b,(tU FL D it ch j b n k1 k2 xs e ys f v1 v2).pre,λN t=>.con (dd it ch j xs e (.ref i.a)) λh k g=>.dG i.a (rN i) <| .con (ee b ys n (.str ⟨⟨i.s⟩⟩ i.tt)) λl o d=>.con (tU FL D it ch (j+1) b (d.n 0) k1 k2 xs e (ys++[.str ⟨⟨i.s⟩⟩ i.tt]) f (.str ⟨⟨i.m⟩⟩ i.mt) (.str ⟨⟨i.s⟩⟩ i.tt)) λp q c=>.fin oN [(D,Km k1 k2 (c.v 0) (c.v 1)),(ch,br xs e),(b,br ((ys++[.str ⟨⟨i.s⟩⟩ i.tt])++f) (c.n 0))]⟩
theorem IW di n k1 k2 xs nn ys a v1 v2 i:RP 100 0 [oU,AK,T8,GA,lZ] (Z4 FL D it ch j di n k1 k2 xs nn ys a v1 v2 i):=.b
def Z5(a n k1 k2:Nat)(xs:List Value)(b:Nat)(ys:List Value)(v1 v2:Value):bK:=⟨mM FL D it a,(tU FL D it ch j a n k1 k2 xs b ys [] v1 v2).pre,λN t=>.con (eV it ch j xs b) λd e c=>.fin oN [(D,Km k1 k2 v1 v2),(ch,br xs b),(a,br ys n)]⟩
theorem IX di n k1 k2 xs nn ys v1 v2:RP 100 0 [oU,LL] (Z5 FL D it ch j di n k1 k2 xs nn ys v1 v2):=.a
def Z6(a b:Nat):bK:=⟨mM FL D it a,[(D,Ek),(it,eB ch 0),(ch,br [] b),(a,br [] 0)],λN t=>.con (eV it ch 0 [] b) λd e c=>.fin oN [(D,Ek),(ch,br [] b),(a,br [] 0)]⟩
theorem IY di nn:RP 100 0 [oU,LL] (Z6 FL D it ch di nn):=.a
structure QZ where(ch nt st nn:Nat)(n size m k:Int)(y1 y2:List Nat)
variable(y:QZ)
def yP(l:List ht)(r:List Int):cX where
 c:=.call (.ref 622) ⟨[.ref y.ch,.int y.n y.nt,.int y.size y.st],[]⟩
 pre:=[(y.ch,br (ek l) y.nn)]
 out _ _ a:=(rV (.ref (a.n 0)),[(a.n 0,br (r.map λi=>.int i (a.n 1)) 0),(y.ch,br (ek l) y.nn)])
def M1(d:Nat)(l:List ht)(e:Nat)(b:Bool):cX where
 c:=mM FL D it d
 pre:=[(D,Ek),(it,eB ch 0),(ch,br (ek l) e),(d,br [] 0)]
 out _ _ a:=(oN,[(D,match b with|true=>Ek|false=>Km (a.n 1) (a.n 2) (a.v 0) (a.v 1)),(ch,br (ek l) e),(d,br (iQ (Gt l)) (a.n 0))])
def Q0(l:List ht)(bV lt:Bool)(e:L2->L2->Nat->Nat->hS):Nat->Nat->hS:=λN t=>.con (M1 N (N+3) (N+1) y.ch (N+2) l y.nn bV) λz z c=>.con (MI (t+3) (N+2) (Gt l) (c.n 0)) λo p b=>.con (wc (ku l) (b.n 0) y.m) λq g f=>.con (tM y.n y.nt (y.m+2) (g+1) y.k) λr s a=>.con (wc (ku l) (b.n 0) y.m) λu v d=>.con (ltC y.k (a.n 0) y.m (d.n 0) lt) λh i z=>e b a h i
def Z7(l:List ht)(b:Bool)(e:Nat->Nat->hS):L2->L2->Nat->Nat->hS:=λf a h r=>.con (WX (ku l) (f.n 0) h .none (.int y.k (a.n 0)) y.y1) λi m c=>.con (WX y.y1 (c.n 0) i (.int (-1) (m+1)) .none y.y2) λs o d=>.con (QU y.y2 (d.n 0) [92] o b) λp q g=>e p q
def Z8(l:List ht)(N t:Nat):hS:=.fin (rV (.ref N)) [(N,br [.int (y.size+y.k) t] 0),(y.ch,br (ek l) y.nn)]
def M2(l:List ht)(N t:Nat):hS:=.fin (rV (.ref N)) [(N,br [] 0),(y.ch,br (ek l) y.nn)]
def Z9(l:List ht):bK where
 c:=(yP y l []).c
 pre:=(yP y l []).pre
 lB:=Q0 y l true false (λz z N t=>M2 y l N t)
def yQ(a:Bool):List Num:=match a with
 |false=>[GB,nU 0x11011 0x12 0 0 297,iP,qN,iP,qO,vS]
 |true=>[GC,nU 0x11011 0x12 0 0 297,iP,qN,iP,qO,vS]
theorem IZ l:RP 300 2 (yQ b2) (Z9 y l):=.d (f:=yQ)
def aaa(l:List ht):bK where
 c:=(yP y l []).c
 pre:=(yP y l []).pre
 lB:=Q0 y l false true (Z7 y l true (Z8 y l))
def yR(a:Bool):List Num:=match a with
 |false=>[GB,vT,iP,qN,iP,qO,GD,GF,GG,nU 0x10044 0x124 1 1 0]
 |true=>[GC,vT,iP,qN,iP,qO,GD,GF,GG,nU 0x10044 0x124 1 1 0]
theorem I0 l:RP 300 2 (yR b2) (aaa y l):=.d (f:=yR)
def aab(l:List ht):bK where
 c:=(yP y l []).c
 pre:=(yP y l []).pre
 lB:=Q0 y l false true (Z7 y l false (M2 y l))
def yS(a:Bool):List Num:=match a with
 |false=>[GB,vT,iP,qN,iP,qO,GD,GF,GG,vS]
 |true=>[GC,vT,iP,qN,iP,qO,GD,GF,GG,vS]
theorem I1 l:RP 300 2 (yS b2) (aab y l):=.d (f:=yS)
def aac(l:List ht):bK where
 c:=(yP y l []).c
 pre:=(yP y l []).pre
 lB:=Q0 y l false false (λz z N t=>M2 y l N t)
def yT(a:Bool):List Num:=match a with
 |false=>[GB,vT,iP,qN,iP,qO,vS]
 |true=>[GC,vT,iP,qN,iP,qO,vS]
theorem I2 l:RP 300 2 (yT b2) (aac y l):=.d (f:=yT)
end
section
structure j7 where(FL k il ct st:Nat)(sm:List Nat)(R DU k1 k2 k3 k4 k5:Nat)
structure gw where(row wide at_ blanks c step:Value)(rows:List Value)(rn:Nat)(bT:List Value)(sn:Nat)
structure hJ where(space first last:Value)(SP:Nat)(mark text:Value)
variable(FL:Nat)(y:j7)(u:hJ)(it:Nat)(b:Bool)(x:List Nat)(m:Nat)
def Xd(v:gw)(u:hJ):List DictEntry:=[eW (uS 0x6974656d73) y.k (.ref y.il),eW (uS 0x63757473) (y.k+1) (.ref y.ct),eW (uS 0x7365616d) (y.k+2) (.str ⟨⟨y.sm⟩⟩ y.st),eW (uS 0x726f7773) (y.k+6) (.ref y.R),eW sT (y.k+7) v.row,eW (uS 0x77696465) (y.k+8) v.wide,eW [97,116] (y.k+9) v.at_,
 eW (uS 0x647565) (y.k+11) (.ref y.DU),eW xM (y.k+12) u.space,eW xN (y.k+13) u.first,eW (uS 0x6c617374) (y.k+14) u.last,eW (uS 0x73706f7473) (y.k+15) (.ref u.SP)]
def Xe(v:gw)(u:hJ):Obj:=cD (Xd y v u) 12
def Xf(v:gw)(u:hJ):Obj:=cD (Xd y v u++[eW (uS 0x6d61726b) y.k1 u.mark,eW (uS 0x74657874) y.k2 u.text,eW (uS 0x626c616e6b73) y.k3 v.blanks]) 15
def fh(v:gw)(u:hJ):Obj:=cD (Xd y v u++[eW (uS 0x6d61726b) y.k1 u.mark,eW (uS 0x74657874) y.k2 u.text,eW (uS 0x626c616e6b73) y.k3 v.blanks,eW [99] y.k4 v.c,eW (uS 0x73746570) y.k5 v.step]) 17
def M3:Env:=hV (dH 26) FL (q (uS 0x5f6c61775f6c61792e3c6c6f63616c733e2e)) 629 628
def j8:Code:=m3 (b9 (dH 26) 2) (.ref it) (M3 FL)
def jl:Code:=m3 ((dy (b9 (dH 26) 2)).getD 1 (.Pass default)) (.ref it) (M3 FL)
noncomputable def mN(a:L2):gw:=⟨a.v 0,a.v 1,a.v 2,a.v 3,a.v 4,a.v 5,a.l 0,a.n 0,a.l 1,a.n 1⟩
def j9(v:gw)(u:hJ)(a:List Value)(cn:Nat):bH:=[(y.R,br v.rows v.rn),(u.SP,br v.bT v.sn),(y.ct,br a cn)]
def tV(v:gw)(u:hJ)(it:Nat)(x:List Nat)(xt j:Nat)(d:List Value)(cn:Nat):cX where
 c:=jl y.FL it
 pre:=[(y.FL,fh y v u),(it,iu dY ⟨⟨x⟩⟩ xt j)]++j9 y v u d cn
 out _ _ a:=(oN,[(y.FL,fh y (mN a) u)]++j9 y (mN a) u d cn)
noncomputable abbrev aad:String:=PySem.W.SZ.s18434506764410088663x10
def vo(t:Nat)(y:List Nat)(u:Nat)(b:Bool):cX where
 c:=.builtin aad ⟨[.str ⟨⟨x⟩⟩ t,.str ⟨⟨y⟩⟩ u],[]⟩
 pre:=[]
 out _ _ a:=(rV (.bool b),[])
def Hd(a:Nat)(xs:List Value)(n:Nat)(m:Int):cX where
 c:=.builtin WW ⟨[.ref a],[]⟩
 pre:=[(a,br xs n)]
 out _ _ d:=(rV (.int m (d.n 0)),[(a,br xs n)])
def pi(r c:Int)(rt ct:Nat):Obj:=dm [.int r rt,.int c ct] 0
structure El where(it:Nat)(x:List Nat)(xt j:Nat)(cs:List Value)(cn c:Nat)(row:List Nat)(wd a b ln md:Int)(wf yU iL bt:Nat)(vc vs:Value)(rows:List Value)(rn:Nat)(bT:List Value)(sn:Nat)
variable(z:El)
noncomputable def El.v:gw:=⟨.str ⟨⟨z.row⟩⟩ z.wf,.int z.wd z.yU,.int z.a z.iL,.int z.b z.bt,z.vc,z.vs,z.rows,z.rn,z.bT,z.sn⟩
noncomputable def j7.keys(k4 k5:Nat):j7:={ y with k4:=k4,k5:=k5 }
def yV(v:gw)(u:hJ)(it:Nat)(x:List Nat)(xt:Nat)(d:List Value)(cn:Nat):cX where
 c:=jl y.FL it
 pre:=[(y.FL,Xf y v u),(it,iu dY ⟨⟨x⟩⟩ xt 0)]++j9 y v u d cn
 out _ _ a:=(oN,[(y.FL,fh (y.keys (a.n 2) (a.n 3)) (mN a) u)]++j9 y (mN a) u d cn)
def yW(v:gw)(c:Nat)(o:Obj):hS:=
 .con ((tV y v u z.it z.x z.xt (z.j+1) z.cs z.cn).give [(c,o)]) λd e a=>.fin oN ([(y.FL,fh y (mN a) u)]++j9 y (mN a) u z.cs z.cn)
noncomputable def j7.yk(o:Option Nat)(b:Nat):j7:=match o with
 |some k=>y.keys k b
 |none=>y
def BA(ct:Nat)(row:List Nat)(wf:Nat)(h:Int)(yU:Nat)(rows:List Value)(rn:Nat)(j:Bool)(d:Int)(k:Nat):hS:=
  .con (Hd y.R rows rn z.ln) λe f r=>.con (ee u.SP z.bT z.sn (.ref e)) λs g l=>.con (IC row [z.c] wf ct) λt o i=>.con (vo [z.c] ct [10] (o+5) j) λv w A=>
   match j with
   |false=>yW y u z ⟨.str ⟨⟨row++[z.c]⟩⟩ (i.n 0),.int (h+d) o,.int (z.a+1) (g+1),.int (z.b+d) (g+2),.str ⟨⟨[z.c]⟩⟩ ct,.int d k,rows,rn,z.bT++[.ref e],l.n 0⟩ e (pi (z.ln+1) (h+1) (f+1) (f+3))
   |true=>.con (ee y.R rows rn (.str ⟨⟨row++[z.c]⟩⟩ (i.n 0))) λB p q=>yW y u z ⟨.str ⟨⟨[]⟩⟩ p,.int 0 (p+1),.int (z.a+1) (g+1),.int (z.b+d) (g+2),.str ⟨⟨[z.c]⟩⟩ ct,.int d k,rows++[.str ⟨⟨row++[z.c]⟩⟩ (i.n 0)],q.n 0,z.bT++[.ref e],l.n 0⟩ e (pi (z.ln+1) (h+1) (f+1) (f+3))
def yX(ct:Nat)(row:List Nat)(wf:Nat)(d:Int)(yU:Nat)(rows:List Value)(rn:Nat)(a f:Bool)(fst:Option Nat)(t:Nat):hS:=
 .con (vo [z.c] ct [9] t a) λh e i=>match a with
   |true=>.con (tM d yU 8 (e+1) z.md) λj g k=>BA (y.yk fst (g+1)) u z ct row wf d yU rows rn f (8-z.md) g
   |false=>BA (y.yk fst (e+1)) u z ct row wf d yU rows rn f 1 e
def M4(d e g fst:Bool):hS:=
 .con (DB z.it ⟨⟨z.x⟩⟩ z.xt z.j z.c) λo h l1=>.con (ZX y.ct z.cs z.cn z.a z.iL d) λp k l2=>match d with
  |false=>yX y u z (l1.n 0) z.row z.wf z.wd z.yU z.rows z.rn e g (cond fst (some h) none) k
  |true=>.con (IC z.row y.sm z.wf y.st) λq r i=>.con (ee y.R z.rows z.rn (.str ⟨⟨z.row++y.sm⟩⟩ (i.n 0))) λs f l=>yX y u z (l1.n 0) [] f 0 (f+1) (z.rows++[.str ⟨⟨z.row++y.sm⟩⟩ (i.n 0)]) (l.n 0) e g (cond fst (some h) none) (f+4)
def lzR:Bool->Nat->List Num|false,0=>[LM,Ua,vU,vV,LN,Ub,oV]|false,1=>[LM,nU 0x1103 0 0 2 97,nU 0x110300555533300 0x13 0 2 97,vU,vV,LN,Ub,oV]|false,Y=>[LM,Ua,vU,vV,LN,Uc,ZC,oV]|true,0=>[LP,Ud,vU,vV,LQ,Ue,oV]|true,1=>[LP,nU 0x1104 0 0 2 97,nU 0x110400555544400 0x10 0 2 97,vU,vV,LQ,Ue,oV]|true,Y=>[LP,Ud,vU,vV,LQ,Uc,ZE,oV]
def lzN:List Num:=T9::ZB::cond b (ZD::LO::lzR true m) (lzR false m)
theorem RP.g{room j:Nat}{L:List Nat}{ns:Nat->List Num}{p:Nat->bK}(h:L.map (λn=>Ki b2 false room j (ns n) (p n))=L.map λn=>Kj b2 false room j (ns n) (p n):=by kernel_rfl)(n:Nat)(hn:n∈L):RP room j (ns n) (p n):=
 .b (lK.1 h n hn)
noncomputable def El.j0:El:={ z with j:=0 }
def Xg(b:Bool)(m:Nat):bK:=⟨jl y.FL z.it,(tV y z.v u z.it z.x z.xt z.j z.cs z.cn).pre,λt t=>M4 y u z b (Nat.beq m 1) (Nat.beq m 2) false⟩
def Xh(b:Bool)(m:Nat):bK:=⟨jl y.FL z.it,(yV y z.v u z.it z.x z.xt z.cs z.cn).pre,λt t=>M4 y u z.j0 b (Nat.beq m 1) (Nat.beq m 2) true⟩
theorem M5(b:Bool)(m:Nat)(a:m∈[0,1,2]):RP 100 0 (lzN b m) (Xg y u z b m):=by
 cases b
 ·exact RP.g (L:=[0,1,2]) (p:=Xg y u z false) (n:=m) (hn:=a)
 ·exact RP.g (L:=[0,1,2]) (p:=Xg y u z true) (n:=m) (hn:=a)
theorem M6(b:Bool)(m:Nat)(a:m∈[0,1,2]):RP 100 0 (lzN b m) (Xh y u z b m):=by
 cases b
 ·exact RP.g (L:=[0,1,2]) (p:=Xh y u z false) (n:=m) (hn:=a)
 ·exact RP.g (L:=[0,1,2]) (p:=Xh y u z true) (n:=m) (hn:=a)
def aae:bK:=⟨jl y.FL z.it,(tV y z.v u z.it z.x z.xt z.j z.cs z.cn).pre,λN t=>.con (Mk z.it ⟨⟨z.x⟩⟩ z.xt z.j) λa c l1=>.fin oN ([(y.FL,fh y z.v u)]++j9 y z.v u z.cs z.cn)⟩
theorem I3:RP 100 0 [T9,nU 0x101 0x12222 0 0 0] (aae y u z):=.a
end
section
variable{x:fD}{Up:List Ch->b7}{cH bU:List Ch}{c:Ch}{toks:List Tk}{room vt:Nat}{y:gv}{vs:PySem.Str}
section
theorem cz(Q:e9 340 x.gn Up)(H:cH.length<=ig:=by exact db rfl)(I:400<=room:=by decide):
  cN room (dR x c) (co x Up cH (c::bU) toks) (λb=>tS x Up (e8 b) c cH bU toks):=by
 intro A s F FG r0 g0 J R K;obtain⟨n,i,S,w,σ,m,D,B,k,L,j,M⟩:=R;have E:i.length<=ig:=by rw[<-D,fb]at H;exact H
 have p:(bS i).length<=cZ:=by rw[kP];exact cu E (by decide)
 match S,B,k,j with
 |[],B,k,j=>
  obtain rfl:σ=c::bU:=B;have z:gN 400 (dR x c).c (bF x++[(x.PB,br [] n.n1),(x.CT,br (bS i) n.n2),(x.gn.g,cc x.gn)]) (Up (c::bU))
    (λy y b=>(.ok (.ret (.ref (b.n 0))),bF x++[(x.PB,br [] n.n1),(x.CT,br (bS i++[.ref (b.n 0)]) (b.n 10)),(x.gn.g,cc x.gn),(b.n 0,ey (b.n 1))]))
    (λb=>λr g=>∃m,r=Xa (e8 b) c++m/\Up bU m g):=by
   exists bE.o,D5 x c (bS i) n.n1 n.n2;intro T N t _;refine bx (X':=λb=>λr g=>∃m,r=Xa (e8 b) c++m/\Up bU m g) rfl (?_) ?_;rotate_left 1;intro U V f _ _;exists bz,bX p;intro N2 t2 C _;exact cC (cV [f.n 0,f.n 1,f.n 2,f.n 3,f.n 4,f.n 5,f.n 6,f.n 7,f.n 8,f.n 9,C.n 0]);exact(Q.next c bU _ (by decide)).ej (λr g h=>⟨r,g,.refl _,.refl _,h⟩) (λN t b r g h=>⟨b,_,g,rfl,.refl _,.refl _,r,rfl,h⟩)
  have u:=K.perm (L':=(bF x++[(x.PB,br [] n.n1),(x.CT,br (bS i) n.n2),(x.gn.g,cc x.gn)])++(m++([(x.TB,br (fO w) n.n3)]++(bW i++(fA w++F))))) (by
   refine((j.append_right F).append_left (bF x)).trans ?_;exact PT.q [_,_,_,_,_] [_,_,_,_] 0xa0aac0c1c2c3ea1aea234 0xaa0c0c1c3ea3ac2ea1a24 rfl)
  refine dj (z A s _ FG m g0 (J.le I) M u) ?_;rintro r W ⟨b,X,O,⟨r2,rfl,G⟩,e,v⟩;refine⟨b,_,O,⟨⟨n.n1,b.n 10,n.n3⟩,i,w,r2,D,L,.refl _,G⟩,e,v.perm ?_⟩;unfold tQ;rw[ix];exact PT.q [_,_,_,_,_] [_,_,_,_,_,_,_] 0xaa0c0c1c2c3eaac4c5e1ac6ea2a34 0xaa0c3c4c5eaac0c1c6c2ea2a314 rfl
 |[(a,P)],B,k,j=>
  injection B with Y Z;subst Y;obtain rfl:σ=bU:=Z;have z:gN 400 (dR x P).c (bF x++[(x.PB,br [.ref a.a] n.n1),(x.CT,br (bS i) n.n2),(a.a,ey a.d)]) bV
    (λy y b=>(.ok (.ret (.ref a.a)),bF x++[(x.PB,br [] (n.n1+1)),(x.CT,br (bS i++[.ref a.a]) (b.n 0)),(a.a,ey a.d)])) (λb=>bV):=by
   exists bE.o,D4 x a.a a.d (bS i) n.n1 n.n2;intro T N t _;exists bx,bX p;intro U V f _ _;exact cC f
  have u:=K.perm (L':=(bF x++[(x.PB,br [.ref a.a] n.n1),(x.CT,br (bS i) n.n2),(a.a,ey a.d)])++([]++(Xa a P++(m++([(x.TB,br (fO w) n.n3)]++([(x.gn.g,cc x.gn)]++(bW i++(fA w++F)))))))) (by
   refine((j.append_right F).append_left (bF x)).trans ?_;exact PT.q [_,_,_,_,_] [_,_,_,_,_,_,_] 0xa0aac0c1c2c3ea1aac4c5c6eea234 0xaa0c0c1c4eaeac5c6ea3ac2eac3ea1a24 rfl)
  refine dj (z A s _ (g0++FG) [] [] (J.le I) ⟨rfl,rfl⟩ u) ?_;rintro r W ⟨b,X,O,⟨rfl,rfl⟩,e,v⟩;refine⟨cV [a.a,a.d,a.l,a.sd,a.k1,a.k2,a.ct,a.rt,a.lt,a.st],_,g0,⟨⟨n.n1+1,b.n 0,n.n3⟩,i,w,m,D,L,.refl _,M⟩,e,v.perm ?_⟩;unfold tQ;rw[ix];exact PT.q [_,_,_,_,_] [_,_,_,_,_,_,_] 0xaa0c0c1c2eaeac3c4ea1ac5eac6ea2a34 0xaa0c2c3c4eaac0c1c5c6ea2a314 rfl
 |_::_::_,B,k,j=>simp at k
theorem nh{E:b7}(p:jL 340 x.gn Up E)(u:400<=room):
  cN room (mL x) (co x Up cH [] toks) (λa=>co x (λy=>E) cH [] toks):=by
 intro A s F FG r0 g0 v w B;obtain⟨n,b,C,f,σ,m,D,G,H,I,h,J⟩:=w;obtain⟨i,rfl⟩:=sB.mp G;obtain rfl:C=[]:=xa.mp i;have z:gN 400 (.call (.ref 216) ⟨[.ref x.S],[]⟩) (bF x++[(x.PB,br [] n.n1),(x.CT,br (bS b) n.n2),(x.gn.g,cc x.gn)]) (Up [])
   (λy y a=>(.ok (.ret .none),bF x++[(x.PB,br [] n.n1),(x.CT,br (bS b) n.n2),(x.gn.g,cc x.gn)])) (λa=>E):=by
  exists bE.o,Ea x (bS b) n.n1 n.n2,0;exists bx,p _ (by decide);intro O P d _ _;exact cC d
 have j:=B.perm (L':=(bF x++[(x.PB,br [] n.n1),(x.CT,br (bS b) n.n2),(x.gn.g,cc x.gn)])++(m++([(x.TB,br (fO f) n.n3)]++(bW b++(fA f++F))))) (by
  refine((h.append_right F).append_left (bF x)).trans ?_;exact PT.q [_,_,_,_,_] [_,_,_,_] 0xa0aac0c1c2c3ea1aea234 0xaa0c0c1c3ea3ac2ea1a24 rfl)
 refine dj (z A s _ FG m g0 (v.le u) J j) ?_;rintro r Q ⟨a,K,L,k,e,l⟩;refine⟨a,_,L,⟨n,b,[],f,[],K,D,rfl,by decide,I,.refl _,k⟩,e,l.perm ?_⟩;exact PT.q [_,_,_,_,_] [_,_,_,_] 0xaa0c0c1c2ea1ac3ea2a34 0xa0aac0c1c3c2ea2aea314 rfl
theorem co.ofE{r:bH}{g:bR}(h:co x (λz=>Up []) cH [] toks r g):co x Up cH [] toks r g:=by
 obtain⟨n,e,f,i,σ,j,k,d,a,l,b,m⟩:=h;obtain⟨o,rfl⟩:=sB.mp d;exact⟨n,e,f,i,[],j,k,d,a,l,b,m⟩
theorem kQ(a:e9 340 x.gn Up)(b:400<=room:=by decide):
  cN room (mL x) (co x Up cH [] toks) (λd=>co x Up cH [] toks):=
 bE.dP (nh a.stop b) (λz z h=>h) (λz z z h=>h.ofE)
theorem jz(u:cH.length<=ig:=by exact db rfl)(B:400<=room:=by decide):
  cN room (p6 x y c) (tS x Up y c cH bU toks) (λb=>co x Up cH (c::bU) toks):=by
 intro A s F FG r0 g0 C D E;obtain⟨n,f,j,v,w,G,k,H⟩:=D;have l:f.length<=ig:=by rw[<-w,fb]at u;exact u
 have h:(bS f).length<cZ:=by rw[kP];exact sD l (by decide)
 have z:gN 400 (.call (.ref 223) ⟨[.ref x.S,.ref y.a],[]⟩) (bF x++[(x.PB,br [] n.n1),(x.CT,br (bS f++[.ref y.a]) n.n2),(y.a,ey y.d)]) bV
   (λZ Z b=>(.ok (.ret .none),bF x++[(x.PB,br [.ref y.a] (n.n1+1)),(x.CT,br (bS f) (b.n 0)),(y.a,ey y.d)])) (λb=>bV):=by
  exists bE.o,Eb x y.a y.d (bS f) n.n1 n.n2,0;exists bx,xP h;intro J K i _ _;exact cC i
 have m:=E.perm (L':=(bF x++[(x.PB,br [] n.n1),(x.CT,br (bS f++[.ref y.a]) n.n2),(y.a,ey y.d)])++([]++(Xa y c++(v++([(x.TB,br (fO j) n.n3)]++([(x.gn.g,cc x.gn)]++(bW f++(fA j++F)))))))) (by
  refine((k.append_right F).append_left (p6 x y c).pre).trans ?_;unfold tQ;rw[ix];exact PT.q [_,_,_,_,_] [_,_,_,_,_,_,_] 0xaa0c0c1c2eaac3c4c5c6ea1a234 0xaa0c3c4c0eaeac1c2ea3ac5eac6ea1a24 rfl)
 refine dj (z A s _ (g0++FG) [] [] (C.le B) ⟨rfl,rfl⟩ m) ?_;rintro r L ⟨b,M,O,⟨rfl,rfl⟩,e,p⟩;refine⟨b,_,g0,⟨⟨n.n1+1,b.n 0,n.n3⟩,f,[(y,c)],j,bU,v,w,rfl,cO 1,G,.refl _,H⟩,e,p.perm ?_⟩;exact PT.q [_,_,_,_,_] [_,_,_,_,_,_,_] 0xaa0c0c1c2eaeac3c4ea1ac5eac6ea2a34 0xa0aac0c1c5c6ea2aac2c3c4eea314 rfl
theorem bE.back{k:cX}{X':L2->b7}(h:cN room k (co x Up (cH++[c]) bU toks) X'):
  cN room (k.give (dJ y c)) (tS x Up y c cH bU toks) X':=
 bE.dX h λr g hn=>⟨_,.refl _,hn.back⟩
theorem bZ(d:e9 340 x.gn Up)(e:ri vs c.code=true)(f:cH.length<=ig:=by exact db rfl)(g:450<=room:=by decide):
  cN room (iW x vs vt true) (co x Up cH (c::bU) toks) (λi=>co x Up (cH++[c]) bU toks):=by
 refine bE.mono (bE.o rfl (AP x vs vt c) ?_) g;intro j N t _;exists bx,b0 d f;intro k l a _ _;exists bz,ik e,0;exact cB rfl rfl (λr0 g0 h=>⟨a,_,g0,rfl,h.back,by exact PT.q [_,_,_] [] 0xaa012 0xa0a12 rfl,.refl _⟩)
theorem cq(f:e9 340 x.gn Up)(g:ri vs c.code=false)(b:cH.length<=ig:=by exact db rfl)(h:450<=room:=by decide):
  cN room (iW x vs vt false) (co x Up cH (c::bU) toks) (λi=>co x Up cH (c::bU) toks):=by
 refine bE.mono (bE.o rfl (AQ x vs vt c) ?_) h;intro j N t _;exists bx,b0 f b;intro k l a _ _;exists bz,ik g,0;exists bx,jz b,0;exact cC a
theorem pj(b:e9 340 x.gn Up)(d:450<=room):
  cN room (iW x vs vt false) (co x Up cH [] toks) (λe=>co x Up cH [] toks):=by
 refine bE.mono (bE.o rfl (AR x vs vt) ?_) d;intro f N t _;exists bx,kQ b;intro g h a _ _;exact cC a
def jM(vs:PySem.Str):List Ch->Bool|[]=>false|c::Y=>ri vs c.code
theorem dS(a:e9 340 x.gn Up)(d:jM vs bU=false)(e:cH.length<=ig)(b:450<=room:=by decide):
  cN room (iW x vs vt false) (co x Up cH bU toks) (λf=>co x Up cH bU toks):=by
 cases bU with
 |nil=>exact pj a b
 |cons c bU=>exact cq a d e b
theorem lq{x:fD}{Up:List Ch->b7}(f:e9 340 x.gn Up){bU:List Ch}{toks:List Tk}{vs:PySem.Str}{vt:Nat}(g:jM vs bU=false){FL k1 k2:Nat}:∀(w1 cH:List Ch),(∀c∈w1,ri vs c.code=true)->cH.length+w1.length<=ig->
  cN 480 (tu x FL vs vt k1 k2) (co x Up cH (w1++bU) toks) (λj=>co x Up (cH++w1) bU toks)
 |[],cH,Y,e=>by
  rw[dU];exists bE.o,DD x FL vs vt k1 k2,0;exists bx,dS f g (by exact e);intro l m a _ _;exact cC a
 |c::w1,cH,h,e=>by
  rw[List.length_cons]at e;have i:=lq f g w1 (cH++[c]) (λd hd=>h d (.tail _ hd)) (by rw[c5];simp;omega) (FL:=FL) (k1:=k1) (k2:=k2) (toks:=toks) (vt:=vt);rw[bQ]at i;exists bE.o,DC x FL vs vt k1 k2,0;exists bx,bZ f (h c (.head _)) (by exact cu (h9 _ _) e);intro l m a _ _;exists bx,i;intro n p b _ _;exact cC b
theorem eK(b:e9 340 x.gn Up){w1:List Ch}{vs:List Nat}(d:jM ⟨⟨vs⟩⟩ bU=false)(e:∀c∈w1,ri ⟨⟨vs⟩⟩ c.code=true)(f:cH.length+w1.length<=ig:=by exact db rfl)(g:500<=room:=by decide):
  cN room (f9 x vs vt) (co x Up cH (w1++bU) toks) (λh=>co x Up (cH++w1) bU toks):=by
 refine bE.mono (bE.o rfl (DE x ⟨⟨vs⟩⟩ vt) ?_) g;intro i N t _;exists bx,(lq b d w1 cH e f).mono (by decide);intro j k a _ _;exact cC a
theorem gX(u:cH.length<=ig:=by exact db rfl)(w:400<=room:=by decide):
  cN room (kI x) (co x Up cH bU toks) (λa=>co x Up [] bU toks):=by
 intro A s F FG r0 g0 B C D;obtain⟨n,b,h,i,σ,v,E,G,j,H,k,I⟩:=C;have l:b.length<=ig:=by rw[<-E,fb]at u;exact u
 have d:(bS b).length<=cZ:=by rw[kP];exact cu l (by decide)
 have z:gN 400 (.call (.ref 237) ⟨[.ref x.S],[]⟩) (bF x++[(x.CT,br (bS b) n.n2)]) bV
   (λy y a=>(.ok (.ret .none),bF x++[(x.CT,br [] (a.n 0))])) (λa=>bV):=by
  exists bE.o,AS x (bS b) n.n2,0;exists bx,sV d;intro K L f _ _;exact cC f
 have m:=D.perm (L':=(bF x++[(x.CT,br (bS b) n.n2)])++([]++([(x.PB,br (bS h) n.n1),(x.TB,br (fO i) n.n3),(x.gn.g,cc x.gn)]++(bW h++(fA i++(v++(F++bW b))))))) (by
  refine((k.append_right F).append_left (bF x)).trans ?_;exact PT.q [_,_,_,_,_,_] [_,_,_,_] 0xa0aac0c1c2c3ea1a2a345 0xaa0c1eaeac0c2c3ea2a3a4a51 rfl)
 refine dj (z A s _ (g0++FG) [] [] (B.le w) ⟨rfl,rfl⟩ m) ?_;rintro r M ⟨a,O,P,⟨rfl,rfl⟩,e,p⟩;refine⟨a,_,g0,⟨⟨n.n1,a.n 0,n.n3⟩,[],h,i,σ,v,rfl,G,j,H,.refl _,I⟩,e,Sat.drop (R:=bW b) (p.perm ?_)⟩;exact PT.q [_,_,_,_,_,_] [_,_,_,_] 0xaa0c0eaeac1c2c3ea1a2a3a45 0xaa0aac1c0c2c3eaea1a2345 rfl
end
end
section
open PySem.Meets
variable{s:Shared}{F L r0:bH}{FG G g0:bR}{A:Around}{E:Value->Shared->Prop}{Q:Option Value->Shared->Prop}{y:fJ}{room:Nat}{XE:b7}
section
variable{prog:Program}{w:World}{kt:KT}{os:OsState}{α:Type}{acj:Nat}{It:α->Value->bH->Prop}{bL:Result->bH->bR->Prop}
theorem Sat.tl{p:Nat×Obj}(h:Sat kt os s (p::L) G):Sat kt os s L G:=
 Sat.drop (h.perm (fu (l₁:=[p])))
theorem Sat.gtl{p:Nat×GenState}(h:Sat kt os s L (p::G)):Sat kt os s L G:=by
 obtain⟨SL,h⟩:=h;refine⟨SL,h.old,h.own,h.free,h.nd,λq a=>h.kB q (.tail _ a),?_,h.bare,h.C0⟩;have:=h.Gf;rw[fN,pR]at this;exact this.2
theorem BB(q:jh kt){x:α}{σ:List α}(r:acj+10<=room)(t:∀v it,It x v it->bk it=[])(u:gY room A)(B:nP prog w kt os acj It bL y.i (x::σ) r0 g0)(n:Sat kt os s ((y.g,cc y)::(r0++F)) (g0++FG))(C:∀v it j r1 g1,It x v it->nP prog w kt os acj It bL y.i σ r1 g1->Sat kt os j ((y.g,cc y)::(it++(r1++F))) (g1++FG)->Q (some v) j):
  wpAny (model prog w) A (pyNext (.ref y.g)) Q E s:=by
 have o:=kC (n.own (y.g,cc y) (.head _));refine bI (wpAny_attempt (wpAny_callSpecial?_slot o.typeIs rI
  (wpAny_call_entry rI o.typeIs rF ?_ (args_gen_next _))))
 refine xR q (mJ r u) B n λe j D H=>?_;obtain⟨a,l,k,c,p,fs,it,L,h,rfl,b,m,d⟩:=H;have f:fs.any Frame.guarded=false:=by
  have:(!(false||fs.any Frame.guarded))=true:=D;simpa using this
 refine ck ⟨a,rfl,ck (C a it _ L ((y.i,.suspended k l c p fs (false||fs.any Frame.guarded))::h) b ⟨_,h,rfl,by simpa using f,by rw[t _ _ b]at d;exact d⟩ ?_)⟩;have z:=m.fv (by
   show(h++([(y.i,GenState.running)]++FG)).Perm ([(y.i,GenState.running)]++(h++FG));rw[<-bQ];exact fu.append_right _)
 have I:=z.setGen (gs':=.suspended k l c p fs (false||fs.any Frame.guarded)) (by simp[GenState.bare,f]);exact I.perm (by
   show(it++(L++([(y.g,cc y)]++F))).Perm ([(y.g,cc y)]++(it++(L++F)));refine(fZ _ (ve L _ F)).trans (ve _ _ _))
theorem BC(l:jh kt)(m:acj+10<=room)(n:∀r L a,bL r L a->r=.ok .next/\XE L a)(h:gY room A)(p:nP prog w kt os acj It bL y.i [] r0 g0)(j:Sat kt os s ((y.g,cc y)::(r0++F)) (g0++FG))(q:∀c r1 g1,XE r1 g1->Sat kt os c (r1++F) (g1++FG)->Q none c):
  wpAny (model prog w) A (pyNext (.ref y.g)) Q E s:=by
 have k:=kC (j.own (y.g,cc y) (.head _));refine bI (wpAny_attempt (wpAny_callSpecial?_slot k.typeIs rI
  (wpAny_call_entry rI k.typeIs rF ?_ (args_gen_next _))))
 refine xR l (mJ m h) p j λe c C t=>?_;obtain⟨r,L,a,rfl,b,d⟩:=t;obtain⟨rfl,f⟩:=n _ _ _ b;have z:=d.fv (by
   show(a++([(y.i,GenState.running)]++FG)).Perm ([(y.i,GenState.running)]++(a++FG));rw[<-bQ];exact fu.append_right _)
 have u:=z.setGen (gs':=.finished) rfl;refine bI (bI (jD ?_ (by size_fits)));refine bI (mF (by first|rfl|(simp only[firstArgMember];rfl)) ?_);refine jD ?_ (by size_fits);refine bI (bI (oz ?_));rw[show A.in1.handled=none from h.hd];refine mE ?_;refine bI (ry ⟨_,rp _ rfl,rfl⟩ isSubtype_stop ?_);refine ck (q _ L a f ?_);have v:=(u.alloc (o:={ cls:=.type "tuple",dict:=none,data:=.seq #[] }) rfl).alloc (o:={ cls:=.type "StopIteration",dict:=none,data:=.fields (#[.ref (c.setGen y.i .finished).heap.objs.size,.none,.none,.none,.bool false,.none]++ownMembersOf (.type "StopIteration") []) }) rfl;have x:=v.tl.tl;have B:=(x.perm (L':=(y.g,cc y)::(L++F)) (ve L [(y.g,cc y)] F)).tl;exact B.gtl
theorem n6{S n:Nat}{a acc':List Value}{f:Array Value->Array Value}(h:Sat kt os s ((S,br a n)::L) G)(e:(f ⟨a⟩).toList=acc'):
  ∃b,Sat kt os { s with heap:=s.heap.update S (Obj.mapSeq f) } ((S,br acc' b)::L) G:=io h e s.toks
theorem He{f:α->PySem.Str}{XE:b7}(m:jh kt){A:Around}{R:Result->Shared->Prop}{y:fJ}{S room:Nat}{F:bH}{FG:bR}(o:acj+20<=room)(p:gY room A)(a:∀x v it,It x v it->∃t,v=.str (f x) t/\it=[])(M:∀r L N,bL r L N->r=.ok .next/\XE L N):
  ∀(σ:List α)(s:Shared)(di:List Value)(n:Nat)(r0:bH)(g0:bR),di.length+σ.length<=10000->nP prog w kt os acj It bL y.i σ r0 g0->Sat kt os s ((S,br di n)::(y.g,cc y)::(r0++F)) (g0++FG)->
  (∀e vs q r1 g1,vs.map txt=(σ.map f).map some->XE r1 g1->Sat kt os e ((S,br (di++vs) q)::(r1++F)) (g1++FG)->R (.ok (.ret (.ref S))) e)->
  codeAny (model prog w) A (.builtin "list.extend.loop" ⟨[.ref S,.ref y.g,.ref S],[]⟩) R s
 |[],s,di,n,r0,g0,u,z,B,C=>by
  refine g6 F7 ?_;have b:=B.perm (L':=(y.g,cc y)::(r0++((S,br di n)::F))) ((gM _ _ _).trans (kx _ (by
   show([(S,br di n)]++(r0++F)).Perm (r0++([(S,br di n)]++F));exact ve _ _ _)))
  refine bI (BC m (cO _) M (p.in1 (by exact o)) z b λe r1 g1 c d=>?_);refine ck (C e [] n r1 g1 rfl c ?_);rw[dU];exact d.perm (ve r1 [(S,br di n)] F)
 |x::σ,s,di,n,r0,g0,u,z,B,C=>by
  refine g6 F7 ?_;have b:=B.perm (L':=(y.g,cc y)::(r0++((S,br di n)::F))) ((gM _ _ _).trans (kx _ (by
   show([(S,br di n)]++(r0++F)).Perm (r0++([(S,br di n)]++F));exact ve _ _ _)))
  refine bI (BB m (cO _) (λv it h=>by obtain⟨t,_,rfl⟩:=a _ _ _ h;rfl) (p.in1 (by exact o)) z b λv it e r1 g1 D H d=>?_);obtain⟨t,rfl,rfl⟩:=a x v it D;have j:=d.perm (L':=(S,br di n)::(y.g,cc y)::(r1++F)) (by
   show((y.g,cc y)::(r1++([(S,br di n)]++F))).Perm _;exact(kx _ (ve _ _ _)).trans (.swap _ _ _))
  rw[List.length_cons]at u;have k:(⟨di⟩:Array Value).size<=sizeLine:=by
   exact cu (cu (h9 _ _) u) (by decide)
  have O:=j.own (S,br di n) (.head _);obtain⟨q,I⟩:=n6 (f:=(·.push (.str (f x) t))) j (acc':=di++[.str (f x) t]) (by simp);refine bI (wpAny_updateSeq O rfl (ck ⟨rJ Kt _,?_⟩) k (by
   rw[rx];exact sD k (by decide)))
  refine He m o p a M σ _ _ q r1 g1 (by rw[c5];simp;omega) H I λJ vs K r2 g2 P c l=>?_;refine C J (.str (f x) t::vs) K r2 g2 ?_ c ?_
  ·rw[fN,P];rfl
  ·rw[bQ]at l;exact l
theorem M7:({ cls:=.type "list",dict:=none,data:=.seq #[] 0,slots:=#[] }:Obj)=br [] 0:=(dW [] 0).symm
theorem Em{f:α->PySem.Str}(z:jh kt){Q:List Value->Shared->Prop}{σ:List α}(O:acj+40<=room)(B:gY room A)(k:∀x v it,It x v it->∃t,v=.str (f x) t/\it=[])(C:∀r L q,bL r L q->r=.ok .next/\XE L q)(D:σ.length<=9000)(H:nP prog w kt os acj It bL y.i σ r0 g0)(u:Sat kt os s ((y.g,cc y)::(r0++L)) (g0++FG))(I:∀h vs r1 g1,vs.map txt=(σ.map f).map some->XE r1 g1->Sat kt os h (r1++L) (g1++FG)->Q vs h):
  wpAny (model prog w) A (collect (.ref y.g)) Q E s:=by
 have l:=jG (u.own (y.g,cc y) (.head _));have m:=Nat.ne_of_gt l;refine bI (wpAny_runValue (g6 PySem.F.entry_proto_collect ?_));refine bI (jD ?_);refine ck ⟨rJ PY _,g6 PySem.F.entry_list_iadd ?_⟩;have a:=u.alloc (o:=br [] 0) rfl;rw[<-M7]at a;have j:=kC (a.own (y.g,cc y) (.tail _ (.head _)));show wpAny _ A.in1 (Builtin.List.listExtendWith (.ref s.heap.objs.size) (.ref y.g) (.ref s.heap.objs.size)) _ _ _;refine bI (rK (j.typeIs) ?_);have J:Builtin.List.listSameRef (.ref s.heap.objs.size) (.ref y.g)=false:=by simp[Builtin.List.listSameRef,m]
 have P:(Value.type "generator"==Value.type "list")=false:=by decide
 have R:(Value.type "generator"==Value.type "tuple")=false:=by decide
 simp only[J];refine bI (xA j ?_);refine bI (ky ?_);refine bI (rB j.typeIs PySem.F.gen_no_len ?_);refine bI (rB j.typeIs PySem.F.gen_no_hint ?_);refine ck ?_;refine bI (oC ?_);refine bI ?_;have b:=a.own (_,br [] 0) (.head _);obtain⟨n1,d⟩:=n6 (f:=(·.push Value.none)) a (acc':=[.none]) rfl;have c:=d.own (_,br [.none] n1) (.head _);obtain⟨n2,n⟩:=n6 (f:=(·.pop)) d (acc':=[]) rfl;refine bI (wpAny_updateSeq b rfl ?_);refine wpAny_updateSeq c rfl ?_;refine ck ⟨rJ Kt _,?_⟩;refine He z (by omega) B k C σ _ [] n2 r0 g0 (by simp;exact cu D (by decide)) H n λh vs K r1 g1 M p e=>?_;have N:=e.own (_,br vs K) (.head _);refine bI (wpAny_load N ?_);exact ck (I h vs r1 g1 M p e.tl)
open PySem.Builtin PySem.Builtin.Str in
theorem ni:∀(vs:List Value)(ps:List PySem.Str),vs.map txt=ps.map some->∃l:List (PySem.Str×Tok),strValues l=vs/\l.map (·.1)=ps
 |[],[],Y=>⟨[],rfl,rfl⟩
 |[],Y::V,h=>by cases h
 |Y::V,[],h=>by cases h
 |v::vs,p::ps,h=>by
  have a:txt v=some p:=by injection h
  have b:vs.map txt=ps.map some:=by injection h
  obtain⟨t,rfl⟩:=tJ a;obtain⟨l,rfl,rfl⟩:=ni vs ps b;exact⟨(p,t)::l,rfl,rfl⟩
theorem wh:∀(cs:List Nat)(di:Array Nat),(cs.map λc=>(⟨⟨[c]⟩⟩:PySem.Str)).foldl (λdi p=>di++(#[]:Array Nat)++p.cps) di=di++⟨cs⟩
 |[],di=>by exact rfl
 |c::cs,di=>by
  rw[fN,List.foldl_cons,wh cs];simp
theorem I4(a:List Nat):Builtin.Str.glued ⟨⟨[]⟩⟩ (a.map λc=>(⟨⟨[c]⟩⟩:PySem.Str))=⟨⟨a⟩⟩:=by
 cases a with
 |nil=>rfl
 |cons c a=>
  unfold Builtin.Str.glued;rw[fN,List.drop_one,List.tail_cons];have:=wh a ⟨[c]⟩;rw[show(List.headD ((⟨⟨[c]⟩⟩:PySem.Str)::a.map λc=>(⟨⟨[c]⟩⟩:PySem.Str)) PySem.Str.empty).cps=(⟨[c]⟩:Array Nat)from rfl];rw[this];simp
theorem tW:∀(cs:List Nat)(k:Nat),(cs.map λc=>(⟨⟨[c]⟩⟩:PySem.Str)).foldl (λa p=>a+p.length+(⟨⟨[]⟩⟩:PySem.Str).length) k=k+cs.length
 |[],k=>by exact rfl
 |c::cs,k=>by
  rw[fN,List.foldl_cons,tW cs];show k+1+0+cs.length=_;rw[List.length_cons];omega
open PySem.Builtin PySem.Builtin.Str in
theorem Q1{g:α->Nat}(C:jh kt){Q:Value->Shared->Prop}{σ:List α}(R:acj+60<=room)(D:gY room A)(h:∀x v it,It x v it->∃t,v=.str ⟨⟨[g x]⟩⟩ t/\it=[])(H:∀r L n,bL r L n->r=.ok .next/\XE L n)(o:σ.length<=9000)(I:nP prog w kt os acj It bL y.i σ r0 g0)(z:Sat kt os s ((y.g,cc y)::(r0++L)) (g0++FG)){t:Nat}(J:∀b u r1 g1,XE r1 g1->Sat kt os b (r1++L) (g1++FG)->Q (.str ⟨⟨σ.map g⟩⟩ u) b):
  wpAny (model prog w) A (call (.builtin "str.join") [.str ⟨⟨[]⟩⟩ t,.ref y.g]) Q E s:=by
 have B:=kC (z.own (y.g,cc y) (.head _));refine wpAny_call (codeAny_call_builtin xe.plain PySem.F.entry_str_join (xe.check _ _ _ _ _ _ _ _ (typeIs_str _ _ _) (PySem.F.args_str_join_2 _ _) ?_));rw[join_tree_other];refine bI (rK B.typeIs ?_);refine bI (wpAny_tryCatch (xA B ?_));refine bI (Em C (cO _) (D.in1 (by omega)) h H o I z λb vs r1 g1 K j m=>?_);obtain⟨l,rfl,M⟩:=ni vs _ K;have d:l.map (·.1)=(σ.map g).map λc=>(⟨⟨[c]⟩⟩:PySem.Str):=by rw[M,jc];rfl
 have f:tooLong ((l.map (·.1)).toArray.foldl (· + ·.length+(⟨⟨[]⟩⟩:PySem.Str).length) 0)=false:=by
  rw[d];have e:=tW (σ.map g) 0;have e2:((σ.map g).map λc=>(⟨⟨[c]⟩⟩:PySem.Str)).toArray.foldl (λa p=>a+p.length+(⟨⟨[]⟩⟩:PySem.Str).length) 0=(σ.map g).length:=by
   simpa using e
  rw[e2];unfold tooLong;simp;exact cu o (by decide)
 have N:Gives (joinTail ⟨⟨[]⟩⟩ (strValues l)) (joinMade ⟨⟨[]⟩⟩ l):=by
  have g0:=gives_joinTail ⟨⟨[]⟩⟩ l f;cases l with
  |nil=>exact g0
  |cons p r=>cases r with
   |nil=>exact g0
   |cons q S=>exact g0
 have O:Txt.join ⟨⟨[]⟩⟩ (l.map (·.1))=⟨⟨σ.map g⟩⟩:=by
  rw[d];exact I4 (σ.map g)
 refine N prog w A (λr b=>match r with|.ok (.ret v)=>Q v b|.ok _=>False|.error e=>E e b) b (post_join l ⟨joinFit_length f,λP k=>?_⟩);rw[O];exact J _ P r1 g1 j (m.toks k)
end
end
section
variable{C ct it j k1 n:Nat}{cd:Value}{F:Obj}{xs:List Value}{dn rest:List (gv×Ch)}{a:gv}{c:Ch}{σ σ':List Ch}
def UN(c:Ch)(v:Value)(it:bH):Prop:=∃t,v=.str ⟨⟨[c.code]⟩⟩ t/\it=[]
def aaf(X:b7)(r:Result)(L:bH)(g:bR):Prop:=r=.ok .next/\X L g
section
variable{acj:Nat}{bL:Result->bH->bR->Prop}
theorem wi(dn:List (gv×Ch))(p:gv×Ch)(rest:List (gv×Ch)):(bS (dn++p::rest))[dn.length]?=some (.ref p.1.a):=by
 simp[bS]
theorem tX(b:List (gv×Ch)):(bS b)[b.length]?=none:=by
 simp[bS]
theorem iZ(dn:List (gv×Ch))(a:gv)(c:Ch)(rest:List (gv×Ch)):
  (bW (dn++(a,c)::rest)).Perm ([(a.a,ey a.d),(a.d,lk a c)]++(bW dn++([(a.l,eI a c)]++bW rest))):=by
 have:=MW [bW dn,[(a.a,ey a.d),(a.d,lk a c)],[(a.l,eI a c)],bW rest] [1,0,2,3] rfl;simpa[bW,dJ,bQ]using this
theorem Hf(h:jJ acj UN bL 60 (gj C cd it ct n j F xs [(a.a,ey a.d),(a.d,lk a c)]) (own (bW dn++([(a.l,eI a c)]++bW rest))) σ (λz=>own (bW dn++([(a.l,eI a c)]++bW rest))) σ'):
  jJ acj UN bL 60 (gj C cd it ct n j F xs []) (own (bW (dn++(a,c)::rest))) σ (λz=>own (bW (dn++(a,c)::rest))) σ':=by
 refine h.ej ?_ ?_
 ·rintro r g ⟨rfl,rfl⟩;refine⟨_,[],?_,.refl _,rfl,rfl⟩;have:=(iZ dn a c rest).append_left [(C,F),(it,eB ct j),(ct,br xs n)];simpa[gj,bQ]using this
 ·rintro N t b r g ⟨rfl,rfl⟩;refine⟨b,_,[],rfl,?_,.refl _,rfl,rfl⟩;have:=(iZ dn a c rest).symm.append_left [(ct,br xs n)];simpa[gj,bQ]using this
theorem Hg(h:jJ acj UN bL 60 (gj C cd it ct n j F xs []) (own (bW (dn++(a,c)::rest))) σ (λz=>own (bW (dn++(a,c)::rest))) σ'):
  jJ acj UN bL 60 (gj C cd it ct n j F xs [(a.a,ey a.d),(a.d,lk a c)]) (own (bW dn++([(a.l,eI a c)]++bW rest))) σ (λz=>own (bW dn++([(a.l,eI a c)]++bW rest))) σ':=by
 refine h.ej ?_ ?_
 ·rintro r g ⟨rfl,rfl⟩;refine⟨_,[],?_,.refl _,rfl,rfl⟩;have:=(iZ dn a c rest).symm.append_left [(C,F),(it,eB ct j),(ct,br xs n)];simpa[gj,bQ]using this
 ·rintro N t b r g ⟨rfl,rfl⟩;refine⟨b,_,[],rfl,?_,.refl _,rfl,rfl⟩;have:=(iZ dn a c rest).append_left [(ct,br xs n)];simpa[gj,bQ]using this
theorem BD{C:Nat}{cd:Value}{it ct n k1:Nat}:∀(rest dn:List (gv×Ch))(k2:Nat)(v:Value),
  jJ acj UN bL 60 (gj C cd it ct n dn.length (Bv k1 it k2 v) (bS (dn++rest)) []) (own (bW (dn++rest))) (rest.map (·.2)) (λz=>own (bW (dn++rest))) []
 |[],dn,k2,v=>by
  rw[dU];exists bG.o,G9 C cd it ct n dn.length (Bv k1 it k2 v) (bS dn);intro f N t;rcases two G8 b2 with hz|hz<;>rw[hz]<;>(intro _;exists bz,cA (tX dn);intro N t b _;exact bA b)
 |(a,c)::rest,dn,k2,v=>by
  have d:=BD rest (dn++[(a,c)]) (C:=C) (cd:=cd) (it:=it) (ct:=ct) (n:=n) (k1:=k1);rw[bQ,c5]at d;refine Hf ?_;exists bG.o,ML C cd it ct n dn.length k1 k2 v (bS (dn++(a,c)::rest)) a c;intro f N t;rcases two D7 b2 with hz|hz<;>rw[hz]<;>(intro _;exists bz,b6 (wi dn (a,c) rest),0;exists cQ,⟨_,rfl,rfl⟩,0;refine cE (σ':=[]) rfl (Hg (d k2 (.ref a.a))) ?_;intro N t b _ _;exact bA b)
theorem M8(d:List (gv×Ch)):
  jJ acj UN bL 60 (gj C cd it ct n 0 (pg k1 it) (bS d) []) (own (bW d)) (d.map (·.2)) (λz=>own (bW d)) []:=by
 cases d with
 |nil=>
  exists bG.o,G9 C cd it ct n 0 (pg k1 it) (bS []);intro f N t;rcases two G8 b2 with hz|hz<;>rw[hz]<;>(intro _;exists bz,cA (tX []);intro N t b _;exact bA b)
 |cons p rest=>
  obtain⟨a,c⟩:=p;have g:=@BD acj bL C cd it ct n k1 rest [(a,c)];refine Hf (dn:=[]) ?_;exists bG.o,MJ C cd it ct n 0 k1 (bS ([]++(a,c)::rest)) a c;intro f N t;rcases two D6 b2 with hz|hz<;>rw[hz]<;>(intro _;exists bz,b6 (wi [] (a,c) rest);intro i h e _;exists cQ,⟨_,rfl,rfl⟩,0;refine cE (σ':=[]) rfl (Hg (dn:=[]) (g h (.ref a.a))) ?_;intro N t b _ _;exact bA b)
theorem Xi{i:Nat}(b:List (gv×Ch)):
  vj 80 UN (aaf (own ([(ct,br (bS b) n)]++bW b))) i (b.map (·.2)) ([(C,pg k1 it),(it,eB ct 0),(ct,br (bS b) n)]++bW b) [(i,.fresh (.compStart GE 0 (.ref it) .none (pf C cd)))]:=by
 refine nP.fresh (out:=λz z z=>(.ok .next,[(ct,br (bS b) n)])) (X:=own (bW b)) (X':=λz=>own (bW b)) (room:=70) ?_ (by decide) (λN t d r g h=>?_) ⟨rfl,rfl⟩
 ·exists bG.o,QW C cd it ct n k1 (bS b);intro e N t;rcases two MM b2 with hz|hz<;>rw[hz]<;>(intro _;refine cE (σ':=[]) rfl ((M8 b).mono (by decide)) ?_;intro N t d _ _;exact bA d)
 ·obtain⟨rfl,rfl⟩:=h;exact⟨_,[],⟨rfl,rfl,rfl⟩,.refl _,.refl _⟩
end
end
section
theorem i5(body:List Stmt)(env:Env):cg (dZ (.func body env))=((execs body env).onRaise (leaving env)).bind hC:=by
 rw[S9];rfl
section
variable{prog:Program}{w:World}{kt:KT}{os:OsState}{room:Nat}{pre:bH}{X:b7}{X':L2->b7}{gP:Nat->Nat->L2->bH}
theorem Q2{c:Code}{s1:Stmt}{rest:List Stmt}{env:Env}(l:∀(d:Around)(s:Shared)(F:bH)(FG:bR)(r0:bH)(g0:bR),gY room d->X r0 g0->Sat kt os s (pre++(r0++F)) (g0++FG)->
   wpAny (model prog w) d (exec s1 env) (λf b=>f=.next/\∃a r1 g1,X' a r1 g1/\Sat kt os b (gP b.heap.objs.size b.toks a++(r1++F)) (g1++FG)) (λe b=>False) s):
  c9 prog w kt os room c (cg (dZ (.func (s1::rest) env))) pre X (λN t a=>(cg (dZ (.func rest env)),gP N t a)) X':=by
 intro d m g n s F FG r0 g0 o q r;rw[i5,arm_execs_cons];show m (((Sem.bind (exec s1 env) _).onRaise (leaving env)).bind hC) s;rw[gL,dI,dI,eg,eg];refine g _ _ _ s λu p y i=>?_;refine eE _ _ _ ?_ (λe v b h=>h.elim) _ _ (l d s F FG r0 g0 n o q u p i);rintro f v b ⟨rfl,a,r1,g1,j,k⟩;have z:=r b a r1 g1 j k;dsimp only at z;rw[i5,gL,dI,eg]at z;exact z
end
end
section
variable{c:Code}
section
variable{prog:Program}{w:World}{kt:KT}{os:OsState}{room:Nat}{pre:bH}{X:b7}{X':L2->b7}{gP:Nat->Nat->L2->bH}
theorem qe{s1:Stmt}{rest:List Stmt}{env:Env}(l:∀(d:Around)(s:Shared)(F:bH)(FG:bR)(r0:bH)(g0:bR),gY room d->X r0 g0->Sat kt os s (pre++(r0++F)) (g0++FG)->
   PySem.wpAt (model prog w) d c (exec s1 env) (λf b=>f=.next/\∃a r1 g1,X' a r1 g1/\Sat kt os b (gP b.heap.objs.size b.toks a++(r1++F)) (g1++FG)) (λe b=>False) s):
  c9 prog w kt os room c (cg (dZ (.func (s1::rest) env))) pre X (λN t a=>(cg (dZ (.func rest env)),gP N t a)) X':=by
 intro d m g n s F FG r0 g0 o q r;rw[i5,arm_execs_cons];show m (((Sem.bind (exec s1 env) _).onRaise (leaving env)).bind hC) s;rw[gL,dI,dI,eg,eg];refine g _ _ _ s λu p v i=>?_;refine eE _ _ _ ?_ (λe x b h=>h.elim) _ _ (l d s F FG r0 g0 n o q u p v i);rintro f x b ⟨rfl,a,r1,g1,j,k⟩;have z:=r b a r1 g1 j k;dsimp only at z;rw[i5,gL,dI,eg]at z;exact z
theorem bE.of'{a j:Nat}{pre:bH}{X:b7}{X':L2->b7}{out:Nat->Nat->L2->Result×bH}{ns:List Num}{S:Nat->Nat->hS}{b:Nat}{o:Obj}(d:kt.get b=some o)(e:g8 prog w kt a c (.base (fp c)) room j pre ns S)(H:∀N t,b<N->Holds prog w kt os 0 (λ(_:Unit) _ _=>False) (λz z z=>False) ⟨false,out,X',[]⟩ ((S N t).res ns N t) X []):
  bE prog w kt os room c pre X out X':=bE.VW e λN t h=>H N t (h b o d)
end
theorem kT(env:Env)(nm:PySem.Str):MX env nm=(loadName env nm).bind λv=>.pure (.done (.ret v)):=by
 unfold MX;rw[<-eh,<-PySem.W.ZFast.ze8468629109055619292]
theorem n7(e:Expr)(nm:PySem.Str)(env:Env)(a:Nat):ph e nm env a=(methodCall (cJ e) nm (fg e) (cL e) env (.ref a) ((dz e).length+0) (backTo (cL e) (starEach (dz e) env)) (backToKw (cL e) (keywordEach [] env))).bind λv=>.pure (.done (.ret v)):=by
 unfold ph;rw[<-eh,<-PySem.W.ZFast.ze13401596951702201221,<-PySem.W.ZFast.ze4897270859577272712,<-PySem.W.ZFast.ze13897175071876407860,<-PySem.W.ZFast.ze621762911399731506,<-PySem.W.ZFast.ze11621922129505618389]
end
section
variable{s:Shared}{o:Obj}{L:bH}{G:bR}{x:fD}{A:Around}{E Q:Value->Shared->Prop}{FL:Nat}
theorem Sat.extBut{kt:KT}{os:OsState}{P:Nat}{o':Obj}{a:Heap}(h:Sat kt os s ((P,o)::L) G)(c:Heap.ExtBut P s.heap a)(d:a.get? P=some o')(f:jW o'=false)(t:Nat):
  Sat kt os { s with heap:=a,toks:=t } ((P,o')::L) G:=by
 obtain⟨SL,h⟩:=h;exact⟨SL,eF.toks (eF.setAt (A:=[]) (B:=L) h (λb g i e=>c b g i e) (λz z=>rfl) (by rw[lN f];exact d)) t⟩
theorem Eo{ps:Array Value}(h:o.data=.fields ps):jW o=false:=by unfold jW;rw[h]
def UO(e:Expr):Expr:=(ep e).e
def UP(e:Expr):Expr:=(ep e).e3
def UQ(e:Expr):Pos:=(ep e).p
theorem yY:GE=.GeneratorExp (UO GE) [⟨UP GE,gO GE,[],0⟩] (kN GE) (UQ GE):=by kernel_rfl
theorem aag:(kN GE).isCoroutine=false:=by kernel_rfl
def aah(e:Expr):Pos:=(ep e).p
theorem qV:gO GE=.Attribute (kO (gO GE)) (q oP) (aah (gO GE)):=by kernel_rfl
def BE(e:Expr):Pos:=(ep e).p
theorem qW:kO (gO GE)=.Name (q eG) (BE (kO (gO GE))):=by kernel_rfl
theorem yZ(e:Expr)(env:Env):W5 e env=(eval e env).bind λv=>.pure (.done (.ret v)):=by
 unfold W5;rw[<-eh,<-PySem.W.ZFast.ze14044960220447912780]
section
variable{room:Nat}
theorem I5(d:gY 150 A)(e:Sat (bY w.params) os s (bF x++L) G)(f:∀a,Sat (bY w.params) os a (bF x++L) G->Q (.ref 446) a):
  wpAny (model pz (wv w b1 b2)) A (typeOf (.ref x.S)) Q E s:=by
 have b:Sat (bY w.params) os s ((W6 x).pre++([]++L)) ([]++G):=e;refine kF (os:=os) (X:=bV) (X':=λz=>bV) (out:=λz z z=>(.ok (.ret (.ref 446)),bF x)) (m:=typeOf (.ref x.S)) ?_ (MP x) (λN t=>?_) (d.le (by decide)) ⟨rfl,rfl⟩ b ?_
 ·unfold W6;rw[<-eh,<-PySem.W.ZFast.ze14684505520029207082]
 ·exact⟨rfl,λr0 g0 h=>⟨cV [],r0,g0,rfl,h,.refl _,.refl _⟩,λh=>by cases h⟩
 ·rintro a g r1 g1 ⟨rfl,rfl⟩ c;exact f a c
theorem aai{Q:Option Value->Shared->Prop}(i:gY 150 A)(j:Sat (bY w.params) os s L G)(k:∀a,Sat (bY w.params) os a L G->Q (some (.builtin "object.__getattribute__")) a):
  wpAny (model pz (wv w b1 b2)) A (typeLookup (.ref 446) "__getattribute__") Q E s:=by
 have b:Sat (bY w.params) os s ((W4).pre++([]++L)) ([]++G):=j;have z:wpAny (model pz (wv w b1 b2)) A ((typeLookup (.ref 446) "__getattribute__").bind λo=>.pure (match o with|some v=>v|none=>.none)) (λv a=>v=.builtin "object.__getattribute__"/\Sat (bY w.params) os a L G) E s:=by
  refine kF (os:=os) (X:=bV) (X':=λy=>bV) (out:=λy y y=>(.ok (.ret (.builtin Ec)),[])) ?_ (MN) (λN t=>?_) (i.le (by decide)) ⟨rfl,rfl⟩ b ?_
  ·unfold W4;rw[<-eh,<-PySem.W.ZFast.ze1381439984260040727,pU];rfl
  ·exact⟨rfl,λr0 g0 h=>⟨cV [],r0,g0,rfl,h,.refl _,.refl _⟩,λh=>by cases h⟩
  ·rintro a l r1 g1 ⟨rfl,rfl⟩ c;exact⟨by rw[IK],c⟩
 intro m p d;have g:=z m p d;rw[iH]at g;refine eE _ _ _ ?_ (λe n a h=>h) _ _ g;intro o n a h;obtain⟨f,q⟩:=h;cases o with
 |none=>cases f
 |some v=>
  simp only at f;subst f;exact k a q
theorem I6{tk:Nat}{room:Nat}(a:100<=room):gN room (.builtin yL ⟨[.ref x.S,.str (q oP) tk],[]⟩) (bF x) bV (λz z z=>(.ok (.ret (.ref x.CT)),bF x)) (λz=>bV):=
 bE.mono (room:=100) (bE.o rfl (Ef x tk) (by intro b N t _;exact cC (cV []))) a
theorem y0(b:gY 150 A)(f:Sat (bY w.params) os s (bF x++L) G)(g:∀a,Sat (bY w.params) os a (bF x++L) G->Q (.ref x.CT) a):
  wpAny (model pz (wv w b1 b2)) A (getAttr (.ref x.S) (q oP) true) Q E s:=by
 unfold getAttr;refine bI (wpAny_mkText ?_);unfold getAttrBy;refine ky ?_;refine bI (I5 b (f.toks _) λs1 c=>?_);refine bI (aai b c λs2 d=>?_);dsimp only;rw[bP (by decide)];unfold getAttrEveryday;refine bI (wpAny_onRaise (wpAny_runValue ?_));rw[Ee];refine dj (I6 (room:=150) (by decide) A s2 L G [] [] b ⟨rfl,rfl⟩ d) ?_;rintro r a ⟨h,r1,g1,⟨rfl,rfl⟩,rfl,e⟩;exact ck (g a e)
theorem Q3{k1 k2 a n:Nat}{b:List Nat}(i:gY 150 A)(j:Sat (bY w.params) os s (bF x++([(FL,gW k1 k2 x.S b a)]++L)) G)(k:∀c,Sat (bY w.params) os c (bF x++([(FL,gW k1 k2 x.S b a)]++L)) G->Q (.ref x.CT) c):
  wpAny (model pz (wv w b1 b2)) A (eval (gO GE) (eX FL)) Q E s:=by
 rw[qV,arm_eval_Attribute];have l:attributeBase (kO (gO GE)) (q oP) (eX FL) (eval (kO (gO GE)) (eX FL))=eval (kO (gO GE)) (eX FL):=by
  rw[qW];rfl
 rw[l];have d:Sat (bY w.params) os s ((MQ x FL k1 k2 a b).pre++([]++(bF x++L))) ([]++G):=j.perm (by
  show(bF x++([(FL,gW k1 k2 x.S b a)]++L)).Perm ([(FL,gW k1 k2 x.S b a)]++(bF x++L));exact ve _ _ _)
 refine bI (kF (os:=os) (X:=bV) (X':=λz=>bV) (out:=λz z z=>(.ok (.ret (.ref x.S)),[(FL,gW k1 k2 x.S b a)])) (m:=eval (kO (gO GE)) (eX FL)) ?_ (Ed x FL k1 k2 a b) (λN t=>?_) (i.le (by decide)) ⟨rfl,rfl⟩ d ?_)
 ·exact yZ (kO (gO GE)) (eX FL)
 ·exact⟨rfl,λr0 g0 h=>⟨cV [],r0,g0,rfl,h,.refl _,.refl _⟩,λh=>by cases h⟩
 ·rintro c p r1 g1 ⟨rfl,rfl⟩ e;dsimp only;have f:Sat (bY w.params) os c (bF x++([(FL,gW k1 k2 x.S b a)]++L)) G:=e.perm (by
   show([(FL,gW k1 k2 x.S b a)]++([]++(bF x++L))).Perm _;rw[List.nil_append];exact ve _ _ _)
  refine bI (nJ ?_);refine bI (ky ?_);refine y0 i f λr g=>?_;rw[qW];refine bI (ck ?_);exact ck (k r g)
theorem vp:jh (bY w.params):=⟨o2 w.params,by kernel_rfl,by rw[<-pW];kernel_rfl⟩
theorem Q4:q Do++("<genexpr>.":PySem.Str)=q Dn:=by decide +kernel
theorem Q5:q Do++("<genexpr>":PySem.Str)=q Ln:=by decide +kernel
theorem aaj:(".0":PySem.Str)=q [46,48]:=by decide +kernel
theorem ac5:("<genexpr>":PySem.Str)=q (uS 0x3c67656e657870723e):=by decide +kernel
theorem Ep(FL:Nat):closureFor (kN GE) (eX FL)=pure []:=by kernel_rfl
theorem Q6(env:Env)(v:Value):genFold (gO GE) env v=pure v:=by
 rw[qV];rfl
theorem UR:(bY w.params).get 229=some (Dp):=by kernel_rfl
theorem aak{it:Nat}{cd:Value}(j:gY 150 A)(k:Sat (bY w.params) os s L G)(l:∀c C k1 g y,y.i=g->Sat (bY w.params) os c ((C,pg k1 it)::(y.g,cc y)::L) ((g,.fresh (.compStart GE 0 (.ref it) .none (pf C cd)))::G)->Q (.ref y.g) c):
  wpAny (model pz (wv w b1 b2)) A (do
   let d<-builtinsFor (eX FL).globals (eX FL).builtins
   let b<-newFunctionEnv (kN GE) (eX FL).globals [] [(".0",.ref it)] ((eX FL).qual++"<genexpr>.") none cd none d
   newGenerator (.compStart GE 0 (.ref it) .none b) "<genexpr>" ((eX FL).qual++"<genexpr>")) Q E s:=by
 have e:Sat (bY w.params) os s ((W8 FL it cd).pre++([]++L)) ([]++G):=k;refine kF (os:=os) (X:=bV) (X':=λa=>λr g=>r=[]/\g=[(a.n 2,.fresh (.compStart GE 0 (.ref it) .none (pf (a.n 0) cd)))])
  (out:=λz z a=>(.ok (.ret (.ref (a.n 1))),[(a.n 0,pg (a.n 3) it),(a.n 1,jX (a.n 2) (a.n 4) ⟨⟨[60,103,101,110,101,120,112,114,62]⟩⟩ (a.n 5) ⟨⟨[72,97,110,100,76,101,120,101,114,66,97,115,101,46,101,109,105,116,46,60,108,111,99,97,108,115,62,46,60,103,101,110,101,120,112,114,62]⟩⟩)])) ?_ (MR FL it cd) (λN t=>?_) (j.le (by decide)) ⟨rfl,rfl⟩ e ?_
 ·unfold W8;simp only[<-eh,<-PySem.W.ZFast.ze6600643334278800223,<-C7,<-PySem.W.ZFast.ze2426001476595277715];have e1:(eX FL).qual++("<genexpr>.":PySem.Str)=_:=Q4;have e2:(eX FL).qual++("<genexpr>":PySem.Str)=_:=Q5;rw[e1,e2,aaj,ac5];show _=Sem.bind (Sem.bind _ λd=>Sem.bind _ λb=>_) _;rw[pU]
  congr 1
  funext d
  rw[pU];rfl
 ·intro g;refine⟨rfl,?_,λh=>by cases h⟩;rintro r0 g0 ⟨m,⟨rfl,rfl⟩,rfl⟩;exact⟨cV [N,N+1,g,t,t+1,t+2],[],_,rfl,⟨rfl,rfl⟩,.refl _,.refl _⟩
 ·rintro c a r1 g1 ⟨rfl,rfl⟩ f;exact l c (a.n 0) (a.n 3) (a.n 2) ⟨a.n 1,a.n 2,a.n 4,⟨⟨[60,103,101,110,101,120,112,114,62]⟩⟩,a.n 5,⟨⟨[72,97,110,100,76,101,120,101,114,66,97,115,101,46,101,109,105,116,46,60,108,111,99,97,108,115,62,46,60,103,101,110,101,120,112,114,62]⟩⟩⟩ rfl f
end
end
section
variable{kt:KT}{A:Around}{L:bH}{G:bR}{s:Shared}{n:Num}{ns:List Num}{p:eT}
def Er(e:Expr):Expr:=(ep e).e
def rY(s:Stmt):Pos:=(sp s).p
theorem M9:q [115,117,112,101,114]=("super":PySem.Str):=by decide +kernel
def i0:Stmt:=b9 (dc 5 0) 0
theorem I7:i0=.Expr (cW i0) (rY i0):=by kernel_rfl
theorem Nb:cW i0=.Call (.Attribute (cJ (cW i0)) (q [95,95,105,110,105,116,95,95]) (fg (cW i0))) (dz (cW i0)) [] (cL (cW i0)):=by kernel_rfl
theorem Nc:cJ (cW i0)=.Call (.Name (q [115,117,112,101,114]) (BE (Er (cJ (cW i0))))) [] [] (cL (cJ (cW i0))):=by kernel_rfl
def kb(a:Arguments):Arg:=((a.posonlyargs++a.args).head?).getD ⟨q [],none,default⟩
theorem aal:∃a,(VZ).data=.func a/\a.params=gt (dc 5 0):=⟨_,rfl,rfl⟩
noncomputable def qf(o:Obj):Array Value:=match o.data with
 |.fields vs=>vs
 |Y=>#[]
def qg:PySem.Str:=q [47,99,108,97,105,109,47,99,117,116,46,112,121]
theorem I8:PySem.Challenge.pw_qt0012_01.main.file=("/claim/cut.py":String):=by kernel_rfl
theorem Nd:(pz.main.file:PySem.Str)=qg:=by rw[<-KQ,I8];decide +kernel
theorem Xj:((pz.main.file:PySem.Str)==qg)=true:=by rw[Nd];decide +kernel
theorem Xk:(pz.main.scope.names.lookup ("super":PySem.Str)).isSome=false:=by kernel_rfl
theorem Xl:q [95,95,99,108,97,115,115,95,95]=("__class__":PySem.Str):=by decide +kernel
abbrev Kn(kt:KT)(os:OsState)(w:World)(b c:Bool)(A:Around)(L:bH)(G:bR){a:Type}(m:Sem a)(v:a):Prop:=
 ∀s,Sat kt os s L G->wpAny (model pz (wv w b c)) A m (λd e=>d=v/\Sat kt os e L G) (λz z=>False) s
theorem tY{os:OsState}{w:World}{a b:Bool}{body:List Stmt}{e:Expr}{nm:PySem.Str}{env:Env}{C D:Pos}{f d S cls tf:Nat}{F H:Obj}{g:FuncData}{I:Arg}{vs:Array Value}{L':Nat->bH}{Q:Value->Shared->Prop}{E:Value->Shared->Prop}(K:e=.Call (.Attribute (cJ e) nm (fg e)) (dz e) [] (cL e))(M:cJ e=.Call (.Name (q [115,117,112,101,114]) C) [] [] D)(i:env.kindOf "super" = some .globalImplicit)(j:env.kindOf "__class__" = some .free)(k:(nm==("__class__":PySem.Str))=false)(l:env.func=some f)(N:kt.get f=some F)(m:F.data=.func g)(O:(g.params.posonlyargs++g.params.args).head?=some I)(r:env.code=.ref d)(t:kt.get d=some H)(u:H.data=.fields vs)(x:vs[2]?=some (Value.str qg tf))(P:Kn kt os w a b A L G (loadName env (q [115,117,112,101,114])) (.type iK))(R:Kn kt os w a b A L G (loadName env (q [95,95,99,108,97,115,115,95,95])) (.ref cls))(T:Kn kt os w a b A L G (loadName env I.arg) (.ref S))(U:Kn kt os w a b A L G (isType (.ref cls)) true)(V:∀s,Sat kt os s L G->wpAny (model pz (wv w a b)) A (call (.type iK) [.ref cls,.ref S]) (λv W=>∃c,v=.ref c/\Sat kt os W (L' c) G) (λp p=>False) s)(X:∀c s,Sat kt os s (L' c) G->PySem.wpAt (model pz (wv w a b)) A (.func body env) (methodCall (cJ e) nm (fg e) (cL e) env (.ref c) ((dz e).length+0) (backTo (cL e) (starEach (dz e) env)) (backToKw (cL e) (keywordEach [] env))) Q E s)(y:Sat kt os s L G):PySem.wpAt (model pz (wv w a b)) A (.func body env) (eval e env) Q E s:=by
 have z:eval e env=eval (.Call (.Attribute (cJ e) nm (fg e)) (dz e) [] (cL e)) env:=b8 (λe=>eval e env) K;rw[z,arm_eval_Call];have Y:attributeBase (cJ e) nm env (eval (cJ e) env)=attributeBase (.Call (.Name "super" C) [] [] D) nm env (eval (cJ e) env):=by
  rw[<-M9];exact b8 (λo=>attributeBase o nm env (eval (cJ e) env)) M
 rw[Y];have n1:=M9;have n2:=Xl;have n3:=IN;refine sG (ks_wpAt_super_base i j k l (y.old f _ N) m O r (y.old d _ t) u x Xj Xk ?_);rw[<-n1,<-n2,n3];refine iI (P s y) (λv s1 g1=>⟨g1.1,?_⟩) (λp p h=>h.elim);refine iI (R s1 g1.2) (λv s2 g2=>?_) (λp p h=>h.elim);refine iI (T s2 g2.2) (λv3 Z g3=>?_) (λp p h=>h.elim);rw[g2.1];refine iI (U Z g3.2) (λv4 s4 J=>⟨J.1,?_⟩) (λp p h=>h.elim);rw[g3.1];refine iI (V s4 J.2) (λv5 s5 g5=>?_) (λp p h=>h.elim);obtain⟨c,rfl,B⟩:=g5;refine sG (rH (nJ ?_));exact X c s5 B
theorem gE{os:OsState}{w:World}{c d:Bool}{room:Nat}{v:Value}{m:Sem Value}(f:p.t=m.bind λv=>.pure (.done (.ret v)))(e:eH pz (wv w c d) kt room (n::ns) p)(a:p.lB=λz z=>.fin (.ok (.ret v)) p.pre)(g:gY room A)(hn:n.seg=false:=by rfl):Kn kt os w c d A (p.pre++L) G m v:=by
 intro s i;refine kF (os:=os) (X:=bV) (X':=λz=>bV) (out:=λz z z=>(.ok (.ret v),p.pre)) f e (λN t=>?_) (F:=L) (FG:=G) (r0:=[]) (g0:=[]) g ⟨rfl,rfl⟩ i ?_
 ·rw[a];dsimp only[hS.res];exact⟨hn,λr0 g0 h=>⟨cV [],r0,g0,rfl,h,.refl _,.refl _⟩,λh=>rfl⟩
 ·rintro k j r1 g1 ⟨rfl,rfl⟩ b;exact⟨rfl,b⟩
theorem mO{os:OsState}{w:World}{d f:Bool}{room:Nat}{v:Bool}{m:Sem Bool}(i:p.t=m.bind λv=>.pure (.done (.ret (.bool v))))(e:eH pz (wv w d f) kt room (n::ns) p)(a:p.lB=λy y=>.fin (.ok (.ret (.bool v))) p.pre)(j:gY room A)(hn:n.seg=false:=by rfl):Kn kt os w d f A (p.pre++L) G m v:=by
 intro s k;have z:=gE (os:=os) (L:=L) (G:=G) (m:=m.bind λb=>.pure (.bool b)) (by rw[i,pU];rfl) e a j hn s k;intro l p c;have g:=z l p c;rw[iH]at g;refine eE _ _ _ ?_ (λe o q h=>h) _ _ g;intro b o q h;refine⟨?_,h.2⟩;have:=h.1;injection this
theorem Kn.perm{os:OsState}{w:World}{a b:Bool}{c:bH}{d:Type}{m:Sem d}{v:d}(h:Kn kt os w a b A L G m v)(e:L.Perm c):Kn kt os w a b A c G m v:=
 λs f=>iI (h s (f.perm e.symm)) (λz z g=>⟨g.1,g.2.perm e⟩) λz z h=>h
theorem Nf:((gt (dc 5 0)).posonlyargs++(gt (dc 5 0)).args).head?=some (kb (gt (dc 5 0))):=by kernel_rfl
theorem I9:(kb (gt (dc 5 0))).arg=q [115,101,108,102]:=by kernel_rfl
theorem Q7:(Lo).data=.fields (qf (Lo)):=rfl
theorem Q8:(qf (Lo))[2]?=some (Value.str qg 314):=by kernel_rfl
theorem aam(P:Params):(bY P).get 102=some (VZ):=by kernel_rfl
theorem aan(P:Params):(bY P).get 101=some (Lo):=by kernel_rfl
theorem aao(FL:Nat):(gD FL).kindOf "super" = some .globalImplicit:=by kernel_rfl
theorem aap(FL:Nat):(gD FL).kindOf "__class__" = some .free:=by kernel_rfl
section
variable{room:Nat}
theorem Q9{FL S' d k:Nat}{y:UH}{z:gv}{c:Ch}(i:gY 250 A)(E:Sat (bY w.params) os s ([(S'+642,yO d []),(d,cy [] 0),(FL,qd (S'+642) k y),(y.l,eI z c)]++L) G):
  PySem.wpAt (model pz (wv w b1 b2)) A (.func (bJ (dc 5 0)) (gD FL)) (exec i0 (gD FL))
   (λf m=>f=.next/\Sat (bY w.params) os m ([(S'+642,yO d [some (.ref y.l),some (.str ⟨⟨y.ty⟩⟩ y.tt),some (.str ⟨⟨y.vl⟩⟩ y.vt)]),(d,cy [] 0),(FL,qd (S'+642) k y),(y.l,eI z c)]++L) G) (λe m=>False) s:=by
 have H:=I7;have D:=Nb;have I:=Nc;have J:=λa=>Ei FL S' d k a y z c;have u:∀a,(MZ FL S' d k a y z c).t=(methodCall (cJ (cW i0)) (q [95,95,105,110,105,116,95,95]) (fg (cW i0)) (cL (cW i0)) (gD FL) (.ref a) ((dz (cW i0)).length+0) (backTo (cL (cW i0)) (starEach (dz (cW i0)) (gD FL))) (backToKw (cL (cW i0)) (keywordEach [] (gD FL)))).bind λv=>.pure (.done (.ret v)):=
  λa=>n7 (cW i0) (q [95,95,105,110,105,116,95,95]) (gD FL) a
 obtain⟨M,x,j⟩:=aal;rw[H];generalize cW i0=e at *;generalize rY i0=O at *;refine ks_wpAt_Expr_any ?_ rfl (by rw[D];rfl);refine tY (body:=bJ (dc 5 0)) (S:=S'+642) (cls:=127) (tf:=314) (L':=λa=>[(a,tT 127 (S'+642) 127),(S'+642,yO d []),(d,cy [] 0),(FL,qd (S'+642) k y),(y.l,eI z c)]++L) D I (aao FL) (aap FL) (by decide +kernel) rfl (aam _) x (by rw[j];exact Nf) rfl (aan _) Q7 Q8
  (gE (p:=UI FL) (kT (gD FL) (q [115,117,112,101,114])) (IP FL) rfl (i.le (by decide)))
  (gE (p:=UJ FL) (kT (gD FL) (q [95,95,99,108,97,115,115,95,95])) (IQ FL) rfl (i.le (by decide)))
  ?_ (mO (p:=Xb) ?_ (MY) rfl (i.le (by decide))) ?_ ?_ E
 ·rw[I9];refine Kn.perm (gE (p:=UK FL (S'+642) k y) (L:=[(S'+642,yO d []),(d,cy [] 0),(y.l,eI z c)]++L) (kT (gD FL) (q [115,101,108,102])) (IR FL (S'+642) k y) rfl (i.le (by decide))) ?_;exact((gM _ _ _).trans ((gM _ _ _).cons _))
 ·unfold Xb;rw[<-eh,<-C8]
 ·intro s1 g;have K:gN 250 (.call (.type iK) ⟨[.ref 127,.ref (S'+642)],[]⟩) [(S'+642,yO d [])] bV (λZ Z b=>(.ok (.ret (.ref (b.n 0))),[(b.n 0,tT 127 (S'+642) 127),(S'+642,yO d [])])) (λZ=>bV):=
   bE.mono (bE.o rfl (IS (S'+642) d) (by intro P N t _;exact cC (cV [N]))) (by decide)
  refine wpAny_call (dj (K A s1 ([(d,cy [] 0),(FL,qd (S'+642) k y),(y.l,eI z c)]++L) G [] [] i ⟨rfl,rfl⟩ g) ?_);rintro r m ⟨b,r1,g1,⟨rfl,rfl⟩,rfl,B⟩;exact⟨b.n 0,rfl,B⟩
 ·intro a s1 g;refine j1 (os:=os) (X:=bV) (X':=λZ=>bV) (out:=λZ Z Z=>(.ok (.ret .none),[(S'+642,yO d [some (.ref y.l),some (.str ⟨⟨y.ty⟩⟩ y.tt),some (.str ⟨⟨y.vl⟩⟩ y.vt)]),(d,cy [] 0),(FL,qd (S'+642) k y),(y.l,eI z c)])) (u a) (J a) (λN t=>?_) (F:=L) (FG:=G) (r0:=[]) (g0:=[]) (i.le (by decide)) ⟨rfl,rfl⟩ g ?_
  ·exact⟨rfl,λr0 g0 h=>⟨cV [],r0,g0,rfl,h,.refl _,.refl _⟩,λh=>by cases h⟩
  ·rintro m b r1 g1 ⟨rfl,rfl⟩ C;exact⟨rfl,C⟩
theorem Ng:bJ (dc 5 0)=i0::(bJ (dc 5 0)).drop 1:=by kernel_rfl
theorem US(P:Params):(bY P).get 641=some (V2):=by kernel_rfl
theorem y3(y:UH)(z:gv)(c:Ch):gN 300 (.call (.ref 127) ⟨Eh y,[]⟩) [(y.l,eI z c)] bV
  (λp p a=>(.ok (.ret (.ref (a.n 1))),[(a.n 1,yO (a.n 0) [some (.ref y.l),some (.str ⟨⟨y.ty⟩⟩ y.tt),some (.str ⟨⟨y.vl⟩⟩ y.vt)]),(a.n 0,ctD (a.n 2) (a.n 3) y),(y.l,eI z c)])) (λp=>bV):=by
 refine bE.of' (US _) (IU y z c) λN t q=>?_;obtain⟨S',rfl⟩:∃S',N=S'+641:=⟨N-641,(Nat.sub_add_cancel (Nat.le_of_lt q)).symm⟩
 refine⟨λp=>bV,?_,λx i j=>⟨rfl,λr0 g0 h=>⟨cV [S'+641,S'+642,i+1,i+3],r0,g0,rfl,h,.refl _,.refl _⟩,λh=>by cases h⟩⟩;have m:=qe (prog:=pz) (w:=wv w b1 b2) (kt:=bY w.params) (os:=os) (room:=250) (c:=.func (bJ (dc 5 0)) (gD (S'+643))) (pre:=[(S'+642,yO (S'+641) []),(S'+641,cy [] 0),(S'+643,qd (S'+642) t y),(y.l,eI z c)]) (X:=bV) (X':=λp=>bV)
  (gP:=λp p p=>[(S'+642,yO (S'+641) [some (.ref y.l),some (.str ⟨⟨y.ty⟩⟩ y.tt),some (.str ⟨⟨y.vl⟩⟩ y.vt)]),(S'+641,cy [] 0),(S'+643,qd (S'+642) t y),(y.l,eI z c)]) (s1:=i0) (rest:=(bJ (dc 5 0)).drop 1) (env:=gD (S'+643)) (by
   rintro o s F FG r0 g0 b ⟨rfl,rfl⟩ r;have u:=Q9 (FL:=S'+643) (S':=S') (d:=S'+641) (k:=t) (y:=y) (z:=z) (c:=c) b (L:=F) (G:=FG) r;refine xv u ?_ λp p h=>h;rintro f B ⟨rfl,e⟩;exact⟨rfl,cV [],[],[],⟨rfl,rfl⟩,e⟩)
 rw[<-Ng]at m;exact λo v g b=>m o v g (b.le (by decide))
end
end
section
variable{l:List Env}{Q:Unit->Shared->Prop}{T:Nat}{v:Nat->Value}{pre:bH}
noncomputable abbrev sTb:String:=PySem.W.SZ.s6853684981869738458x9
theorem ac6:"traceback" = sTb:=PySem.W.SZ.e6853684981869738458x9
noncomputable def gZ(D ar:Nat)(h:Value):Obj:=⟨.ref 156,some D,.fields ⟨[.ref ar,h,.none,.none,.bool false,.none]⟩,#[]⟩
def rk(v:Nat->Value)(a:Value):Obj:=⟨.type sTb,none,.fields ⟨[v 0,v 1,.none,a,.none,v 2,v 3,v 4,v 5,v 6,v 7]⟩,#[]⟩
section
variable{M:Model}{kt:KT}{os:OsState}{s:Shared}{L:bH}{G:bR}{A:Around}{E:Value->Shared->Prop}
theorem Sat.slots{S:List Nat}{f:Heap}(h:Sat kt os s L G)(hx:Heap.SlotsOnly S s.heap f)(j:∀b∈S,∃o,((b,o):Nat×Obj)∈L/\jW o=true):Sat kt os { s with heap:=f } L G:=by
 obtain⟨SL,h⟩:=h;refine⟨λa=>if a∈S then((f.get? a).map (·.slots)).getD #[]else SL a,λa o e=>?_,λp g=>?_,h.free,h.nd,h.kB,h.Gf,h.bare,h.C0⟩
 ·refine(hx.2.1 a λm=>?_).trans (h.old a o e);obtain⟨o',d,_⟩:=j a m;have:=h.free _ d;rw[show kt.get a=none from this]at e;cases e
 ·dsimp only;by_cases m:p.1∈S
  ·rw[bP m];obtain⟨o',d,hd⟩:=j _ m;have e:p.2=o':=by
    have nd:=h.nd;have key:∀{K:bH}{a:Nat}{x y:Obj},(K.map (·.1)).Nodup->((a,x):Nat×Obj)∈K->((a,y):Nat×Obj)∈K->x=y:=by
     intro K
     induction K with
     |nil=>intro a x y _ hx _;cases hx
     |cons q K k=>
      intro a x y nd hx hy;rw[fN,pR]at nd;rcases c4.mp hx with rfl|hx
      ·rcases c4.mp hy with hy|hy
       ·injection hy with _ hy;exact hy.symm
       ·exact absurd (iE hy) nd.1
      ·rcases c4.mp hy with hy|hy
       ·rw[<-hy]at nd;exact absurd (iE hx) nd.1
       ·exact k nd.2 hx hy
    exact key nd (g) d
   obtain⟨sl,i⟩:=hx.2.2 p.1 _ (h.own p g);rw[i];rw[e,zY hd,zY hd];rfl
  ·rw[bu m,hx.2.1 _ m];exact h.own p g
theorem y4(h:Sat kt os s L G)(b:∀env∈l,ju L env):s.heap.FunFrames {} l:=by
 induction l with
 |nil=>trivial
 |cons env l d=>
  refine cm ?_;intro G0;obtain⟨hn,f,o,g,i,hd,_⟩:=b env (.head _);refine⟨λq=>?_,⟨f,?_⟩,d λe m=>b e (.tail _ m)⟩
  ·unfold f7 at hn;rw[q]at hn;cases hn
  ·obtain⟨sl,a⟩:=h.acm (f,o) i;refine⟨_,g,by exact rfl,a,λvs q=>?_⟩;rw[zY hd]at q;have j:o.data=.fields vs:=q;unfold jW at hd;rw[j]at hd;cases hd
theorem qh{fr:Option Addr}(h:∃env∈l,env.frame=fr):∃env l',l.dropWhile (λx=>x.frame !=fr)=env::l'/\env.frame=fr/\∀x∈env::l',x∈l:=by
 induction l with
 |nil=>obtain⟨_,m,_⟩:=h;cases m
 |cons e l d=>
  by_cases q:e.frame=fr
  ·exact⟨e,l,by simp[q],q,λz m=>m⟩
  ·refine cm ?_;intro G0;obtain⟨env,m,b⟩:=h;rcases c4.mp m with rfl|m
   ·exact absurd b q
   ·refine cm ?_;intro G0;obtain⟨a,l',e1,e2,e3⟩:=d ⟨env,m,b⟩;refine⟨a,l',?_,e2,λx f=>.tail _ (e3 x f)⟩;rw[List.dropWhile_cons_of_pos (by simpa using q)];exact e1
theorem qX{env:Env}{FL e D ar:Nat}{q j:Value}{i:Bool}(F:A.frames=some l)(P:∀x∈l,ju L x)(H:∃x∈l,x.frame=some FL)(K:env.frame=some FL)(N:Sat kt os s ((e,gZ D ar q)::L) G)(h:∀B T v,Sat kt os B ((e,gZ D ar (.ref T))::(T,rk v (rawInt FL))::L) G->Q () B):
  wpAny M A (do let a<-PySem.frameOf env;let C<-entryPlaceOf FL i;let b<-EntryCells.newEntry j a .none (rawInt FL) .none C;setField (.ref e) 1 b) Q E s:=by
 refine cm ?_;intro G0;obtain⟨r,l',e1,e2,e3⟩:=qh (fr:=env.frame) (by rw[K];exact H);have t:∀x∈r::l',ju ((e,gZ D ar q)::L) x:=λx m=>(P x (e3 x m)).mono λZ m=>.tail _ m;have fr:wpAny M A (PySem.frameOf env) (λv B=>v=.ref FL/\Sat kt os B ((e,gZ D ar q)::L) G) E s:=by
  refine bI (wpAny_frameEnvs F ?_);rw[e1];refine bI (bI (wpAny_readyFrames_fun (y4 N t) λO p=>ck ?_));rw[e2,K];refine ck ⟨rfl,N.slots p λb m=>?_⟩;refine cm ?_;intro G0;obtain⟨x,R,ex⟩:=List.mem_filterMap.mp m;refine cm ?_;intro G0;obtain⟨_,f,o,S,U,hd,_⟩:=t x R;rw[S]at ex;injection ex with ex;subst ex;exact⟨o,U,hd⟩
 refine bI (iI fr (λv s1 V=>?_) λZ Z h=>h);obtain⟨rfl,I⟩:=V;refine bI (wpAny_entryPlaceOf λC u=>?_);refine bI (jD ?_ (u.sizeOk5 _ _ _ _ _));obtain⟨v,W⟩:∃v,({ cls:=.type "traceback",dict:=none,data:=.fields ([j,.ref FL,.none,rawInt FL,.none]++(if C.isEmpty then List.replicate 6 Value.none else C)).toArray }:Obj)=rk v (rawInt FL):=by
  refine cm ?_;intro G0;rcases u with rfl|⟨a,b,c,d,g,k,_,rfl⟩
  ·exact⟨λn=>match n with|0=>j|1=>.ref FL|_=>.none,rfl⟩
  ·exact⟨λn=>match n with|0=>j|1=>.ref FL|2=>rawInt a|3=>rawInt b|4=>rawInt c|5=>rawInt d|6=>g|_=>.bool k,rfl⟩
 rw[W];have J:=I.alloc (o:=rk v (rawInt FL)) rfl;have y:=J.perm (gM (e,gZ D ar q) _ L);have he:=y.own (e,gZ D ar q) (.head _);refine lM he rfl (by show 1<6;decide) ?_;have z:=y.turn (f:=Obj.mapFields (·.setIfInBounds 1 (.ref s1.heap.objs.size))) rfl s1.toks;exact h _ _ _ z
theorem kU{fr:Option Addr}{e D ar:Nat}{b:Value}(d:Sat kt os s ((e,gZ D ar (.ref T))::(T,rk v b)::L) G)(h:∀g,Sat kt os g ((e,gZ D ar (.ref T))::(T,rk v (fr.elim .none λf=>rawInt f))::L) G->Q () g):wpAny M A (setFlight (.ref e) fr) Q E s:=by
 refine bI (eQ (d.own (e,gZ D ar (.ref T)) (.head _)) rfl rfl ?_);have a:=d.perm (gM (T,rk v b) _ L);refine lM (a.own (T,rk v b) (.head _)) rfl (by show 3<11;decide) ?_;have z:=a.turn (f:=Obj.mapFields (·.setIfInBounds 3 (fr.elim .none λf=>rawInt f))) rfl s.toks;exact h _ (z.perm (gM _ _ L))
theorem Ja{env:Env}{FL e D ar:Nat}(b:A.frames=some l)(m:∀x∈l,ju L x)(d:∃x∈l,x.frame=some FL)(j:env.frame=some FL)(k:Sat kt os s ((e,gZ D ar .none)::L) G)(h:∀f T v,Sat kt os f ((e,gZ D ar (.ref T))::(T,rk v .none)::L) G->Q () f):wpAny M A (leaving env (.ref e)) Q E s:=by
 unfold leaving noteFrame;simp only[j];refine bI (bI (eQ (k.own (e,gZ D ar .none) (.head _)) rfl rfl ?_));exact qX b m d j k λf T v g=>kU g λi a=>h i T v a
theorem BF{env:Env}{FL e D ar:Nat}(d:A.frames=some l)(n:∀x∈l,ju L x)(g:∃x∈l,x.frame=some FL)(k:env.frame=some FL)(i:Sat kt os s ((e,gZ D ar (.ref T))::(T,rk v .none)::L) G)(h:∀b T v,Sat kt os b ((e,gZ D ar (.ref T))::(T,rk v (rawInt FL))::L) G->Q () b):wpAny M A (noteFrame (.ref e) env) Q E s:=by
 unfold noteFrame;simp only[k];refine bI (eQ (i.own (e,gZ D ar (.ref T)) (.head _)) rfl rfl ?_);refine bI (eQ (i.own (T,rk v .none) (.tail _ (.head _))) rfl rfl ?_);have a:=i.perm (gM (T,rk v .none) _ L);refine bI (lM (a.own (T,rk v .none) (.head _)) rfl (by show 3<11;decide) ?_);have z:=a.turn (f:=Obj.mapFields (·.setIfInBounds 3 .none)) rfl s.toks;have o:=z.perm (gM (e,gZ D ar (.ref T)) _ L);refine qX d (λx m=>(n x m).mono λy m=>.tail _ m) g k o λb p q j=>h b p q ?_;exact Sat.drop (j.perm (((fu (l₁:=[(T,rk v .none)])).cons _).cons _))
theorem Jb{env:Env}{FL e D ar:Nat}(b:A.frames=some l)(j:∀x∈l,ju L x)(d:∃x∈l,x.frame=some FL)(k:env.frame=some FL)(m:Sat kt os s ((e,gZ D ar (.ref T))::(T,rk v .none)::L) G)(h:∀f T v,Sat kt os f ((e,gZ D ar (.ref T))::(T,rk v .none)::L) G->Q () f):wpAny M A (leaving env (.ref e)) Q E s:=by
 exact bI (BF b j d k m λf T v g=>kU g λi a=>h i T v a)
theorem Jc{env:Env}{FL e D ar:Nat}(d:env.frame=some FL)(a:Sat kt os s ((e,gZ D ar (.ref T))::(T,rk v (rawInt FL))::L) G)(h:∀b,Sat kt os b ((e,gZ D ar (.ref T))::(T,rk v .none)::L) G->Q () b):wpAny M A (leaving env (.ref e)) Q E s:=by
 refine bI ?_;unfold noteFrame;simp only[d];refine bI (eQ (a.own (e,gZ D ar (.ref T)) (.head _)) rfl rfl ?_);refine bI (eQ (a.own (T,rk v (rawInt FL)) (.tail _ (.head _))) rfl rfl ?_);rw[bP (by simp)];exact ck (kU a h)
end
def im(env:Env)(e:Value):Sem PySem.Fin:=R.bindR (R.onRaiseR (.raise e) (PySem.W.ZFast.zw9442747609961115081 env)) hC
noncomputable def rZ(env:Env)(e:Value):Sem PySem.Fin:=R.onRaiseR (.raise e) λx=>R.bindR (PySem.W.ZFast.noteFrameY x env) λz=>PySem.W.ZFast.zw1623429502029203251 x
def hA(D ar T:Nat)(e:Nat)(v:Nat->Value)(a:Value):bH:=[(e,gZ D ar (.ref T)),(T,rk v a)]
def kc(a:L2)(D ar e:Nat)(b:Value):bH:=hA D ar (a.n 0) e a.v b
section
variable{prog:Program}{w:World}{kt:KT}{os:OsState}{room:Nat}
theorem n8{A:Around}{c:Code}{L L':bH}{FL:Nat}{env:Env}{fo:Obj}(h:lh A c L)(d:c.env?=some env)(f:env.frame=some FL)(hn:f7 env=true)(o:∀p∈L,p∈L')(j:((FL,fo):Nat×Obj)∈L')(k:jW fo=true)(b:fo.cls=.type lO):
  ∃l,A.frames=some l/\(∀x∈l,ju L' x)/\∃x∈l,x.frame=some FL:=by
 obtain⟨n,e,l,r,t,u⟩:=h;have own:∀x∈c.envs,x=env:=λx m=>by
  unfold Code.envs at m;rw[d]at m
  split at m
  ·simpa using m
  ·cases m
 refine⟨c.envs++l,by rw[e,pushEnvs_eq,r];rfl,λx m=>?_,?_⟩
 ·rcases dw.mp m with m|m
  ·rw[own x m];exact⟨hn,FL,fo,f,j,k,b⟩
  ·refine cm ?_;intro G0;rcases t x m with q|⟨g,a,ea,i⟩
   ·exact q.mono o
   ·have:a=FL:=by
     unfold fp VN at ea;rw[d]at ea
     split at ea
     ·cases ea
     ·dsimp only at ea;rw[f]at ea;injection ea with ea;exact ea.symm
    subst this;exact⟨g,a,fo,i,j,k,b⟩
 ·refine cm ?_;intro G0;by_cases q:c.isFrame=true
  ·refine⟨env,dQ _ ?_,f⟩;unfold Code.envs;rw[bP q,d];simp
  ·refine cm ?_;intro G0;obtain⟨x,m,i⟩:=u FL (by unfold fp VN;rw[d];cases y:c.isFrame with
    |true=>exact absurd y q
    |false=>exact f)
   exact⟨x,dp _ m,i⟩
theorem Es(env:Env)(e:Value):im env e=((Sem.raise e:Sem Flow).onRaise (leaving env)).bind hC:=by
 unfold im;rw[<-eh,<-jb,<-F1]
theorem Et(env:Env)(e:Value):rZ env e=(Sem.raise e:Sem PySem.Fin).onRaise (λx=>(noteFrame x env).bind λz=>theTreesLotGoes x):=by
 unfold rZ;rw[<-eh,<-jb,<-F4,<-PySem.W.ZFast.ze1623429502029203251]
theorem Eu{c:Code}{env:Env}{e:Nat}{out:Nat->Nat->L2->bH}{X:b7}{X':L2->b7}(h:∀(d:Around)(s:Shared)(F:bH)(FG:bR)(r0:bH)(g0:bR)(Q:Unit->Shared->Prop),lh d c F->X r0 g0->Sat kt os s (pre++(r0++F)) (g0++FG)->(∀(b:Shared) a r1 g1,X' a r1 g1->Sat kt os b (out b.heap.objs.size b.toks a++(r1++F)) (g1++FG)->Q () b)->
   wpAny (model prog w) d (leaving env (.ref e)) Q (λv v=>False) s):
  dt prog w kt os room c (im env (.ref e)) pre X (λN t a=>(.raise (.ref e),out N t a)) X':=by
 intro d k f z s F FG r0 g0 m n o r;rw[Es];show k (((leaving env (.ref e)).bind λv=>(Sem.raise (.ref e):Sem Flow)).bind hC) s;rw[dI,dI,eg];refine f _ _ _ s λx p B g=>?_;refine eE _ _ _ (λu C b y=>y) (λv v v q=>q.elim) _ _ (h d s F FG r0 g0 _ m n o (λb a r1 g1 i j=>?_) x p g);exact r b a r1 g1 i j
end
section
variable{prog:Program}{w:World}{kt:KT}{os:OsState}{room:Nat}{c:Code}{env:Env}{FL e D ar:Nat}{fo:Obj}
theorem dt.fr{tr:Sem PySem.Fin}{a:Nat->Nat->L2->Sem PySem.Fin×bH}(h:dt prog w kt os room c tr pre bV a (λz=>bV))(Y:b7):dt prog w kt os room c tr pre Y a (λz=>Y):=by
 intro g i b j s F FG r0 g0 k n o q;refine h g i b j s (r0++F) (g0++FG) [] [] (k.mono λp m=>dp _ m) ⟨rfl,rfl⟩ o ?_;rintro r d r1 g1 ⟨rfl,rfl⟩ f;exact q r d r0 g0 n f
theorem Jd(h:c.env?=some env)(g:env.frame=some FL)(hn:f7 env=true)(i:jW fo=true)(a:fo.cls=.type lO):
  dt prog w kt os room c (im env (.ref e)) [(e,gZ D ar .none),(FL,fo)] bV (λz z b=>(.raise (.ref e),kc b D ar e .none++[(FL,fo)])) (λz=>bV):=by
 refine Eu λt s F FG r0 g0 Q d j k n=>?_;obtain⟨rfl,rfl⟩:=j;refine cm ?_;intro G0;obtain⟨l,o,p,q⟩:=n8 (L':=(FL,fo)::F) d h g hn (λz m=>.tail _ m) (.head _) i a;exact Ja o p q g k λr T v f=>n r ⟨λz=>T,v,λz=>[]⟩ [] [] ⟨rfl,rfl⟩ f
theorem Je(h:c.env?=some env)(g:env.frame=some FL)(hn:f7 env=true)(i:jW fo=true)(a:fo.cls=.type lO):
  dt prog w kt os room c (im env (.ref e)) (hA D ar T e v .none++[(FL,fo)]) bV (λz z b=>(.raise (.ref e),kc b D ar e .none++[(FL,fo)])) (λz=>bV):=by
 refine Eu λt s F FG r0 g0 Q d j k n=>?_;obtain⟨rfl,rfl⟩:=j;refine cm ?_;intro G0;obtain⟨l,o,p,q⟩:=n8 (L':=(FL,fo)::F) d h g hn (λz m=>.tail _ m) (.head _) i a;exact Jb o p q g k λr T v f=>n r ⟨λz=>T,v,λz=>[]⟩ [] [] ⟨rfl,rfl⟩ f
theorem wj(b:env.frame=some FL):
  dt prog w kt os room c (im env (.ref e)) (hA D ar T e v (rawInt FL)) bV (λz z d=>(.raise (.ref e),hA D ar T e v .none)) (λz=>bV):=by
 refine Eu λk s F FG r0 g0 Q f g h i=>?_;obtain⟨rfl,rfl⟩:=g;exact Jc b h λj a=>i j ⟨λz=>0,v,λz=>[]⟩ [] [] ⟨rfl,rfl⟩ a
theorem Ew(o:c.env?=some env)(j:env.frame=some FL)(hn:f7 env=true)(r:jW fo=true)(b:fo.cls=.type lO):
  dt prog w kt os room c (rZ env (.ref e)) (hA D ar T e v .none++[(FL,fo)]) bV (λZ Z d=>(.raise (.ref e),kc d D ar e (rawInt FL)++[(FL,fo)])) (λZ=>bV):=by
 rintro t k f N s F FG r0 g0 g ⟨rfl,rfl⟩ x y;rw[Et];show k (((noteFrame (.ref e) env).bind λZ=>theTreesLotGoes (.ref e)).bind λZ=>(Sem.raise (.ref e):Sem PySem.Fin)) s;rw[dI];refine f _ _ _ s λB p C h=>?_;refine cm ?_;intro G0;obtain⟨l,H,I,J⟩:=n8 (L':=(FL,fo)::F) g o j hn (λZ m=>.tail _ m) (.head _) r b;have z:wpAny (model prog w) t ((noteFrame (.ref e) env).bind λZ=>theTreesLotGoes (.ref e)) (λZ a=>k (.raise (.ref e)) a) (λZ Z=>False) s:=by
  refine bI (BF H I J j x λa T v i=>?_);refine bI (wpAny_stack_any λn=>?_);refine bI (nJ ?_);refine bI (ky (wpAny_point ?_));refine nJ ?_;exact y a ⟨λZ=>T,v,λZ=>[]⟩ [] [] ⟨rfl,rfl⟩ i
 exact eE _ _ _ (λu O a K=>K) (λZ Z Z q=>q.elim) _ _ (z B p h)
end
end
def Hh(FL:Nat):Env:=hV (dc 10 9) FL (q (uS 0x48616e644c65786572426173652e6572726f722e3c6c6f63616c733e2e)) 265 264
def aar(x:fD)(a:Str)(b k:Nat)(c d:Value)(k3 k4:Nat):Obj:=cD [eW eG k (.ref x.S),eW (uS 0x6d657373616765) (k+1) (.str a b),eW qJ k3 c,eW lU k4 d] 4
def BG(k1 k2 k3:Nat)(a b c:Value):Obj:=cy [eW (uS 0x6d7367) k1 a,eW lU k2 b,eW (uS 0x68696e7473) k3 c] 3
def Ex(c:Code)(env:Env)(e D b FL:Nat)(fo:Obj):vf where
 c:=c
 tr:=im env (.ref e)
 pre:=[(e,gZ D b .none),(FL,fo)]
 out _ _ a:=(.raise (.ref e),kc a D b e .none++[(FL,fo)])
 e:=true
def aas(x:fD)(d:Str)(e:Nat)(c:Ch):bK:=⟨.call (.ref 265) ⟨[.ref x.S,.str d e],[]⟩,bF x,λN t=>.con (ic x c) λa b l1=>.stk λz z=>.step (Ex (.func (bJ (dc 10 9)) (Hh N)) (Hh N) (a+1) (a+3) a N (aar x d e t (.ref (l1.n 0)) (.ref (l1.n 2)) b (b+2))) λf g l2=>
  .fin (.error (.ref (a+1))) (kc l2 (a+3) a (a+1) .none++[(a+3,BG (b+8) (b+10) (b+13) (.str d e) (.ref (l1.n 2)) (.ref (a+4))),((l1.n 2),eI (e8 l1) c)])⟩
theorem Jf x ms mt c:RP 520 2 [Uf,nU 0x1000000000000000000006606640330003000036666 0 0 0 0,nU 0x13e7e8088088aaa08000808008000089999950000900000500059aaa080008080080000899aaa8080008080080000899009999999900200008080000000000 0x157 5 14 517,nU 0 0x15800 0 0 0] (aas x ms mt c):=.a
def aat(x:fD)(c:Str)(d:Nat):bK:=⟨.call (.ref 265) ⟨[.ref x.S,.str c d],[]⟩,bF x,λN t=>.con (mL x) λa b l1=>.stk λz z=>.step (Ex (.func (bJ (dc 10 9)) (Hh N)) (Hh N) (a+1) (a+3) a N (aar x c d t .none .none b (b+1))) λe f l2=>
  .fin (.error (.ref (a+1))) (kc l2 (a+3) a (a+1) .none++[(a+3,BG (b+7) (b+9) (b+12) (.str c d) .none (.ref (a+4)))])⟩
theorem Jg x ms mt:RP 520 2 [Uf,nU 0x10000000000000000000033033333 0 0 0 0,nU 0x13e7e505505577705000505005000056666667770500050500500005667775050005050050000566006666666600200005050000000000 0x124 5 13 517,nU 0 0x1500 0 0 0] (aat x ms mt):=.a
section
variable{L it:Nat}
noncomputable abbrev Xm:String:=PySem.W.SZ.s2865449183208198353x13
noncomputable def Jh(S:Value->Value->Bool):{ t:Value->Value->Value->Sem PySem.Fin//S=Builtin.List.listSameRef->t=PySem.W.ZFast.zw8938917530802602619 }:=by
 refine⟨?t,λa=>?p⟩
 case p=>
  delta PySem.W.ZFast.zw8938917530802602619
  rw[<-a]
def mP(L it:Nat)(o:Obj):vf where
 c:=.builtin Xm ⟨[.ref L,.ref it],[]⟩
 tr:=(Jh Builtin.List.listSameRef).1 (.ref L) (.ref it) (.ref L)
 pre:=[(L,br [] 0),(it,o)]
 out _ _ _:=((Jh λz z=>false).1 (.ref L) (.ref it) (.ref L),[(L,br [] 0),(it,o)])
theorem Ji(h:L≠it)(c:Value):(Jh Builtin.List.listSameRef).1 (.ref L) (.ref it) c=(Jh λz z=>false).1 (.ref L) (.ref it) c:=by
 have e:Builtin.List.listSameRef (.ref L) (.ref it)=false:=by simp[Builtin.List.listSameRef,h]
 unfold Jh;dsimp only;rw[e]
theorem Ra{prog:Program}{w:World}{kt:KT}{os:OsState}{room:Nat}{o:Obj}:c9 prog w kt os room (mP L it o).c (mP L it o).tr (mP L it o).pre bV (mP L it o).out (λz=>bV):=by
 rintro g b d h s F FG r0 g0 ⟨rfl,rfl⟩ a f;have nd:=a.nd;have ne:L≠it:=λe=>by
  subst e;simp[mP]at nd
 show b ((Jh Builtin.List.listSameRef).1 (.ref L) (.ref it) (.ref L)) s;rw[Ji ne];exact f s ⟨λz=>0,λz=>.none,λz=>[]⟩ [] [] ⟨rfl,rfl⟩ a
end
section
variable(x:fD)(c:Ch)
def aau:bK:=⟨.call (.ref 380) ⟨[.ref x.S],[]⟩,bF x,λN t=>.con (mL x) λa b l1=>.fin (rV .none) (bF x)⟩
theorem Jj:RP 580 2 [gA,nU 0x1333 0x100 0 1 0] (aau x):=.a
def cP(n:Nat)(f:Nat->Nat->L2->hS):bK:=⟨.call (.ref 380) ⟨[.ref x.S],[]⟩,bF x,λz z=>.con (ic x (c.as n)) f⟩
def Rb:bK:=cP x c 76 λa b l1=>.con ((di w.params x [39] (b+3) true).give (dJ (e8 l1) (c.as 76))) λa b l2=>eJ x a 436
theorem BH:RP 580 2 [gA,Ug,eU] (Rb x c):=.b
def Rc:bK:=cP x c 76 λa b l1=>.con ((di w.params x [39] (b+3) false).give (dJ (e8 l1) (c.as 76))) λa b l2=>eJ x a 387
theorem BI:RP 580 2 [gA,Ug,eU] (Rc x c):=.b
def Xo:bK:=cP x c 97 λa b l1=>.fin (rV (.ref a)) (bF x++[(a,gC 387 x.S)]++dJ (e8 l1) (c.as 97))
theorem Ey:RP 580 2 [gA,Uh] (Xo x c):=.b
def Rd:bK:=cP x c 95 λa b l1=>.fin (rV (.ref a)) (bF x++[(a,gC 387 x.S)]++dJ (e8 l1) (c.as 95))
theorem BJ:RP 580 2 [gA,Uh] (Rd x c):=.b
def Xp:bK:=cP x c 48 λa b l1=>.con (p6 x (e8 l1) (c.as 48)) λa b l2=>eJ x a 394
theorem Ez:RP 580 2 [gA,Ui,eU] (Xp x c):=.b
def Xq:bK:=cP x c 49 λa b l1=>.con (p6 x (e8 l1) (c.as 49)) λa b l2=>eJ x a 394
theorem EA:RP 580 2 [gA,Ui,eU] (Xq x c):=.b
end
section
variable(x:fD)(c:Ch)
def Rf:bK:=cP x c 32 λa b l1=>.fin (rV (.ref a)) (bF x++[(a,gC 408 x.S)]++dJ (e8 l1) (c.as 32))
theorem BK:RP 580 2 [gA,nU (nAb 1) 0x1000400 1 14 0] (Rf x c):=.b
def Rg:bK:=cP x c 34 λa b l1=>.fin (rV (.ref a)) (bF x++[(a,gC 429 x.S)]++dJ (e8 l1) (c.as 34))
theorem BL:RP 580 2 [gA,nU (nAb 5) 0x1000400 1 22 0] (Rg x c):=.b
def Rh:bK:=cP x c 39 λa b l1=>.fin (rV (.ref a)) (bF x++[(a,gC 436 x.S)]++dJ (e8 l1) (c.as 39))
theorem BM:RP 580 2 [gA,nU (nAb 6) 0x1000400 1 24 0] (Rh x c):=.b
def Ri:bK:=cP x c 10 λa b l1=>.con ((gV x [66,79,76] (b+15)).give (dJ (e8 l1) (c.as 10))) λa b l2=>eJ x a 380
theorem BN:RP 580 2 [gA,nU (Qm 2) 0x100000 0 16 577,eU] (Ri x c):=.b
def Rj:bK:=cP x c 12 λa b l1=>.con ((kI x).give (dJ (e8 l1) (c.as 12))) λa b l2=>eJ x a 380
theorem BO:RP 580 2 [gA,nU (Qm 3) 0x100000 0 17 577,eU] (Rj x c):=.b
def Nh:bK:=cP x c 47 λb a l1=>.con ((di w.params x [47] (a+19) false).give (dJ (e8 l1) (c.as 47))) λb a l2=>.con (di w.params x [42] a true) λb a l2=>eJ x b 422
theorem y5:RP 580 2 [gA,nU (Qm 4) 0x100000 0 20 577,ma,eU] (Nh x c):=.b
def Rk:bK:=cP x c 62 λb a l1=>.con ((di w.params x [61] (a+27) false).give (dJ (e8 l1) (c.as 62))) λb a l2=>.con (di w.params x [62] a true) λb a l2=>.con (di w.params x [61] a true) λb a l2=>.con (gV x [62,62,61] a) λb a l2=>eJ x b 380
theorem BP:RP 580 2 [gA,nU (Qm 8) 0x100000 0 28 577,ma,ma,ma,eU] (Rk x c):=.b
def Jk:bK:=cP x c 33 λb a l1=>.con ((di w.params x [61] (a+31) true).give (dJ (e8 l1) (c.as 33))) λb a l2=>.con (gV x [33,61] a) λb a l2=>eJ x b 380
theorem vr:RP 580 2 [gA,nU (Qm 10) 0x100000 0 32 577,ma,eU] (Jk x c):=.b
def Jl:bK:=cP x c 35 λb a l1=>.con ((di w.params x [35] (a+37) true).give (dJ (e8 l1) (c.as 35))) λb a l2=>.con (gV x [35,35] a) λb a l2=>eJ x b 380
theorem vu:RP 580 2 [gA,nU (Qm 13) 0x100000 0 38 577,ma,eU] (Jl x c):=.b
def Jm:bK:=cP x c 43 λb a l1=>.con ((di w.params x [43] (a+39) true).give (dJ (e8 l1) (c.as 43))) λb a l2=>.con (gV x [43,43] a) λb a l2=>eJ x b 380
theorem vv:RP 580 2 [gA,nU (Qm 14) 0x100000 0 40 577,ma,eU] (Jm x c):=.b
def EB:bK:=cP x c 45 λb a l1=>.con ((di w.params x [45] (a+41) false).give (dJ (e8 l1) (c.as 45))) λb a l2=>.con (di w.params x [61] a false) λb a l2=>.con (di w.params x [62] a true) λb a l2=>.con (gV x [45,62] a) λb a l2=>eJ x b 380
theorem tZ:RP 580 2 [gA,nU (Qm 15) 0x100000 0 42 577,ma,ma,ma,eU] (EB x c):=.b
def Ni(c:Nat)(a:Nat):cX:=gV x [c] a
def Rl:bK:=cP x c 40 λa b l1=>.con ((Ni x 40 (e8 l1).st).give (dJ (e8 l1) (c.as 40))) λa b l2=>eJ x a 380
theorem BQ:RP 580 2 [gA,Uj,eU] (Rl x c):=.b
def Rm:bK:=cP x c 63 λa b l1=>.con ((Ni x 63 (e8 l1).st).give (dJ (e8 l1) (c.as 63))) λa b l2=>eJ x a 380
theorem BR:RP 580 2 [gA,Uj,eU] (Rm x c):=.b
end
section
variable(x:fD)(sq cd:Nat)(k1:Nat)(c:Ch)(k2:Nat)
def ac7(n:Nat)(c d:Ch):bK:=⟨.call (.ref 258) ⟨[.ref x.S,.ref sq],[]⟩,bF x++[(sq,br [.str ⟨⟨[46]⟩⟩ k1,.str ⟨⟨[46]⟩⟩ k2] n)],λN t=>.con (ic x (c.as 46)) λa b l1=>.con ((ic x (d.as 46)).give (dJ (e8 l1) (c.as 46))) λe f l2=>
  .fin (rV (.bool true)) (bF x++dJ (e8 l2) (d.as 46))⟩
theorem Nj n c d:RP 530 2 [nU 0x11021000000100000100000144466366060606030334440044440 0x100 3 4 524,nU 0x11021000000100000100000177799699090900074033000300003700030003788808078888777 0x100000 0 3 524,nU 0x10b99699090900074033000300003700030003788808078888777 0x100000 2 2 0] (ac7 x sq k1 k2 n c d):=.b
def aav:cX where
 c:=.call (.ref 258) ⟨[.ref x.S,.ref sq],[]⟩
 pre:=bF x++[(sq,br [.str ⟨⟨[46]⟩⟩ k1,.str ⟨⟨[46]⟩⟩ k2] 0)]
 out _ _ l:=(rV (.bool true),bF x)
def Nk:bK:=⟨.call (.ref 380) ⟨[.ref x.S],[]⟩,bF x,λN t=>.con (ic x (c.as 46)) λb a l1=>.con ((aav x b (a+51) (a+52)).give (dJ (e8 l1) (c.as 46))) λb a l2=>.con (gV x [46,46,46] a) λb a l2=>eJ x b 380⟩
theorem y6:RP 580 2 [gA,nU (Qm 20) 0x1000400 1 53 577,ma,eU] (Nk x c):=.b
noncomputable def C2:Obj:=⟨.ref 514,some cd,.plain,#[]⟩
def aaw(k:List Nat)(kt:Nat)(v:Value):cX where
 c:=.call (.ref 504) ⟨[.ref x.CO,.str ⟨⟨k⟩⟩ kt],[]⟩
 pre:=[(x.CO,C2 cd)]
 out _ _ l:=(.ok (.ret v),[(x.CO,C2 cd)])
def Rn(cd vt:Nat):bK:=⟨.call (.ref 380) ⟨[.ref x.S],[]⟩,bF x++[(x.CO,C2 cd)],λN t=>.con (ic x (c.as 47)) λa b l1=>.con ((di w.params x [47] (b+19) true).give (dJ (e8 l1) (c.as 47))) λa b l2=>.con (aaw x cd [115,116,100] (b+1) (.str ⟨⟨[99,57,57]⟩⟩ vt)) λa b d=>
  .fin (rV (.ref a)) (bF x++[(a,gC 415 x.S),(x.CO,C2 cd)])⟩
theorem BS cd vt:RP 580 2 [Uk,Ul,Um,nU 0x1000000003022000000200000024000 0x10211 1 2 0] (Rn x c cd vt):=.b
end
section
variable(c:Code)(x:fD)(FL:Nat)(c1:Ch)(env:Env)(k:Nat)(ℓ:L2)(vt:Nat)(c2:Ch)(k2:Nat)
def jm(f:Nat)(a:Args)(more:bH):cX where
 c:=.call (.ref f) a
 pre:=bF x++more
 out _ _ ℓ:=(.error (.ref (ℓ.n 1)),kc ℓ (ℓ.n 2) (ℓ.n 3) (ℓ.n 1) .none)
 e:=true
def ua(FL:Nat)(fo:Obj):vf where
 c:=c
 tr:=im env (.ref (ℓ.n 1))
 pre:=kc ℓ (ℓ.n 2) (ℓ.n 3) (ℓ.n 1) .none++[(FL,fo)]
 out _ _ a:=(.raise (.ref (ℓ.n 1)),kc a (ℓ.n 2) (ℓ.n 3) (ℓ.n 1) .none++[(FL,fo)])
 e:=true
def pk(a:L2):hS:=.fin (.error (.ref (ℓ.n 1))) (kc a (ℓ.n 2) (ℓ.n 3) (ℓ.n 1) .none)
def slf:Obj:=cD [eW eG k (.ref x.S)] 1
def UT:Env:=hV (dc 10 2) FL (q (uS 0x48616e644c65786572426173652e6e6578745f636861722e3c6c6f63616c733e2e)) 216 215
def ac8(k3:Nat):Obj:=cD [eW eG k (.ref x.S),eW (uS 0x656f66) k2 (.bool false),eW qJ k3 .none] 3
def Xr(ct:List Value)(a b:Nat):bK:=⟨.call (.ref 216) ⟨[.ref x.S],[(⟨⟨[101,111,102]⟩⟩,.bool false)]⟩,bF x++[(x.PB,br [] a),(x.CT,br ct b),(x.gn.g,cc x.gn)],λN t=>.con { c:=fe x.gn.g,pre:=[(x.gn.g,cc x.gn)],out:=λz z l=>(.error (.ref (l.n 0)),[(l.n 0,fw (l.n 1)),(x.gn.g,cc x.gn)]) } λz d l=>
  .con (jm x 265 ⟨[.ref x.S,.str ⟨⟨[69,120,112,101,99,116,101,100,32,97,32,99,104,97,114,97,99,116,101,114,44,32,98,117,116,32,97,116,32,101,110,100,32,111,102,32,102,105,108,101]⟩⟩ (d+1)],[]⟩ [(x.PB,br [] a),(x.CT,br ct b),(x.gn.g,cc x.gn)]) λz z l2=>
  .step (ua (.func (bJ (dc 10 2)) (UT N)) (UT N) l2 N (ac8 x t (t+1) d)) λz z e=>pk l2 e⟩
theorem EC ct n1 n2:RP 525 2 [nU TV 0x14 1 6 512,.n (.b 0x1104300000030000030000037777771 0x112222 0 2 0 0x12) 522,nU 0 0x1100 0 0 522,m0] (Xr x ct n1 n2):=.a
def UU:Env:=hV (dc 17 19) FL (q (uS 0x434c657865722e5f68616e646c655f6573636170655f6368617261637465722e3c6c6f63616c733e2e)) 443 442
def ac9:bK:=⟨.call (.ref 443) ⟨[.ref x.S],[]⟩,bF x,λN t=>.con (di w.params x [39,34,63,92,97,98,102,110,114,116,118,101] (t+1) false) λb a l1=>.con (di w.params x [48,49,50,51,52,53,54,55] 663 false) λb a l1=>.con (di w.params x [120] a false) λb a l1=>.con (di w.params x [117] a false) λb a l1=>.con (di w.params x [85] a false) λb a l1=>
  .con (jm x 265 ⟨[.ref x.S,.str ⟨⟨[85,110,101,120,112,101,99,116,101,100,32,101,115,99,97,112,101,32,99,104,97,114,97,99,116,101,114]⟩⟩ a],[]⟩ []) λz z l2=>
  .step (ua (.func (bJ (dc 17 19)) (UU N)) (UU N) l2 N (slf x t)) λz z d=>pk l2 d⟩
theorem Nl:RP 535 2 [nU LA 0x100 1 2 532,nU Zp 0x100 0 1 532,LR,LR,LR,.n (.b oT 0x100 0 1 0 0x11) 532,nU 0 0x1000 0 0 532,m0] (ac9 x):=.a
def UV:Env:=hV (dc 10 10) FL (q (uS 0x48616e644c65786572426173652e6578706563742e3c6c6f63616c733e2e)) 272 271
def ada(k:Nat):Obj:=cD [eW eG k (.ref x.S),eW (uS 0x76616c6964) (k+1) (.str ⟨⟨[39]⟩⟩ vt)] 2
def Ro:bK:=⟨.call (.ref 272) ⟨[.ref x.S,.str ⟨⟨[39]⟩⟩ vt],[]⟩,bF x,λN t=>.con (iW x ⟨⟨[39]⟩⟩ vt false) λa e l1=>.step (mP (a+1) a (iu dY ⟨⟨[39]⟩⟩ vt 0)) λf b l2=>
  .con (jm x 265 ⟨[.ref x.S,.str ⟨⟨[69,120,112,101,99,116,101,100,32,39]⟩⟩ (b+1)],[]⟩ []) λz z l2=>
  .step (ua (.func (bJ (dc 10 10)) (UV N)) (UV N) l2 N (ada x vt t)) λz z d=>pk l2 d⟩
theorem BU:RP 535 2 [nU Zr 0x100 1 2 532,nU 0x13e7e004000032100000010000010000013 0x134 2 2 512,.n (.b 0x11000172222020201112222020202222020222 0x122 2 2 0 0x13) 532,nU 0 0x1200 0 0 532,m0] (Ro x vt):=.b
def Hi:Env:=hV (dc 17 18) FL (q (uS 0x434c657865722e6c65785f636861722e3c6c6f63616c733e2e)) 436 435
def Nm:bK:=⟨.call (.ref 436) ⟨[.ref x.S],[]⟩,bF x,λN t=>.con (di w.params x [92] (t+1) true) λb d l1=>.con (jm x 443 ⟨[.ref x.S],[]⟩ []) λz z l2=>
  .step (ua (.func (bJ (dc 17 18)) (Hi N)) (Hi N) l2 N (slf x t)) λz z a=>pk l2 a⟩
theorem y7:RP 560 2 [qM,.n (.b 0x11021000010000010000013 0x100 0 0 0 0x11) 557,nU 0 0x1000 0 0 557,m0] (Nm x):=.a
def Nn:bK:=⟨.call (.ref 436) ⟨[.ref x.S],[]⟩,bF x,λN t=>.con (di w.params x [92] (t+1) false) λb a l1=>.con (dR x c1) λb a l2=>.con (jm x 272 ⟨[.ref x.S,.str ⟨⟨[39]⟩⟩ a],[]⟩ (dJ (e8 l2) c1)) λz z l2=>
  .step (ua (.func (bJ (dc 17 18)) (Hi N)) (Hi N) l2 N (slf x t)) λz z d=>pk l2 d⟩
theorem y8:RP 560 2 [qM,LF,.n (.b 0x11021000000100000100000160 0x100000 0 1 0 0x11) 557,nU 0 0x1000 0 0 557,m0] (Nn x c1):=.a
def UW:Env:=hV (dc 17 10) FL (q (uS 0x434c657865722e6c65785f632e3c6c6f63616c733e2e)) 380 379
def adb(r:Value):Obj:=cD [eW eG k (.ref x.S),eW [114] k2 r] 2
def No(c:Ch)(cd vt:Nat):bK:=⟨.call (.ref 380) ⟨[.ref x.S],[]⟩,bF x++[(x.CO,C2 cd)],λN t=>.con (ic x (c.as 47)) λf a l1=>.con ((di w.params x [47] (a+19) true).give (dJ (e8 l1) (c.as 47))) λz d l2=>.con (aaw x cd [115,116,100] (d+1) (.str ⟨⟨[99,56,57]⟩⟩ vt)) λz e b=>
  .con (jm x 265 ⟨[.ref x.S,.str ⟨⟨[67,43,43,32,115,116,121,108,101,32,99,111,109,109,101,110,116,115,32,97,114,101,32,110,111,116,32,97,108,108,111,119,101,100,32,105,110,32,67,57,48]⟩⟩ (e+1)],[]⟩ [(x.CO,C2 cd)]) λz z l2=>
  .step (ua (.func (bJ (dc 17 10)) (UW N)) (UW N) l2 N (adb x t a (.ref (l1.n 0)))) λz z b=>pk l2 b⟩
theorem y9 c cd vt:RP 580 2 [Uk,Ul,Um,.n (.b 0x1103200000020000020000024000 0x1011 0 2 0 0x11) 577,nU 0 0x1000 0 0 577,m0] (No x c cd vt):=.b
def qY(FL:Nat)(fo:Obj):vf where
 c:=c
 tr:=rZ env (.ref (ℓ.n 1))
 pre:=kc ℓ (ℓ.n 2) (ℓ.n 3) (ℓ.n 1) .none++[(FL,fo)]
 out _ _ a:=(.raise (.ref (ℓ.n 1)),kc a (ℓ.n 2) (ℓ.n 3) (ℓ.n 1) (rawInt FL)++[(FL,fo)])
 e:=true
def Hj(a:L2)(FL:Nat):vf where
 c:=c
 tr:=im env (.ref (ℓ.n 1))
 pre:=kc a (ℓ.n 2) (ℓ.n 3) (ℓ.n 1) (rawInt FL)
 out _ _ _:=(.raise (.ref (ℓ.n 1)),kc a (ℓ.n 2) (ℓ.n 3) (ℓ.n 1) .none)
 e:=true
def qZ:Env:=hV (dc 17 17) FL (q (uS 0x434c657865722e6c65785f737472696e672e3c6c6f63616c733e2e)) 429 428
def aax(c:Value):Obj:=cD [eW eG k (.ref x.S),eW [99] k2 c] 2
def za(more:bH):cX:=jm x 216 ⟨[.ref x.S],[(⟨⟨[101,111,102]⟩⟩,.bool false)]⟩ more
def Np:bK:=⟨.call (.ref 429) ⟨[.ref x.S],[]⟩,bF x,λN t=>.con (dR x (c1.as 117)) λe d l1=>.con ((dR x (c2.as 110)).give (dJ (e8 l1) (c1.as 117))) λf g l2=>.con (za x (dJ (e8 l2) (c2.as 110))) λz z a=>
  .step (qY (tq (b9 (dc 17 17) 1) (qZ N)) (qZ N) a N (aax x t d (.ref (l2.n 0)))) λz z b=>.step (Hj (.func (bJ (dc 17 17)) (qZ N)) (qZ N) a b N) λz z z=>pk a b⟩
theorem zb:RP 560 2 [s9,td,.n (.b TW 0x100000 0 5 0 0x11) 554,.n (.b 0 0x1000 0 0 0 0x10) 554,LS,m0] (Np x c1 c2):=.b
def Nq:bK:=⟨.call (.ref 429) ⟨[.ref x.S],[]⟩,bF x,λN t=>.con (dR x (c1.as 97)) λe d l1=>.con ((dR x (c2.as 92)).give (dJ (e8 l1) (c1.as 97))) λf g l2=>.con (jm x 443 ⟨[.ref x.S],[]⟩ (dJ (e8 l2) (c2.as 92))) λz z a=>
  .step (qY (tq (b9 (dc 17 17) 1) (qZ N)) (qZ N) a N (aax x t d (.ref (l2.n 0)))) λz z b=>.step (Hj (.func (bJ (dc 17 17)) (qZ N)) (qZ N) a b N) λz z z=>pk a b⟩
theorem zc:RP 560 2 [s9,td,.n (.b Zq 0x100000 0 5 0 0x11) 554,.n (.b 0 0x1000 0 0 0 0x10) 554,LS,m0] (Nq x c1 c2):=.b
def Hk:Env:=hV (dc 17 16) FL (q (uS 0x434c657865722e6c65785f626c6f636b636f6d6d656e742e3c6c6f63616c733e2e)) 422 421
def Rp:bK:=⟨.call (.ref 422) ⟨[.ref x.S],[]⟩,bF x,λN t=>.con (di w.params x [42] (t+1) false) λd a l1=>.con (dR x c1) λd a l1=>.con ((di w.params x [42] a false).give (dJ (e8 l1) c1)) λz z z=>.con (dR x c2) λd a l2=>.con ((di w.params x [42] a false).give (dJ (e8 l2) c2)) λz z z=>
  .con (za x []) λz z b=>
  .step (qY (tq (b9 (dc 17 16) 0) (Hk N)) (Hk N) b N (slf x t)) λz z e=>.step (Hj (.func (bJ (dc 17 16)) (Hk N)) (Hk N) b e N) λz z z=>pk b e⟩
theorem BV:RP 560 2 [Gx,tc,LG,tc,LG,.n (.b oT 0x100 0 0 0 0x11) 554,.n (.b 0 0x1000 0 0 0 0x10) 554,LS,m0] (Rp x c1 c2):=.a
end
section
variable{s:Shared}{o:Obj}{L:bH}{G:bR}{ps:Array Value}{A:Around}{E Q:Value->Shared->Prop}{x:fD}{FL k1 k2 n tt:Nat}{ty:List Nat}{cp:List (gv×Ch)}
section
variable{room:Nat}
theorem Jn(a:Sat (bY w.params) os s ((225,o)::L) G)(b:o.data=.fields ps)(c:TriplesOk ps.toList):s.heap.IsCode 229 225 ps:=
 ⟨Dp,_,_,_,_,_,_,_,_,o,a.old 229 _ (UR),rfl,rfl,rfl,rfl,rfl,rfl,a.own (225,o) (.head _) (Eo b),b,c,by decide⟩
theorem ED(a:Sat (bY w.params) os s ((225,mZ ps)::L) G):s.heap.TableAt 229 225 ps:=
 ⟨⟨Dp,_,a.old 229 _ (UR),rfl,rfl,rfl⟩,a.own (225,mZ ps) (.head _) rfl⟩
theorem zd{M:Model}{l:Env}{c P:Addr}{g:Pos}{q:PySem.Str}{r:Scope}(m:l.code=.ref c)(b:s.heap.IsCode c P ps)(a:s.heap.TableAt c P ps)(p:∀code k tk h,Heap.ExtBut P s.heap k->k.get? P=some (mZ h)->TriplesOk h.toList->Q code { s with heap:=k,toks:=tk }):
  wpAny M A (genexprCode l g q r) Q E s:=by
 refine cm ?_;intro G0;cases i:codeAmong g ps.toList with
 |some cv=>
  refine cm ?_;intro G0;obtain⟨o,vs,file,tf,d,t,ub,text,tt,op,_,_,_,_,_,_,_,_,_,e,_⟩:=id b;exact wpAny_genexprCode_hit m b i (p cv s.heap s.toks ps (Heap.ExtBut.refl _ _) a.2 e)
 |none=>
  refine wpAny_genexprCodeX m b a i λv k tk u z z j z f z=>?_;refine cm ?_;intro G0;obtain⟨o,vs,file,tf,d,t,ub,text,tt,op,_,_,_,_,_,_,_,_,_,e,_⟩:=id j;exact p _ _ _ _ u f.2 e
theorem aay(h:gY 150 A)(j:Ax o)(z:Sat (bY w.params) os s (bF x++([(FL,gW k1 k2 x.S ty tt)]++([(225,o)]++([(x.CT,br (bS cp) n)]++(bW cp++L))))) G)(B:∀v y r0 g0 o',vj 80 UN (aaf (own ([(x.CT,br (bS cp) n)]++bW cp))) y.i (cp.map (·.2)) r0 g0->Ax o'->
   Sat (bY w.params) os v ((y.g,cc y)::(r0++(bF x++([(FL,gW k1 k2 x.S ty tt)]++([(225,o')]++L))))) (g0++G)->Q (.ref y.g) v):
  wpAny (model pz (wv w b1 b2)) A (eval GE (eX FL)) Q E s:=by
 have e:=eval_GeneratorExp1 (UO GE) (UP GE) (gO GE) [] (kN GE) (UQ GE) (eX FL) aag;rw[<-yY]at e;rw[e];refine bI (Q3 (n:=0) (FL:=FL) h z λs1 b=>?_);refine bI (nJ ?_);refine bI (mF (Q6 _ _) ?_);have k:s1.heap.get? x.CT=some (br (bS cp) n):=b.own (x.CT,br (bS cp) n) (by simp);refine bI (ky (wpAny_pyIter_list (iY k) ?_));have d:=b.alloc (o:=eB x.CT 0) rfl;have D:({ cls:=.type "list_iterator",data:=.fields #[.ref x.CT,.int 0 0] }:Obj)=eB x.CT 0:=by
  unfold eB;rw[<-vY];rfl
 rw[D];refine cm ?_;intro G0;obtain⟨F,l,m⟩:=vp;refine bI (xB (kA (d.old _ _ l) m) (by
  have:=h.depth;show A.depth<1000;unfold oG at this;omega) ?_)
 rw[Ep];refine bI (ck ?_);have a:=d.perm (L':=(225,o)::((s1.heap.objs.size,eB x.CT 0)::(bF x++([(FL,gW k1 k2 x.S ty tt)]++([(x.CT,br (bS cp) n)]++(bW cp++L)))))) (by
  exact PT.q [_,_,_] [_,_,_,_] 0xc0a0ac1eac2eac3ea12 0xc2c0a0ac1eac3ea12 rfl)
 refine cm ?_;intro G0;obtain⟨ps,rfl,H⟩:=j;refine bI (zd (c:=229) (P:=225) (ps:=ps) rfl (Jn a rfl H) (ED a) λcode N tk f I p r=>?_);have t:=a.extBut I p rfl tk;refine aak (FL:=FL) h t λJ C K g y M u=>?_;subst M;refine B J y _ _ (mZ f) (Xi (C:=C) (cd:=code) (it:=s1.heap.objs.size) (ct:=x.CT) (n:=n) (k1:=K) cp) ⟨f,rfl,r⟩ ?_;refine u.perm ?_;exact PT.q [_,_,_] [_,_,_,_,_,_] 0xc0c1c2c3a0ac4eac5ea12 0xc1aac0c3c5e1a0ac4eac2e2 rfl
def js:Stmt:=b9 (dc 10 4) 0
def Xs(s:Stmt):Pos:=(sp s).p
def Hl(e:Expr):Pos:=(ep e).p
def BW(e:Expr):Pos:=(ep (ep e).e).p
theorem Jo:js=.Assign [(n5 js).getD 0 (.Constant .none 0 default)] (.Call (.Attribute (cJ (eS js)) (q (uS 0x6a6f696e)) (BW (eS js))) [GE] [] (Hl (eS js))) (Xs js):=by kernel_rfl
theorem EE:(n5 js).getD 0 (.Constant .none 0 default)=.Name (q qI) (BE ((n5 js).getD 0 (.Constant .none 0 default))):=by kernel_rfl
def aaz(e:Expr):Const:=(ep e).c
def cnK(e:Expr):Nat:=(ep e).k
def cnP(e:Expr):Pos:=(ep e).p
theorem EF:cJ (eS js)=.Constant (aaz (cJ (eS js))) (cnK (cJ (eS js))) (cnP (cJ (eS js))):=by kernel_rfl
theorem Xu:((BW (eS js)).endLine==(Hl (eS js)).line)=true:=by kernel_rfl
theorem Rq(env:Env):starEach [GE] env=[(false,eval GE env)]:=by
 have e:=yY;rw[e];rfl
theorem EG:∃tgt o a pos b np cv k p,js=.Assign [tgt] (.Call (.Attribute o (q (uS 0x6a6f696e)) a) [GE] [] pos) b/\tgt=.Name (q qI) np/\o=.Constant cv k p/\(a.endLine==pos.line)=true/\
  o=cJ (eS js)/\tgt=(n5 js).getD 0 (.Constant .none 0 default):=
 ⟨_,_,_,_,_,_,_,_,_,Jo,EE,EF,Xu,rfl,rfl⟩
theorem Rr:∃e a b p,GE=.GeneratorExp e a b p:=⟨_,_,_,_,yY⟩
theorem aaA{x:fD}{FL k1 k2 tt:Nat}{ty:List Nat}{str:PySem.Str}{u:Nat}{A:Around}{s:Shared}{L:bH}{G:bR}{Q:Flow->Shared->Prop}{E:Value->Shared->Prop}(f:gY 200 A)(g:Sat (bY w.params) os s ([(FL,gW k1 k2 x.S ty tt)]++L) G)(i:∀a k3,Sat (bY w.params) os a ([(FL,tO k1 k2 k3 x.S ty tt (.str str u))]++L) G->Q .next a):
  wpAny (model pz (wv w b1 b2)) A (assignAll (.str str u) [assign ((n5 js).getD 0 (.Constant .none 0 default)) (eX FL)]) (λy a=>Q .next a) E s:=by
 have c:Sat (bY w.params) os s ((W9 x FL k1 k2 tt ty str u).pre++([]++L)) ([]++G):=g;have fin:=kF (E:=E) (Q:=λy a=>Q .next a) (os:=os) (X:=bV) (X':=λy=>bV) (out:=λy y b=>(.ok (.ret .none),[(FL,tO k1 k2 (b.n 0) x.S ty tt (.str str u))]))
  (m:=(assignAll (.str str u) [assign ((n5 js).getD 0 (.Constant .none 0 default)) (eX FL)]).bind λy=>.pure .none) ?hm (MT x FL k1 k2 tt ty str u) (λN t=>?_) (f.le (by decide)) ⟨rfl,rfl⟩ c ?_
 case hm=>
  rw[pU];unfold W9;rw[<-eh,<-PySem.W.ZFast.ze15591190973536708279,<-PySem.W.ZFast.ze17772580674575903948];rfl
 ·intro j p d;have z:=fin j p d;rw[iH]at z;exact z
 ·exact⟨rfl,λr0 g0 h=>⟨cV [t],r0,g0,rfl,h,.refl _,.refl _⟩,λh=>by cases h⟩
 ·rintro a b r1 g1 ⟨rfl,rfl⟩ e;exact i a (b.n 0) e
set_option maxHeartbeats 400000 in
theorem Rs{Q:Flow->Shared->Prop}(z:gY 200 A)(T:cp.length<=9000)(C:Ax o)(U:Sat (bY w.params) os s (bF x++([(FL,gW k1 k2 x.S ty tt)]++([(225,o)]++([(x.CT,br (bS cp) n)]++(bW cp++L))))) G)(V:∀B k3 u o',Ax o'->Sat (bY w.params) os B (bF x++([(FL,tO k1 k2 k3 x.S ty tt (.str ⟨⟨(cp.map (·.2)).map (·.code)⟩⟩ u))]++([(225,o')]++([(x.CT,br (bS cp) n)]++(bW cp++L))))) G->Q .next B):
  wpAny (model pz (wv w b1 b2)) A (exec js (eX FL)) Q E s:=by
 obtain⟨tgt,W,P,pos,R,np,cv,kk,pp,Y,Z,D,d,b,i⟩:=EG;have j:=IL FL;have k:(MO FL).t=W5 W (eX FL):=by rw[b];rfl
 have l:=λ{str u A s L G Q E}=>@aaA x FL k1 k2 tt ty str u A s L G Q E;rw[<-i]at l;obtain⟨ge,gs,aa,gp,ab⟩:=Rr;have f:∀env,starEach [GE] env=[(false,eval GE env)]:=Rq;rw[Y];clear b i;generalize hG:GE=G0 at *;subst Z D;refine wpAny_Assign_stores ?_ rfl rfl;refine Call_method1 rfl (f _) d ?_;have H:Sat (bY w.params) os s ((MO FL).pre++([]++(bF x++([(FL,gW k1 k2 x.S ty tt)]++([(225,o)]++([(x.CT,br (bS cp) n)]++(bW cp++L))))))) ([]++G):=U;refine kF (os:=os) (X:=bV) (X':=λ_=>bV) (out:=λ_ _ m=>(.ok (.ret (.str ⟨⟨[]⟩⟩ (m.n 0))),[])) (k.trans (yZ _ (eX FL))) j (λN t=>?_) (z.le (by decide)) ⟨rfl,rfl⟩ H ?_
 ·exact⟨rfl,λr0 g0 h=>⟨cV [t],r0,g0,rfl,h,.refl _,.refl _⟩,λh=>by cases h⟩
 ·rintro s2 m r1 g1 ⟨rfl,rfl⟩ I;dsimp only;refine⟨"str","str.join",PySem.F.plainAttrs_str,xe,PySem.F.type_str_join,typeIs_str _ _ _,(λ_ e=>nomatch e),?_⟩;refine Calls.callWith_builtin rfl (Calls.evalArgs_plain (Calls.spliced_cons ?_));rw[<-hG];refine aay (FL:=FL) (z.le (by decide)) C I λs3 y r0 g0 o' hR p J=>?_;refine Calls.spliced_nil ?_;refine Q1 (g:=λc:Ch=>c.code) (vp) (room:=140) (by decide) (z.le (by decide)) (λa v it h=>h) (λr L gl h=>h) (by simpa using T) hR J λs4 u r1 g1 K M=>?_;refine cm ?_;intro G0;obtain⟨rfl,rfl⟩:=K;refine l z (M.perm (L':=[(FL,gW k1 k2 x.S ty tt)]++(bF x++([(225,o')]++([(x.CT,br (bS cp) n)]++(bW cp++L))))) ?_) λB k3 O=>?_
  ·exact PT.q [_,_,_] [_,_,_] 0xaac0e0a1ac1eac2e2 0xac1ea1ac2eac0ea02 rfl
  ·refine V B k3 u o' p (O.perm ?_);exact PT.q [_,_,_] [_,_,_] 0xac0ea0ac1eac2ea12 0xa0ac0eac1eac2ea12 rfl
end
end
section
variable{x:fD}{tt:Nat}{ty:List Nat}{c:Ch}{Up:List Ch->b7}
theorem Rt:bJ (dc 10 4)=js::(bJ (dc 10 4)).drop 1:=by kernel_rfl
section
variable{room:Nat}
theorem Nr{FL k1 k2 d:Nat}{a:gv}{b:List (gv×Ch)}(l:b.length<=8999)(m:200<=room):
  lX room (Bz x FL k1 k2 ty tt a c (bS b) d (c.code::b.map λp=>p.2.code)).c (Bz x FL k1 k2 ty tt a c (bS b) d (c.code::b.map λp=>p.2.code)).tr
   (Bz x FL k1 k2 ty tt a c (bS b) d (c.code::b.map λp=>p.2.code)).pre (star (own (bW b)) Pl) (Bz x FL k1 k2 ty tt a c (bS b) d (c.code::b.map λp=>p.2.code)).out (λZ=>star (own (bW b)) Pl):=by
 have z:=@Q2 pz (wv w b1 b2) (bY w.params) os room (bF x++[(FL,gW k1 k2 x.S ty tt),(x.CT,br (.ref a.a::bS b) d)]++dJ a c) (star (own (bW b)) Pl) (λZ=>star (own (bW b)) Pl)
  (λZ Z e=>bF x++[(FL,tO k1 k2 (e.n 0) x.S ty tt (.str ⟨⟨c.code::b.map λp=>p.2.code⟩⟩ (e.n 1))),(x.CT,br (.ref a.a::bS b) d)]++dJ a c)
  (.func (bJ (dc 10 4)) (eX FL)) js ((bJ (dc 10 4)).drop 1) (eX FL) ?_
 ·rw[<-Rt]at z;exact z
 ·rintro y s F FG r0 g0 r ⟨r1,r2,g1,g2,⟨rfl,rfl⟩,⟨o,rfl,rfl,g⟩,h,i⟩ t;have v:g0=[]:=by simpa using i
  subst v;have j:Sat (bY w.params) os s (bF x++([(FL,gW k1 k2 x.S ty tt)]++([(225,o)]++([(x.CT,br (bS ((a,c)::b)) d)]++(bW ((a,c)::b)++F))))) FG:=t.perm (by
   refine((h.append_right F).append_left _).trans ?_;exact PT.q [_,_,_,_] [_,_,_] 0xaaa0c0c1e1aa2c2e3 0xa0ac0eac2eac1eaa123 rfl)
  refine Rs (r.le m) (by rw[List.length_cons];exact sD l (by decide)) g j λA k3 u o' f k=>?_;refine⟨rfl,cV [k3,u],_,[],⟨_,_,[],[],⟨rfl,rfl⟩,⟨o',rfl,rfl,f⟩,.refl _,.refl _⟩,k.perm ?_⟩;have:=MW [bF x,[(FL,tO k1 k2 k3 x.S ty tt (.str ⟨⟨c.code::b.map λp=>p.2.code⟩⟩ u))],[(225,o')],[(x.CT,br (.ref a.a::bS b) d)],dJ a c,bW b,F] [0,1,3,4,5,2,6] rfl;simpa[bS,bW,cV,bQ,jc,Function.comp_def]using this
def gf(Up:List Ch->b7)(σ:List Ch):b7:=star (Up σ) Pl
theorem cG{R:Nat}{y:fJ}(a:e9 R y Up):e9 R y (gf Up)where
 next c σ room hr:=(a.next c σ room hr).star Pl
 stop room hr:=(a.stop room hr).star Pl
noncomputable def fq(ty:List Nat)(c:Ch)(cH:List Ch):Tk:=⟨ty,c.code::cH.map (·.code),c⟩
theorem de{cH bU:List Ch}{toks:List Tk}(hl:cH.length+1<=ig:=by exact db rfl)(i:toks.length<=ig:=by decide){room:Nat}(W:500<=room:=by decide):
  cN room (gV x ty tt) (co x (gf Up) (c::cH) bU toks) (λb=>co x (gf Up) [] bU (toks++[fq ty c cH])):=by
 intro A s F FG r0 g0 X Y Z;refine cm ?_;intro G0;obtain⟨n,d,j,h,σ,r',P,hp,B,Q,C,hu⟩:=Y;refine cm ?_;intro G0;obtain⟨r1,r2,g1,g2,D,E,G,H⟩:=hu;refine cm ?_;intro G0;cases d with
 |nil=>cases P
 |cons p d=>
  refine cm ?_;intro G0;obtain⟨a,f⟩:=p;injection P with h1 T;subst h1;have k:d.length<=ig:=by
   have:=b8 List.length T;rw[fb]at this;omega
  have I:h.length<=ig:=by rw[<-Q,fb]at i;exact i
  have m:(f.code::d.map λp=>p.2.code)=(fq ty f cH).val:=by
   show _=f.code::cH.map (·.code);rw[<-T,jc];rfl
  have z:gN 500 (.call (.ref 230) ⟨[.ref x.S,.str ⟨⟨ty⟩⟩ tt],[]⟩) (bF x++[(x.CT,br (.ref a.a::bS d) n.n2),(x.TB,br (fO h) n.n3)]++dJ a f) (star (own (bW d)) Pl)
    (λ_ _ b=>(.ok (.ret .none),bF x++[(x.CT,br [] (b.n 0)),(x.TB,br (fO h++[.ref (b.n 1)]) (b.n 2)),(b.n 1,IM ⟨b.n 1,b.n 3,a,tt,b.n 4⟩ ⟨ty,f.code::d.map λp=>p.2.code,f⟩),(a.l,eI a f)]))
    (λb=>star (own (bW d)) Pl):=by
   exists bE.o,QY x ty tt a f (bS d) (fO h) n.n2 n.n3 (f.code::d.map λp=>p.2.code),0;exists cS,Nr (cu k (by decide)) (by decide);intro U t1 u _ _;exists bz,bX (by simp[fO];exact cu I (by decide));intro N2 t2 v _;exists bz,sV (by simp[bS];exact cu (ox k) (by decide));intro N3 t3 w _;exact cC (cV [w.n 0,U+1,v.n 0,U,u.n 1])
  have J:=(Z.perm (L':=(bF x++[(x.CT,br (.ref a.a::bS d) n.n2),(x.TB,br (fO h) n.n3)]++dJ a f)++((bW d++r2)++(r1++([(x.PB,br (bS j) n.n1)]++([(x.gn.g,cc x.gn)]++(bW j++(fA h++F))))))) (by
   refine((C.append_right F).append_left (bF x)).trans ?_;refine(((((((G.append_left (fA h)).append_left _).append_left _).append_left _).append_right F)).append_left (bF x)).trans ?_;exact PT.q [_,_,_,_,_,_,_,_] [_,_,_,_] 0xa0aac0c1c2c3eaa12a3a4a567 0xaaa0c1c2e1aa26a5ac0eac3ea3a47 rfl)).fv (G':=g2++(g1++FG)) (by
    rw[<-bQ];exact(H.trans fu).append_right FG)
  refine dj (z A s _ (g1++FG) (bW d++r2) g2 (X.le W) ⟨_,_,[],g2,⟨rfl,rfl⟩,E,.refl _,.refl _⟩ J) ?_;rintro r s' ⟨b,q1,q2,⟨r3,V,g3,g4,⟨rfl,rfl⟩,K,L,M⟩,e,O⟩;have y:q2.Perm g4:=by simpa using M
  refine⟨b,_,g1++g4,⟨⟨n.n1,b.n 0,b.n 2⟩,[],j,h++[(⟨b.n 1,b.n 3,a,tt,b.n 4⟩,fq ty f cH)],σ,r1++V,rfl,hp,B,by simp[Q],.refl _,sW D K⟩,e,?_⟩;refine Sat.drop (R:=bW d) ((O.perm ?_).fv ?_)
  ·refine((L.append_right _).append_left _).trans ?_;rw[m];have:=MW [bF x,[(x.CT,br [] (b.n 0))],[(x.TB,br (fO h++[.ref (b.n 1)]) (b.n 2))],yN ⟨b.n 1,b.n 3,a,tt,b.n 4⟩ (fq ty f cH),bW d,V,r1,[(x.PB,br (bS j) n.n1)],[(x.gn.g,cc x.gn)],bW j,fA h,F] [0,7,1,2,8,9,10,3,6,5,11,4] rfl;simpa[tQ,bS,bW,fO,fA,yN,fq,gV,bQ]using this
  ·rw[<-bQ];exact((y.append_right g1).trans fu).append_right FG
end
end
section
variable{x:fD}{M N f u:Nat}{c:Ch}{cH t w1:List Ch}
theorem ze(l:List Nat)(c:Nat):ri ⟨⟨l⟩⟩ c=decide (c∈l):=StrLaws.found_one ⟨⟨l⟩⟩ c
section
def dB(f:Nat)(cH bU:List Ch)(d:Nat)(b a:List Ch)(qi:List Tk):Prop:=
 ∀(x:fD)(Up:List Ch->b7),e9 340 x.gn Up->cH.length+bU.length<=3000->
  cN 580 (A0 x f d) (co x (gf Up) cH bU []) (λz=>co x (gf Up) b a qi)
theorem ci{X:b7}:∀r0 g0,X r0 g0->Dg (⟨false,(A0 x 0 f).out,λz=>X,[]⟩:Gl Unit) (.ok (.ret (.ref N))) (bF x++[(N,gC f x.S)]) M u r0 g0:=
 λr0 g0 h=>⟨cV [N],r0,g0,rfl,h,.refl _,.refl _⟩
theorem jn{Up:List Ch->b7}{a:gv}{bU:List Ch}{toks:List Tk}:∀r0 g0,tS x Up a c cH bU toks r0 g0->
  Dg (⟨false,(A0 x 0 f).out,λz=>co x Up (cH++[c]) bU toks,[]⟩:Gl Unit) (.ok (.ret (.ref N))) (bF x++[(N,gC f x.S)]++dJ a c) M u r0 g0:=
 λr0 g0 h=>⟨cV [N],_,g0,rfl,h.back,by rw[bQ];exact .refl _,.refl _⟩
theorem Ru{a:Nat}(h:a<=3000):a<=ig:=cu h (by decide)
theorem Ch.eta{n:Nat}(h:c.code=n):∃row col file,c=⟨n,row,col,file⟩:=⟨c.row,c.col,c.file,by rw[<-h]⟩
theorem Ns(e:∀d∈w1,ri ⟨⟨yC⟩⟩ d.code=true)(g:jM ⟨⟨yC⟩⟩ t=false):
  dB 387 (c::cH) (w1++t) 380 [] t [fq [73,68] c (cH++w1)]:=by
 intro x Up h i;rw[c5,List.length_cons]at i;refine bE.mono (bE.o rfl (IG x) ?_) (by decide);intro j N k _;exists bx,eK (cG h) g e (Ru (by rw[List.length_cons];omega)),0;exists bx,de (cH:=cH++w1) (Ru (by rw[c5];omega)),0;exact cB rfl rfl (ci)
theorem aaB(e:∀d∈w1,ri ⟨⟨[32,9]⟩⟩ d.code=true)(g:jM ⟨⟨[32,9]⟩⟩ t=false):
  dB 408 (c::cH) (w1++t) 380 [] t [fq [87,83] c (cH++w1)]:=by
 intro x Up h i;rw[c5,List.length_cons]at i;refine bE.mono (bE.o rfl (IH x) ?_) (by decide);intro j N k _;exists bx,eK (cG h) g e (Ru (by rw[List.length_cons];omega)),0;exists bx,de (cH:=cH++w1) (Ru (by rw[c5];omega)),0;exact cB rfl rfl (ci)
theorem aaC{d:Ch}(g:c.code=76)(h:d.code=39):dB 380 [] (c::d::t) 436 [c,d] t []:=by
 obtain⟨r1,i,f1,rfl⟩:=Ch.eta g;intro x Up a j;exists bE.o,BH x ⟨76,r1,i,f1⟩,0;exists bx,b0 (cG a),0;exists bx,bE.back (bZ (cG a) (by rw[ze,h];rfl)),0;exact cB rfl rfl (ci)
theorem aaD(e:c.code=76)(g:jM ⟨⟨[39]⟩⟩ t=false):dB 380 [] (c::t) 387 [c] t []:=by
 obtain⟨r1,h,f1,rfl⟩:=Ch.eta e;intro x Up a i;exists bE.o,BI x ⟨76,r1,h,f1⟩,0;exists bx,b0 (cG a),0;exists bx,bE.back (dS (cG a) g (db rfl)),0;exact cB rfl rfl (ci)
theorem adc(b:c.code=97):dB 380 [] (c::t) 387 [c] t []:=by
 obtain⟨r1,d,f1,rfl⟩:=Ch.eta b;intro x Up e g;exists bE.o,Ey x ⟨97,r1,d,f1⟩,0;exists bx,b0 (cG e),0;exact cB rfl rfl (jn)
theorem aaE(b:c.code=95):dB 380 [] (c::t) 387 [c] t []:=by
 obtain⟨r1,d,f1,rfl⟩:=Ch.eta b;intro x Up e g;exists bE.o,BJ x ⟨95,r1,d,f1⟩,0;exists bx,b0 (cG e),0;exact cB rfl rfl (jn)
theorem aaF(b:c.code=32):dB 380 [] (c::t) 408 [c] t []:=by
 obtain⟨r1,d,f1,rfl⟩:=Ch.eta b;intro x Up e g;exists bE.o,BK x ⟨32,r1,d,f1⟩,0;exists bx,b0 (cG e),0;exact cB rfl rfl (jn)
theorem BX(b:c.code=34):dB 380 [] (c::t) 429 [c] t []:=by
 obtain⟨r1,d,f1,rfl⟩:=Ch.eta b;intro x Up e g;exists bE.o,BL x ⟨34,r1,d,f1⟩,0;exists bx,b0 (cG e),0;exact cB rfl rfl (jn)
theorem BY(b:c.code=39):dB 380 [] (c::t) 436 [c] t []:=by
 obtain⟨r1,d,f1,rfl⟩:=Ch.eta b;intro x Up e g;exists bE.o,BM x ⟨39,r1,d,f1⟩,0;exists bx,b0 (cG e),0;exact cB rfl rfl (jn)
theorem ade(d:c.code=48):dB 380 [] (c::t) 394 [] (c::t) []:=by
 obtain⟨r1,e,f1,rfl⟩:=Ch.eta d;intro x Up g h;exists bE.o,Ez x ⟨48,r1,e,f1⟩,0;exists bx,b0 (cG g),0;exists bx,jz,0;exact cB rfl rfl (ci)
theorem aaG(d:c.code=49):dB 380 [] (c::t) 394 [] (c::t) []:=by
 obtain⟨r1,e,f1,rfl⟩:=Ch.eta d;intro x Up g h;exists bE.o,EA x ⟨49,r1,e,f1⟩,0;exists bx,b0 (cG g),0;exists bx,jz,0;exact cB rfl rfl (ci)
theorem aaH(d:c.code=10):dB 380 [] (c::t) 380 [] t [fq [66,79,76] c []]:=by
 obtain⟨r1,e,f1,rfl⟩:=Ch.eta d;intro x Up g h;exists bE.o,BN x ⟨10,r1,e,f1⟩,0;exists bx,b0 (cG g),0;exists bx,bE.back (de),0;exact cB rfl rfl (ci)
theorem aaI(d:c.code=12):dB 380 [] (c::t) 380 [] t []:=by
 obtain⟨r1,e,f1,rfl⟩:=Ch.eta d;intro x Up g h;exists bE.o,BO x ⟨12,r1,e,f1⟩,0;exists bx,b0 (cG g),0;exists bx,bE.back (gX),0;exact cB rfl rfl (ci)
end
end
section
variable{l:List Nat}{c d e:Ch}{n:Nat}{t w1:List Ch}
theorem mQ(h:d.code=n)(hn:n∈l:=by decide):ri ⟨⟨l⟩⟩ d.code=true:=by rw[ze,h];exact i9 hn
theorem ub(h:d.code=n)(hn:n∉l):ri ⟨⟨l⟩⟩ d.code=false:=by rw[ze,h];exact h8 hn
noncomputable def zf:List Nat:=[48,49,50,51,52,53,54,55,56,57]
noncomputable def UX:List Nat:=[48,49,50,51,52,53,54,55,56,57,97,98,99,100,101,102,65,66,67,68,69,70]
noncomputable def nmb:List Nat:=[78,85,77,66,69,82]
abbrev nx(l:List Nat)(t:List Ch):Prop:=jM ⟨⟨l⟩⟩ t=false
theorem Rv(h:ri ⟨⟨[48]⟩⟩ c.code=false)(i:∀d∈c::w1,ri ⟨⟨zf⟩⟩ d.code=true)(j:nx zf t)(b:nx [46] t)(a:nx [76,108,85,117] t):
  dB 394 [] (c::w1++t) 380 [] t [fq nmb c w1]:=by
 intro x Up k m;rw[c5,List.length_cons]at m;have U:=cG k;have l1:(c::w1).length<=ig:=Ru (by rw[List.length_cons];omega);refine bE.mono (bE.o rfl (A1 x) ?_) (by decide);intro q N r _;exists bx,cq U h,0;exists bx,eK U j i (by simpa using l1),0;exists bx,dS U b l1,0;exists bx,dS U a l1,0;exists bx,dS U a l1,0;exists bx,dS U a l1,0;exists bx,de l1;intro u b g _ _;exact cB rfl rfl (ci)
theorem Rw(h:c.code=48)(i:d.code=120)(j:∀d∈w1,ri ⟨⟨UX⟩⟩ d.code=true)(k:nx UX t)(b:nx [46] t)(a:nx [76,108,85,117] t):
  dB 394 [] (c::d::(w1++t)) 380 [] t [fq nmb c (d::w1)]:=by
 intro x Up m p;simp only[c5,List.length_cons]at p;have U:=cG m;have l1:(c::d::w1).length<=ig:=Ru (by simp only[List.length_cons];omega);refine bE.mono (bE.o rfl (A2 x) ?_) (by decide);intro r N s _;exists bx,bZ U (mQ h),0;exists bx,bZ U (mQ i),0;exists bx,eK (cH:=[c,d]) U k j (by simp only[List.length_cons,List.length_nil]at l1 ⊢;omega),0;exists bx,dS U b l1,0;exists bx,dS U a l1,0;exists bx,dS U a l1,0;exists bx,dS U a l1,0;exists bx,de l1;intro v b g _ _;exact cB rfl rfl (ci)
theorem Rx{p:Ch}(b:c.code=49)(f:d.code=46)(g:e.code=101)(j:p.code=43)(k:nx zf t):
  dB 394 [] (c::d::e::p::t) 380 [] t [fq nmb c [d,e,p]]:=by
 intro x Up m v;have U:=cG m;have r:cN 540 (A0 x 401 380) (co x (gf Up) [c,d] (e::p::t) []) (λz=>co x (gf Up) [] t [fq nmb c [d,e,p]]):=by
  refine bE.mono (bE.o rfl (yD x) ?_) (by decide);intro s N u _;exists bx,eK (w1:=[]) U (show nx zf (e::p::t)from ub g (by decide)) (λz h=>by cases h),0;exists bx,bZ U (mQ g),0;exists bx,bZ U (mQ j),0;exists bx,eK (w1:=[]) U k (λz h=>by cases h),0;exists bx,de,0;exact cB rfl rfl (ci)
 refine bE.mono (bE.o rfl (A3 x) ?_) (by decide);intro s N u _;exists bx,cq U (ub b (by decide)),0;exists bx,eK (w1:=[c]) (bU:=d::e::p::t) U (ub f (by decide)) (λq h=>by rcases c4.mp h with rfl|h;exact mQ b;cases h),0;exists bx,bZ U (mQ f),0;exists bx,r.mono (by decide);intro _ _ a _ _;exact cC (cV [a.n 0])
theorem uc(g:c.code=47)(a:d.code=42):dB 380 [] (c::d::t) 422 [c,d] t []:=by
 obtain⟨r1,h,f1,rfl⟩:=Ch.eta g;intro x Up i j;have U:=cG i;exists bE.o,y5 x ⟨47,r1,h,f1⟩,0;exists bx,b0 U,0;exists bx,bE.back (cq U (ub a (by decide))),0;exists bx,bZ U (mQ a),0;exact cB rfl rfl (ci)
theorem aaJ(g:c.code=62)(a:d.code=62)(h:e.code=61):dB 380 [] (c::d::e::t) 380 [] t [fq [62,62,61] c [d,e]]:=by
 obtain⟨r1,i,f1,rfl⟩:=Ch.eta g;intro x Up j k;have U:=cG j;exists bE.o,BP x ⟨62,r1,i,f1⟩,0;exists bx,b0 U,0;exists bx,bE.back (cq U (ub a (by decide))),0;exists bx,bZ U (mQ a),0;exists bx,bZ U (mQ h),0;exists bx,de,0;exact cB rfl rfl (ci)
theorem Ry(f:c.code=33)(g:d.code=61):dB 380 [] (c::d::t) 380 [] t [fq [33,61] c [d]]:=by
 obtain⟨r1,h,f1,rfl⟩:=Ch.eta f;intro x Up i j;have U:=cG i;exists bE.o,vr x ⟨33,r1,h,f1⟩,0;exists bx,b0 U,0;exists bx,bE.back (bZ U (mQ g)),0;exists bx,de,0;exact cB rfl rfl (ci)
theorem Rz(f:c.code=35)(g:d.code=35):dB 380 [] (c::d::t) 380 [] t [fq [35,35] c [d]]:=by
 obtain⟨r1,h,f1,rfl⟩:=Ch.eta f;intro x Up i j;have U:=cG i;exists bE.o,vu x ⟨35,r1,h,f1⟩,0;exists bx,b0 U,0;exists bx,bE.back (bZ U (mQ g)),0;exists bx,de,0;exact cB rfl rfl (ci)
theorem RA(f:c.code=43)(g:d.code=43):dB 380 [] (c::d::t) 380 [] t [fq [43,43] c [d]]:=by
 obtain⟨r1,h,f1,rfl⟩:=Ch.eta f;intro x Up i j;have U:=cG i;exists bE.o,vv x ⟨43,r1,h,f1⟩,0;exists bx,b0 U,0;exists bx,bE.back (bZ U (mQ g)),0;exists bx,de,0;exact cB rfl rfl (ci)
theorem Nt(g:c.code=45)(a:d.code=62):dB 380 [] (c::d::t) 380 [] t [fq [45,62] c [d]]:=by
 obtain⟨r1,h,f1,rfl⟩:=Ch.eta g;intro x Up i j;have U:=cG i;exists bE.o,tZ x ⟨45,r1,h,f1⟩,0;exists bx,b0 U,0;exists bx,bE.back (cq U (ub a (by decide))),0;exists bx,cq U (ub a (by decide)),0;exists bx,bZ U (mQ a),0;exists bx,de,0;exact cB rfl rfl (ci)
theorem aaK(f:c.code=40):dB 380 [] (c::t) 380 [] t [fq [40] c []]:=by
 obtain⟨r1,g,f1,rfl⟩:=Ch.eta f;intro x Up h i;have U:=cG h;exists bE.o,BQ x ⟨40,r1,g,f1⟩,0;exists bx,b0 U,0;exists bx,bE.back (de),0;exact cB rfl rfl (ci)
theorem aaL(f:c.code=63):dB 380 [] (c::t) 380 [] t [fq [63] c []]:=by
 obtain⟨r1,g,f1,rfl⟩:=Ch.eta f;intro x Up h i;have U:=cG h;exists bE.o,BR x ⟨63,r1,g,f1⟩,0;exists bx,b0 U,0;exists bx,bE.back (de),0;exact cB rfl rfl (ci)
end
section
structure pl where(d s i m u k1 k2 k3 k4 e1 e2 e3 e4 vt:Nat)
variable(CO:Nat)(y:pl)
def zS:Obj:=cy [eW (uS 0x73657474696e6773) y.k1 (.ref y.s),eW (uS 0x696e636c7564655f6469726563746f72696573) y.k2 (.ref y.i),eW (uS 0x6d6163726f73) y.k3 (.ref y.m),eW (uS 0x756e646566696e655f6d6163726f73) y.k4 (.ref y.u)] 4
noncomputable def ii(cf:Bool)(bN:List Nat):List (List Nat×Nat×Value):=[([116,114,105,103,114,97,112,104,115],y.e1,.bool cf),([115,116,100],y.e2,.str ⟨⟨bN⟩⟩ y.vt),([118,101,114,98,111,115,101],y.e3,.bool false),([102,114,101,101,115,116,97,110,100,105,110,103],y.e4,.bool false)]
def i1(cf:Bool)(bN:List Nat):bH:=[(CO,C2 y.d),(y.d,zS y),(y.s,cy (c0 w.params (ii y cf bN)) 4)]
def UY(cf:Bool)(bN key:List Nat)(kt:Nat)(v:Value):bK:=⟨.call (.ref 504) ⟨[.ref CO,.str ⟨⟨key⟩⟩ kt],[]⟩,i1 CO y cf bN,λN t=>.con (o6 y.s (c0 w.params (ii y cf bN)) 4 ⟨⟨key⟩⟩ kt v) λz z z=>.fin (.ok (.ret v)) (i1 CO y cf bN)⟩
def Xv(cf:Bool)(bN:List Nat)(kt:Nat):bK:=UY CO y cf bN [115,116,100] kt (.str ⟨⟨bN⟩⟩ y.vt)
theorem EH cf bN kt:RP 200 2 [Un,nU 0x10 0x1011 0 0 0] (Xv CO y cf bN kt):=.a
def Xw(cf:Bool)(bN:List Nat)(kt:Nat):bK:=UY CO y cf bN [116,114,105,103,114,97,112,104,115] kt (.bool cf)
theorem EI cf bN kt:RP 200 2 [Un,nU 0x10 0x1011 0 0 0] (Xw CO y cf bN kt):=.a
end
section
variable{a b c c1 c2 c3 d e q z:Ch}{cH t:List Ch}{x:fD}{Up:List Ch->b7}{toks:List Tk}{room:Nat}
theorem RB(k:c.code=46)(l:d.code=46)(m:e.code=46):dB 380 [] (c::d::e::t) 380 [] t [fq [46,46,46] c [d,e]]:=by
 obtain⟨r1,c1,f1,rfl⟩:=Ch.eta k;obtain⟨r2,c2,f2,rfl⟩:=Ch.eta l;obtain⟨i,c3,j,rfl⟩:=Ch.eta m;intro x Up n y;have U:=cG n;have sq:∀N k1 k2,cN 560 (aav x N k1 k2) (co x (gf Up) [⟨46,r1,c1,f1⟩] (⟨46,r2,c2,f2⟩::⟨46,i,c3,j⟩::t) []) (λz=>co x (gf Up) [⟨46,r1,c1,f1⟩,⟨46,r2,c2,f2⟩,⟨46,i,c3,j⟩] t []):=λN k1 k2=>by
  refine bE.mono (bE.o rfl (Nj x N k1 k2 0 ⟨46,r2,c2,f2⟩ ⟨46,i,c3,j⟩) ?_) (by decide);intro p N r _;exists bx,b0 U,0;exists bx,bE.back (b0 U);intro v w f _ _;exact cB rfl rfl (λr0 g0 h=>⟨f,_,g0,rfl,h.back,by rw[bQ];exact .refl _,.refl _⟩)
 exists bE.o,y6 x ⟨46,r1,c1,f1⟩;intro p N r _;exists bx,b0 U,0;exists bx,bE.back ((sq _ _ _).mono (by decide)),0;exists bx,de;intro v w f _ _;exact cB rfl rfl (ci)
theorem Nu(h:c.code=121)(i:d.code=10):dB 415 [a,b] (c::d::t) 380 [] (d::t) []:=by
 obtain⟨r1,c1,f1,rfl⟩:=Ch.eta h;obtain⟨r2,c2,f2,rfl⟩:=Ch.eta i;intro x Up j m;have U:=cG j;refine bE.mono (bE.o rfl (yE x ⟨121,r1,c1,f1⟩ ⟨10,r2,c2,f2⟩) ?_) (by decide);intro n N p _;exists bx,b0 U,0;exists bx,bE.back (b0 U),0;exists bx,jz,0;exists bx,gX,0;exact cB rfl rfl (ci)
theorem Nv(h:c.code=121):dB 415 [a,b] [c] 380 [] [] []:=by
 obtain⟨r1,c1,f1,rfl⟩:=Ch.eta h;intro x Up i l;have U:=cG i;refine bE.mono (bE.o rfl (yF x ⟨121,r1,c1,f1⟩ ⟨121,r1,c1,f1⟩) ?_) (by decide);intro m N n _;exists bx,b0 U,0;exists bx,bE.back (kQ U),0;exists bx,gX,0;exact cB rfl rfl (ci)
theorem RC(g:c.code=42)(h:d.code=47):dB 422 [a,b] (c::d::t) 380 [] t []:=by
 intro x Up i j;have U:=cG i;refine bE.mono (bE.o rfl (A4 x) ?_) (by decide);intro k N l _;exists bx,bZ U (mQ g),0;exists bx,bZ U (mQ h),0;exists bx,gX,0;exact cB rfl rfl (ci)
theorem Hm(hz:ri ⟨⟨[42]⟩⟩ z.code=false)(g:c.code=42)(h:d.code=47):dB 422 [a,b] (z::c::d::t) 380 [] t []:=by
 intro x Up i k;have U:=cG i;refine bE.mono (bE.o rfl (A5 x z) ?_) (by decide);intro l N m _;exists bx,cq U hz,0;exists bx,cz U,0;exists bx,bE.back (bZ U (mQ g)),0;exists bx,bZ U (mQ h),0;exists bx,gX,0;exact cB rfl rfl (ci)
theorem RD(hz:z.code=42)(f:c.code=42)(h:d.code=47):dB 422 [a,b] (z::c::d::t) 380 [] t []:=by
 intro x Up i k;have U:=cG i;refine bE.mono (bE.o rfl (A6 x) ?_) (by decide);intro l N m _;exists bx,bZ U (mQ hz),0;exists bx,cq U (ub f (by decide)),0;exists bx,bZ U (mQ f),0;exists bx,bZ U (mQ h),0;exists bx,gX,0;exact cB rfl rfl (ci)
noncomputable def Xx:List Nat:=[83,84,82,73,78,71]
noncomputable def Xy:List Nat:=[67,72,65,82]
theorem RE{f:Ch}(h:c1.code=97)(i:c2.code=32)(j:c3.code=98)(k:f.code=34):dB 429 [q] (c1::c2::c3::f::t) 380 [] t [fq Xx q [c1,c2,c3,f]]:=by
 obtain⟨r1,u1,f1,rfl⟩:=Ch.eta h;obtain⟨r2,l,f2,rfl⟩:=Ch.eta i;obtain⟨m,u3,n,rfl⟩:=Ch.eta j;obtain⟨p,r,s,rfl⟩:=Ch.eta k;intro x Up u v;have U:=cG u;refine bE.mono (bE.o rfl (A7 x ⟨97,r1,u1,f1⟩ ⟨32,r2,l,f2⟩ ⟨98,m,u3,n⟩ ⟨34,p,r,s⟩) ?_) (by decide);intro w N y _;exists bx,cz U,0;exists bx,bE.back (cz U),0;exists bx,bE.back (cz U),0;exists bx,bE.back (cz U),0;exists bx,bE.back (de),0;exact cB rfl rfl (ci)
theorem BZ(U:e9 340 x.gn Up)(g:ri ⟨⟨[39,34,63,92,97,98,102,110,114,116,118,101]⟩⟩ c.code=true)(h:cH.length<=ig:=by exact db rfl)(i:530<=room:=by decide):
  cN room (WI x) (co x Up cH (c::t) toks) (λz=>co x Up (cH++[c]) t toks):=by
 refine bE.mono (bE.o rfl (Mt x) ?_) i;intro j N k _;exists bx,bZ U g h;intro _ _ f _ _;exact cC f
theorem q0(U:e9 340 x.gn Up){vs:List Nat}{vt:Nat}(g:ri ⟨⟨vs⟩⟩ c.code=true)(h:cH.length<=ig)(i:530<=room:=by decide):
  cN room (yG x vs vt) (co x Up cH (c::t) toks) (λz=>co x Up (cH++[c]) t toks):=by
 refine bE.mono (bE.o rfl (Bc x ⟨⟨vs⟩⟩ vt) ?_) i;intro j N k _;exists bx,bZ U g h;intro _ _ f _ _;exact cC f
theorem RG(g:c1.code=92)(h:c2.code=34)(i:c3.code=34):dB 429 [q] (c1::c2::c3::t) 380 [] t [fq Xx q [c1,c2,c3]]:=by
 obtain⟨r1,u1,f1,rfl⟩:=Ch.eta g;obtain⟨r2,j,f2,rfl⟩:=Ch.eta i;intro x Up k l;have U:=cG k;refine bE.mono (bE.o rfl (A8 x ⟨92,r1,u1,f1⟩ ⟨34,r2,j,f2⟩) ?_) (by decide);intro m N n _;exists bx,cz U,0;exists bx,bE.back (BZ U (mQ h)),0;exists bx,cz U,0;exists bx,bE.back (de),0;exact cB rfl rfl (ci)
theorem RH(g:c1.code=47)(h:c2.code=42)(i:c3.code=34):dB 429 [q] (c1::c2::c3::t) 380 [] t [fq Xx q [c1,c2,c3]]:=by
 obtain⟨r1,u1,f1,rfl⟩:=Ch.eta g;obtain⟨r2,j,f2,rfl⟩:=Ch.eta h;obtain⟨k,u3,l,rfl⟩:=Ch.eta i;intro x Up m n;have U:=cG m;refine bE.mono (bE.o rfl (A9 x ⟨47,r1,u1,f1⟩ ⟨42,r2,j,f2⟩ ⟨34,k,u3,l⟩) ?_) (by decide);intro p N r _;exists bx,cz U,0;exists bx,bE.back (cz U),0;exists bx,bE.back (cz U),0;exists bx,bE.back (de),0;exact cB rfl rfl (ci)
theorem Hn(j:ri ⟨⟨[92]⟩⟩ c.code=false)(k:d.code=39)(f:cH.length<=10):dB 436 (a::cH) (c::d::t) 380 [] t [fq Xy a (cH++[c,d])]:=by
 intro x Up l m;have U:=cG l;have g:(a::cH).length<=ig:=Ru (by rw[List.length_cons];exact cu (h9 _ _) m);have e:(a::cH)++[c]++[d]=a::(cH++[c,d]):=by simp
 refine bE.mono (bE.o rfl (Ba x c) ?_) (by decide);intro n N p _;exists bx,cq U j g,0;exists bx,cz U g,0;refine bx (X':=λz=>co x (gf Up) (a::(cH++[c,d])) t []) rfl (bE.dP (bE.back (q0 U (mQ k) (Ru (by simp;exact cu f (by decide))))) (λz z h=>h) (λz z z h=>e▸h)) ?_;intro _ _ _ _ _;refine bx (X':=co x (gf Up) [] t [fq Xy a (cH++[c,d])] |> λX z=>X) rfl (?_) ?_;rotate_left 1;intro r s i _ _;exact cB rfl rfl (ci);exact de (Ru (by simp;exact cu f (by decide)))
theorem RJ(f:c.code=92)(h:d.code=110)(i:e.code=39):dB 436 [a] (c::d::e::t) 380 [] t [fq Xy a [c,d,e]]:=by
 obtain⟨r1,u1,f1,rfl⟩:=Ch.eta f;intro x Up j k;have U:=cG j;refine bE.mono (bE.o rfl (Bb x ⟨92,r1,u1,f1⟩) ?_) (by decide);intro l N m _;exists bx,bZ U (mQ f),0;exists bx,BZ U (mQ h),0;exists bx,q0 U (mQ i) (db rfl),0;exists bx,de,0;exact cB rfl rfl (ci)
end
section
variable{Up:List Ch->b7}{CO kt room:Nat}{bN:List Nat}{y:pl}{cH bU:List Ch}{x:fD}{toks:List Tk}{r:bH}{g:bR}
def OpH(CO:Nat)(cf:Bool)(bN:List Nat):b7:=λr g=>∃y,r=i1 CO y cf bN/\g=[]
def i2(CO:Nat)(cf:Bool)(bN:List Nat)(Up:List Ch->b7)(σ:List Ch):b7:=star (Up σ) (OpH CO cf bN)
section
theorem Nw{R:Nat}{y:fJ}{cf:Bool}(a:e9 R y Up):e9 R y (i2 CO cf bN Up)where
 next c σ room hr:=(a.next c σ room hr).star _
 stop room hr:=(a.stop room hr).star _
theorem Xz(y:pl)(cf:Bool)(bN:List Nat):strAt (ii y cf bN) ⟨⟨[115,116,100]⟩⟩=some (.str ⟨⟨bN⟩⟩ y.vt):=rfl
theorem XA(y:pl)(cf:Bool)(bN:List Nat):strAt (ii y cf bN) ⟨⟨[116,114,105,103,114,97,112,104,115]⟩⟩=some (.bool cf):=rfl
theorem B0{cf:Bool}(b:200<=room:=by decide):gN room (.call (.ref 504) ⟨[.ref CO,.str ⟨⟨[115,116,100]⟩⟩ kt],[]⟩) (i1 CO y cf bN) bV (λz z z=>(.ok (.ret (.str ⟨⟨bN⟩⟩ y.vt)),i1 CO y cf bN)) (λz=>bV):=by
 refine bE.mono (bE.o rfl (EH CO y cf bN kt) ?_) b;intro c N d _;exists bx,kK rfl rfl (Xz y cf bN);intro _ _ a _ _;exact cC a
theorem B3{cf:Bool}(b:200<=room:=by decide):gN room (.call (.ref 504) ⟨[.ref CO,.str ⟨⟨[116,114,105,103,114,97,112,104,115]⟩⟩ kt],[]⟩) (i1 CO y cf bN) bV (λz z z=>(.ok (.ret (.bool cf)),i1 CO y cf bN)) (λz=>bV):=by
 refine bE.mono (bE.o rfl (EI CO y cf bN kt) ?_) b;intro c N d _;exists bx,kK rfl rfl (XA y cf bN);intro _ _ a _ _;exact cC a
def EJ(cf:Bool)(bN:List Nat)(f:Nat)(cH bU:List Ch)(c:Nat)(b a:List Ch)(qi:List Tk):Prop:=
 ∀(x:fD)(Up:List Ch->b7),e9 340 x.gn Up->cH.length+bU.length<=3000->
  cN 580 (A0 x f c) (co x (gf (i2 x.CO cf bN Up)) cH bU []) (λz=>co x (gf (i2 x.CO cf bN Up)) b a qi)
theorem dB.opt{cf:Bool}{f c:Nat}{b a:List Ch}{qi:List Tk}(h:dB f cH bU c b a qi):EJ cf bN f cH bU c b a qi:=
 λx Up d e=>h x _ (Nw d) e
theorem co.take{cf:Bool}(h:co x (gf (i2 x.CO cf bN Up)) cH bU toks r g):
  ∃y t,r.Perm (i1 x.CO y cf bN++t)/\co x (gf Up) cH bU toks t g:=by
 obtain⟨n,c,d,e,σ,r1,u,v,f,w,i,r2,b,g2,g3,⟨j,B,z,C,A,⟨y,rfl,rfl⟩,k,m⟩,o,p,s⟩:=h;refine⟨y,tQ x n c d e++(bW c++(bW d++(fA e++(j++b)))),?_,n,c,d,e,σ,j++b,u,v,f,w,.refl _,j,b,z,g3,A,o,.refl _,?_⟩
 ·refine i.trans ?_;refine(((((p.trans (k.append_right b)).append_left _).append_left _).append_left _).append_left _).trans ?_;exact PT.q [_,_,_,_,_,_,_] [] 0xa0a1a2a3aa456 0xa5a0a1a2a3a46 rfl
 ·exact s.trans ((m.trans (by exact PT.perm [_] [] (.a (.l 0) .n) (.l 0) rfl)).append_right g3)
theorem co.put{cf:Bool}(h:co x (gf Up) cH bU toks r g):
  co x (gf (i2 x.CO cf bN Up)) cH bU toks (i1 x.CO y cf bN++r) g:=by
 obtain⟨n,j,k,m,σ,r1,o,p,b,s,c,r2,i,g2,g3,t,d,e,f⟩:=h;refine⟨n,j,k,m,σ,(r2++i1 x.CO y cf bN)++i,o,p,b,s,?_,r2++i1 x.CO y cf bN,i,g2,g3,⟨r2,_,g2,[],t,⟨y,rfl,rfl⟩,.refl _,by exact PT.perm [_] [] (.l 0) (.a (.l 0) .n) rfl⟩,d,.refl _,f⟩;refine((c.trans ((((e.append_left _).append_left _).append_left _).append_left _)).append_left (i1 x.CO y cf bN)).trans ?_;exact PT.q [_,_,_,_,_,_,_] [] 0xa0a1a2a3a4a56 0xa1a2a3a4aa506 rfl
theorem UZ{cf:Bool}{c d:Ch}{t:List Ch}(B:c.code=47)(C:d.code=47):EJ cf [99,57,57] 380 [] (c::d::t) 415 [c,d] t []:=by
 obtain⟨r1,u1,f1,rfl⟩:=Ch.eta B;intro x Up D K A s F FG r0 g0 E G H;obtain⟨y,I,h,i⟩:=G.take;have U:=cG D;have z:gN 580 (.call (.ref 380) ⟨[.ref x.S],[]⟩) (bF x++[(x.CO,C2 y.d)]) (star (co x (gf Up) [] (⟨47,r1,u1,f1⟩::d::t) []) (own [(y.d,zS y),(y.s,cy (c0 w.params (ii y cf [99,57,57])) 4)]))
   (λZ Z b=>(.ok (.ret (.ref (b.n 0))),bF x++[(b.n 0,gC 415 x.S),(x.CO,C2 y.d)])) (λZ=>star (co x (gf Up) [⟨47,r1,u1,f1⟩,d] t []) (own [(y.d,zS y),(y.s,cy (c0 w.params (ii y cf [99,57,57])) 4)])):=by
  exists bE.o,BS x ⟨47,r1,u1,f1⟩ y.d y.vt,0;exists bx,(b0 U).star (own [(y.d,zS y),(y.s,cy (c0 w.params (ii y cf [99,57,57])) 4)]),0;refine bx (X':=λZ=>star (co x (gf Up) [⟨47,r1,u1,f1⟩,d] t []) (own [(y.d,zS y),(y.s,cy (c0 w.params (ii y cf [99,57,57])) 4)])) rfl (bE.dX (((bZ (cH:=[⟨47,r1,u1,f1⟩]) U (mQ C)).star (own [(y.d,zS y),(y.s,cy (c0 w.params (ii y cf [99,57,57])) 4)]))) ?_) ?_;rotate_left 1;intro _ _ _ _ _;refine bx (X':=λZ=>star (co x (gf Up) [⟨47,r1,u1,f1⟩,d] t []) (own [(y.d,zS y),(y.s,cy (c0 w.params (ii y cf [99,57,57])) 4)])) rfl (?_) ?_;rotate_left 1;intro J Q u _ _;exact cC (cV [J])
  ·rintro r g ⟨j,v,e1,e2,hn,ho,f,he⟩;exact⟨_,.refl _,_,_,_,_,hn.back,ho,by rw[bQ];exact f.append_left _,he⟩
  ·refine((B0 (y:=y) (cf:=cf) (bN:=[99,57,57])).fr (co x (gf Up) [⟨47,r1,u1,f1⟩,d] t [])).ej ?_ ?_
   ·rintro r g ⟨j,v,e1,e2,hn,⟨rfl,rfl⟩,f,he⟩;refine⟨j,e1,?_,by simpa using he,hn⟩;refine(f.append_left [(x.CO,C2 y.d)]).trans ?_;exact PT.q [_] [_,_,_] 0xac0ea0c1c2e 0xac0c1c2e0 rfl
   ·intro N t b r g hn;refine⟨b,r++[(y.d,zS y),(y.s,cy (c0 w.params (ii y cf [99,57,57])) 4)],g++[],rfl,?_,by exact PT.perm [_] [] (.l 0) (.a (.l 0) .n) rfl,sW hn ⟨rfl,rfl⟩⟩;refine List.Perm.trans ?_ ((xz _:List.Perm ([(x.CO,C2 y.d)]++(r++[(y.d,zS y),(y.s,cy (c0 w.params (ii y cf [99,57,57])) 4)])) _));exact PT.q [_] [_,_,_] 0xac0c1c2e0 0xac0ea0c1c2e rfl
 have k:Sat (bY w.params) os s ((bF x++[(x.CO,C2 y.d)])++((I++[(y.d,zS y),(y.s,cy (c0 w.params (ii y cf [99,57,57])) 4)])++F)) (g0++FG):=H.perm (by
  refine((h.append_right F).append_left (bF x)).trans ?_;exact PT.q [_,_,_] [_,_,_] 0xa0aac0c1c2e12 0xaa0c0eaa1c1c2e2 rfl)
 refine dj (z A s F FG _ _ E ⟨_,_,g0,[],i,⟨rfl,rfl⟩,.refl _,by exact PT.perm [_] [] (.l 0) (.a (.l 0) .n) rfl⟩ k) ?_;rintro r R ⟨b,j,v,⟨T,V,e1,e2,hn,⟨rfl,rfl⟩,f,he⟩,e,m⟩;refine⟨b,_,e1,hn.put (y:=y),e,(m.perm ?_).fv ((he.trans (by exact PT.perm [_] [] (.a (.l 0) .n) (.l 0) rfl)).append_right FG)⟩;refine((f.append_right F).append_left _).trans ?_;exact PT.q [_,_,_] [_,_,_,_] 0xaa0c0c1eaa1c2c3e2 0xaa0c0eaac1c2c3e12 rfl
theorem U0{E:b7}(b:jL 340 x.gn Up E)(c:580<=room:=by decide):
  gN room (.call (.ref 380) ⟨[.ref x.S],[]⟩) (bF x) (co x Up cH [] toks) (λz z z=>(.ok (.ret .none),bF x)) (λz=>co x (λz=>E) cH [] toks):=by
 refine bE.mono (bE.o rfl (Jj x) ?_) c;intro d N e _;exists bx,nh b (by decide);intro _ _ a _ _;exact cC a
end
end
section
variable{D FL f mt n room:Nat}{oc:Option Ch}{r r':bH}{g g':bR}{cH t bU:List Ch}{toks:List Tk}{a c c1 c2 d q:Ch}{body:List Stmt}{env:Env}{l:List DictEntry}{ℓ RK:L2}{X:b7}{args:Args}{X':L2->b7}
inductive lE(D:Nat)(oc:Option Ch)(O:bH->Prop)(r:bH)(g_:bR):Prop where|mk:∀k1 k2 k3 ms hi o j,(O o)->(match oc with|none=>r.Perm ((D,BG k1 k2 k3 ms .none hi)::(o++j))|some c=>∃y:gv,r.Perm ((D,BG k1 k2 k3 ms (.ref y.l) hi)::(y.l,eI y c)::(o++j)))->lE D oc O r g_
theorem lE.Jp{O:bH->Prop}{j:bH}(h:lE D oc O r g)(b:r'.Perm (r++j)):lE D oc O r' g':=by
 obtain⟨k1,k2,k3,ms,e,o,q,ho,h⟩:=h;cases oc with
 |none=>exact⟨k1,k2,k3,ms,e,o,q++j,ho,b.trans ((h.append_right j).trans (by exact PT.q [_,_,_] [_] 0xac0a012 0xc0a0a12 rfl))⟩
 |some c=>obtain⟨y,h⟩:=h;exact⟨k1,k2,k3,ms,e,o,q++j,ho,y,b.trans ((h.append_right j).trans (by exact PT.q [_,_,_] [_,_] 0xac0c1a012 0xc0c1a0a12 rfl))⟩
def Keeps(Up:List Ch->b7)(O:bH->Prop):Prop:=∀σ r g,Up σ r g->∃o j,O o/\r.Perm (o++j)
theorem co.keeps{x:fD}{Up:List Ch->b7}{O:bH->Prop}(m:Keeps Up O)(h:co x Up cH bU toks r g):∃o j,O o/\r.Perm (o++j):=by
 obtain⟨n,e,i,k,σ,r',v,w,p,y,b,s⟩:=h;obtain⟨o,j,ho,u⟩:=m _ _ _ s;refine⟨o,tQ x n e i k++(bW e++(bW i++(fA k++j))),ho,b.trans ((((( u.append_left _).append_left _).append_left _).append_left _).trans ?_)⟩;exact PT.q [_,_,_,_,_,_] [] 0xa0a1a2a3a45 0xa4a0a1a2a35 rfl
theorem tS.keeps{x:fD}{Up:List Ch->b7}{O:bH->Prop}(k:Keeps Up O){a:gv}(h:tS x Up a c cH bU toks r g):∃o j,O o/\r.Perm (o++j):=by
 obtain⟨n,e,i,r',s,u,b,m⟩:=h;obtain⟨o,j,ho,p⟩:=k _ _ _ m;refine⟨o,tQ x n (e++[(a,c)]) [] i++(bW e++(fA i++j)),ho,b.trans ((((p.append_left _).append_left _).append_left _).trans ?_)⟩;exact PT.q [_,_,_,_,_] [] 0xa0a1a2a34 0xa3a0a1a24 rfl
theorem n9(l:List DictEntry)(n:Nat):jW (cD l n)=true:=by kernel_rfl
section
abbrev lF(room:Nat)(k:cX)(X:b7)(X':L2->b7):Prop:=qL room k.c k.pre X k.out X'
abbrev Jq(room:Nat)(k:vf)(X:b7)(X':L2->b7):Prop:=dt pz (wv w b1 b2) (bY w.params) os room k.c k.tr k.pre X k.out X'
theorem U1{e b:Nat}(h:env.frame=some FL)(hn:f7 env=true)(Y:b7):Jq room (Ex (.func body env) env e D b FL (cD l n)) Y (λz=>Y):=
 (Jd rfl h hn (n9 l n) rfl).fr Y
theorem wk(b:env.frame=some FL)(hn:f7 env=true)(Y:b7):Jq room (ua (.func body env) env ℓ FL (cD l n)) Y (λz=>Y):=
 (Je rfl b hn (n9 l n) rfl).fr Y
theorem ud{c:Code}(b:c.env?=some env)(e:env.frame=some FL)(hn:f7 env=true)(Y:b7):Jq room (qY c env ℓ FL (cD l n)) Y (λz=>Y):=
 (Ew b e hn (n9 l n) rfl).fr Y
theorem Nx{c:Code}(b:env.frame=some FL)(Y:b7):Jq room (Hj c env ℓ RK FL) Y (λz=>Y):=
 (wj b).fr Y
noncomputable def ue(T e D b:Nat)(v:Nat->Value):L2:=⟨λn=>match n with|0=>T|1=>e|2=>D|_=>b,v,λz=>[]⟩
theorem i3{N t:Nat}{O:bH->Prop}(e:∀r g,X r g->lE (ℓ.n 2) oc O r g):
  ∀r0 g0,X r0 g0->Dg (⟨false,λz z b=>(.error (.ref (b.n 1)),kc b (b.n 2) (b.n 3) (b.n 1) .none),λb=>lE (b.n 2) oc O,[]⟩:Gl Unit) (.error (.ref (ℓ.n 1))) (kc RK (ℓ.n 2) (ℓ.n 3) (ℓ.n 1) .none) N t r0 g0:=
 λr0 g0 h=>⟨ue (RK.n 0) (ℓ.n 1) (ℓ.n 2) (ℓ.n 3) RK.v,r0,g0,rfl,e _ _ h,.refl _,.refl _⟩
variable{x:fD}{Up:List Ch->b7}{O:bH->Prop}
theorem qj(u:e9 340 x.gn Up)(w:Keeps Up O){m:PySem.Str}(y:cH.length<=ig)(z:520<=room:=by decide):
  lF room (jm x 265 ⟨[.ref x.S,.str m mt],[]⟩ []) (co x Up cH (c::bU) toks) (λℓ=>lE (ℓ.n 2) (some c) O):=by
 refine bO.mono ?_ z;show bO _ _ _ _ _ _ (bF x++[]) _ _ _;exists bO.o,Jf x m mt c,0;exists bx,b0 u y;intro k s e _ _;refine heB rfl ?_;intro p b _;exists cK,U1 rfl (by kernel_rfl) _;intro C E i _ _;refine cB rfl rfl (λr0 g0 h=>?_);obtain⟨o,j,ho,A⟩:=h.keeps w;refine⟨ue (i.n 0) (k+1) (k+3) k i.v,(k+3,BG (s+8) (s+10) (s+13) (.str m mt) (.ref (e.n 2)) (.ref (k+4)))::(e.n 2,eI (e8 e) c)::r0,g0,rfl,⟨_,_,_,_,_,o,j,ho,e8 e,(A.cons _).cons _⟩,.refl _,.refl _⟩
theorem Jr(u:e9 340 x.gn Up)(w:Keeps Up O){k:PySem.Str}(y:520<=room):
  lF room (jm x 265 ⟨[.ref x.S,.str k mt],[]⟩ []) (co x Up cH [] toks) (λℓ=>lE (ℓ.n 2) none O):=by
 refine bO.mono ?_ y;show bO _ _ _ _ _ _ (bF x++[]) _ _ _;exists bO.o,Jg x k mt,0;exists bx,kQ u;intro i m s _ _;refine heB rfl ?_;intro p b _;exists cK,U1 rfl (by kernel_rfl) _;intro B C e _ _;refine cB rfl rfl (λr0 g0 h=>?_);obtain⟨o,j,ho,z⟩:=h.keeps w;exact⟨ue (e.n 0) (i+1) (i+3) i e.v,(i+3,BG (m+7) (m+9) (m+12) (.str k mt) .none (.ref (i+4)))::r0,g0,rfl,⟨_,_,_,_,_,o,j,ho,z.cons _⟩,.refl _,.refl _⟩
theorem bO.nil(h:qL room (.call (.ref f) args) (bF x) X (jm x f args []).out X'):lF room (jm x f args []) X X':=by
 show bO _ _ _ _ _ _ (bF x++[]) _ _ _;exact h
theorem q5(u:e9 340 x.gn Up)(B:Keeps Up O)(Q:cH.length<=ig:=by exact db rfl)(b:525<=room:=by decide):
  lF room (za x []) (co x Up cH [] toks) (λℓ=>lE (ℓ.n 2) none O):=by
 refine bO.mono (bO.nil ?_) b;intro A s F FG r0 g0 C k E G;obtain⟨n,e,H,i,σ,r',I,J,K,L,m,j⟩:=E;obtain⟨p,rfl⟩:=sB.mp J;obtain rfl:H=[]:=xa.mp p;have z:qL 525 (.call (.ref 216) ⟨[.ref x.S],[(⟨⟨[101,111,102]⟩⟩,.bool false)]⟩) (bF x++[(x.PB,br [] n.n1),(x.CT,br (bS e) n.n2),(x.gn.g,cc x.gn)])
   (λr g=>∃r1,r.Perm ([(x.TB,br (fO i) n.n3)]++(bW e++(fA i++r1)))/\Up [] r1 g) (za x []).out (λℓ=>lE (ℓ.n 2) none O):=by
  exists bO.o,EC x (bS e) n.n1 n.n2;intro R N t _;refine bx (X':=λf=>λr g=>∃r1,r.Perm ([(x.TB,br (fO i) n.n3)]++(bW e++(fA i++r1)))/\Up [] r1 g) rfl (?_) ?_;rotate_left 1;intro T U v _ _;refine cF (X':=λℓ=>lE (ℓ.n 2) none O) rfl (?_) ?_;rotate_left 1;intro V W w _ _;exists cK,wk rfl (by kernel_rfl) _,0;exact cB rfl rfl (i3 λf f h=>h)
  ·refine bE.ej ((u.stop _ (by decide)).star (λr g=>r.Perm ([(x.TB,br (fO i) n.n3)]++(bW e++fA i))/\g=[])) ?_ ?_
   ·rintro r g ⟨r1,b,j⟩;refine⟨_,g,.refl _,.refl _,r1,_,g,[],j,⟨.refl _,rfl⟩,b.trans ?_,by exact PT.perm [_] [] (.l 0) (.a (.l 0) .n) rfl⟩;exact PT.q [_,_,_] [_] 0xac0ea0a12 0xa2ac0ea01 rfl
   ·rintro N t ℓ r g ⟨r1,r2,g1,g2,j,⟨M,rfl⟩,b,P⟩;refine⟨ℓ,r,g1,rfl,.refl _,by simpa using P,r1,(b.trans (M.append_left r1)).trans ?_,j⟩;exact PT.q [_,_,_] [_] 0xa0ac0ea12 0xac0ea1a20 rfl
  ·refine bO.ej (Jr u B (cH:=cH) (toks:=toks) (by decide)) ?_ (λN t ℓ r g h=>⟨ℓ,r,g,rfl,.refl _,.refl _,h⟩);rintro r g ⟨r1,b,j⟩;refine⟨_,g,?_,.refl _,n,e,[],i,[],r1,I,rfl,by decide,L,.refl _,j⟩;refine((b.append_left (bF x++[(x.PB,br [] n.n1),(x.CT,br (bS e) n.n2),(x.gn.g,cc x.gn)]))).trans ?_;exact PT.q [_,_,_,_] [_,_,_,_] 0xaa0c0c1c2eac3ea1a23 0xaa0eac0c1c3c2ea1aea23 rfl
 refine z A s F FG _ g0 C k ⟨r',.refl _,j⟩ (G.perm ?_);refine((m.append_right F).append_left (bF x)).trans ?_;exact PT.q [_,_,_,_,_] [_,_,_,_] 0xa0aac0c1c2c3ea1aea234 0xaa0c0c1c3eaac2ea1a234 rfl
theorem bO.back{y:gv}(h:lF room (jm x f args []) (co x Up (cH++[c]) bU toks) X'):
  lF room (jm x f args (dJ y c)) (tS x Up y c cH bU toks) X':=by
 have b:qL room (.call (.ref f) args) (bF x++[]) (co x Up (cH++[c]) bU toks) (jm x f args []).out X':=h;exact bO.dX b λr g hn=>⟨_,.refl _,hn.back⟩
theorem wl(b:e9 340 x.gn Up)(i:Keeps Up O)(j:∀v∈[39,34,63,92,97,98,102,110,114,116,118,101,48,49,50,51,52,53,54,55,120,117,85],c.code≠v)(e:cH.length<=ig:=by exact db rfl)(k:535<=room:=by decide):
  lF room (jm x 443 ⟨[.ref x.S],[]⟩ []) (co x Up cH (c::t) toks) (λℓ=>lE (ℓ.n 2) (some c) O):=by
 have no:∀l:List Nat,(∀v∈l,v∈[39,34,63,92,97,98,102,110,114,116,118,101,48,49,50,51,52,53,54,55,120,117,85])->ri ⟨⟨l⟩⟩ c.code=false:=λl h=>by
  rw[ze];exact h8 λm=>j _ (h _ m) rfl
 refine bO.mono (bO.nil (bO.o rfl (Nl x) ?_)) k;intro p N s _;exists bx,cq b (no _ (by decide)) e,0;exists bx,cq b (no _ (by decide)) e,0;exists bx,cq b (no _ (by decide)) e,0;exists bx,cq b (no _ (by decide)) e,0;exists bx,cq b (no _ (by decide)) e,0;exists cF,qj b i e,0;exists cK,wk rfl (by kernel_rfl) _,0;exact cB rfl rfl (i3 λz z h=>h)
theorem zg(b:e9 340 x.gn Up)(i:Keeps Up O){vt:Nat}(j:ri ⟨⟨[39]⟩⟩ c.code=false)(e:cH.length<=ig)(k:535<=room):
  lF room (jm x 272 ⟨[.ref x.S,.str ⟨⟨[39]⟩⟩ vt],[]⟩ []) (co x Up cH (c::t) toks) (λℓ=>lE (ℓ.n 2) (some c) O):=by
 refine bO.mono (bO.nil (bO.o rfl (BU x vt) ?_)) k;intro m N p _;exists bx,cq b j e,0;exists cS,Ra.fr _,0;exists cF,qj b i e,0;exists cK,wk rfl (by kernel_rfl) _,0;exact cB rfl rfl (i3 λz z h=>h)
end
inductive zh(O:bH->Prop)(q:bH):Prop where|mk:∀o p,(O o)->(Ax p)->(q=o++[(225,p)])->zh O q
theorem oa{Up:List Ch->b7}{O:bH->Prop}(b:Keeps Up O):Keeps (gf Up) (zh O):=by
 rintro σ r g ⟨r1,r2,g1,g2,e,⟨p,rfl,_,h⟩,i,_⟩;obtain⟨o,j,ho,k⟩:=b σ r1 g1 e;refine⟨_,j,⟨o,p,ho,h,rfl⟩,i.trans ((k.append_right _).trans ?_)⟩;exact PT.q [_,_] [_] 0xaa01c0e 0xaa0c0e1 rfl
theorem lE.add{O:bH->Prop}{o:bH}(h:lE D oc (zh λo=>o=[]) r g)(b:O o)(i:r'.Perm (r++o)):lE D oc (zh O) r' g':=by
 obtain⟨k1,k2,k3,ms,j,_,q,⟨_,p,rfl,k,rfl⟩,h⟩:=h;have e:∀a:bH,(a++([]++[(225,p)]++q)++o).Perm (a++((o++[(225,p)])++q)):=λa=>by
  exact PT.q [_,_,_] [_] 0xaa0aaec0e12 0xa0aa2c0e1 rfl
 cases oc with
 |none=>exact⟨k1,k2,k3,ms,j,_,q,⟨o,p,b,k,rfl⟩,i.trans ((h.append_right o).trans (e [_]))⟩
 |some c=>obtain⟨y,h⟩:=h;exact⟨k1,k2,k3,ms,j,_,q,⟨o,p,b,k,rfl⟩,y,i.trans ((h.append_right o).trans (e [_,_]))⟩
def EK(f:Nat)(cH bU:List Ch)(oc:Option Ch):Prop:=
 ∀(x:fD)(Up:List Ch->b7)(O:bH->Prop),e9 340 x.gn Up->Keeps Up O->cH.length+bU.length<=3000->
  lF 580 (jm x f ⟨[.ref x.S],[]⟩ []) (co x (gf Up) cH bU []) (λℓ=>lE (ℓ.n 2) oc (zh O))
theorem RL(b:c.code=92)(e:∀v∈[39,34,63,92,97,98,102,110,114,116,118,101,48,49,50,51,52,53,54,55,120,117,85],d.code≠v):EK 436 [a] (c::d::t) (some d):=by
 intro x Up O i j k;have U:=cG i;refine bO.mono (bO.nil (bO.o rfl (y7 x) ?_)) (by decide);intro m N p _;exists bx,bZ U (mQ b),0;exists cF,wl U (oa j) e,0;exists cK,wk rfl (by kernel_rfl) _,0;exact cB rfl rfl (i3 λz z h=>h)
theorem Ho(b:ri ⟨⟨[92]⟩⟩ c.code=false)(e:ri ⟨⟨[39]⟩⟩ d.code=false):EK 436 [a] (c::d::t) (some d):=by
 intro x Up O i j k;have U:=cG i;refine bO.mono (bO.nil (bO.o rfl (y8 x c) ?_)) (by decide);intro m N p _;exists bx,cq U b,0;exists bx,cz U,0;exists cF,bO.back (zg U (oa j) e (db rfl) (by decide)),0;exists cK,wk rfl (by kernel_rfl) _,0;exact cB rfl rfl (i3 λz z h=>h)
theorem RM(b:c1.code=117)(e:c2.code=110):EK 429 [q] [c1,c2] none:=by
 obtain⟨r1,u1,f1,rfl⟩:=Ch.eta b;obtain⟨r2,i,f2,rfl⟩:=Ch.eta e;intro x Up O j k m;have U:=cG j;refine bO.mono (bO.nil (bO.o rfl (zb x ⟨117,r1,u1,f1⟩ ⟨110,r2,i,f2⟩) ?_)) (by decide);intro p N s _;exists bx,cz U,0;exists bx,bE.back (cz U),0;exists cF,bO.back (q5 U (oa k)),0;exists cK,ud rfl rfl (by kernel_rfl) _,0;exists cK,Nx rfl _,0;exact cB rfl rfl (i3 λz z h=>h)
theorem RN(b:c1.code=97)(e:c2.code=92)(i:∀v∈[39,34,63,92,97,98,102,110,114,116,118,101,48,49,50,51,52,53,54,55,120,117,85],d.code≠v):EK 429 [q] (c1::c2::d::t) (some d):=by
 obtain⟨r1,u1,f1,rfl⟩:=Ch.eta b;obtain⟨r2,j,f2,rfl⟩:=Ch.eta e;intro x Up O k m p;have U:=cG k;refine bO.mono (bO.nil (bO.o rfl (zc x ⟨97,r1,u1,f1⟩ ⟨92,r2,j,f2⟩) ?_)) (by decide);intro s N u _;exists bx,cz U,0;exists bx,bE.back (cz U),0;exists cF,bO.back (wl U (oa m) i),0;exists cK,ud rfl rfl (by kernel_rfl) _,0;exists cK,Nx rfl _,0;exact cB rfl rfl (i3 λz z h=>h)
theorem XB{b:Ch}(e:ri ⟨⟨[42]⟩⟩ c1.code=false)(i:ri ⟨⟨[42]⟩⟩ c2.code=false):EK 422 [a,b] [c1,c2] none:=by
 intro x Up O j k m;have U:=cG j;refine bO.mono (bO.nil (bO.o rfl (BV x c1 c2) ?_)) (by decide);intro p N s _;exists bx,cq U e,0;exists bx,cz U,0;exists bx,bE.back (cq U i),0;exists bx,cz U,0;exists bx,bE.back (pj U (by decide)),0;exists cF,q5 U (oa k),0;exists cK,ud rfl rfl (by kernel_rfl) _,0;exists cK,Nx rfl _,0;exact cB rfl rfl (i3 λz z h=>h)
end
section
variable{bN:List Nat}
def XC(CO:Nat)(cf:Bool)(bN:List Nat)(o:bH):Prop:=∃y,o=i1 CO y cf bN
def jN(CO:Nat)(cf:Bool)(bN:List Nat):bH->Prop:=zh (XC CO cf bN)
def Ny(cf:Bool)(bN:List Nat)(f:Nat)(cH bU:List Ch)(b:Option Ch):Prop:=
 ∀(x:fD)(Up:List Ch->b7),e9 340 x.gn Up->cH.length+bU.length<=3000->
  lF 580 (jm x f ⟨[.ref x.S],[]⟩ []) (co x (gf (i2 x.CO cf bN Up)) cH bU []) (λa=>lE (a.n 2) b (jN x.CO cf bN))
theorem XD{CO:Nat}{cf:Bool}{Up:List Ch->b7}:Keeps (i2 CO cf bN Up) (XC CO cf bN):=by
 rintro σ r g ⟨r1,r2,g1,g2,_,⟨y,rfl,rfl⟩,a,_⟩;exact⟨_,r1,⟨y,rfl⟩,a.trans fu⟩
theorem EK.opt{cf:Bool}{f:Nat}{cH bU:List Ch}{oc:Option Ch}(h:EK f cH bU oc):Ny cf bN f cH bU oc:=
 λx Up a b=>h x _ _ (Nw a) XD b
theorem aaM{cf:Bool}{c d e:Ch}{t:List Ch}(B:c.code=47)(C:d.code=47):Ny cf [99,56,57] 380 [] (c::d::e::t) (some e):=by
 obtain⟨r1,u1,f1,rfl⟩:=Ch.eta B;intro x Up D I;refine bO.nil ?_;intro A s F FG r0 g0 E j G H;obtain⟨y,J,k,m⟩:=G.take;have U:=cG D;have z:qL 580 (.call (.ref 380) ⟨[.ref x.S],[]⟩) (bF x++[(x.CO,C2 y.d)]) (star (co x (gf Up) [] (⟨47,r1,u1,f1⟩::d::e::t) []) (own [(y.d,zS y),(y.s,cy (c0 w.params (ii y cf [99,56,57])) 4)]))
   (jm x 380 ⟨[.ref x.S],[]⟩ []).out (λb=>lE (b.n 2) (some e) (jN x.CO cf [99,56,57])):=by
  exists bO.o,y9 x ⟨47,r1,u1,f1⟩ y.d y.vt;intro K N L _;exists bx,(b0 U).star (own [(y.d,zS y),(y.s,cy (c0 w.params (ii y cf [99,56,57])) 4)]),0;refine bx (X':=λZ=>star (co x (gf Up) [⟨47,r1,u1,f1⟩,d] (e::t) []) (own [(y.d,zS y),(y.s,cy (c0 w.params (ii y cf [99,56,57])) 4)])) rfl (bE.dX (((bZ (cH:=[⟨47,r1,u1,f1⟩]) U (mQ C)).star (own [(y.d,zS y),(y.s,cy (c0 w.params (ii y cf [99,56,57])) 4)]))) ?_) ?_;rotate_left 1;intro _ _ _ _ _;refine bx (X':=λZ=>star (co x (gf Up) [⟨47,r1,u1,f1⟩,d] (e::t) []) (own [(y.d,zS y),(y.s,cy (c0 w.params (ii y cf [99,56,57])) 4)])) rfl (?_) ?_;rotate_left 1;intro Q R v _ _;refine cF (X':=λb=>lE (b.n 2) (some e) (jN x.CO cf [99,56,57])) rfl (?_) ?_;rotate_left 1;intro _ _ _ _ _;exists cK,wk rfl (by kernel_rfl) _,0;exact cB rfl rfl (i3 λZ Z h=>h)
  ·rintro r g ⟨f,p,e1,e2,hn,ho,i,he⟩;exact⟨_,.refl _,_,_,_,_,hn.back,ho,by rw[bQ];exact i.append_left _,he⟩
  ·refine((B0 (y:=y) (cf:=cf) (bN:=[99,56,57])).fr (co x (gf Up) [⟨47,r1,u1,f1⟩,d] (e::t) [])).ej ?_ ?_
   ·rintro r g ⟨f,p,e1,e2,hn,⟨rfl,rfl⟩,i,he⟩;refine⟨f,e1,?_,by simpa using he,hn⟩;refine(i.append_left [(x.CO,C2 y.d)]).trans ?_;exact PT.q [_] [_,_,_] 0xac0ea0c1c2e 0xac0c1c2e0 rfl
   ·intro N t b r g hn;refine⟨b,r++[(y.d,zS y),(y.s,cy (c0 w.params (ii y cf [99,56,57])) 4)],g++[],rfl,?_,by exact PT.perm [_] [] (.l 0) (.a (.l 0) .n) rfl,sW hn ⟨rfl,rfl⟩⟩;refine List.Perm.trans ?_ ((xz _:List.Perm ([(x.CO,C2 y.d)]++(r++[(y.d,zS y),(y.s,cy (c0 w.params (ii y cf [99,56,57])) 4)])) _));exact PT.q [_] [_,_,_] 0xac0c1c2e0 0xac0ea0c1c2e rfl
  ·refine bO.ej (X':=λb=>star (lE (b.n 2) (some e) (zh λo=>o=[])) (λr g=>r=i1 x.CO y cf [99,56,57])) (bO.star (qj U (O:=zh λo=>o=[]) (oa λZ r Z Z=>⟨[],r,rfl,.refl _⟩) (cH:=[⟨47,r1,u1,f1⟩,d]) (bU:=t) (toks:=[]) (db rfl)) _) ?_ ?_
   ·rintro r g ⟨f,p,e1,e2,hn,⟨rfl,rfl⟩,i,he⟩;refine⟨f++i1 x.CO y cf [99,56,57],g,?_,.refl _,f,_,e1,[],hn,rfl,.refl _,he⟩;refine(i.append_left _).trans ?_;refine(xz _:List.Perm _ ((bF x++[(x.CO,C2 y.d)])++(f++[(y.d,zS y),(y.s,cy (c0 w.params (ii y cf [99,56,57])) 4)]))).trans ?_;exact PT.q [_,_] [_,_,_] 0xaa0c0ea1c1c2e 0xaa0ea1c0c1c2e rfl
   ·rintro N t b r g ⟨f,p,e1,e2,hn,rfl,i,he⟩;exact⟨b,r,g,rfl,.refl _,.refl _,hn.add ⟨y,rfl⟩ i⟩
 refine z A s F FG _ _ E j ⟨_,_,g0,[],m,⟨rfl,rfl⟩,.refl _,by exact PT.perm [_] [] (.l 0) (.a (.l 0) .n) rfl⟩ (H.perm ?_);refine((k.append_right F).append_left (bF x)).trans ?_;exact PT.q [_,_,_] [_,_,_] 0xa0aac0c1c2e12 0xaa0c0eaa1c1c2e2 rfl
end
section
def nj(FL:Nat):Env:=hV (dc 10 1) FL (q (uS 0x48616e644c65786572426173652e746f6b656e697a652e3c6c6f63616c733e2e)) 208 207
def jo(FL:Nat):Code:=tq (b9 (dc 10 1) 2) (nj FL)
structure U2 where(FL M0 k1 k2 k3 k4:Nat)
variable(x:fD)(h:U2)(M n:Nat)(y:tP)(f:Nat)(k:Tk)(ρ:L2->Result)
def B4:Obj:=cD [eW eG h.k1 (.ref x.S),eW ib h.k2 (.ref x.gn.g),eW (uS 0x73746172745f7374617465) h.k3 (.ref h.M0)] 3
def B5(a:Value):Obj:=cD [eW eG h.k1 (.ref x.S),eW ib h.k2 (.ref x.gn.g),eW (uS 0x73746172745f7374617465) h.k3 (.ref h.M0),eW (uS 0x7374617465) h.k4 a] 4
def zi:cX where
 c:=jo h.FL
 pre:=bF x++[(h.FL,B5 x h (.ref M)),(M,gC f x.S)]
 out _ _ a:=(ρ a,[])
def kW:cX where
 c:=jo h.FL
 pre:=bF x++[(h.FL,B5 x h (.ref M)),(M,gC f x.S)]
 out _ _ a:=(oN,bF x)
def aaN:cX where
 c:=.call (.ref 380) ⟨[.ref x.S],[]⟩
 pre:=bF x
 out _ _ l:=(rV .none,bF x)
def adf(b n:Nat)(ρ:L2->Result)(f:Nat):bK:=⟨jo h.FL,(kW x h M f).pre++[(x.TB,br [] n)],λN t=>.pos λp=>.con ((A0 x f b).give [(x.TB,br [] n)]) λz z l=>.con (zi x h (l.n 0) b ρ) λz z a=>.fin (ρ a) []⟩
theorem Nz(x:fD)(h:U2)(M b n:Nat)(ρ:L2->Result):∀f,f∈[380,387,394,408,415,422,429,436]->RS 640 0 [vW,GH,.z (.a 0x1144 0x10100 0 1) 640,.z (.a 0 0 0 0) 0] (adf x h M b n ρ f):=
 RS.e
def adg(c n:Nat)(y:tP)(k:Tk)(ρ:L2->Result)(f:Nat):bK:=⟨jo h.FL,(kW x h M f).pre++[(x.TB,br [.ref y.a] n)]++yN y k,λN t=>.pos λp=>.con (vi x.TB (.ref y.a) [] n (t+4)) λz z l=>.jf (.ref y.a) (yN y k) [x.S,x.SD,h.FL,M,x.TB] λN t=>
  .con ((A0 x f c).give [(x.TB,br [] (l.n 0))]) λz z l=>.con (zi x h (l.n 0) c ρ) λz z b=>.fin (ρ b) []⟩
theorem NA(x:fD)(h:U2)(M c n:Nat)(y:tP)(k:Tk)(ρ:L2->Result):∀f,f∈[380,387,394,408,415,422,429,436]->RS 640 0 [vW,LU,.n (.b 0 0x155 0 0 0x101111 0) 0,GH,.z (.a 0x1144 0x10100 0 1) 640,.z (.a 0 0 0 0) 0] (adg x h M c n y k ρ f):=
 RS.e
def adh:bK:=⟨jo h.FL,(kW x h M 380).pre++[(x.TB,br [] n)],λN t=>.pos λp=>.con ((aaN x).give [(x.TB,br [] n)]) λz z l=>.fin oN (bF x)⟩
theorem NB:RS 640 0 [vW,GH,.z (.a 0x13033 0x100 0 1) 0] (adh x h M n):=.a
def adi:bK:=⟨jo h.FL,(kW x h M 380).pre++[(x.TB,br [.ref y.a] n)]++yN y k,λN t=>.pos λp=>.con (vi x.TB (.ref y.a) [] n (t+4)) λz z l=>.jf (.ref y.a) (yN y k) [x.S,x.SD,h.FL,M,x.TB] λN t=>
  .con ((aaN x).give [(x.TB,br [] (l.n 0))]) λz z l=>.fin oN (bF x)⟩
theorem NC:RS 640 0 [vW,LU,.n (.b 0 0x155 0 0 0x101111 0) 0,GH,.z (.a 0x13033 0x100 0 1) 0] (adi x h M n y k):=.a
def adk:bK:=⟨jo h.FL,(kW x h M f).pre++[(x.TB,br [] n)],λN t=>.pos λp=>.con (jm x f ⟨[.ref x.S],[]⟩ [(x.TB,br [] n)]) λz z l=>.step (qY (jo h.FL) (nj h.FL) l h.FL (B5 x h (.ref M))) λz z l2=>.fin (.error (.ref (l.n 1))) (kc l2 (l.n 2) (l.n 3) (l.n 1) (rawInt h.FL))⟩
theorem NE(x:fD)(h:U2)(M n:Nat):∀f,f∈[380,422,429,436]->RS 640 0 [vW,.n (.b LB 0x1200 0 3 0 0x11) 637,.n (.b 0 0x1000 0 0 0 0x10) 637,.z (.a 0 0x100 0 0) 0] (adk x h M n f):=
 RS.e
def adl(f:Nat):bK:=⟨jo h.FL,(kW x h M f).pre++[(x.TB,br [.ref y.a] n)]++yN y k,λN t=>.pos λp=>.con (vi x.TB (.ref y.a) [] n (t+4)) λz z l=>.jf (.ref y.a) (yN y k) [x.S,x.SD,h.FL,M,x.TB] λN t=>
  .con (jm x f ⟨[.ref x.S],[]⟩ [(x.TB,br [] (l.n 0))]) λz z l=>.step (qY (jo h.FL) (nj h.FL) l h.FL (B5 x h (.ref M))) λz z l2=>.fin (.error (.ref (l.n 1))) (kc l2 (l.n 2) (l.n 3) (l.n 1) (rawInt h.FL))⟩
theorem NF(x:fD)(h:U2)(M n:Nat)(y:tP)(k:Tk):∀f,f∈[380,422,429,436]->RS 640 0 [vW,LU,.n (.b 0 0x155 0 0 0x101111 0) 0,.n (.b LB 0x1200 0 3 0 0x11) 637,.n (.b 0 0x1000 0 0 0 0x10) 637,.z (.a 0 0x100 0 0) 0] (adl x h M n y k f):=
 RS.e
end
section
variable(x:fD)(h:U2)
def NG:Obj:=cy [eW Gn x.k1 (.ref x.TB),eW Go x.k2 (.ref x.PB),eW oP x.k3 (.ref x.CT),eW Gp x.k4 (.ref x.CO)] 4
def dK:bH:=[(x.S,ir x.SD),(x.SD,NG x)]
def XF:bK:=⟨.func (bJ (dc 10 1)) (nj h.FL),dK x++[(h.FL,B4 x h),(h.M0,gC 380 x.S)],λN t=>.pos λp=>.con (kW { x with k5:=t+1 } { h with k4:=t+2 } h.M0 380) λz z z=>.fin (rV .none) (bF { x with k5:=t+1 })⟩
theorem EL:RS 650 0 [Uo,.z (.a 0x11 0x10000 0 3) 647,.z (.a 0 0x100 0 0) 0] (XF x h):=.a
def RO(M:Nat):cX where
 c:=jo h.FL
 pre:=bF x++[(h.FL,B5 x h (.ref M)),(M,gC 380 x.S)]
 out _ _ a:=(.error (.ref (a.n 1)),kc a (a.n 2) (a.n 3) (a.n 1) (rawInt h.FL))
def EM(c:Code)(env:Env)(a:L2)(FL:Nat):vf where
 c:=c
 tr:=im env (.ref (a.n 1))
 pre:=kc a (a.n 2) (a.n 3) (a.n 1) (rawInt FL)
 out _ _ _:=(.raise (.ref (a.n 1)),kc a (a.n 2) (a.n 3) (a.n 1) .none)
 e:=true
def RQ:bK:=⟨.func (bJ (dc 10 1)) (nj h.FL),dK x++[(h.FL,B4 x h),(h.M0,gC 380 x.S)],λN t=>.pos λp=>.con (RO { x with k5:=t+1 } { h with k4:=t+2 } h.M0) λz z l=>.step (EM (.func (bJ (dc 10 1)) (nj h.FL)) (nj h.FL) l h.FL) λz z z=>.fin (.error (.ref (l.n 1))) (kc l (l.n 2) (l.n 3) (l.n 1) .none)⟩
theorem B6:RS 650 0 [Uo,.z (.a 0x11 0x10000 0 3) 647,nU 0x13e7e2211 0x100 0 0 647,.z (.a 0 0x100 0 0) 0] (RQ x h):=.a
def XG(M0:Nat):bK:=⟨.call (.ref 208) ⟨[.ref x.S,.ref x.gn.g,.ref M0],[]⟩,[],λN t=>.gen (.func (bJ (dc 10 1)) (nj N)) λg=>.fin (rV (.ref (N+1))) ([(N,B4 x ⟨N,M0,t,t+1,t+2,0⟩),(N+1,jX g (t+3) ⟨⟨[116,111,107,101,110,105,122,101]⟩⟩ (t+4) ⟨⟨[72,97,110,100,76,101,120,101,114,66,97,115,101,46,116,111,107,101,110,105,122,101]⟩⟩)])⟩
theorem EN M0:RP 40 2 [nU 0x101111110 0 0 0 0,nU 0 0x100 2 5 0] (XG x M0):=.a
end
def aaO(e D a T:Nat):eT:=⟨PySem.W.R.bindR (PySem.W.ZFast.zw6571733998842723752 (.ref e) (.type Lu)) λb=>.pure (.done (.ret (.bool b))),[(e,gZ D a (.ref T))],λN t=>.fin (rV (.bool false)) [(e,gZ D a (.ref T))]⟩
theorem NH e D a T:lD 100 [nU 0x101 0x10 0 0 0] (aaO e D a T):=
 eH.b
section
variable{y:fJ}{room:Nat}{oc:Option Ch}{O:bH->Prop}{XE:b7}
def kd(er:Option (Option Ch))(O:bH->Prop)(XE:b7)(r:Result)(L:bH)(g:bR):Prop:=match er with
 |none=>r=rV .none/\XE L g
 |some oc=>∃a:L2,r=.error (.ref (a.n 1))/\∃b,L.Perm (kc a (a.n 2) (a.n 3) (a.n 1) .none++b)/\lE (a.n 2) oc O b g
def PW(er:Option (Option Ch))(X:b7):b7:=match er with
 |none=>X
 |some Y=>λz z=>False
section
variable{α:Type}{acj:Nat}{It:α->Value->bH->Prop}{bL:Result->bH->bR->Prop}
theorem m4{M:Model}{A:Around}{Q:Bool->Shared->Prop}{E:Value->Shared->Prop}{s:Shared}(h:s.heap.get? y.g=some (cc y))(a:Q false s):wpAny M A (Builtin.Generator.madeByALambda (.ref y.g)) Q E s:=by
 unfold Builtin.Generator.madeByALambda;refine bI (wpAny_load h ?_);have b:((#[Value.int y.i 0,.str y.nm y.nt,.str y.qn y.qt]:Array Value)[3]?==some (.bool true))=false:=rfl;refine ck ?_;show Q ((cc y).cls==Value.type "generator"&&((#[Value.int y.i 0,.str y.nm y.nt,.str y.qn y.qt]:Array Value)[3]?==some (.bool true))) s;rw[b,Bool.and_false];exact a
def mm(y:fJ):cX where
 c:=fe y.g
 pre:=[(y.g,cc y)]
 out _ _ a:=(.error (.ref (a.n 1)),(y.g,cc y)::kc a (a.n 2) (a.n 3) (a.n 1) .none)
 e:=true
theorem NI(B:∀r L g,bL r L g->kd (some oc) O XE r L g)(C:acj%1000+10<=room)(k:110<=room):
  lF room (mm y) (vj acj It bL y.i []) (λa=>lE (a.n 2) oc O):=by
 intro A s F FG r0 g0 u D E G;refine nQ (vp) (pZ C u D _) E G λe l N H=>?_;obtain⟨r,L,b,rfl,c,o⟩:=H;obtain⟨a,rfl,d,I,p⟩:=B _ _ _ c;have z:Sat (bY w.params) os l (L++((y.g,cc y)::F)) ((y.i,.running)::(b++FG)):=o.fv (by
   show(b++([(y.i,GenState.running)]++FG)).Perm ([(y.i,GenState.running)]++(b++FG));rw[<-bQ,<-bQ];exact fu.append_right _)
 have J:=z.setGen (gs':=.finished) rfl;have x:=J.perm (L':=[(a.n 1,gZ (a.n 2) (a.n 3) (.ref (a.n 0)))]++([(a.n 0,rk a.v .none),(y.g,cc y)]++(d++F))) (by
  refine((I.append_right _)).trans ?_;exact PT.q [_,_] [_,_,_] 0xaac0c1e0c21 0xac0eac1c2ea01 rfl)
 show wpAny _ _ (Builtin.Generator.genLeft (.ref y.g) (.ref (a.n 1))) _ _ _;unfold Builtin.Generator.genLeft;have f:∀s,Sat (bY w.params) os s ([(a.n 1,gZ (a.n 2) (a.n 3) (.ref (a.n 0)))]++([(a.n 0,rk a.v .none),(y.g,cc y)]++(d++F))) ((y.i,.finished)::(b++FG))->wpAny (model pz (wv w b1 b2)) A.in1 (isInstance (.ref (a.n 1)) (.type "StopIteration")) (λv l=>v=false/\Sat (bY w.params) os l ([(a.n 1,gZ (a.n 2) (a.n 3) (.ref (a.n 0)))]++([(a.n 0,rk a.v .none),(y.g,cc y)]++(d++F))) ((y.i,.finished)::(b++FG))) (λZ Z=>False) s:=
  mO (os:=os) (L:=[(a.n 0,rk a.v .none),(y.g,cc y)]++(d++F)) (m:=isInstance (.ref (a.n 1)) (.type "StopIteration")) (by
   unfold aaO;rw[<-eh,<-PySem.W.ZFast.ze6571733998842723752,<-Lv]) (NH (a.n 1) (a.n 2) (a.n 3) (a.n 0)) rfl (u.in1 (m:=100) k) rfl
 refine bI (m4 (x.own (y.g,cc y) (by simp)) ?_);refine bI (iI (f _ x) ?_ λZ Z h=>h.elim);rintro v s1 ⟨rfl,K⟩;show wpAny _ _ (Builtin.Generator.genEscaped (.ref (a.n 1))) _ _ _;unfold Builtin.Generator.genEscaped;refine bI (iI (f _ K) ?_ λZ Z h=>h.elim);rintro v M ⟨rfl,t⟩;rw[bP (by decide)];refine mE ?_;refine⟨a,d,(y.i,.finished)::b,p.Jp (j:=[]) (by rw[dU]),rfl,t.perm ?_⟩;exact PT.q [_,_] [_,_,_] 0xac0eac1c2ea01 0xac2c0c1ea01 rfl
theorem Hp(c:acj%1000+10<=room)(a:110<=room):
  lF room (mm y) (fC acj It (kd (some oc) O XE) y.i (PW (some oc) XE) []) (λb=>lE (b.n 2) oc O):=by
 refine bO.cl ?_;intro A s F FG r0 g0 d e f g;rcases f with h|⟨_,r1,r2,g1,g2,_,h,_⟩
 ·exact NI (λz z z h=>h) c a A s F FG r0 g0 d e h g
 ·exact h.elim
end
end
section
variable{x:fD}{Up:List Ch->b7}{cH bU:List Ch}{r:bH}{g:bR}{c:Code}{room:Nat}{bN:List Nat}{E:b7}{ts:List Tk}{er:Option (Option Ch)}
noncomputable def fns:List Nat:=[380,387,394,408,415,422,429,436]
noncomputable def aaP:List Nat:=[380,422,429,436]
inductive fE(cf:Bool)(bN:List Nat):Nat->List Ch->List Ch->List Tk->Option (Option Ch)->Prop|fin:fE cf bN 380 [] [] [] none|err {f:Nat} {cH bU:List Ch} {oc:Option Ch}:Ny cf bN f cH bU oc->cH.length+bU.length<=3000->f∈aaP->fE cf bN f cH bU [] (some oc)|step {f:Nat} {cH bU:List Ch} {f':Nat} {cur' todo':List Ch} {qi ts:List Tk} {er:Option (Option Ch)}:EJ cf bN f cH bU f' cur' todo' qi->qi.length<=1->cH.length+bU.length<=3000->f∈fns->fE cf bN f' cur' todo' ts er->fE cf bN f cH bU (qi++ts) er
noncomputable def B7(er:Option (Option Ch))(a:L2):Result:=match er with
 |none=>.ok .next
 |some Y=>.error (.ref (a.n 1))
inductive zT(k:Tk)(v:Value)(it:bH):Prop where|mk:∀y:tP,(v=.ref y.a)->(it=yN y k)->zT k v it
inductive EO(x:fD)(Up:List Ch->b7)(cH bU:List Ch)(r:bH)(g:bR):Prop where|mk:∀n1 n2 cp pb σ r',(cp.map (·.2)=cH)->(pb.map (·.2)++σ=bU)->(pb.length<=1)->(r.Perm ([(x.PB,br (bS pb) n1),(x.CT,br (bS cp) n2),(x.gn.g,cc x.gn)]++(bW cp++(bW pb++r'))))->(Up σ r' g)->EO x Up cH bU r g
theorem co.k5{x:fD}{Up:List Ch->b7}{cH bU:List Ch}{toks:List Tk}{r:bH}{g:bR}{k:Nat}(h:co x Up cH bU toks r g):co { x with k5:=k } Up cH bU toks r g:=
 let⟨n,i,j,l,σ,m,a,b,c,d,e,f⟩:=h
 ⟨n,i,j,l,σ,m,a,b,c,d,e,f⟩
theorem co.k5'{toks:List Tk}{k:Nat}(h:co { x with k5:=k } Up cH bU toks r g):co x Up cH bU toks r g:=
 let⟨n,i,j,l,σ,m,a,b,c,d,e,f⟩:=h
 ⟨n,i,j,l,σ,m,a,b,c,d,e,f⟩
theorem co.tb0(h:co x Up cH bU [] r g):∃n r0,r.Perm ([(x.TB,br [] n)]++r0)/\EO x Up cH bU r0 g:=by
 obtain⟨n,d,e,f,σ,i,j,k,a,l,b,m⟩:=h;obtain rfl:f=[]:=xa.mp l;refine⟨n.n3,_,?_,n.n1,n.n2,d,e,σ,i,j,k,a,.refl _,m⟩;refine b.trans ?_;exact PT.q [_,_,_] [_,_,_,_] 0xac0c1c2c3ea0a1ae2 0xac2eac0c1c3ea0a12 rfl
theorem co.tb1{k:Tk}(h:co x Up cH bU [k] r g):∃n y r0,r.Perm ([(x.TB,br [.ref y.a] n)]++(yN y k++r0))/\EO x Up cH bU r0 g:=by
 obtain⟨n,i,j,b,σ,l,m,o,e,d,f,s⟩:=h;obtain⟨p,rfl⟩:∃p,b=[p]:=by
  cases b with
  |nil=>cases d
  |cons p b=>cases b with
   |nil=>exact⟨p,rfl⟩
   |cons q b=>injection d with _ d;cases d
 have t:p.2=k:=by injection d
 subst t;refine⟨n.n3,p.1,_,?_,n.n1,n.n2,i,j,σ,l,m,o,e,.refl _,s⟩;refine f.trans ?_;exact PT.q [_,_,_,_] [_,_,_,_] 0xac0c1c2c3ea0a1aa2e3 0xac2ea2ac0c1c3ea0a13 rfl
theorem EO.tb{n:Nat}(h:EO x Up cH bU r g):co x Up cH bU [] ([(x.TB,br [] n)]++r) g:=by
 obtain⟨n1,n2,d,e,σ,f,i,j,a,b,k⟩:=h;refine⟨⟨n1,n2,n⟩,d,e,[],σ,f,i,j,a,rfl,?_,k⟩;refine(b.append_left _).trans ?_;exact PT.q [_,_,_] [_,_,_,_] 0xac0eac1c2c3ea0a12 0xac1c2c0c3ea0a1ae2 rfl
section
variable{acj:Nat}{bL:Result->bH->bR->Prop}
theorem uf{qi:List Tk}{pre:bH}{σ σ':List Tk}{out:Nat->Nat->L2->Result×bH}{X':L2->b7}(d:qi.length<=1)(e:qi=[]->∀n,rh acj zT bL room c (pre++[(x.TB,br [] n)]) (EO x Up cH bU) σ out X' σ')(f:∀k,qi=[k]->∀n y,rh acj zT bL room c (pre++[(x.TB,br [.ref y.a] n)]++yN y k) (EO x Up cH bU) σ out X' σ'):
  rh acj zT bL room c pre (co x Up cH bU qi) σ out X' σ':=by
 intro fs rr gg l h CT A s F FG r0 g0 m b o
 match qi,d,e,f,b with
 |[],d,e,f,b=>
  obtain⟨n,r1,i,j⟩:=b.tb0;refine e rfl n fs rr gg l h CT A s F FG r1 g0 m j (o.perm ?_);refine((i.append_right (rr++F)).append_left pre).trans ?_;simp only[bQ];exact .refl _
 |[k],d,e,f,b=>
  obtain⟨n,y,r1,i,j⟩:=b.tb1;refine f k rfl n y fs rr gg l h CT A s F FG r1 g0 m j (o.perm ?_);refine((i.append_right (rr++F)).append_left pre).trans ?_;simp only[bQ];exact .refl _
 |_::_::_,d,e,f,b=>simp at d
theorem NJ{env:Env}{FL:Nat}{a:L2}(b:env.frame=some FL)(Y:b7):Jq room (EM c env a FL) Y (λz=>Y):=
 (wj b).fr Y
def HtE(x:fD)(FL:Nat)(O:bH->Prop)(d:b7)(er:Option (Option Ch))(a:L2):b7:=λr g=>match er with
 |none=>∃b,r.Perm (bF x++b)/\d b g
 |some e=>∃b,r.Perm (kc a (a.n 2) (a.n 3) (a.n 1) (rawInt FL)++b)/\lE (a.n 2) e O b g
theorem RR{x:fD}{Up:List Ch->b7}{cf:Bool}{bN:List Nat}(D:e9 340 x.gn Up){E:b7}(P:jL 340 x.gn Up E){f:Nat}{cH bU:List Ch}{ts:List Tk}{er:Option (Option Ch)}(w:fE cf bN f cH bU ts er):
  ∀(qi:List Tk)(h:U2)(M:Nat),qi.length<=1->
  jJ 1660 zT bL 640 (zi x h M f (B7 er)) (co x (gf (i2 x.CO cf bN Up)) cH bU qi) (qi++ts) (HtE x h.FL (jN x.CO cf bN) (co x (gf (i2 x.CO cf bN (λc=>E))) [] [] []) er) []:=by
 induction w with
 |fin=>
  intro qi h M l;have F:jL 340 x.gn (gf (i2 x.CO cf bN Up)) (gf (i2 x.CO cf bN (λc=>E)) []):=λroom w=>((P room w).star _).star _;refine uf l (λe n=>?_) (λk e n y=>?_)
  ·subst e;exists bG.o,NB x h M n,0;refine cR rfl ?_;intro p _;exists bx,bE.dX (U0 F) (λr g d=>⟨_,.refl _,d.tb⟩);intro _ _ a _ _;exact cB rfl rfl (λr0 g0 h=>⟨a,bF x++r0,g0,rfl,⟨r0,.refl _,h⟩,.refl _,.refl _⟩) (λc=>rfl)
  ·subst e;exists bG.o,NC x h M n y k,0;refine cR rfl ?_;intro p _;exists bz,g9,0;refine cQ (σ':=_) rfl (⟨y,rfl,rfl⟩) ?_;intro I J _ _;exists bx,bE.dX (U0 F) (λr g d=>⟨_,.refl _,d.tb⟩);intro _ _ a _ _;exact cB rfl rfl (λr0 g0 h=>⟨a,bF x++r0,g0,rfl,⟨r0,.refl _,h⟩,.refl _,.refl _⟩) (λc=>rfl)
 |@err f cH bU Q z A q=>
  intro qi h M l;have st:=z x Up D A;have s:qL 580 (.call (.ref f) ⟨[.ref x.S],[]⟩) (bF x++[]) (co x (gf (i2 x.CO cf bN Up)) cH bU []) (jm x f ⟨[.ref x.S],[]⟩ []).out (λa=>lE (a.n 2) Q (jN x.CO cf bN)):=st;refine uf l (λe n=>?_) (λk e n y=>?_)
  ·subst e;exists bG.o,NE x h M n f q,0;refine cR rfl ?_;intro p _;exists cF,bO.dX (bO.mono s (by decide)) (λr g d=>⟨_,.refl _,d.tb⟩);intro _ _ a _ _;exists cK,ud rfl rfl (by kernel_rfl) _;intro _ _ b _ _;exact cB rfl rfl (λr0 g0 B=>⟨ue (b.n 0) (a.n 1) (a.n 2) (a.n 3) b.v,kc b (a.n 2) (a.n 3) (a.n 1) (rawInt h.FL)++r0,g0,rfl,⟨r0,.refl _,B⟩,.refl _,.refl _⟩) (λc=>rfl)
  ·subst e;exists bG.o,NF x h M n y k f q,0;refine cR rfl ?_;intro p _;exists bz,g9,0;refine cQ (σ':=_) rfl (⟨y,rfl,rfl⟩) ?_;intro I J _ _;exists cF,bO.dX (bO.mono s (by decide)) (λr g d=>⟨_,.refl _,d.tb⟩);intro _ _ a _ _;exists cK,ud rfl rfl (by kernel_rfl) _;intro _ _ b _ _;exact cB rfl rfl (λr0 g0 B=>⟨ue (b.n 0) (a.n 1) (a.n 2) (a.n 3) b.v,kc b (a.n 2) (a.n 3) (a.n 1) (rawInt h.FL)++r0,g0,rfl,⟨r0,.refl _,B⟩,.refl _,.refl _⟩) (λc=>rfl)
 |@step f cH bU K L C j ts er z u A q _ O=>
  intro qi h M l;have st:=z x Up D A;refine uf l (λe n=>?_) (λk e n y=>?_)
  ·subst e;exists bG.o,Nz x h M K n (B7 er) f q,0;refine cR rfl ?_;intro p _;exists bx,bE.dX (st.mono (by decide)) (λr g d=>⟨_,.refl _,d.tb⟩);intro _ _ a _ _;refine cE (σ':=[]) rfl (O j h (a.n 0) u) ?_;intro _ _ a _ _;exact bA a
  ·subst e;exists bG.o,NA x h M K n y k (B7 er) f q,0;refine cR rfl ?_;intro p _;exists bz,g9,0;refine cQ (σ':=_) rfl (⟨y,rfl,rfl⟩) ?_;intro I J _ _;exists bx,bE.dX (st.mono (by decide)) (λr g d=>⟨_,.refl _,d.tb⟩);intro _ _ a _ _;refine cE (σ':=[]) rfl (O j h (a.n 0) u) ?_;intro _ _ a _ _;exact bA a
inductive C3(x:fD)(Up:List Ch->b7)(r:bH)(g:bR):Prop where|mk:∀k5 r',(r.Perm (bF { x with k5:=k5 }++r'))->(co x Up [] [] [] r' g)->C3 x Up r g
theorem B8{cf:Bool}(m:e9 340 x.gn Up)(q:jL 340 x.gn Up E)(s:fE cf bN 380 [] bU ts er){h:U2}:
  ∃(ρ:L2->Result)(X':L2->b7),rh 1660 zT bL 650 (.func (bJ (dc 10 1)) (nj h.FL)) (dK x++[(h.FL,B4 x h),(h.M0,gC 380 x.S)]) (co x (gf (i2 x.CO cf bN Up)) [] bU []) ts
   (λz z a=>(ρ a,[])) X' []/\∀a r g,X' a r g->kd er (jN x.CO cf bN) (C3 x (gf (i2 x.CO cf bN (λz=>E)))) (ρ a) r g:=by
 have j:=λt=>@RR bL { x with k5:=t+1 } Up cf bN m E q 380 [] bU ts er s [] { h with k4:=t+2 } h.M0 (by decide);cases er with
 |none=>
  refine⟨λz=>.ok (.ret .none),λa r g=>∃b,r=bF { x with k5:=a.n 0 }++b/\co x (gf (i2 x.CO cf bN (λz=>E))) [] [] [] b g,?_,λa r g ⟨b,e,d⟩=>⟨rfl,a.n 0,b,by rw[e],d⟩⟩;exists bG.o,EL x h;intro u N t _;refine cR rfl ?_;intro p _;refine cE (X':=λz=>co x (gf (i2 x.CO cf bN (λz=>E))) [] [] []) (σ':=[]) rfl (?_) ?_;rotate_left 1;intro _ _ a _ _;exact cB rfl rfl (λr0 g0 h=>⟨cV [t+1],bF { x with k5:=t+1 }++r0,g0,rfl,⟨r0,rfl,h⟩,.refl _,.refl _⟩) (λz=>rfl);exact bG.mono (bG.ej (j t) (λr g f=>⟨r,g,.refl _,.refl _,f.k5⟩) (λN v a r g ⟨b,i,d⟩=>⟨a,b,g,rfl,i,.refl _,d.k5'⟩)) (by decide)
 |some k=>
  refine⟨λa=>.error (.ref (a.n 1)),λa r g=>∃b,r=kc a (a.n 2) (a.n 3) (a.n 1) .none++b/\lE (a.n 2) k (jN x.CO cf bN) b g,?_,λa r g ⟨b,e,d⟩=>⟨a,rfl,b,by rw[e],d⟩⟩;exists bG.o,B6 x h;intro u N t _;refine cR rfl ?_;intro p _;refine cE (X':=λa=>lE (a.n 2) k (jN x.CO cf bN)) (σ':=[]) rfl (?_) ?_;rotate_left 1;intro _ _ a _ _;exists cK,NJ rfl _,0;exact cB rfl rfl (λr0 g0 h=>⟨a,kc a (a.n 2) (a.n 3) (a.n 1) .none++r0,g0,rfl,⟨r0,rfl,h⟩,.refl _,.refl _⟩) (λz=>rfl);exact bG.mono (bG.ej (j t) (λr g f=>⟨r,g,.refl _,.refl _,f.k5⟩) (λN v a r g ⟨b,i,d⟩=>⟨a,b,g,rfl,i,.refl _,d⟩)) (by decide)
noncomputable def hT:List Nat:=[116,111,107,101,110,105,122,101]
noncomputable def ob:List Nat:=[72,97,110,100,76,101,120,101,114,66,97,115,101,46,116,111,107,101,110,105,122,101]
noncomputable def hU(a:L2)(nm b:List Nat):fJ:=⟨a.n 0,a.n 1,a.n 2,⟨⟨nm⟩⟩,a.n 3,⟨⟨b⟩⟩⟩
def aaQ(x:fD)(M0:Nat):cX where
 c:=.call (.ref 208) ⟨[.ref x.S,.ref x.gn.g,.ref M0],[]⟩
 pre:=[]
 out _ _ a:=(rV (.ref (a.n 0)),[(a.n 0,cc (hU a hT ob))])
inductive HtX(x:fD)(M0:Nat)(Up:List Ch->b7)(bU:List Ch)(r:bH)(g:bR):Prop where|mk:∀r',(r.Perm (dK x++([(M0,gC 380 x.S)]++r')))->(co x Up [] bU [] r' g)->HtX x M0 Up bU r g
theorem RT{cf:Bool}(e:e9 340 x.gn Up)(f:jL 340 x.gn Up E)(i:fE cf bN 380 [] bU ts er){M0:Nat}(a:40<=room):
  cN room (aaQ x M0) (HtX x M0 (gf (i2 x.CO cf bN Up)) bU) (λb=>fC 1660 zT (kd er (jN x.CO cf bN) (C3 x (gf (i2 x.CO cf bN (λy=>E))))) (b.n 1) (PW er (C3 x (gf (i2 x.CO cf bN (λy=>E))))) ts):=by
 refine bE.mono (bE.o rfl (EN x M0) ?_) a;intro p N t _;intro g;refine cB rfl rfl (?_);rintro r0 g0 ⟨d,⟨j,k,l⟩,rfl⟩;obtain⟨ρ,X',m,he⟩:=B8 e f i (h:=⟨N,M0,t,t+1,t+2,0⟩);have z:vj 1660 zT (kd er (jN x.CO cf bN) (C3 x (gf (i2 x.CO cf bN (λy=>E))))) g ts ((dK x++[(N,B4 x ⟨N,M0,t,t+1,t+2,0⟩),(M0,gC 380 x.S)])++j) ((g,.fresh (.func (bJ (dc 10 1)) (nj N)))::d):=
  nP.fresh m (by decide) (λN t b r g h=>⟨r,g,he b r g h,.refl _,.refl _⟩) l
 refine⟨cV [N+1,g,t+3,t+4],_,_,rfl,⟨_,_,.refl _,.refl _,.inl z⟩,?_,.refl _⟩;refine(k.append_left _).trans ?_;exact PT.q [_,_] [_,_,_] 0xac0c1ea0ac2e1 0xac1eaa0c0c2e1 rfl
end
end
section
variable{it tgt:Expr}{body orelse rest:List Stmt}{ps:Pos}{env:Env}
def sa(s:Stmt)(rest:List Stmt)(env:Env)(g:Nat):Sem PySem.Fin:=
 match s with
 |.For tgt it body orelse ps=>
  R.bindR (R.onRaiseR (R.bindR (R.bindR (R.keepR [.ref g] (PySem.W.ZFast.zw8711993805878244202 (.ref g))) λi=>PySem.W.ZFast.zw9046067596548197636 (.forLoop tgt i body orelse env) env none) λf=>match f with
   |.next=>PySem.W.ZFast.zw12563942051412417395 rest env
   |f=>.pure f) (PySem.W.ZFast.zw9442747609961115081 env)) hC
 |_=>.raise .none
section
variable{prog:Program}{w:World}{kt:KT}{os:OsState}{room:Nat}{pre:bH}{X:b7}{X':L2->b7}{gP:Nat->Nat->L2->bH}
theorem EQ{g:Nat}:sa (.For tgt it body orelse ps) rest env g =
  ((((holding [.ref g] (pyIter (.ref g))).bind λi=>runOwn (.forLoop tgt i body orelse env) env).bind λf=>match f with|.next=>execs rest env|f=>.pure f).onRaise (leaving env)).bind hC:=by
 unfold sa;rw[<-eh,<-jb,<-R.keepR_eq,<-PySem.W.ZFast.ze8711993805878244202,<-PySem.W.ZFast.ze9046067596548197636,<-pN,<-F1];rfl
theorem NK{c:Code}(o:∀x,foldedSetIterable it env x=pure x)(q:∀(f:Around)(s:Shared)(F:bH)(FG:bR)(r0:bH)(g0:bR),gY room f->X r0 g0->Sat kt os s (pre++(r0++F)) (g0++FG)->
   PySem.wpAt (model prog w) f c (eval it env) (λv d=>∃b r1 g1,v=.ref (b.n 0)/\X' b r1 g1/\Sat kt os d (gP d.heap.objs.size d.toks b++(r1++F)) (g1++FG)) (λe d=>False) s):
  c9 prog w kt os room c (cg (dZ (.func (.For tgt it body orelse ps::rest) env))) pre X (λN t b=>(sa (.For tgt it body orelse ps) rest env (b.n 0),gP N t b)) X':=by
 intro f r g u s F FG r0 g0 y A B;rw[i5,arm_execs_cons];have e:∀(K:Flow->Sem PySem.Flow),(Sem.bind (Sem.bind (standAt ps) λZ=>Sem.bind (eval it env) λa=>Sem.bind (foldedSetIterable it env a) λx=>Sem.bind (standAt it.pos) λZ=>Sem.bind (holding [x] (pyIter x)) λi=>runOwn (.forLoop tgt i body orelse env) env) K)
   = Sem.bind (Sem.bind (standAt ps) λZ=>Sem.bind (eval it env) λa=>Sem.bind (standAt it.pos) λZ=>.pure a) λx=>Sem.bind (Sem.bind (holding [x] (pyIter x)) λi=>runOwn (.forLoop tgt i body orelse env) env) K:=by
  intro K;have j:=o;simp only[j,pU];rfl
 show r (((Sem.bind (Sem.bind (standAt ps) λZ=>Sem.bind (eval it env) λa=>Sem.bind (foldedSetIterable it env a) λx=>Sem.bind (standAt it.pos) λZ=>Sem.bind (holding [x] (pyIter x)) λi=>runOwn (.forLoop tgt i body orelse env) env) _).onRaise (leaving env)).bind hC) s;rw[e,gL,dI (Sem.bind (standAt ps) _),dI,eg,eg];refine g _ _ _ s λC p D k=>?_;have z:PySem.wpAt (model prog w) f c (Sem.bind (standAt ps) λZ=>Sem.bind (eval it env) λa=>Sem.bind (standAt it.pos) λZ=>.pure a) (λv d=>∃b r1 g1,v=.ref (b.n 0)/\X' b r1 g1/\Sat kt os d (gP d.heap.objs.size d.toks b++(r1++F)) (g1++FG)) (λe d=>False) s:=by
  refine sG (rH (nJ ?_));refine sG (xv (q f s F FG r0 g0 u y A) (λv d h=>?_) λZ Z h=>h);refine sG (rH (nJ ?_));exact rH (ck h)
 refine eE _ _ _ ?_ (λe E d h=>h.elim) _ _ (z C p D k);rintro v E d ⟨b,r1,g1,rfl,l,m⟩;have z:=B d b r1 g1 l m;dsimp only at z;rw[EQ,gL,dI,eg]at z;exact z
end
end
section
def dT(s:Stmt):Expr:=(sp s).e2
variable(FL:Nat)(x:fD)(S':Nat)(gh:fJ)(k:Tk)
def el:Env:=⟨mI (dc 17 9),FL,3,[(q lV,339)],q (uS 0x434c657865722e746f6b656e697a652e3c6c6f63616c733e2e),some 373,.ref 372,some FL,0⟩
structure Ko where(FL k1 k2 k3 k4 k5:Nat)
variable(h:Ko)
def po:Obj:=cD [eW eG h.k1 (.ref x.S),eW ib h.k2 (.ref x.gn.g)] 2
def ez(a:Value)(b:Bool)(c:Value):Obj:=cD [eW eG h.k1 (.ref x.S),eW ib h.k2 (.ref x.gn.g),eW xM h.k3 a,eW xN h.k4 (.bool b),eW (uS 0x746f6b656e) h.k5 c] 5
def em:Stmt:=b9 (dc 17 9) 3
def U3:eT:=⟨MX (el FL) (q nO),[],λN t=>.fin (rV (.type iK)) []⟩
theorem Js:lD 100 [nU 0x100 0 0 0 0] (U3 FL):=
 eH.b
def U4:eT:=⟨MX (el FL) (q lV),[],λN t=>.fin (rV (.ref 446)) []⟩
theorem Jt:lD 100 [AJ] (U4 FL):=
 eH.b
def U5(a:Value):eT:=⟨MX (el h.FL) (q eG),[(h.FL,ez x h a true .none)],λN t=>.fin (rV (.ref x.S)) [(h.FL,ez x h a true .none)]⟩
theorem Ju sp:lD 100 [Gz] (U5 x h sp):=
 eH.b
noncomputable def NL:eT:=⟨PySem.W.R.bindR (PySem.W.ZFast.zw10380811246957099773 (.ref 446)) λb=>.pure (.done (.ret (.bool b))),[],λN t=>.fin (rV (.bool true)) []⟩
theorem B9:lD 100 [AJ] (NL):=
 eH.b
def aaR(S a:Nat):bK:=⟨.call (.type iK) ⟨[.ref 446,.ref S],[]⟩,[(S,ir a)],λN t=>.fin (rV (.ref N)) [(N,tT 446 S 446),(S,ir a)]⟩
theorem wm S SD:RP 200 0 [T7] (aaR S SD):=.a
def aaS(M0:Nat):cX where
 c:=.call (.ref 208) ⟨[.ref x.S,.ref x.gn.g,.ref M0],[]⟩
 pre:=dK x++[(M0,gC 380 x.S)]
 out _ _ a:=(rV (.ref (a.n 0)),[(a.n 0,cc (hU a hT ob))])
noncomputable def fD.su:fD:={ x with S:=S'+642 }
def NM(b:fD)(S':Nat)(h:Ko)(c:Value)(d:Nat):eO:=⟨.func (bJ (dc 17 9)) (el h.FL),ph (dT em) (q na) (el h.FL) d,[(d,tT 446 (S'+642) 446)]++dK (b.su S')++[(h.FL,ez (b.su S') h c true .none)],λN t=>.con (aaS (b.su S') (N+1)) λz z a=>.fin (rV (.ref (a.n 0))) [(a.n 0,cc (hU a hT ob)),(h.FL,ez (b.su S') h c true .none)]⟩
theorem ER a S' h sp c:iq 300 [nU 0x11500500000000302200000020000002440000000011101011 0x1311 2 2 297,nU 0 0x110 0 0 0] (NM a S' h sp c):=
 c6.b
def q6(b:Value):vf where
 c:=.func (bJ (dc 17 9)) (el h.FL)
 tr:=cg (dZ (.func ((bJ (dc 17 9)).drop 3) (el h.FL)))
 pre:=dK x++[(h.FL,ez x h b true .none)]
 out _ _ a:=(sa em ((bJ (dc 17 9)).drop 4) (el h.FL) (a.n 0),[(h.FL,ez x h b true .none),(a.n 0,cc (hU a hT ob))])
def jO(g:Nat):Code:=m3 em (.ref g) (el FL)
noncomputable def iy(a:L2):tP:=⟨a.n 0,a.n 1,⟨a.n 2,a.n 3,a.n 4,a.n 5,a.n 6,a.n 7,a.n 8,a.n 9,a.n 10,a.n 11⟩,a.n 12,a.n 13⟩
def jA:cX where
 c:=fe gh.g
 pre:=[(gh.g,cc gh)]
 out _ _ a:=(rV (.ref (a.n 0)),(gh.g,cc gh)::yN (iy a) k)
 e:=true
def aaT(gh:fJ)(b:Tk)(a:L2):Nat->bH|0=>[(h.FL,ez x h (a.v 0) true .none),(gh.g,cc gh)]|1=>[(h.FL,ez x h (a.v 0) true (.ref (a.n 0))),(gh.g,cc gh)]++yN (iy a) b|Y=>[(h.FL,ez x h (a.v 0) false (.ref (a.n 0))),(gh.g,cc gh)]
def pq(gh:fJ)(b:Value)(d:Bool)(e:Value)(ρ:L2->Result):cX where
 c:=jO h.FL gh.g
 pre:=[(h.FL,ez x h b d e),(gh.g,cc gh)]
 out _ _ a:=(ρ a,[])
def sb(gh:fJ)(b:Value)(d:Bool)(e:Value)(f:Tk)(i:Nat):cX where
 c:=jO h.FL gh.g
 pre:=[(h.FL,ez x h b d e),(gh.g,cc gh)]
 out _ _ a:=(oN,aaT x h gh f a i)
def NN(y:UH)(z:gv)(c:Ch):cX where
 c:=.call (.ref 127) ⟨Eh y,[]⟩
 pre:=[(y.l,eI z c)]
 out _ _ a:=(rV (.ref (a.n 1)),[(a.n 1,yO (a.n 0) [some (.ref y.l),some (.str ⟨⟨y.ty⟩⟩ y.tt),some (.str ⟨⟨y.vl⟩⟩ y.vt)]),(a.n 0,ctD (a.n 2) (a.n 3) y),(y.l,eI z c)])
def YY(a d k1 k2:Nat)(y:UH)(z:gv)(c:Ch):bH:=[(a,yO d [some (.ref y.l),some (.str ⟨⟨y.ty⟩⟩ y.tt),some (.str ⟨⟨y.vl⟩⟩ y.vt)]),(d,ctD k1 k2 y),(y.l,eI z c)]
noncomputable def hY:Nat->List Nat|0=>[73,68]|1=>[78,85,77,66,69,82]|2=>[83,84,82,73,78,71]|3=>[67,72,65,82]|4=>[45,62]|5=>[62,62,61]|6=>[46,46,46]|7=>[35,35]|8=>[40]|9=>[63]|10=>[33,61]|Y=>[43,43]
noncomputable def Tk.ty(k:Tk)(ty:List Nat):Tk:=⟨ty,k.val,k.at_⟩
noncomputable def tkY(y:tP)(k:Tk)(a:List Nat)(b:Nat)(c:Bool):UH:=⟨k.typ,k.val,a,y.tt,y.vt,b,c,y.l.l⟩
def tkT(gh:fJ)(a:List Nat)(b:Nat)(c:Bool)(e:Value)(ρ:L2->Result)(k:Tk)(j:Nat):bK:=⟨jO h.FL gh.g,[(h.FL,ez x h (.str ⟨⟨a⟩⟩ b) c e),(gh.g,cc gh)],λN t=>.con (jA gh (k.ty (hY j))) λi m l1=>.con (NN (tkY (iy l1) (k.ty (hY j)) a b c) (iy l1).l k.at_) λo p l2=>
  .jf (.ref (l2.n 1)) (YY (l2.n 1) (l2.n 0) (l2.n 2) (l2.n 3) (tkY (iy l1) (k.ty (hY j)) a b c) (iy l1).l k.at_) [h.FL,gh.g,l1.n 0] λq f=>
  .con ((pq x h gh (.str ⟨⟨[]⟩⟩ f) false (.ref (l1.n 0)) ρ).give [(l1.n 0,IM (iy l1) (k.ty (hY j)))]) λz z d=>.fin (ρ d) []⟩
theorem RU(x:fD)(h:Ko)(gh:fJ)(c:List Nat)(d:Nat)(f:Bool)(g:Value)(ρ:L2->Result)(k:Tk):∀j,(j∈[0,1,2,3,4,5,6,7,8,9,10]\/11<=j)->RS 700 0 [.n (.b 0x11202 0x11 0 0 0 0x11) 697,nU 0x1100202000000200000000000002000024442020000002000000000000020000242020000002000000000000020000240002020000002000000000000020000240020200000020000000000000200002444 0x12 0 8 697,.n (.b 0 0x1000 0 0 0x1002 0) 0,.z (.a 0x111111 0x1000 0 3) 700,.z (.a 0 0 0 0) 0] (tkT x h gh c d f g ρ k j):=
 pY (RS.e) λi=>.b
def tkW(gh:fJ)(a:List Nat)(c:Nat)(d:Bool)(e:Value)(ρ:L2->Result)(k:Tk):bK:=⟨jO h.FL gh.g,[(h.FL,ez x h (.str ⟨⟨a⟩⟩ c) d e),(gh.g,cc gh)],λN t=>.con (jA gh (k.ty [87,83])) λf i l1=>.con (IC a k.val c (iy l1).vt) λj l l2=>.con ((pq x h gh (.str ⟨⟨a++k.val⟩⟩ (l2.n 0)) d (.ref (l1.n 0)) ρ).give (yN (iy l1) (k.ty [87,83]))) λz z b=>.fin (ρ b) []⟩
theorem RV gh sp st fi tv ρ k:RS 700 0 [.n (.b 0x11202 0x11 0 0 0 0x11) 697,nU 0x1102020000002000000000000020000244002020000002000000000000020000240020200000020000000000000200002444 0 0 6 697,.z (.a 0x1144 0x10003 0 1) 700,.z (.a 0 0 0 0) 0] (tkW x h gh sp st fi tv ρ k):=.b
def adn(gh:fJ)(c:Value)(d:Value)(ρ:L2->Result)(k:Tk):bK:=⟨jO h.FL gh.g,[(h.FL,ez x h c true d),(gh.g,cc gh)],λN t=>.con (jA gh (k.ty [66,79,76])) λf a l1=>.con (NN ⟨[66,79,76],[],[],a+3,a+4,a+5,true,(iy l1).l.l⟩ (iy l1).l k.at_) λi j l2=>
  .jf (.ref (l2.n 1)) (YY (l2.n 1) (l2.n 0) (l2.n 2) (l2.n 3) ⟨[66,79,76],[],[],a+3,a+4,a+5,true,(iy l1).l.l⟩ (iy l1).l k.at_) [h.FL,gh.g,l1.n 0] λm e=>
  .con ((pq x h gh (.str ⟨⟨[]⟩⟩ (e+1)) true (.ref (l1.n 0)) ρ).give [(l1.n 0,IM (iy l1) (k.ty [66,79,76]))]) λz z b=>.fin (ρ b) []⟩
theorem NO gh sp tv ρ k:RS 700 0 [.n (.b 0x11202 0x11 0 0 0 0x11) 697,nU 0x11002020000002000000000000020000244040020200000020000000000000200002444 0x12 0 7 697,.n (.b 0 0x1000 0 0 0x1002 0) 0,.z (.a 0x111111 0x1000 0 3) 700,.z (.a 0 0 0 0) 0] (adn x h gh sp tv ρ k):=.b
def ado(gh:fJ)(b:Value)(c:Value)(ρ:L2->Result)(k:Tk):bK:=⟨jO h.FL gh.g,[(h.FL,ez x h b false c),(gh.g,cc gh)],λN t=>.con (jA gh (k.ty [66,79,76])) λe d l1=>.con ((pq x h gh (.str ⟨⟨[]⟩⟩ (d+4)) true (.ref (l1.n 0)) ρ).give (yN (iy l1) (k.ty [66,79,76]))) λz z a=>.fin (ρ a) []⟩
theorem NP gh sp tv ρ k:RS 700 0 [.n (.b 0x11202 0x11 0 0 0 0x11) 697,.z (.a 0x11444440020200000020000000000000200002444 0x10003 0 6) 700,.z (.a 0 0 0 0) 0] (ado x h gh sp tv ρ k):=.b
def sc:cX where
 c:=fe gh.g
 pre:=[(gh.g,cc gh)]
 out _ _ a:=(.error (.ref (a.n 0)),[(a.n 0,fw (a.n 1)),(gh.g,cc gh)])
 e:=true
def tkE(gh:fJ)(a:Value)(b:Bool)(c:Value):bK:=⟨jO h.FL gh.g,[(h.FL,ez x h a b c),(gh.g,cc gh)],λN t=>.con (sc gh) λd e l1=>.fin oN [(h.FL,ez x h a b c),(gh.g,cc gh)]⟩
theorem RW gh sp fi tv:RS 700 0 [.n (.b 0x11202 0x11 0 0 0 0x11) 697,.z (.a 0x101 0x112 0 0) 0] (tkE x h gh sp fi tv):=.a
def tkX(gh:fJ)(a:Value)(b:Bool)(c:Value):bK:=⟨jO h.FL gh.g,[(h.FL,ez x h a b c),(gh.g,cc gh)],λN t=>.con (mm gh) λz z l=>.step (qY (jO h.FL gh.g) (el h.FL) l h.FL (ez x h a b c)) λz z l2=>.fin (.error (.ref (l.n 1))) (kc l2 (l.n 2) (l.n 3) (l.n 1) (rawInt h.FL))⟩
theorem RX gh sp fi tv:RS 700 0 [.n (.b 0x11202 0x11 0 0 0 0x11) 697,.n (.b 0x13e7e02 0x1111 0 0 0 0x10) 697,.z (.a 0 0x100 0 0) 0] (tkX x h gh sp fi tv):=.a
noncomputable def Ko.at_(t:Nat):Ko:={ h with k3:=t+1,k4:=t+2,k5:=t+3 }
def RY(a:Tk):bK:=⟨.func (bJ (dc 17 9)) (el h.FL),dK x++[(h.FL,po x h)],λN t=>.step (q6 x (h.at_ t) (.str ⟨⟨[]⟩⟩ t)) λb c l1=>.pos λp=>.con (sb x (h.at_ t) (hU l1 hT ob) (.str ⟨⟨[]⟩⟩ t) true .none a 0) λd e l2=>.fin (rV .none) []⟩
theorem Ca c:RS 720 0 [GI,GJ,.z (.a 0x11 0x100 0 0) 717,.z (.a 0x111 0 0 0) 0] (RY x h c):=.b
def RZ(c:Tk):bK:=⟨.func (bJ (dc 17 9)) (el h.FL),dK x++[(h.FL,po x h)],λN t=>.step (q6 x (h.at_ t) (.str ⟨⟨[]⟩⟩ t)) λd e l1=>.pos λp=>.con (sb x (h.at_ t) (hU l1 hT ob) (.str ⟨⟨[]⟩⟩ t) true .none c 1) λf a l2=>.con (NN ⟨[66,79,76],[],[],a,a+1,a+2,true,(iy l2).l.l⟩ (iy l2).l c.at_) λg i b=>
  .jf (.ref (b.n 1)) (YY (b.n 1) (b.n 0) (b.n 2) (b.n 3) ⟨[66,79,76],[],[],a,a+1,a+2,true,(iy l2).l.l⟩ (iy l2).l c.at_) [] λj m=>.fin (rV .none) []⟩
theorem Cb c:RS 720 0 [GI,GJ,.z (.a 0x11 0x100 0 0) 717,nU 0x1100303000000300000000000003000031100003000311 0x13 0 4 717,lZ,.z (.a 0 0 0 0) 0] (RZ x h c):=.b
def R0(a:Tk):bK:=⟨.func (bJ (dc 17 9)) (el h.FL),dK x++[(h.FL,po x h)],λN t=>.step (q6 x (h.at_ t) (.str ⟨⟨[]⟩⟩ t)) λb c l1=>.pos λp=>.con (sb x (h.at_ t) (hU l1 hT ob) (.str ⟨⟨[]⟩⟩ t) true .none a 2) λd e l2=>.fin (rV .none) []⟩
theorem Cc c:RS 720 0 [GI,GJ,.z (.a 0x11 0x100 0 0) 717,.z (.a 0x11 0 0 0) 0] (R0 x h c):=.b
def R3(gh:fJ)(b:Value)(d:Bool)(e:Value):cX where
 c:=jO h.FL gh.g
 pre:=[(h.FL,ez x h b d e),(gh.g,cc gh)]
 out _ _ a:=(.error (.ref (a.n 1)),kc a (a.n 2) (a.n 3) (a.n 1) (rawInt h.FL))
def R4:bK:=⟨.func (bJ (dc 17 9)) (el h.FL),dK x++[(h.FL,po x h)],λN t=>.step (q6 x (h.at_ t) (.str ⟨⟨[]⟩⟩ t)) λa b l1=>.pos λp=>.con (R3 x (h.at_ t) (hU l1 hT ob) (.str ⟨⟨[]⟩⟩ t) true .none) λz z l=>.step (EM (.func (bJ (dc 17 9)) (el h.FL)) (el h.FL) l h.FL) λz z z=>.fin (.error (.ref (l.n 1))) (kc l (l.n 2) (l.n 3) (l.n 1) .none)⟩
theorem Cd:RS 720 0 [GI,GJ,.z (.a 0x11 0x100 0 0) 717,nU 0x13e7e2211 0x100 0 0 717,.z (.a 0 0x100 0 0) 0] (R4 x h):=.b
def XH:bK:=⟨.call (.ref 373) ⟨[.ref x.S,.ref x.gn.g],[]⟩,[],λN t=>.gen (.func (bJ (dc 17 9)) (el N)) λg=>.fin (rV (.ref (N+1))) ([(N,po x ⟨N,t,t+1,0,0,0⟩),(N+1,jX g (t+2) ⟨⟨[116,111,107,101,110,105,122,101]⟩⟩ (t+3) ⟨⟨[67,76,101,120,101,114,46,116,111,107,101,110,105,122,101]⟩⟩)])⟩
theorem ug:RP 40 2 [nU 0x1011110 0 0 0 0,nU 0 0x100 2 4 0] (XH x):=.a
end
section
variable{prog:Program}{kt:KT}{room:Nat}{c:Code}{pre r:bH}{X:b7}{out:Nat->Nat->L2->Result×bH}{X':L2->b7}{fi:Bool}{k:Tk}{ks:List Tk}{g:bR}{y:tP}
theorem bG.dX{w:World}{os:OsState}{G:bH}{Z:b7}{d:Type}{acj:Nat}{e:d->Value->bH->Prop}{bL:Result->bH->bR->Prop}{σ σ':List d}(h:bG prog w kt os acj e bL room c pre X σ out X' σ')(f:∀r g,Z r g->xQ G X r g):bG prog w kt os acj e bL room c (pre++G) Z σ out X' σ':=
 h.ej (λr g i=>by
  obtain⟨j,l,a⟩:=f r g i;exact⟨j,g,by rw[bQ];exact l.append_left _,.refl _,a⟩) (λN t b r g a=>⟨b,r,g,rfl,.refl _,.refl _,a⟩)
inductive JX(X:b7)(r:bH)(g:bR):Prop where|mk:∀r' j,(r.Perm (r'++j))->(X r' g)->JX X r g
theorem bO.Jp{w:World}{os:OsState}(h:bO prog w kt os room c pre X out X'):bO prog w kt os room c pre (JX X) out (λa=>JX (X' a)):=by
 rintro A s F FG r0 g0 l n ⟨r1,j,o,p⟩ q;have b:Sat kt os s (pre++(r1++(j++F))) (g0++FG):=q.perm (by rw[<-bQ r1];exact(o.append_right F).append_left pre);refine dj (h A s (j++F) FG r1 g0 l (n.mono λz m=>dp _ m) p b) ?_;rintro r u ⟨a,i,t,d,e,f⟩;exact⟨a,i++j,t,⟨i,j,.refl _,d⟩,e,by simpa only[bQ]using f⟩
structure lr where(typ val sp:List Nat)(fi:Bool)(at_:Ch)
inductive R5(k:lr)(v:Value)(it:bH):Prop where|mk:∀(a d k1 k2 tt vt st:Nat)(z:gv),(v=.ref a)->(it=YY a d k1 k2 ⟨k.typ,k.val,k.sp,tt,vt,st,k.fi,z.l⟩ z k.at_)->R5 k v it
noncomputable def iM:List Nat:=[66,79,76]
noncomputable def C4:List Nat:=[87,83]
def dg:List Nat->Bool->List Tk->List lr
 |Y,V,[]=>[]
 |sp,fi,k::ks=>if k.typ=iM then(if fi then⟨iM,[],[],true,k.at_⟩::dg [] true ks else dg [] true ks)
  else if k.typ=C4 then dg (sp++k.val) fi ks
  else⟨k.typ,k.val,sp,fi,k.at_⟩::dg [] false ks
theorem ab8{a:List Nat}:dg a fi (k::ks)=if k.typ=iM then(if fi then⟨iM,[],[],true,k.at_⟩::dg [] true ks else dg [] true ks)
  else if k.typ=C4 then dg (a++k.val) fi ks
  else⟨k.typ,k.val,a,fi,k.at_⟩::dg [] false ks:=rfl
def ga:Bool->List Tk->Bool
 |fi,[]=>fi
 |fi,k::ks=>if k.typ=iM then ga true ks else if k.typ=C4 then ga fi ks else ga false ks
theorem afK:ga fi (k::ks)=if k.typ=iM then ga true ks else if k.typ=C4 then ga fi ks else ga false ks:=rfl
noncomputable def ke:Option Tk->List Tk->Option Tk|lt,[]=>lt|Y,k::ks=>ke (some k) ks
def ES(k:Tk):Prop:=k.typ=iM\/k.typ=C4\/∃j,k.typ=hY j
theorem qk:∀j,hY j≠iM/\hY j≠C4
 |0|1|2|3|4|5|6|7|8|9|10|Y+11=>⟨nofun,nofun⟩
theorem R6(j:Nat):j∈[0,1,2,3,4,5,6,7,8,9,10]\/11<=j:=by
 rcases Nat.lt_or_ge j 11 with h|h
 ·left;revert j;decide
 ·exact .inr h
def wn:Option (tP×Tk)->bH|none=>[]|some p=>yN p.1 p.2
noncomputable def uh:Option (tP×Tk)->Value|none=>.none|some p=>.ref p.1.a
inductive XK(lt:Option (tP×Tk))(X:b7)(r:bH)(g:bR):Prop where|mk:∀r' j,(r.Perm (wn lt++(r'++j)))->(X r' g)->XK lt X r g
theorem XK.Jp{lt:Option (tP×Tk)}(h:XK lt X r g):JX X r g:=by
 obtain⟨a,j,b,d⟩:=h;refine⟨a,wn lt++j,b.trans ?_,d⟩;rw[<-bQ,<-bQ];exact fu.append_right j
inductive XKE(lt:Option Tk)(E:b7)(ℓ:L2)(r:bH)(g:bR):Prop where|mk:∀lt':Option (tP×Tk),(lt'.map (·.2)=lt)->(ℓ.v 1=uh lt')->(XK lt' E r g)->XKE lt E ℓ r g
theorem bO.xk{w:World}{os:OsState}(lt:Option (tP×Tk))(h:bO prog w kt os room c pre X out X'):bO prog w kt os room c pre (XK lt X) out (λa=>XK lt (X' a)):=by
 rintro A s F FG r0 g0 l n ⟨r1,j,o,p⟩ t;have b:Sat kt os s (pre++(r1++((wn lt++j)++F))) (g0++FG):=t.perm (by
  refine((o.append_right F).append_left pre).trans ?_;exact PT.q [_,_,_,_,_] [] 0xa0aa1a234 0xa0a2aa134 rfl)
 refine dj (h A s ((wn lt++j)++F) FG r1 g0 l (n.mono λz m=>dp _ m) p b) ?_;rintro r v ⟨a,i,u,d,e,f⟩;refine⟨a,wn lt++(i++j),u,⟨i,j,.refl _,d⟩,e,f.perm ?_⟩;exact PT.q [_,_,_,_,_] [] 0xa0a1aa234 0xa0aa2a134 rfl
theorem JX.give(h:JX X r g):xQ (yN y k) (XK (some (y,k)) X) r g:=by
 obtain⟨a,j,b,d⟩:=h;exact⟨_,.refl _,a,j,b.append_left _,d⟩
theorem JX.U6(h:Y7 [(y.l.l,eI y.l k.at_)] (JX X) r g):xQ [(y.a,IM y k)] (XK (some (y,k)) X) r g:=by
 obtain⟨r1,rfl,b,j,d,e⟩:=h;exact⟨_,.refl _,b,j,(d.append_left _).append_left _,e⟩
section
variable{acj:Nat}{bL:Result->bH->bR->Prop}
noncomputable def zj(a:List Tk):Nat:=(a.map λk=>k.val.length).sum
def TkE(x:fD)(h:Ko)(gh:fJ)(d:Bool)(lt:Option Tk)(O:bH->Prop)(E:b7)(er:Option (Option Ch))(a:L2):b7:=λr g=>match er with
 |none=>∃b,r=[(h.FL,ez x h (a.v 0) d (a.v 1)),(gh.g,cc gh)]++b/\XKE lt E a b g
 |some e=>∃b,r=kc a (a.n 2) (a.n 3) (a.n 1) (rawInt h.FL)++b/\lE (a.n 2) e O b g
theorem zl{x:fD}{h:Ko}{gh:fJ}{Up:List Tk->b7}{E:b7}{er:Option (Option Ch)}{O:bH->Prop}(z:∀k ts room,670<=room->lF room (jA gh k) (Up (k::ts)) (λy=>Up ts))(A:er=none->∀room,670<=room->lF room (sc gh) (Up []) (λy=>E))(B:∀m,er=some m->∀room,670<=room->lF room (mm gh) (Up []) (λb=>lE (b.n 2) m O)){σ:List lr}:
  ∀(ts:List Tk)(sp:List Nat)(st:Nat)(fi:Bool)(lt:Option (tP×Tk)),(∀k∈ts,ES k)->sp.length+zj ts<=10000->
   jJ 1730 (R5) bL 700 (pq x h gh (.str ⟨⟨sp⟩⟩ st) fi (uh lt) (B7 er)) (XK lt (Up ts)) (dg sp fi ts++σ) (TkE x h gh (ga fi ts) (ke (lt.map (·.2)) ts) O E er) σ
 |[],sp,st,fi,lt,Y,V=>by
  cases er with
  |none=>
   exists bG.o,RW x h gh _ _ _,0;exists cF,(A rfl _ (by decide)).xk lt;intro i l a _ _;exact cB rfl rfl (λr0 g0 q=>⟨cV [] [.str ⟨⟨sp⟩⟩ st,uh lt],_,g0,rfl,⟨r0,rfl,lt,rfl,rfl,q⟩,.refl _,.refl _⟩) (λy=>rfl)
  |some m=>
   exists bG.o,RX x h gh _ _ _,0;exists cF,(B m rfl _ (by decide)).xk lt;intro i l a _ _;exists cK,ud rfl rfl (by kernel_rfl) _;intro s u e _ _;refine cB rfl rfl (λr0 g0 q=>?_) (λy=>rfl);obtain⟨K,j,D,F⟩:=q;exact⟨ue (e.n 0) (a.n 1) (a.n 2) (a.n 3) e.v,_,g0,rfl,⟨r0,rfl,F.Jp (D.trans fu |>.trans (by rw[bQ]))⟩,.refl _,.refl _⟩
 |⟨typ,val,at_⟩::ts,sp,st,fi,lt,ok,C=>by
  have w:∀k∈ts,ES k:=λd hd=>ok d (.tail _ hd);have G:zj (⟨typ,val,at_⟩::ts)=val.length+zj ts:=by exact rfl
  have p:=λsp st fi lt C=>@zl x h gh Up E er O z A B σ ts sp st fi lt w C;have hn:∀room,670<=room->lF room (jA gh ⟨typ,val,at_⟩) (XK lt (Up (⟨typ,val,at_⟩::ts))) (λy=>JX (Up ts)):=λroom H=>bO.dP (z _ ts room H).Jp (λy y h=>h.Jp) (λy y y h=>h);rcases ok _ (.head _)with hk|hk|⟨j,hk⟩
  ·obtain rfl:typ=iM:=hk;have e1:ga fi (⟨iM,val,at_⟩::ts)=ga true ts:=bP rfl;rw[e1];cases fi with
   |true=>
    have e2:dg sp true (⟨iM,val,at_⟩::ts)=⟨iM,[],[],true,at_⟩::dg [] true ts:=(bP rfl).trans (bP rfl);rw[e2];exists bG.o,NO x h gh (.str ⟨⟨sp⟩⟩ st) (uh lt) (B7 er) ⟨iM,val,at_⟩,0;exists cF,hn _ (by decide);intro i l a _ _;exists bx,bE.mono ((y3 _ _ _).fr _) (by decide);intro s u e _ _;exists cQ,⟨_,_,_,_,_,_,_,_,rfl,rfl⟩,0;exists cE,bG.dX (p [] _ true (some (iy a,⟨iM,val,at_⟩)) (by simp;omega)) (λr g h=>JX.U6 h);intro N t b _ _;exact bA b
   |false=>
    have e2:dg sp false (⟨iM,val,at_⟩::ts)=dg [] true ts:=(bP rfl).trans (bu (by decide));rw[e2];exists bG.o,NP x h gh (.str ⟨⟨sp⟩⟩ st) (uh lt) (B7 er) ⟨iM,val,at_⟩,0;exists cF,hn _ (by decide);intro i l a _ _;exists cE,bG.dX (p [] _ true (some (iy a,⟨iM,val,at_⟩)) (by simp;omega)) (λr g h=>h.give);intro N t b _ _;exact bA b
  ·obtain rfl:typ=C4:=hk;have e1:ga fi (⟨C4,val,at_⟩::ts)=ga fi ts:=(bu (show ¬ (C4=iM)by decide)).trans (bP rfl);have e2:dg sp fi (⟨C4,val,at_⟩::ts)=dg (sp++val) fi ts:=(bu (show ¬ (C4=iM)by decide)).trans (bP rfl);rw[e1,e2];exists bG.o,RV x h gh sp st fi (uh lt) (B7 er) ⟨C4,val,at_⟩,0;exists cF,hn _ (by decide);intro i l a _ _;exists bz,i4 (by show sp.length+val.length<=10000;omega);intro s u e _;exists cE,bG.dX (p (sp++val) _ fi (some (iy a,⟨C4,val,at_⟩)) (by rw[c5];omega)) (λr g h=>h.give);intro N t b _ _;exact bA b
  ·obtain rfl:typ=hY j:=hk;have e1:ga fi (⟨hY j,val,at_⟩::ts)=ga false ts:=(bu (qk j).1).trans (bu (qk j).2);have e2:dg sp fi (⟨hY j,val,at_⟩::ts)=⟨hY j,val,sp,fi,at_⟩::dg [] false ts:=(bu (qk j).1).trans (bu (qk j).2);rw[e1,e2];exists bG.o,RU x h gh sp st fi (uh lt) (B7 er) ⟨hY j,val,at_⟩ j (R6 j),0;exists cF,hn _ (by decide);intro i l a _ _;exists bx,bE.mono ((y3 _ _ _).fr _) (by decide);intro s u e _ _;exists cQ,⟨_,_,_,_,_,_,_,_,rfl,rfl⟩,0;exists cE,bG.dX (p [] _ false (some (iy a,⟨hY j,val,at_⟩)) (by simp;omega)) (λr g h=>JX.U6 h);intro N t b _ _;exact bA b
end
end
section
def R7(s:Stmt):List Stmt:=(sp s).b
variable(gh:fJ)(FL k:Nat)(GO:Nat)(er:Bool)
def Hq:Env:=hV (dH 27) FL (q (uS 0x5f6c61775f726561642e3c6c6f63616c733e2e)) 636 635
def od(g:Nat):Code:=m3 ((R7 (b9 (dH 27) 1)).getD 0 (.Pass default)) (.ref g) (Hq FL)
def ui(g GO:Nat)(a:List DictEntry)(n:Nat):Obj:=cD ([eW (uS 0x746f6b656e73) k (.ref g),eW (uS 0x676f74) (k+1) (.ref GO)]++a) n
noncomputable def ls(a:L2):gv:=⟨a.n 8,a.n 9,a.n 7,a.n 10,a.n 11,a.n 12,a.n 13,a.n 14,a.n 15,a.n 16⟩
def Hr(k:lr):cX where
 c:=fe gh.g
 pre:=[(gh.g,cc gh)]
 out _ _ a:=(rV (.ref (a.n 0)),(gh.g,cc gh)::YY (a.n 0) (a.n 1) (a.n 2) (a.n 3) ⟨k.typ,k.val,k.sp,a.n 4,a.n 5,a.n 6,k.fi,a.n 7⟩ (ls a) k.at_)
 e:=true
def Kq(kt d:Nat)(b:List Value)(n:Nat)(er:Bool):cX where
 c:=od FL gh.g
 pre:=[(FL,ui k gh.g GO [eW [116] kt (.ref d)] 3),(gh.g,cc gh),(GO,br b n)]
 out _ _ a:=match er with
  |false=>(oN,[(FL,ui k gh.g GO [eW [116] kt (.ref (a.n 5))] 3),(gh.g,cc gh),(GO,br (a.l 0) (a.n 4))])
  |true=>(.error (.ref (a.n 1)),kc a (a.n 2) (a.n 3) (a.n 1) (rawInt FL)++[(FL,ui k gh.g GO [eW [116] kt (.ref (a.n 5))] 3),(GO,br (a.l 0) (a.n 4))])
 e:=true
def Ce(b c d:List Nat)(e:Bool)(a:Nat)(f:Value)(g vt h:Nat):Obj:=dm [.str ⟨⟨b⟩⟩ g,.str ⟨⟨c⟩⟩ vt,.str ⟨⟨d⟩⟩ h,.bool e,.ref a,f] 0
structure cU where(FL k GO kt tv:Nat)(gh:fJ)(got:List Value)(n:Nat)(ty vl sp:List Nat)(fi:Bool)(cd:Nat)(row col:Int)
variable(z:cU)
def aaV(kt:Nat)(er:Bool)(a:L2):hS:=match er with
 |false=>.fin oN [(z.FL,ui z.k z.gh.g z.GO [eW [116] kt (.ref (a.n 5))] 3),(z.gh.g,cc z.gh),(z.GO,br (a.l 0) (a.n 4))]
 |true=>.fin (.error (.ref (a.n 1))) (kc a (a.n 2) (a.n 3) (a.n 1) (rawInt z.FL)++[(z.FL,ui z.k z.gh.g z.GO [eW [116] kt (.ref (a.n 5))] 3),(z.GO,br (a.l 0) (a.n 4))])
def NQ(f:Value)(er:Bool)(kt:Nat->Nat):hS:=
 .con (Hr z.gh ⟨z.ty,z.vl,z.sp,z.fi,⟨z.cd,z.row,z.col,f⟩⟩) λb d a=>.con (ee z.GO z.got z.n (.ref (b+1))) λe g c=>
  .con ((Kq z.gh z.FL z.k z.GO (kt d) (a.n 0) (z.got++[.ref (b+1)]) (c.n 0) er).give ([(b+1,Ce z.ty z.vl z.sp z.fi b f (a.n 4) (a.n 5) (a.n 6)),(b,pi z.row z.col (a.n 14) (a.n 13)),(a.n 7,eI (ls a) ⟨z.cd,z.row,z.col,f⟩)])) λy y a=>aaV z (kt d) er a
def ET(b:List Value)(n:Nat)(er:Bool):cX where
 c:=od FL gh.g
 pre:=[(FL,ui k gh.g GO [] 2),(gh.g,cc gh),(GO,br b n)]
 out _ _ a:=match er with
  |false=>(oN,[(FL,ui k gh.g GO [eW [116] (a.n 6) (.ref (a.n 5))] 3),(gh.g,cc gh),(GO,br (a.l 0) (a.n 4))])
  |true=>(.error (.ref (a.n 1)),kc a (a.n 2) (a.n 3) (a.n 1) (rawInt FL)++[(FL,ui k gh.g GO [eW [116] (a.n 6) (.ref (a.n 5))] 3),(GO,br (a.l 0) (a.n 4))])
 e:=true
def rdT(f:Value)(er:Bool):bK:=⟨od z.FL z.gh.g,(Kq z.gh z.FL z.k z.GO z.kt z.tv z.got z.n er).pre,λN t=>NQ z f er (λy=>z.kt)⟩
def rdA(f:Value)(er:Bool):bK:=⟨od z.FL z.gh.g,(ET z.gh z.FL z.k z.GO z.got z.n er).pre,λN t=>NQ z f er (λt=>t)⟩
def rdN:List Num:=[.n (.b 0x11202 0x11 0 0 0 0x11) 757,ZF,.n (.b 0x11 0x1234015 0 0 0 0x10) 760,cond er oV lZ]
theorem NR{f:Value}(h:f=.none\/∃fs t,f=.str ⟨⟨fs⟩⟩ t)(er:Bool):RP 760 0 (rdN er) (rdT z f er)/\RP 760 0 (rdN er) (rdA z f er):=by
 rcases h with rfl|⟨fs,t,rfl⟩
 ·cases er
  ·exact⟨.a,.a⟩
  ·exact⟨.a,.a⟩
 ·cases er
  ·exact⟨.a,.a⟩
  ·exact⟨.a,.a⟩
def zm:cX where
 c:=fe gh.g
 pre:=[(gh.g,cc gh)]
 out _ _ a:=(.error (.ref (a.n 0)),[(a.n 0,fw (a.n 1)),(gh.g,cc gh)])
 e:=true
def adp:bK:=⟨od z.FL z.gh.g,(Kq z.gh z.FL z.k z.GO z.kt z.tv z.got z.n false).pre,λN t=>.con (zm z.gh) λy y y=>.fin oN [(z.FL,ui z.k z.gh.g z.GO [eW [116] z.kt (.ref z.tv)] 3),(z.gh.g,cc z.gh),(z.GO,br z.got z.n)]⟩
theorem NS:RP 760 0 [.n (.b 0x11202 0x11 0 0 0 0x11) 757,nU 0x101 0x1112 0 0 0] (adp z):=.a
def adq:bK:=⟨od z.FL z.gh.g,(Kq z.gh z.FL z.k z.GO z.kt z.tv z.got z.n true).pre,λN t=>.con (mm z.gh) λy y l=>.step (qY (od z.FL z.gh.g) (Hq z.FL) l z.FL (ui z.k z.gh.g z.GO [eW [116] z.kt (.ref z.tv)] 3)) λy y l2=>.fin (.error (.ref (l.n 1))) (kc l2 (l.n 2) (l.n 3) (l.n 1) (rawInt z.FL)++[(z.FL,ui z.k z.gh.g z.GO [eW [116] z.kt (.ref z.tv)] 3),(z.GO,br z.got z.n)])⟩
theorem NT:RP 760 0 [.n (.b 0x11202 0x11 0 0 0 0x11) 757,.n (.b 0x13e7e02 0x1111 0 0 0 0x10) 757,nU 0 0x11000 0 0 0] (adq z):=.a
end
section
noncomputable def adr(a:Value->Env->Sem Unit):{ t:Bool->Sem Flow->List ExceptHandler->Sem Flow->List Stmt->Env->Sem Flow//a=PySem.W.ZFast.noteFrameY->t=PySem.W.ZFast.zw11253931983154730583 }:=by
 refine⟨?t,λh=>?p⟩
 case p=>
  delta PySem.W.ZFast.zw11253931983154730583
  rw[<-h]
def aaW(s:Stmt):List ExceptHandler:=(sp s).h
def se(a:Value->Env->Sem Unit)(e:Value)(b:List ExceptHandler)(rest:List Stmt)(env:Env):Sem PySem.Fin:=
 R.bindR (R.onRaiseR (R.bindR ((adr a).1 false (.raise e) b (.pure .next) [] env) λf=>match f with
  |.next=>PySem.W.ZFast.zw12563942051412417395 rest env
  |f=>.pure f) (PySem.W.ZFast.zw9442747609961115081 env)) hC
theorem zn(e:Value)(b:List ExceptHandler)(rest:List Stmt)(env:Env):
  ∃(c:Unit->Sem Flow)(d:Flow->Sem Flow)(H:Value->Sem Unit)(K3:Flow->Sem PySem.Fin),∀a,se a e b rest env=R.bindR (R.onRaiseR (R.bindR (R.bindR (a e env) c) d) H) K3:=
 ⟨_,_,_,_,λa=>rfl⟩
def wq(c:Code)(env:Env)(a:L2)(FL:Nat)(b:List ExceptHandler)(rest:List Stmt):vf where
 c:=c
 tr:=se PySem.W.ZFast.noteFrameY (.ref (a.n 1)) b rest env
 pre:=kc a (a.n 2) (a.n 3) (a.n 1) (rawInt FL)
 out _ _ _:=(se (λz z=>.pure ()) (.ref (a.n 1)) b rest env,kc a (a.n 2) (a.n 3) (a.n 1) (rawInt FL))
section
variable{prog:Program}{w:World}{kt:KT}{os:OsState}{room:Nat}
theorem NV{c:Code}{env:Env}{a:L2}{FL:Nat}{d:List ExceptHandler}{rest:List Stmt}(h:env.frame=some FL)(Y:b7):
  c9 prog w kt os room (wq c env a FL d rest).c (wq c env a FL d rest).tr (wq c env a FL d rest).pre Y (wq c env a FL d rest).out (λz=>Y):=by
 intro i j f o s F FG r0 g0 k b l;obtain⟨q,r,H,t,e⟩:=zn (.ref (a.n 1)) d rest env;show j (se _ _ _ _ _) s;rw[e,<-eh,<-jb,<-F4,dI,dI,dI,gL,eg,eg,eg];refine f _ _ _ s λm p z g=>?_;have fin:=l s a r0 g0 k b;dsimp only[wq]at fin;rw[e,<-eh,<-jb,dI,dI,dI,gL,eg,eg,eg]at fin;refine(?_:wpAny (model prog w) i (noteFrame (.ref (a.n 1)) env) _ _ s) m p g;unfold noteFrame;simp only[h];refine bI (eQ (b.own (a.n 1,gZ (a.n 2) (a.n 3) (.ref (a.n 0))) (.head _)) rfl (x:=.ref (a.n 0)) rfl ?_);rw[bP (show(Value.ref (a.n 0)!=Value.none)=true from by exact rfl)];refine bI (eQ (b.own (a.n 0,rk a.v (rawInt FL)) (.tail _ (.head _))) rfl (x:=rawInt FL) rfl ?_);rw[bP (by simp)];exact ck fin
end
end
section
variable(gh:fJ)(cd:Nat)(row col:Int)
def ads:bK:=⟨.call (.ref 636) ⟨[.ref gh.g],[]⟩,[(gh.g,cc gh)],λN t=>.con (ET gh N t (N+1) [] 0 false) λb c a=>.fin (rV (.ref (b+1))) [(b+1,dm [.ref (N+1),.ref b] 0),(b,br [] 0),(N+1,br (a.l 0) (a.n 4))]⟩
theorem NW:RP 780 2 [.n (.b Gw 0x1001 2 2 0 0x10) 777,nU 0x11 0x1234 2 0 0] (ads gh):=.b
def NX(N:Nat)(a:L2):vf:=wq (.func (bJ (dH 27)) (Hq N)) (Hq N) a N (aaW (b9 (dH 27) 1)) ((bJ (dH 27)).drop 2)
def adt:bK:=⟨.call (.ref 636) ⟨[.ref gh.g],[]⟩,[(gh.g,cc gh)],λN t=>.con (ET gh N t (N+1) [] 0 true) λc d a=>.step (NX N a) λb e z=>.dG (a.n 2) (BG (a.n 20) (a.n 21) (a.n 22) (a.v 10) .none (a.v 11)) <| .fin (rV (.ref (b+1))) [(b+1,dm [.ref (N+1),.ref b] 0),(b,br [.none] 0),(N+1,br (a.l 0) (a.n 4))]⟩
theorem NY:RP 780 2 [.n (.b Gw 0x1001 2 2 0 0x10) 777,LV,LW,nU 0x133333333 0x1345 2 4 0] (adt gh):=.b
def aaX(fs:List Nat)(ft:Nat):bK:=⟨.call (.ref 636) ⟨[.ref gh.g],[]⟩,[(gh.g,cc gh)],λN t=>.con (ET gh N t (N+1) [] 0 true) λc d a=>.step (NX N a) λb e z=>.dG (a.n 2) (BG (a.n 20) (a.n 21) (a.n 22) (a.v 10) (.ref (ls a).l) (a.v 11)) <| .dG (ls a).l (eI (ls a) ⟨cd,row,col,.str ⟨⟨fs⟩⟩ ft⟩) <| .fin (rV (.ref (b+3))) [(b+3,dm [.ref (N+1),.ref (b+2)] 0),(b+2,br [.ref (b+1)] 0),(b+1,dm [.ref b,.str ⟨⟨fs⟩⟩ ft] 0),(b,pi row col (ls a).rt (ls a).ct),(N+1,br (a.l 0) (a.n 4))]⟩
theorem Jv fs ft:RP 780 2 [.n (.b Gw 0x1001 2 2 0 0x10) 777,LV,LW,nU 0x13e6e33333 0 0 0 0,Uq] (aaX gh cd row col fs ft):=.b
def aaY:bK:=⟨.call (.ref 636) ⟨[.ref gh.g],[]⟩,[(gh.g,cc gh)],λN t=>.con (ET gh N t (N+1) [] 0 true) λc d a=>.step (NX N a) λb e z=>.dG (a.n 2) (BG (a.n 20) (a.n 21) (a.n 22) (a.v 10) (.ref (ls a).l) (a.v 11)) <| .dG (ls a).l (eI (ls a) ⟨cd,row,col,.none⟩) <| .fin (rV (.ref (b+3))) [(b+3,dm [.ref (N+1),.ref (b+2)] 0),(b+2,br [.ref (b+1)] 0),(b+1,dm [.ref b,.none] 0),(b,pi row col (ls a).rt (ls a).ct),(N+1,br (a.l 0) (a.n 4))]⟩
theorem Jw:RP 780 2 [.n (.b Gw 0x1001 2 2 0 0x10) 777,LV,LW,nU 0x13e6e33333 0 0 0 0,Uq] (aaY gh cd row col):=.b
end
section
noncomputable abbrev NZ:String:=PySem.W.SZ.s8232228318002612845x12
variable(y:j7)(ℓ:L2)(k:Nat)
def EU(x:List Nat)(t:Nat):cX where
 c:=.builtin NZ ⟨[.str ⟨⟨x⟩⟩ t],[]⟩
 pre:=[]
 out _ _ ℓ:=(rV (.ref (ℓ.n 0)),[(ℓ.n 0,iu dY ⟨⟨x⟩⟩ t 0)])
def uj(a:Nat)(xs:List Value)(n:Nat)(i:Int)(t:Nat)(v:Value):cX where
 c:=.builtin o9 ⟨[.ref a,.int i t],[]⟩
 pre:=[(a,br xs n)]
 out _ _ ℓ:=(.ok (.ret v),[(a,br xs n)])
def U7(x:List Nat)(t:Nat)(n:Int)(u:Nat)(y:List Nat):cX where
 c:=.builtin Uu ⟨[.str ⟨⟨x⟩⟩ t,.int n u],[]⟩
 pre:=[]
 out _ _ ℓ:=(rV (.str ⟨⟨y⟩⟩ (ℓ.n 0)),[])
def N0(m s b:List Nat)(f:Bool)(a c d e:Nat):Obj:=dm [.str ⟨⟨m⟩⟩ c,.str ⟨⟨s⟩⟩ d,.str ⟨⟨b⟩⟩ e,.bool f,.ref a] 0
structure hK where(it j:Nat)(xs:List Value)(n:Nat)(cs:List Value)(cn:Nat)(row:List Nat)(wd a:Int)(wf yU iL:Nat)(vb vc vs:Value)(rows:List Value)(rn:Nat)(bT:List Value)(sn:Nat)(due:List Value)(dn:Nat)(sp:List Nat)(ov:Nat)(fi:Bool)(la:Value)(SP:Nat)(vm vt:Value)(i:ht)(row2:List Nat)(wd2 a2 bl:Int)(Hs:List Nat)
variable(z:hK)
noncomputable def hK.v:gw:=⟨.str ⟨⟨z.row⟩⟩ z.wf,.int z.wd z.yU,.int z.a z.iL,z.vb,z.vc,z.vs,z.rows,z.rn,z.bT,z.sn⟩
noncomputable def hK.u:hJ:=⟨.str ⟨⟨z.sp⟩⟩ z.ov,.bool z.fi,z.la,z.SP,z.vm,z.vt⟩
noncomputable def uL:hJ:=⟨ℓ.v 6,ℓ.v 7,ℓ.v 8,ℓ.n 4,ℓ.v 9,ℓ.v 10⟩
def nq(v:gw)(u:hJ)(z:hK)(due:List Value)(dn:Nat):bH:=[(y.il,br z.xs z.n)]++j9 y v u z.cs z.cn++[(y.DU,br due dn)]
def oe(v:gw)(u:hJ)(j:Nat)(due:List Value)(dn:Nat):cX where
 c:=j8 y.FL z.it
 pre:=[(y.FL,fh y v u),(z.it,eB y.il j)]++nq y v u z due dn
 out _ _ ℓ:=(oN,[(y.FL,fh y (mN ℓ) (uL ℓ))]++nq y (mN ℓ) (uL ℓ) z (ℓ.l 2) (ℓ.n 5))
noncomputable def uk(ℓ:L2):gw:=⟨.str ⟨⟨z.row2⟩⟩ (ℓ.n 10),.int z.wd2 (ℓ.n 11),.int z.a2 (ℓ.n 12),.int z.bl (ℓ.n 13),ℓ.v 4,ℓ.v 5,ℓ.l 0,ℓ.n 0,.ref (ℓ.n 14)::ℓ.l 1,ℓ.n 1⟩
def Ht(v:gw)(u:hJ)(it:Nat):cX where
 c:=jl y.FL it
 pre:=(tV y v u it z.i.s z.i.tt 0 z.cs z.cn).pre
 out _ _ ℓ:=(oN,[(y.FL,fh y (uk z ℓ) u)]++j9 y (uk z ℓ) u z.cs z.cn)
def EV(v:gw)(u:hJ)(due:List Value)(dn:Nat)(g:bH):hS:=
 .con ((oe y z v u (z.j+1) due dn).give g) λx x ℓ=>.fin oN ([(y.FL,fh y (mN ℓ) (uL ℓ))]++nq y (mN ℓ) (uL ℓ) z (ℓ.l 2) (ℓ.n 5))
noncomputable def j7.q7(k1 k2 k3:Nat):j7:={ y with k1:=k1,k2:=k2,k3:=k3 }
noncomputable def sg:j7:=(y.q7 (ℓ.n 20) (ℓ.n 21) (ℓ.n 22)).keys (ℓ.n 23) (ℓ.n 24)
def si(v:gw)(u:hJ)(due:List Value)(dn:Nat):cX where
 c:=j8 y.FL z.it
 pre:=[(y.FL,Xe y v u),(z.it,eB y.il 0)]++nq y v u z due dn
 out _ _ ℓ:=(oN,[(y.FL,fh (sg y ℓ) (mN ℓ) (uL ℓ))]++nq y (mN ℓ) (uL ℓ) z (ℓ.l 2) (ℓ.n 5))
def Hu(v:gw)(u:hJ)(it:Nat):cX where
 c:=jl y.FL it
 pre:=(yV y v u it z.i.s z.i.tt z.cs z.cn).pre
 out _ _ ℓ:=(oN,[(y.FL,fh (y.keys (ℓ.n 2) (ℓ.n 3)) (uk z ℓ) u)]++j9 y (uk z ℓ) u z.cs z.cn)
def XI(k:Nat)(SP:Nat)(u:hJ)(t:Nat)(l:L2):hS:=
 .con (vo z.i.m z.i.mt [71,65,80] t (k==0)) λx g x=>match k with
  |0=>.con (U7 [32] g z.bl (l.n 13) z.Hs) λx a l2=>.con (IC z.sp z.Hs z.ov (l2.n 0)) λx d h=>.con (uj SP (uk z l).bT (l.n 1) 0 d (.ref (l.n 14))) λx b x=>
    EV y z (uk z l) { u with space:=.str ⟨⟨z.sp++z.Hs⟩⟩ (h.n 0),last:=.ref (l.n 14) } z.due z.dn []
  |k+1=>.con (vo z.i.m z.i.mt [69,78,68] g (Nat.ble k 1)) λx a x=>match k with
   |0=>.con (uj SP (uk z l).bT (l.n 1) 0 (a+1) (.ref (l.n 14))) λx b x=>EV y z (uk z l) { u with space:=.str ⟨⟨[]⟩⟩ a,first:=.bool true,last:=.ref (l.n 14) } z.due z.dn []
   |1=>.con (uj SP (uk z l).bT (l.n 1) 0 (a+3) (.ref (l.n 14))) λe b x=>.con (ee y.DU z.due z.dn (.ref e)) λc f j=>.con (uj SP (uk z l).bT (l.n 1) 0 (f+1) (.ref (l.n 14))) λx x x=>EV y z (uk z l) { u with space:=.str ⟨⟨[]⟩⟩ f,first:=.bool true,last:=.ref (l.n 14) } (z.due++[.ref e]) (j.n 0) [(e,N0 [66,79,76] [] [] true (l.n 14) a (a+1) (a+2))]
   |k+2=>.con (vo z.i.m z.i.mt [66,65,68] a (k==0)) λx d x=>match k with
    |0=>EV y z (uk z l) { u with first:=.bool false } z.due z.dn []
    |k+1=>.con (QU z.i.m z.i.mt [78,79,84,69] d (k==1)) λx b x=>match k with
     |0=>EV y z (uk z l) u z.due z.dn []
     |Y=>.con (uj SP (uk z l).bT (l.n 1) 0 b (.ref (l.n 14))) λc f x=>.con (ee y.DU z.due z.dn (.ref c)) λq o p=>EV y z (uk z l) { u with space:=.str ⟨⟨[]⟩⟩ o,first:=.bool false } (z.due++[.ref c]) (p.n 0) [(c,N0 z.i.m z.i.s z.sp z.fi (l.n 14) z.i.mt z.i.tt z.ov)]
noncomputable def hK.v1(t:Nat):gw:=⟨.str ⟨⟨z.row⟩⟩ z.wf,.int z.wd z.yU,.int z.a z.iL,.int 0 (t+2),z.vc,z.vs,z.rows,z.rn,[],0⟩
noncomputable def hK.u1(N:Nat):hJ:=⟨.str ⟨⟨z.sp⟩⟩ z.ov,.bool z.fi,z.la,N+3,.str ⟨⟨z.i.m⟩⟩ z.i.mt,.str ⟨⟨z.i.s⟩⟩ z.i.tt⟩
noncomputable def hK.sf(b:Bool):hK:={ z with fi:=b }
noncomputable def hK.j0:hK:={ z with j:=0 }
def XJ(k:Nat):bK:=⟨j8 y.FL z.it,(oe y z z.v z.u z.j z.due z.dn).pre,λN t=>.con (dd z.it y.il z.j z.xs z.n (.ref z.i.a)) λb c x=>.dG z.i.a (rN z.i) <| .con (EU z.i.s z.i.tt) λx x l2=>.con (Ht y z (z.v1 c) (z.u1 b) (l2.n 0)) λx d e=>XI y z k (b+3) (z.u1 b) d e⟩
def XM(k:Nat):bK:=⟨j8 y.FL z.it,(si y z z.v z.u z.due z.dn).pre,λN t=>.con (dd z.it y.il 0 z.xs z.n (.ref z.i.a)) λc b x=>.dG z.i.a (rN z.i) <| .con (EU z.i.s z.i.tt) λx x l2=>
  .con (Hu (y.q7 b (b+1) (b+3)) z (z.v1 b) (z.u1 c) (l2.n 0)) λx e d=>XI ((y.q7 b (b+1) (b+3)).keys (d.n 2) (d.n 3)) z.j0 k (c+3) (z.u1 c) e d⟩
def lyS:Nat->List Num|0=>[gu,nU 0x1100011 0 0 1 147,nU 0x110 0 0 0 147,nU 0x11303331 0x12 0 1 147,Wd,p0]|1=>[gu,gu,nU 0x113033311 0x12 0 2 147,We,p0]|2=>[gu,gu,nU 0x11303331888811 0x12 0 4 147,LX,nU 0x11202223 0x11 0 2 147,Wf,p0]|3=>[gu,gu,gu,nU 0x1111 0x11000330 0 1 150,p0]|4=>[gu,gu,gu,gu,nU 0x11 0x11000330 0 0 150,p0]|Y=>[gu,gu,gu,gu,Wg,LX,Wh,p0]
def lyN:List Num:=Ur::AK::Wb::Wc::lyS k
noncomputable def fI:Nat->Bool->Bool|1,Y=>false|2,Y=>true|Y,b=>b
theorem Oa(k:Nat)(a:k∈[0,1,2,3,4,5])(b:fI k z.fi=z.fi):RP 150 0 (lyN k) (XJ y z k):=by
 have h:RP 150 0 (lyN k) (XJ y (z.sf (fI k z.fi)) k):=RP.g (L:=[0,1,2,3,4,5]) (p:=λk=>XJ y (z.sf (fI k z.fi)) k) (n:=k) (hn:=a);rw[b]at h;exact h
theorem Oc(k:Nat)(a:k∈[0,1,2,3,4,5])(b:fI k z.fi=z.fi):RP 150 0 (lyN k) (XM y z k):=by
 have h:RP 150 0 (lyN k) (XM y (z.sf (fI k z.fi)) k):=RP.g (L:=[0,1,2,3,4,5]) (p:=λk=>XM y (z.sf (fI k z.fi)) k) (n:=k) (hn:=a);rw[b]at h;exact h
def aaZ:bK:=⟨j8 y.FL z.it,(oe y z z.v z.u z.j z.due z.dn).pre,λN t=>.con (eV z.it y.il z.j z.xs z.n) λa b l1=>.fin oN ([(y.FL,fh y z.v z.u)]++nq y z.v z.u z z.due z.dn)⟩
theorem Jx:RP 150 0 [Ur,nU 0x101 0x1222223 0 0 0] (aaZ y z):=.a
end
section
noncomputable def YZ(z:hK)(a:L2):gw:=⟨.str ⟨⟨z.row2⟩⟩ (a.n 10),a.v 1,a.v 2,a.v 3,a.v 4,a.v 5,a.l 0,a.n 0,a.l 1,a.n 1⟩
variable(fi:Bool)
noncomputable def u3(a:L2):hJ:=⟨a.v 6,.bool fi,.ref (a.n 15),a.n 4,a.v 9,a.v 10⟩
def zo(y:j7)(z:hK)(fi:Bool):cX where
 c:=j8 y.FL z.it
 pre:=(si y z z.v z.u z.due z.dn).pre
 out _ _ a:=(oN,[(y.FL,fh (sg y a) (YZ z a) (u3 fi a))]++nq y (YZ z a) (u3 fi a) z (a.l 2) (a.n 5))
structure R8 where(il ct st:Nat)(sm:List Nat)(xs:List Value)(n:Nat)(cs:List Value)(cn:Nat)(row2:List Nat)
variable(p:R8)
noncomputable def R8.y(N t:Nat):j7:=⟨N,t,p.il,p.ct,p.st,p.sm,N+1,N+6,0,0,0,0,0⟩
noncomputable def R8.z(N t:Nat):hK:=⟨N+13,0,p.xs,p.n,p.cs,p.cn,[],0,0,t+3,t+4,t+5,.none,.none,.none,[],0,[],0,[],0,[],t+10,true,.ref (N+7),N+8,.none,.none,⟨0,0,[],0,[]⟩,p.row2,0,0,0,[]⟩
def EW:cX where
 c:=.call (.ref 629) ⟨[.ref p.il,.ref p.ct,.str ⟨⟨p.sm⟩⟩ p.st],[]⟩
 pre:=[(p.il,br p.xs p.n),(p.ct,br p.cs p.cn)]
 out _ _ a:=(rV (.ref (a.n 0)),[(a.n 0,dm [.ref (a.n 1),.ref (a.n 2),.ref (a.n 3)] 0),(a.n 1,br (a.l 0) (a.n 4)),(a.n 2,br (a.l 1) (a.n 5)),(a.n 3,br (a.l 2) (a.n 6)),(p.il,br p.xs p.n),(p.ct,br p.cs p.cn)])
def Od(a:Nat)(R b SP:Nat)(due:List Value)(dn:Nat)(rows:List Value)(rn:Nat)(bT:List Value)(sn:Nat)(g:bH):hS:=
 .fin (rV (.ref a)) ([(a,dm [.ref b,.ref R,.ref SP] 0),(b,br due dn),(R,br rows rn),(SP,br bT sn),(p.il,br p.xs p.n),(p.ct,br p.cs p.cn)]++g)
def U8(fi:Bool)(b R a SP:Nat)(due:List Value)(dn:Nat)(rows:List Value)(rn:Nat)(bT:List Value)(sn:Nat)(N t:Nat):hS:=match fi with
 |true=>.con (ee a due dn (.ref N)) λc d l1=>Od p c R a SP (due++[.ref N]) (l1.n 0) rows rn bT sn [(N,N0 [66,79,76] [] [] true b t (t+1) (t+2))]
 |false=>Od p N R a SP due dn rows rn bT sn []
def zp(b fi:Bool)(N t:Nat):hS:=
 .con (zo (p.y N t) (p.z N t) fi) λi c a=>.con (QU p.row2 (a.n 10) [] c b) λd e x=>match b with
  |true=>.con (ee (N+1) (a.l 0) (a.n 0) (.str ⟨⟨p.row2⟩⟩ (a.n 10))) λf g h=>U8 p fi (a.n 15) (N+1) (N+6) (a.n 4) (a.l 2) (a.n 5) (a.l 0++[.str ⟨⟨p.row2⟩⟩ (a.n 10)]) (h.n 0) (a.l 1) (a.n 1) f g
  |false=>U8 p fi (a.n 15) (N+1) (N+6) (a.n 4) (a.l 2) (a.n 5) (a.l 0) (a.n 0) (a.l 1) (a.n 1) d e
def XN:bK:=(EW p).YW λN t=>zp p false false N t
theorem EX:RP 200 2 [xU,xV,nU 0x11111 0x1112250fd 1 0 0] (XN p):=.b
def XO:bK:=(EW p).YW λN t=>zp p false true N t
theorem EY:RP 200 2 [xU,xV,nU 0x11601666611 0x15 1 3 197,nU 0x1222 0x1a1122010d 1 0 0] (XO p):=.b
def XQ:bK:=(EW p).YW λN t=>zp p true false N t
theorem EZ:RP 200 2 [xU,xV,nU 0x1130133331 0x12 0 0 197,nU 0x12222 0x1112050fd 1 0 0] (XQ p):=.b
def XR:bK:=(EW p).YW λN t=>zp p true true N t
theorem E1:RP 200 2 [xU,xV,nU 0x1130133331 0x12 0 0 197,nU 0x11602666622 0x15 1 3 197,nU 0x1333 0x1a1120010d 1 0 0] (XR p):=.b
end
noncomputable def dv:List (List Nat×List Nat):=[([73,68],[97,98]),([78,85,77,66,69,82],[49,50]),([45,62],[45,62]),([83,84,82,73,78,71],[34,97,32,98,34]),([67,72,65,82],[39,99,39]),([73,68],[76]),([62,62,61],[62,62,61]),([78,85,77,66,69,82],[48,120,70]),([46,46,46],[46,46,46]),([67,72,65,82],[76,39,120,39]),([35,35],[35,35]),([40],[40]),([83,84,82,73,78,71],[34,92,34,34]),([78,85,77,66,69,82],[49,46,101,43]),([63],[63]),([33,61],[33,61]),([67,72,65,82],[39,92,110,39]),([73,68],[95,57]),([83,84,82,73,78,71],[34,47,42,34]),([43,43],[43,43])]
def adv:bK:=⟨.call (.ref 525) ⟨[],[]⟩,[],λN t=>.fin (rV (.ref (N+21))) (Qi (lC dv (N+1) t)++[(N+21,br (ek (lC dv (N+1) t)) 0)])⟩
theorem Oe:RP 100 2 [nU 0x1000 0x1111111111111111111111 22 40 0] (adv):=.a
noncomputable def mR:List (List Nat):=[[92,10],[92,13],[63,63,47,10]]
def aa0:bK:=⟨.call (.ref 617) ⟨[],[]⟩,[],λN t=>.fin (rV (.ref (N+1))) [(N+1,br [.str ⟨⟨mR.getD 0 []⟩⟩ t,.str ⟨⟨mR.getD 1 []⟩⟩ (t+1),.str ⟨⟨mR.getD 2 []⟩⟩ (t+2)] 0)]⟩
theorem Jy:RP 100 2 [nU 0x1000 0x11 2 3 0] (aa0):=.a
section
def Hv(s:Stmt):Expr:=(sp s).e
def Hw(s:Stmt):List Stmt:=(sp s).o
def Of(s:Stmt):Pos:=(sp s).p
theorem E2:em=.For (Hv em) (dT em) (dy em) (Hw em) (Of em):=by kernel_rfl
theorem Cf:(bJ (dc 17 9)).drop 3=em::(bJ (dc 17 9)).drop 4:=by kernel_rfl
theorem Og:dT em=.Call (.Attribute (cJ (dT em)) (q na) (fg (dT em))) (dz (dT em)) [] (cL (dT em)):=by kernel_rfl
theorem Oh:cJ (dT em)=.Call (.Name (q nO) (BE (Er (cJ (dT em))))) [] [] (cL (cJ (dT em))):=by kernel_rfl
theorem aa1:∃a,(V1).data=.func a/\a.params=gt (dc 17 9):=⟨_,rfl,rfl⟩
theorem Oi:((gt (dc 17 9)).posonlyargs++(gt (dc 17 9)).args).head?=some (kb (gt (dc 17 9))):=by kernel_rfl
theorem Jz:(kb (gt (dc 17 9))).arg=q eG:=by kernel_rfl
theorem R9:(Lr).data=.fields (qf (Lr)):=rfl
theorem Sa:(qf (Lr))[2]?=some (Value.str qg 702):=by kernel_rfl
theorem aa2:(bY w.params).get 373=some (V1):=by kernel_rfl
theorem aa3:(bY w.params).get 372=some (Lr):=by kernel_rfl
theorem aa4(FL:Nat):(el FL).kindOf "super" = some .globalImplicit:=by kernel_rfl
theorem aa5(FL:Nat):(el FL).kindOf "__class__" = some .free:=by kernel_rfl
section
variable{acj:Nat}{bL:Result->bH->bR->Prop}
theorem Sb{a:fD}{S':Nat}{h:Ko}{d:Nat}{Up:List Ch->b7}{cf:Bool}{bN:List Nat}(M:e9 340 a.gn Up){E:b7}(O:jL 340 a.gn Up E){bU:List Ch}{j:List Tk}{er:Option (Option Ch)}(P:fE cf bN 380 [] bU j er):
  lX 400 (q6 (a.su S') h (.str ⟨⟨[]⟩⟩ d)).c (q6 (a.su S') h (.str ⟨⟨[]⟩⟩ d)).tr (q6 (a.su S') h (.str ⟨⟨[]⟩⟩ d)).pre
   (co (a.su S') (gf (i2 (a.su S').CO cf bN Up)) [] bU []) (q6 (a.su S') h (.str ⟨⟨[]⟩⟩ d)).out
   (λb=>fC 1660 zT (kd er (jN (a.su S').CO cf bN) (C3 (a.su S') (gf (i2 (a.su S').CO cf bN (λ_=>E))))) (b.n 1) (PW er (C3 (a.su S') (gf (i2 (a.su S').CO cf bN (λ_=>E))))) j):=by
 have Q:=E2;have m:=Og;have T:=Oh;have U:=λf=>ER a S' h (.str ⟨⟨[]⟩⟩ d) f;have z:∀f,(NM a S' h (.str ⟨⟨[]⟩⟩ d) f).t=(methodCall (cJ (dT em)) (q na) (fg (dT em)) (cL (dT em)) (el h.FL) (.ref f) ((dz (dT em)).length+0) (backTo (cL (dT em)) (starEach (dz (dT em)) (el h.FL))) (backToKw (cL (dT em)) (keywordEach [] (el h.FL)))).bind λv=>.pure (.done (.ret v)):=
  λf=>n7 (dT em) (q na) (el h.FL) f
 obtain⟨fd,B,u⟩:=aa1;have C:∀x,foldedSetIterable (dT em) (el h.FL) x=pure x:=by intro x;rw[m];rfl
 have key:∀(J:Around)(s:Shared)(F:bH)(FG:bR)(r0:bH)(g0:bR),gY 400 J->co (a.su S') (gf (i2 (a.su S').CO cf bN Up)) [] bU [] r0 g0->
   Sat (bY w.params) os s ((dK (a.su S')++[(h.FL,ez (a.su S') h (.str ⟨⟨[]⟩⟩ d) true .none)])++(r0++F)) (g0++FG)->
   PySem.wpAt (model pz (wv w b1 b2)) J (.func (bJ (dc 17 9)) (el h.FL)) (eval (dT em) (el h.FL)) (λv k=>∃b r1 g1,v=.ref (b.n 0)/\
    (λb:L2=>fC 1660 zT (kd er (jN (a.su S').CO cf bN) (C3 (a.su S') (gf (i2 (a.su S').CO cf bN (λ_=>E))))) (b.n 1) (PW er (C3 (a.su S') (gf (i2 (a.su S').CO cf bN (λ_=>E))))) j) b r1 g1/\
    Sat (bY w.params) os k ((λ(_ _:Nat)(b:L2)=>[(h.FL,ez (a.su S') h (.str ⟨⟨[]⟩⟩ d) true .none),(b.n 0,cc (hU b hT ob))]) k.heap.objs.size k.toks b++(r1++F)) (g1++FG)) (λe k=>False) s:=by
  intro A s F FG r0 g0 l V Y;generalize dT em=e at *;refine tY (body:=bJ (dc 17 9)) (S:=S'+642) (cls:=446) (tf:=702) (L:=(dK (a.su S')++[(h.FL,ez (a.su S') h (.str ⟨⟨[]⟩⟩ d) true .none)])++(r0++F)) (G:=g0++FG)
   (L':=λf=>([(f,tT 446 (S'+642) 446)]++dK (a.su S')++[(h.FL,ez (a.su S') h (.str ⟨⟨[]⟩⟩ d) true .none)])++(r0++F)) m T (aa4 h.FL) (aa5 h.FL) (by decide +kernel) rfl (aa2) B (by rw[u];exact Oi) rfl (aa3) (R9) (Sa)
   (gE (p:=U3 h.FL) (kT (el h.FL) (q nO)) (Js h.FL) rfl (l.le (by decide)))
   (gE (p:=U4 h.FL) (kT (el h.FL) (q lV)) (Jt h.FL) rfl (l.le (by decide)))
   ?_ (mO (p:=NL) ?_ (B9) rfl (l.le (by decide))) ?_ ?_ Y
  ·rw[Jz];refine Kn.perm (gE (p:=U5 (a.su S') h (.str ⟨⟨[]⟩⟩ d)) (L:=dK (a.su S')++(r0++F)) (kT (el h.FL) (q eG)) (Ju (a.su S') h (.str ⟨⟨[]⟩⟩ d)) rfl (l.le (by decide))) ?_;exact PT.q [_,_,_] [_] 0xac0ea0a12 0xaa0c0ea12 rfl
  ·unfold NL;rw[<-eh,<-C8]
  ·intro s1 i;have Z:gN 250 (.call (.type iK) ⟨[.ref 446,.ref (S'+642)],[]⟩) [(S'+642,ir a.SD)] bV (λ_ _ b=>(.ok (.ret (.ref (b.n 0))),[(b.n 0,tT 446 (S'+642) 446),(S'+642,ir a.SD)])) (λ_=>bV):=
    bE.mono (bE.o rfl (wm (S'+642) a.SD) (by intro E0 N t _;exact cC (cV [N]))) (by decide)
   refine wpAny_call (dj (Z A s1 ([(a.SD,NG (a.su S')),(h.FL,ez (a.su S') h (.str ⟨⟨[]⟩⟩ d) true .none)]++(r0++F)) (g0++FG) [] [] (l.le (by decide)) ⟨rfl,rfl⟩ i) ?_);rintro r k ⟨b,r1,g1,⟨rfl,rfl⟩,rfl,D⟩;exact⟨b.n 0,rfl,D⟩
  ·intro f s1 i;refine j1 (os:=os) (X:=co (a.su S') (gf (i2 (a.su S').CO cf bN Up)) [] bU []) (X':=λb=>fC 1660 zT (kd er (jN (a.su S').CO cf bN) (C3 (a.su S') (gf (i2 (a.su S').CO cf bN (λ_=>E))))) (b.n 1) (PW er (C3 (a.su S') (gf (i2 (a.su S').CO cf bN (λ_=>E))))) j)
    (out:=λ_ _ b=>(.ok (.ret (.ref (b.n 0))),[(h.FL,ez (a.su S') h (.str ⟨⟨[]⟩⟩ d) true .none),(b.n 0,cc (hU b hT ob))])) (z f) (U f) (λN t=>?_) (F:=F) (FG:=FG) (r0:=r0) (g0:=g0) (l.le (by decide)) V i ?_
   ·refine⟨λb=>fC 1660 zT (kd er (jN (a.su S').CO cf bN) (C3 (a.su S') (gf (i2 (a.su S').CO cf bN (λ_=>E))))) (b.n 1) (PW er (C3 (a.su S') (gf (i2 (a.su S').CO cf bN (λ_=>E))))) j,?_,λN1 t1 y=>⟨rfl,λr0 g0 h=>⟨y,r0,g0,rfl,h,.swap _ _ _,.refl _⟩,λh=>by cases h⟩⟩;exact bE.dX (pre:=[]) (G:=dK (a.su S')++[(N+1,gC 380 (a.su S').S)]) (RT (x:=a.su S') M O P (M0:=N+1) (by decide)) (λr g hh=>⟨_,.refl _,r,by rw[bQ],hh⟩)
   ·rintro k b r1 g1 H I;exact⟨b,r1,g1,rfl,H,I⟩
 have K:=NK (prog:=pz) (w:=wv w b1 b2) (kt:=bY w.params) (os:=os) (room:=400) (c:=.func (bJ (dc 17 9)) (el h.FL)) (tgt:=Hv em) (body:=dy em) (orelse:=Hw em) (ps:=Of em) (rest:=(bJ (dc 17 9)).drop 4)
  (pre:=dK (a.su S')++[(h.FL,ez (a.su S') h (.str ⟨⟨[]⟩⟩ d) true .none)]) (X:=co (a.su S') (gf (i2 (a.su S').CO cf bN Up)) [] bU [])
  (X':=λb:L2=>fC 1660 zT (kd er (jN (a.su S').CO cf bN) (C3 (a.su S') (gf (i2 (a.su S').CO cf bN (λ_=>E))))) (b.n 1) (PW er (C3 (a.su S') (gf (i2 (a.su S').CO cf bN (λ_=>E))))) j)
  (gP:=λ(_ _:Nat)(b:L2)=>[(h.FL,ez (a.su S') h (.str ⟨⟨[]⟩⟩ d) true .none),(b.n 0,cc (hU b hT ob))]) C key
 rw[<-Q,<-Cf]at K;exact K
end
end
section
variable{R room:Nat}{XE:b7}
def wr(a:Bool)(lt:Option Tk):List lr:=if a then(match lt with
 |some k=>[⟨iM,[],[],true,k.at_⟩]
 |none=>[])else[]
def Cg(ts:List Tk):List lr:=dg [] true ts++wr (ga true ts) (ke none ts)
theorem ul:∀(ts:List Tk)(k:Tk),ke (some k) ts≠none
 |[],k,h=>by cases h
 |k'::ts,k,h=>ul ts k' h
theorem Oj:∀(ts:List Tk),ga true ts=false->ke none ts≠none
 |[],h=>by cases h
 |k::ts,h=>ul ts k
def Sc(x:fD)(Up:List Ch->b7):b7:=JX λr g=>∃i,star (gm i) (C3 x Up) r g
def E3(y:tP)(v:Value):L2:=cV [y.a,y.d,y.l.a,y.l.d,y.l.l,y.l.sd,y.l.k1,y.l.k2,y.l.ct,y.l.rt,y.l.lt,y.l.st,y.tt,y.vt] [v]
def lu(er:Option (Option Ch))(ts:List Tk):List lr:=match er with
 |none=>Cg ts
 |some Y=>dg [] true ts
section
variable{acj:Nat}{bL:Result->bH->bR->Prop}
theorem Ci{gh:fJ}{c:Result->bH->bR->Prop}{k:Tk}{ts:List Tk}(f:R%1000+10<=room):
  lF room (jA gh k) (fC R zT c gh.i XE (k::ts)) (λz=>fC R zT c gh.i XE ts):=
 bO.dP (vR (v:=λb=>.ref (b.n 0)) (d:=λb=>yN (iy b) k) (vp) (λa it ⟨y,e,e2⟩=>⟨E3 y .none,e,e2⟩) f) (λz z h=>h) (λz z z h=>h)
theorem Ok{gh:fJ}{O:bH->Prop}(a:R%1000+10<=room):
  lF room (sc gh) (fC R zT (kd none O XE) gh.i XE []) (λz=>star (gm gh.i) XE):=
 s7 (vp) (λr L b h=>h) a
section
variable{x:fD}{h:Ko}{gh:fJ}{Up:List Tk->b7}{E:b7}{ts:List Tk}{σ:List lr}{st:Nat}{kE:Tk}
theorem Ol(f:∀k ts room,670<=room->lF room (jA gh k) (Up (k::ts)) (λz=>Up ts))(i:∀room,670<=room->lF room (sc gh) (Up []) (λz=>E))(l:∀k∈ts,ES k)(m:zj ts<=10000)(b:Nat)(n:b=0/\ga true ts=true/\ke none ts=none\/b=1/\ga true ts=true/\ke none ts=some kE\/b=2/\ga true ts=false):
  jJ 1730 (R5) bL 717 (sb x h gh (.str ⟨⟨[]⟩⟩ st) true .none kE b) (Up ts) (dg [] true ts++σ) (λz=>JX E) σ:=by
 have o:=@zl bL x h gh Up E none (λz=>True) f (λz=>i) (λz q=>nomatch q) σ ts [] st true none l (by simpa using m);refine bG.ej (bG.mono o (by decide)) (λr g s=>⟨r,g,.refl _,.refl _,r,[],by rw[dU];exact .refl _,s⟩) ?_;rintro N t a r0 g ⟨r,rfl,lt',e1,e2,c,j,d,e⟩;simp only[Option.map_none]at e1;rcases n with⟨rfl,f1,f2⟩|⟨rfl,f1,f2⟩|⟨rfl,f1⟩
 ·rw[f2]at e1;refine cm ?_;intro G0;obtain rfl:lt'=none:=by cases lt' with
   |none=>rfl
   |some p=>cases e1
  refine⟨a,r,g,rfl,?_,.refl _,c,j,d,e⟩;show((h.FL,ez x h (a.v 0) (ga true ts) (a.v 1))::(gh.g,cc gh)::r).Perm _;rw[f1,e2];exact .refl _
 ·rw[f2]at e1;obtain⟨p,rfl,rfl⟩:∃p:tP×Tk,lt'=some p/\p.2=kE:=by cases lt' with
   |none=>cases e1
   |some p=>injection e1 with e1;exact⟨p,rfl,e1⟩
  refine⟨E3 p.1 (a.v 0),c++j,g,rfl,?_,.refl _,c,j,.refl _,e⟩;show((h.FL,ez x h (a.v 0) (ga true ts) (a.v 1))::(gh.g,cc gh)::r).Perm _;rw[f1,e2];exact(d.cons _).cons _
 ·have ne:=Oj ts f1;refine cm ?_;intro G0;obtain⟨p,rfl⟩:∃p:tP×Tk,lt'=some p:=by cases lt' with
   |none=>exact absurd e1.symm ne
   |some p=>exact⟨p,rfl⟩
  refine⟨E3 p.1 (a.v 0),r,g,rfl,?_,.refl _,c,wn (some p)++j,?_,e⟩
  ·show((h.FL,ez x h (a.v 0) (ga true ts) (a.v 1))::(gh.g,cc gh)::r).Perm _;rw[f1,e2];exact .refl _
  ·refine d.trans ?_;exact PT.q [_,_,_] [] 0xa0a12 0xa1a02 rfl
end
theorem Hx{b:fD}{S':Nat}{h:Ko}{Up:List Ch->b7}{cf:Bool}{bN:List Nat}(O:e9 340 b.gn Up){E:b7}(u:jL 340 b.gn Up E){bU:List Ch}{ts:List Tk}{er:Option (Option Ch)}(s:fE cf bN 380 [] bU ts er)(ok:∀k∈ts,ES k)(K:zj ts<=10000):
  ∃(ρ:L2->Result)(X':L2->b7),rh 1730 (R5) bL 720 (.func (bJ (dc 17 9)) (el h.FL)) (dK (b.su S')++[(h.FL,po (b.su S') h)])
   (co (b.su S') (gf (i2 (b.su S').CO cf bN Up)) [] bU []) (lu er ts) (λx x a=>(ρ a,[])) X' []/\∀a r g,X' a r g->kd er (jN (b.su S').CO cf bN) (Sc (b.su S') (gf (i2 (b.su S').CO cf bN (λx=>E)))) (ρ a) r g:=by
 have st:=λA z=>@Sb b S' A z Up cf bN O E u bU ts er s;cases er with
 |some B=>
  refine⟨λa=>.error (.ref (a.n 1)),λa r g=>∃f,r=kc a (a.n 2) (a.n 3) (a.n 1) .none++f/\lE (a.n 2) B (jN (b.su S').CO cf bN) f g,?_,λa r g ⟨f,e,C⟩=>⟨a,rfl,f,by rw[e],C⟩⟩;have D:=λ(A:Ko)(gh:fJ)(XE:b7)(z:Nat)=>@zl bL (b.su S') A gh (fC 1660 zT (kd (some B) (jN (b.su S').CO cf bN) XE) gh.i (PW (some B) XE)) XE (some B) (jN (b.su S').CO cf bN) (λk ts room s=>Ci (by exact s)) (λq=>nomatch q) (λP q room s=>by
   injection q with q;subst q;exact Hp (by exact s) (by exact cu (jE _ _) s)) [] ts [] z true none ok (by simpa using K)
  show bG _ _ _ _ _ _ _ _ _ _ _ (dg [] true ts) _ _ _;rw[<-dU (dg [] true ts)];exists bG.o,Cd (b.su S') h;intro G N t _;exists cS,(λv w d y=>st _ _ v w d (y.le (by decide)));intro H I c _ _;refine cR rfl ?_;intro p _;refine cE (X':=λa=>lE (a.n 2) B (jN (b.su S').CO cf bN)) (σ':=[]) rfl (bG.mono (bG.ej (D (h.at_ t) (hU c hT ob) _ t) (λr g Q=>⟨r,g,.refl _,.refl _,r,[],by rw[dU];exact .refl _,Q⟩) (λN z a r g ⟨f,e,C⟩=>⟨a,f,g,rfl,by rw[e];exact .refl _,.refl _,C⟩)) (by decide)) ?_;intro N t a _ _;exists cK,NJ rfl _,0;exact cB rfl rfl (λr0 g0 h=>⟨a,kc a (a.n 2) (a.n 3) (a.n 1) .none++r0,g0,rfl,⟨r0,rfl,h⟩,.refl _,.refl _⟩) (λx=>rfl)
 |none=>
  refine⟨λx=>.ok (.ret .none),λx=>Sc (b.su S') (gf (i2 (b.su S').CO cf bN (λx=>E))),?_,λa r g C=>⟨rfl,C⟩⟩;have D:=λ(A:Ko)(gh:fJ)(XE:b7)(z:Nat)(σ:List lr)(kE:Tk)=>@Ol bL (b.su S') A gh (fC 1660 zT (kd none (jN (b.su S').CO cf bN) XE) gh.i XE) (star (gm gh.i) XE) ts σ z kE (λk ts room s=>Ci (by exact s)) (λroom s=>Ok (by exact s)) ok K;show bG _ _ _ _ _ _ _ _ _ _ _ (Cg ts) _ _ _;cases e1:ga true ts with
  |false=>
   have ea:Cg ts=dg [] true ts++[]:=by unfold Cg wr;rw[e1];rfl
   rw[ea]
   let J:Tk:=⟨[],[],⟨0,0,0,.none⟩⟩;exists bG.o,Cc (b.su S') h J
   intro G N t _;exists cS,(λv w d y=>st _ _ v w d (y.le (by decide)));intro H I c _ _;refine cR rfl ?_;intro p _;refine cE (σ':=[]) rfl (D (h.at_ t) (hU c hT ob) _ t [] _ 2 (.inr (.inr ⟨rfl,e1⟩))) ?_;intro N t a _ _;exact bA a (λr0 g0 ⟨f,j,F,u⟩=>⟨f,j,F,_,u⟩)
  |true=>
   cases e2:ke none ts with
   |none=>
    have ea:Cg ts=dg [] true ts++[]:=by unfold Cg wr;rw[e1,e2];rfl
    rw[ea]
    let J:Tk:=⟨[],[],⟨0,0,0,.none⟩⟩;exists bG.o,Ca (b.su S') h J
    intro G N t _;exists cS,(λv w d y=>st _ _ v w d (y.le (by decide)));intro H I c _ _;refine cR rfl ?_;intro p _;refine cE (σ':=[]) rfl (D (h.at_ t) (hU c hT ob) _ t [] _ 0 (.inl ⟨rfl,e1,e2⟩)) ?_;intro N t a _ _;exact bA a (λr0 g0 ⟨f,j,F,u⟩=>⟨f,j,F,_,u⟩)
   |some kE=>
    have ea:Cg ts=dg [] true ts++[⟨iM,[],[],true,kE.at_⟩]:=by unfold Cg wr;rw[e1,e2];rfl
    rw[ea];exists bG.o,Cb (b.su S') h kE;intro G N t _;exists cS,(λv w d y=>st _ _ v w d (y.le (by decide)));intro H I c _ _;refine cR rfl ?_;intro p _;exists cE,D (h.at_ t) (hU c hT ob) _ t [⟨iM,[],[],true,kE.at_⟩] kE 1 (.inr (.inl ⟨rfl,e1,e2⟩));intro S T m _ _;exists bx,bE.mono ((y3 _ _ _).fr _) (by decide),0;exists cQ,⟨_,_,_,_,_,_,_,_,rfl,rfl⟩,0;refine cB rfl rfl (?_) (λx=>rfl);rintro r0 g0 ⟨r1,rfl,f,j,F,u⟩;refine⟨m,_,g0,rfl,⟨f,[((iy m).l.l,eI (iy m).l kE.at_)]++j,?_,_,u⟩,.refl _,.refl _⟩;refine(F.append_left _).trans ?_;exact PT.q [_,_] [_] 0xac0ea01 0xa0ac0e1 rfl
noncomputable def ql:List Nat:=[67,76,101,120,101,114,46,116,111,107,101,110,105,122,101]
def Cj(x:fD):cX where
 c:=.call (.ref 373) ⟨[.ref x.S,.ref x.gn.g],[]⟩
 pre:=[]
 out _ _ a:=(rV (.ref (a.n 0)),[(a.n 0,cc (hU a hT ql))])
inductive CxX(x:fD)(Up:List Ch->b7)(bU:List Ch)(r:bH)(g:bR):Prop where|mk:∀r',(r.Perm (dK x++r'))->(co x Up [] bU [] r' g)->CxX x Up bU r g
theorem Hy{x:fD}(e:642<=x.S){Up:List Ch->b7}{cf:Bool}{bN:List Nat}(f:e9 340 x.gn Up){E:b7}(i:jL 340 x.gn Up E){bU:List Ch}{ts:List Tk}{er:Option (Option Ch)}(j:fE cf bN 380 [] bU ts er)(l:∀k∈ts,ES k)(m:zj ts<=10000)(a:40<=room:=by decide):
  cN room (Cj x) (CxX x (gf (i2 x.CO cf bN Up)) bU) (λb=>fC 1730 (R5) (kd er (jN x.CO cf bN) (Sc x (gf (i2 x.CO cf bN (λy=>E))))) (b.n 1) (PW er (Sc x (gf (i2 x.CO cf bN (λy=>E))))) (lu er ts)):=by
 have ex:x.su (x.S-642)=x:=by unfold fD.su;cases x;simp only at e ⊢;congr 1;exact Nat.sub_add_cancel e
 refine bE.mono (room:=40) (bE.o rfl (ug x) ?_) a;intro v N t _;intro g;refine cB rfl rfl (?_);rintro r0 g0 ⟨d,⟨p,s,u⟩,rfl⟩;have c:=@Hx (kd er (jN x.CO cf bN) (Sc x (gf (i2 x.CO cf bN (λy=>E))))) x (x.S-642) ⟨N,t,t+1,0,0,0⟩ Up cf bN f E i bU ts er j l m;rw[ex]at c;refine cm ?_;intro G0;obtain⟨ρ,X',c,he⟩:=c;have z:vj 1730 (R5) (kd er (jN x.CO cf bN) (Sc x (gf (i2 x.CO cf bN (λy=>E))))) g (lu er ts) ((dK x++[(N,po x ⟨N,t,t+1,0,0,0⟩)])++p) ((g,.fresh (.func (bJ (dc 17 9)) (el N)))::d):=
  nP.fresh c (by decide) (λN t b r g h=>⟨r,g,he b r g h,.refl _,.refl _⟩) u
 refine⟨cV [N+1,g,t+2,t+3],_,_,rfl,⟨_,_,.refl _,.refl _,.inl z⟩,?_,.refl _⟩;refine(s.append_left _).trans ?_;exact PT.q [_,_] [_,_] 0xac0c1ea01 0xac1eaa0c0e1 rfl
end
end
section
open PySem.Meets
def um(d:Nat)(es a:List DictEntry)(n:Nat)(key:Str)(t:Nat)(v:Value):cX where
 c:=.builtin UA ⟨[.ref d,.str key t,v],[]⟩
 pre:=[(d,cy es n)]
 out _ _ b:=(rV .none,[(d,cy a n)])
section
variable{prog:Program}{w:World}{kt:KT}{os:OsState}{room:Nat}
theorem pr{d n t:Nat}{ks:List (List Nat×Nat×Value)}{c:List DictEntry}{key:Str}{v:Value}{i:Nat}{P:Params}(l:P.strHash=w.params.strHash)(g:ks.all (λk=>!k.1.isEmpty)=true)(o:(⟨c0 P ks⟩:Array DictEntry).findIdx? (λe=>Value.isStrOf key e.key)=some i)(he:((⟨c0 P ks⟩:Array DictEntry).modify i λe=>{ e with val:=v }).toList=c):
  dq prog w kt os room (um d (c0 P ks) c n key t v) bV (λy=>bV):=by
 rintro A s F FG r0 g0 u ⟨rfl,rfl⟩ h;refine g6 (b:=Builtin.«dict.__setitem__») (by rw[<-Bg];exact entryFor_of_tree (by kernel_rfl)) ?_;rw[nG (by rw[<-Bg];decide +kernel)];have m:=mi (prog:=prog) (w:=w) l g h;show wpAny _ A.in1 (Builtin.Dict.notOrdered "__setitem__" ⟨[.ref d,.str key t,v],[]⟩ >>= _) _ _ s;refine bI (wpAny_notOrdered_dict m.typeIs ?_);show wpAny _ _ (dictSet d (.str key t) v >>= _) _ _ s;refine bI ?_;have ho:=h.own (d,cy (c0 P ks) n) (.head _) (p5 _ _);have p:KeysOf (strKind prog w) (⟨c0 P ks⟩:Array DictEntry):=by
  intro e he;have j:e∈c0 P ks:=by simpa using he
  obtain⟨a,q,rfl⟩:=dO.mp j;have r:a.1≠[]:=by have:=f0.mp g a q;simpa using this
  refine⟨⟨⟨a.1⟩⟩,pV ⟨⟨a.1⟩⟩ a.2.1,?_⟩;show hz P a.1=hashStr w ⟨⟨a.1⟩⟩;rw[<-G2 _ _ r];unfold hz;rw[l]
 unfold dictSet;refine ky ?_;refine bI ((strKind prog w).pyHash (k:=key) (pV key t) ?_);unfold dictSetHashed;refine ky ?_;refine bI (wpAny_dictFind_of (knd:=strKind prog w) (s:={ s with toks:=s.toks+1 }) (k:=key) (pV key t) ho rfl p ?_);show wpAny _ _ (match(⟨c0 P ks⟩:Array DictEntry).findIdx? (λe=>Value.isStrOf key e.key)with|some i=>_|none=>_) _ _ _;rw[o];refine bI (oC (bI (wpAny_updateDict (s:={ s with toks:=s.toks+1 }) ho rfl (wpAny_point ?_))));refine ck ?_;have z:=h.turn (f:=Obj.mapDict (·.modify i λe=>{ e with val:=v })) rfl (s.toks+1) (p5 _ _) (by kernel_rfl);refine⟨l1 0,[],[],⟨rfl,rfl⟩,rfl,?_⟩;have e2:Obj.mapDict (·.modify i λe=>{ e with val:=v }) (cy (c0 P ks) n)=cy c n:=by
  rw[<-he];rfl
 rw[e2]at z;exact z
end
end
section
variable{prog:Program}{kt:KT}{acj room:Nat}{bL:Result->bH->bR->Prop}{c:Code}{pre:bH}{E X:b7}{X':L2->b7}{out:Nat->Nat->L2->Result×bH}{l:List (gv×Ch)}{y:fJ}{Up:List Ch->b7}{σ τ:List Ch}
theorem bG.of'{w:World}{os:OsState}{d:Type}{f:d->Value->bH->Prop}{a j:Nat}{σ σ':List d}{ns:List Num}{S:Nat->Nat->hS}{b:Nat}{o:Obj}(e:g8 prog w kt a c (.fQ (fp c)) room j pre ns S)(g:kt.get b=some o)(H:∀N t,b<N->Holds prog w kt os acj f bL ⟨true,out,X',σ'⟩ ((S N t).res ns N t) X σ):
  bG prog w kt os acj f bL room c pre X σ out X' σ':=bG.VW e λN t h=>H N t (h b o g)
theorem bG.frame{w:World}{os:OsState}{L:bH}{g:Type}{i:g->Value->bH->Prop}{σ σ':List g}(h:bG prog w kt os acj i bL room c pre X σ out X' σ'):bG prog w kt os acj i bL room c (pre++L) X σ (λN t a=>((out N t a).1,(out N t a).2++L)) X' σ':=by
 intro fs rr gg j b CT A s F FG r0 g0 d k e;refine h fs (L++rr) gg j b ?_ A s F FG r0 g0 d k (Sat.perm e ?_)
 ·intro A s F FG a r1 g1 m d f e;refine CT A s F FG a r1 g1 m d f (Sat.perm e ?_);rw[bQ,bQ];exact fZ _ (ve _ _ _)
 ·rw[bQ,bQ];exact fZ _ (ve _ _ _)
theorem XS:(bY w.params).get 641=some (V2):=by kernel_rfl
noncomputable def jp:List Nat:=[10,12,13,32,33,34,35,39,40,42,43,45,46,47,48,49,50,56,57,59,61,62]
noncomputable def sj:List Nat:=[61,40,41,60,62,45,33,47,39]
def Om(x y c:Ch)(f:List Ch->Option (List Ch)):Option (List Ch):=
 if x.code=63 then
  (if y.code=63 then(if c.code=47 then(f []).map (x.as 92::·)else if c.code∈sj then none else(f [y,c]).map (x::·))
   else if y.code∈[10,32,47]\/64<=y.code then(f [y,c]).map (x::·)else none)
  else if x.code∈jp\/64<=x.code then(f [y,c]).map (x::·)else none
def cf:List Ch->List Ch->Option (List Ch)|[x,y],[]=>some [x,y]|Y,[]=>none|[],c::cs=>cf [c] cs|[x],c::cs=>cf [x,c] cs|[x,y],c::cs=>Om x y c λs=>cf s cs|Y,V::U=>none
theorem On(x y c:Ch)(cs:List Ch):cf [x,y] (c::cs)=Om x y c λs=>cf s cs:=rfl
section
theorem Sd{t c:Nat}(h:c∉sj):(strAt (n0 t) ⟨⟨[c]⟩⟩).isSome=false:=by
 simp only[sj,c4,pQ,oD,not_or]at h;unfold strAt n0;obtain⟨a,b,d,e,f,g,i,j,k⟩:=h;simp[iT a,iT b,iT d,iT e,iT f,iT g,iT i,iT j,iT k]
theorem Hz(t:Nat):strAt (n0 t) ⟨⟨[47]⟩⟩=some (.str ⟨⟨[92]⟩⟩ (t+15)):=by
 rfl
def tlK(x:MB)(a:Value):Nat->List DictEntry|1=>[]|Y=>[eW lU x.k5 a]
theorem zq(y:fJ)(x:MB)(a b:Value)(k:Nat)(d:k=1\/k=2):DT y x a b k=o8 y x a (tlK x b k) (k+3):=by
 rcases d with rfl|rfl<;>rfl
def XT(Up:List Ch->b7)(E:b7)(y:fJ)(k:Nat)(s σ:List Ch)(e:Nat)(f g:Ch)(d:List Ch):Prop:=
 ∀(acj:Nat)(bL:Result->bH->bR->Prop)(x:MB)(ch h:Value)(n t:Nat)(l:List (gv×Ch))(b:List Ch),(x.TM==sysModules)=false->l.map (·.2)=s->
  jJ acj (qR w.params) bL 240 (rW x y (DT y x ch h k) (l.map λp=>.ref p.1.a) n (c0 w.params (n0 t)) (l.flatMap λp=>dJ p.1 p.2) e f g) (Up σ) (d++b) (λz=>E) b
inductive Oo(Up:List Ch->b7)(E:b7)(y:fJ)(k:Nat)(s σ τ:List Ch):Prop where|mk:∀fk e0 e1 τ',(fk=1\/fk=2)->τ=τ'++[e0,e1]->XT Up E y k s σ fk e0 e1 τ'->Oo Up E y k s σ τ
theorem Ck{c:Ch}(h:l.map (·.2)=[c]):∃a,l=[(a,c)]:=by
 refine cm ?_;intro G0;cases l with
 |nil=>cases h
 |cons p l=>cases l with
  |nil=>injection h with b _;subst b;exact⟨p.1,rfl⟩
  |cons q l=>injection h with _ h;cases h
theorem mn{c d:Ch}(h:l.map (·.2)=[c,d]):∃a b,l=[(a,c),(b,d)]:=by
 cases l with
 |nil=>cases h
 |cons p l=>
  injection h with e h;subst e;obtain⟨b,rfl⟩:=Ck h;exact⟨p.1,b,rfl⟩
theorem aa6(A B G:Nat×Obj)(C:bH):(A::B::G::C).Perm (G::B::(C++[A])):=
 (fu (l₁:=[A])).trans (.swap _ _ _)
theorem zr(t:Nat):(n0 t).all (λk=>!k.1.isEmpty)=true:=rfl
theorem kX{y:fJ}{Up:List Ch->b7}(P:e9 230 y Up){E:b7}(V:jL 230 y Up E):∀(σ s τ:List Ch)(k:Nat),cf s σ=some τ->(k=1\/k=2)->(s=[]->k=2)->Oo Up E y k s σ τ
 |[],s,τ,k,h,K,hs=>by
  obtain⟨i,m,rfl⟩:∃i m,s=[i,m]:=by
   rcases s with _|⟨i,_|⟨m,_|⟨c2,s⟩⟩⟩
   ·cases h
   ·cases h
   ·exact⟨i,m,rfl⟩
   ·refine cm ?_;intro G0;cases h
  injection h with h;subst h;refine⟨k,i,m,[],K,rfl,?_⟩;intro acj bL x ch F n t l q8 f O;obtain⟨u,A,rfl⟩:=mn O;have z:rh acj (qR w.params) bL 240 (yJ x.FL y.g) [(x.FL,DT y x ch F k),(y.g,cc y)] (Up []) q8 (λX X e=>(.ok .next,[(x.FL,DT y x ch F k),(y.g,cc y)])) (λX=>E) q8:=by
   exists bG.o,DV y x (DT y x ch F k);intro E0 N t _;exists bx,V _ (by decide);intro N t e _ _;exact bA e
  have z2:=(z.frame (L:=(x.B,br [.ref u.a,.ref A.a] n)::(dJ u i++dJ A m))).lose (L:=[(x.TM,cy (c0 w.params (n0 t)) 9)]);refine z2.ej (λr g h=>⟨r,g,?_,.refl _,h⟩) (λN t e r g h=>⟨cV [n,x.k4,x.k5,u.a,u.d,u.l,u.sd,u.k1,u.k2,u.ct,u.rt,u.lt,u.st,A.a,A.d,A.l,A.sd,A.k1,A.k2,A.ct,A.rt,A.lt,A.st] [ch,F],r,g,rfl,?_,.refl _,h⟩)
  ·refine Ge r ?_;refine kx _ ?_;exact aa6 _ _ _ _
  ·refine Ge r ?_;exact kx _ (.swap _ _ _)
 |c::cs,[],τ,k,h,K,hs=>by
  obtain rfl:=hs rfl;obtain⟨G,H,e1,C,D,rfl,Q⟩:=kX P V cs [c] τ 2 h K (λq=>by cases q);refine⟨G,H,e1,C,D,rfl,?_⟩;intro acj bL x ch F n t l q8 f O;have ab:l=[]:=by cases l with|nil=>rfl|cons p l=>cases O
  subst ab;exists bG.o,ME y x (c0 w.params (n0 t)) n ch F c G H e1;intro E0 N R _;exists bx,P.next c cs _ (by decide);intro N1 R b _ _;exists bz,bX,0;exists bz,ji,0;refine cE (σ':=q8) rfl (Q acj bL x _ F _ t [(e8 b,c)] q8 f rfl) ?_;intro N t e _ _;exact bA e
 |c::cs,[i],τ,k,h,K,hs=>by
  obtain⟨G,H,e1,C,D,rfl,Q⟩:=kX P V cs [i,c] τ k h K (λq=>by cases q);refine⟨G,H,e1,C,D,rfl,?_⟩;intro acj bL x ch F n t l q8 f O;obtain⟨u,rfl⟩:=Ck O;have j:=λv n a=>Q acj bL x v F n t [(u,i),(a,c)] q8 f rfl;simp only[zq _ _ _ _ _ K]at j ⊢;exists bG.o,QJ y x (c0 w.params (n0 t)) n ch _ _ u i c G H e1;intro E0 N R _;exists bx,P.next c cs _ (by decide);intro N1 R b _ _;exists bz,bX,0;exists bz,ji,0;refine cE (σ':=q8) rfl (j _ _ (e8 b)) ?_;intro N t e _ _;exact bA e
 |c::cs,[i,m],τ,k,h,K,hs=>by
  rw[On,Om]at h;by_cases h0:i.code=63
  ·rw[bP h0]at h;have W:i=i.as 63:=by rw[<-h0];rfl
   by_cases h1:m.code=63
   ·rw[bP h1]at h;have Y:m=m.as 63:=by rw[<-h1];rfl
    by_cases h2:c.code=47
    ·rw[bP h2]at h;have ac:c=c.as 47:=by rw[<-h2];rfl
     obtain⟨M,Z,rfl⟩:=pO.mp h;obtain⟨G,H,e1,C,D,rfl,Q⟩:=kX P V cs [] M 2 Z (.inr rfl) (λX=>rfl);refine⟨G,H,e1,i.as 92::C,D,rfl,?_⟩;intro acj bL x ch F n t l q8 f O;obtain⟨u,A,rfl⟩:=mn O;rw[W,Y];exists bG.o,QN y x (c0 w.params (n0 t)) n K ch F u A i m c (t+15) G H e1;intro E0 N R _;exists bx,(show cN 237 (kJ y (c.as 47)) (Up (c::cs)) (λX=>Up cs)by rw[<-ac];exact P.next c cs _ (by decide));intro N1 R b _ _;exists bz,bX,0;exists bz,ji,0;exists bz,o7 rfl (zr t) f (by rw[Hz];rfl),0;exists bz,g9,0;exists bz,g9,0;exists bz,g9,0;exists bz,kK rfl (zr t) (Hz t),0;refine cQ (σ':=_) rfl (⟨_,rfl,rfl⟩) ?_;intro N U _ _;refine cE (σ':=q8) rfl (Q acj bL _ _ _ _ t [] q8 (by rcases K with rfl|rfl<;>exact f) rfl) ?_;intro N t e _ _;exact bA e
    ·rw[bu h2]at h;by_cases T:c.code∈sj
     ·rw[bP T]at h;cases h
     ·rw[bu T]at h;obtain⟨M,Z,rfl⟩:=pO.mp h;obtain⟨G,H,e1,C,D,rfl,Q⟩:=kX P V cs [m,c] M k Z K (λq=>by cases q);refine⟨G,H,e1,i::C,D,rfl,?_⟩;intro acj bL x ch F n t l q8 f O;obtain⟨u,A,rfl⟩:=mn O;have j:=λv n a=>Q acj bL x v F n t [(A,m),(a,c)] q8 f rfl;simp only[zq _ _ _ _ _ K]at j ⊢;rw[W,Y];rw[Y]at j;exists bG.o,QM y x (c0 w.params (n0 t)) n ch _ _ u A i m c G H e1;intro E0 N R _;exists bx,P.next c cs _ (by decide);intro N1 R b _ _;exists bz,bX,0;exists bz,ji,0;exists bz,o7 rfl (zr t) f (Sd T),0;exists bz,g9,0;refine cQ (σ':=_) rfl (⟨_,rfl,rfl⟩) ?_;intro N U _ _;refine cE (σ':=q8) rfl (j _ _ (e8 b)) ?_;intro N t e _ _;exact bA e
   ·rw[bu h1]at h;by_cases T:m.code∈[10,32,47]\/64<=m.code
    ·rw[bP T]at h;obtain⟨M,Z,rfl⟩:=pO.mp h;obtain⟨G,H,e1,C,D,rfl,Q⟩:=kX P V cs [m,c] M k Z K (λq=>by cases q);refine⟨G,H,e1,i::C,D,rfl,?_⟩;intro acj bL x ch F n t l q8 f O;obtain⟨u,A,rfl⟩:=mn O;have j:=λv n a=>Q acj bL x v F n t [(A,m),(a,c)] q8 f rfl;simp only[zq _ _ _ _ _ K]at j ⊢;rw[W];exists bG.o,QL y x (c0 w.params (n0 t)) n ch _ _ u A i m c G H e1 m.code T;intro E0 N R _;exists bx,P.next c cs _ (by decide);intro N1 R b _ _;exists bz,bX,0;exists bz,ji,0;exists bz,g9,0;refine cQ (σ':=_) rfl (⟨_,rfl,rfl⟩) ?_;intro N U _ _;refine cE (σ':=q8) rfl (j _ _ (e8 b)) ?_;intro N t e _ _;exact bA e
    ·rw[bu T]at h;cases h
  ·rw[bu h0]at h;by_cases T:i.code∈jp\/64<=i.code
   ·rw[bP T]at h;obtain⟨M,Z,rfl⟩:=pO.mp h;refine cm ?_;intro G0;obtain⟨G,H,e1,C,D,rfl,Q⟩:=kX P V cs [m,c] M k Z K (λq=>by cases q);refine⟨G,H,e1,i::C,D,rfl,?_⟩;intro acj bL x ch F n t l q8 f O;obtain⟨u,A,rfl⟩:=mn O;have j:=λv n a=>Q acj bL x v F n t [(A,m),(a,c)] q8 f rfl;simp only[zq _ _ _ _ _ K]at j ⊢;exists bG.o,QK y x (c0 w.params (n0 t)) n ch _ _ u A i m c G H e1 i.code T;intro E0 N R _;exists bx,P.next c cs _ (by decide);intro N1 R b _ _;exists bz,bX,0;exists bz,ji,0;exists bz,g9,0;refine cQ (σ':=_) rfl (⟨_,rfl,rfl⟩) ?_;intro N U _ _;refine cE (σ':=q8) rfl (j _ _ (e8 b)) ?_;intro N t e _ _;exact bA e
   ·rw[bu T]at h;cases h
 |c::cs,i::m::c2::s,τ,k,h,K,hs=>by
  ·cases h
  all_goals (intros;simp_all)
theorem Op(j:e9 230 y Up)(r:jL 230 y Up E)(h:cf [] σ=some τ):
  ∃b d e1 a,(b=1\/b=2)/\τ=a++[d,e1]/\∀(acj:Nat)(bL:Result->bH->bR->Prop)(x:MB)(n t:Nat)(q8:List Ch),(x.TM==sysModules)=false->
  jJ acj (qR w.params) bL 240 (rW x y (G3 y x) [] n (c0 w.params (n0 t)) [] b d e1) (Up σ) (a++q8) (λl=>E) q8:=by
 refine cm ?_;intro G0;cases σ with
 |nil=>cases h
 |cons c cs=>
  obtain⟨b,d,e1,a,f,rfl,s⟩:=kX j r cs [c] τ 1 h (.inl rfl) (λq=>by cases q);refine⟨b,d,e1,a,f,rfl,?_⟩;intro acj bL x n t q8 g;exists bG.o,MD y x (c0 w.params (n0 t)) n c b d e1;intro u N k _;exists bx,j.next c cs _ (by decide);intro v k e _ _;exists bz,bX,0;exists bz,ji,0;refine cE (σ':=q8) rfl (s acj bL { x with k4:=k } _ .none _ t [(e8 e,c)] q8 g rfl) ?_;intro N t i _ _;exact bA i
theorem Cm(m:e9 230 y Up)(n:jL 230 y Up E){FL k1:Nat}(h:cf [] σ=some τ):
  rh acj (qR w.params) bL 250 (.func (bJ (dH 14)) (Bh FL)) [(FL,G5 y k1),(y.g,cc y)] (Up σ) τ (λl l a=>(.ok (.ret .none),[(y.g,cc y)])) (λl=>E) []:=by
 refine cm ?_;intro G0;obtain⟨r,b,e1,o,d,rfl,q⟩:=Op m n h;refine bG.of' (DW y FL k1 d b e1) (XS) λf t s p=>?_;have e:(f==sysModules)=false:=by
  unfold sysModules;simp;omega
 refine⟨_,[b,e1],(q _ _ (trX FL f k1 t 0 0) 0 t [b,e1] e).mono (by decide),λu v i p=>⟨_,(b6 rfl).fr _,λx z j=>⟨_,_,rfl,⟨_,rfl,rfl⟩,λA B=>⟨_,(b6 rfl).fr _,λC D k=>⟨_,_,rfl,⟨_,rfl,rfl⟩,λF G=>⟨_,(cA rfl).fr _,λN t a=>⟨rfl,λr0 g0 h=>⟨a,r0,g0,rfl,h,.refl _,.refl _⟩,λl=>rfl⟩⟩⟩⟩⟩⟩⟩
noncomputable def zt:List Nat:=[116,114,105,103,114,97,112,104,95,102,105,108,116,101,114]
def U9(y:fJ):cX where
 c:=.call (.ref 321) ⟨[.ref y.g],[]⟩
 pre:=[(y.g,cc y)]
 out _ _ a:=(rV (.ref (a.n 0)),[((a.n 0),cc (iJ a zt))])
theorem JA(d:e9 230 y Up)(e:jL 230 y Up E)(f:cf [] σ=some τ)(i:40<=room):
  cN room (U9 y) (Up σ) (λa=>fC 260 (qR w.params) (ie (Bw y E)) (a.n 1) (Bw y E) τ):=by
 refine bE.mono (bE.o rfl (DX y) ?_) i;intro k N t _;intro g;refine cB rfl rfl (?_);rintro r0 g0 ⟨b,j,rfl⟩;have z:vj 260 (qR w.params) (ie (Bw y E)) g τ ([(N,G5 y t),(y.g,cc y)]++r0) ((g,.fresh (.func (bJ (dH 14)) (Bh N)))::b):=
  nP.fresh (Cm d e f) (by decide) (λN t a r g h=>⟨_,g,⟨rfl,r,rfl,h⟩,.refl _,.refl _⟩) j
 refine⟨cV [N+1,g,t+1,t+2],_,_,rfl,⟨_,_,.refl _,.refl _,.inl z⟩,?_,.refl _⟩;exact .swap _ _ _
end
end
section
variable(FL:Nat)(x:fD)(S:Nat)(y:pl)(CO d:Nat)(k vt:Nat)
def gF:Env:=⟨mI (dc 17 6),FL,3,[(q lV,339)],q (uS 0x434c657865722e5f5f696e69745f5f2e3c6c6f63616c733e2e),some 351,.ref 350,some FL,0⟩
def vw(CO:Nat):Obj:=cD [eW eG k (.ref S),eW Gp (k+1) (.ref CO)] 2
def Va:eT:=⟨MX (gF FL) (q nO),[],λN t=>.fin (rV (.type iK)) []⟩
theorem JB:lD 100 [nU 0x100 0 0 0 0] (Va FL):=
 eH.b
def Vb:eT:=⟨MX (gF FL) (q lV),[],λN t=>.fin (rV (.ref 446)) []⟩
theorem JC:lD 100 [AJ] (Vb FL):=
 eH.b
def Vc(CO:Nat):eT:=⟨MX (gF FL) (q eG),[(FL,vw S k CO)],λN t=>.fin (rV (.ref S)) [(FL,vw S k CO)]⟩
theorem JD CO:lD 100 [Gz] (Vc FL S k CO):=
 eH.b
def iN:Stmt:=b9 (dc 17 6) 0
def Oq(k1 k2 k3 a b c:Nat):Obj:=cy [eW Gn k1 (.ref a),eW Go k2 (.ref b),eW oP k3 (.ref c)] 3
def Ot(S' d k CO a:Nat):eO:=⟨.func (bJ (dc 17 6)) (gF FL),ph (cW iN) (q ew) (gF FL) a,[(a,tT 446 (S'+642) 446),(S'+642,ir d),(d,cy [] 0),(FL,vw (S'+642) k CO)],λN t=>.fin (rV .none) [(S'+642,ir d),(d,Oq (t+3) (t+5) (t+7) (N+2) (N+3) (N+4)),(FL,vw (S'+642) k CO),(N+2,br [] 0),(N+3,br [] 0),(N+4,br [] 0)]⟩
theorem E4 S' d k CO a:iq 200 [nU 0x133302000002020020000002633302000002020020000002633302000002020020000002600660250050000000011101011 0x1333111 5 8 0] (Ot FL S' d k CO a):=
 c6.b
def HA(CO:Nat)(a:L2):bH:=[(S,ir d),(d,Oq (a.n 3) (a.n 4) (a.n 5) (a.n 0) (a.n 1) (a.n 2)),(FL,vw S k CO),(a.n 0,br [] 0),(a.n 1,br [] 0),(a.n 2,br [] 0)]
def aa7(CO:Nat):vf where
 c:=.func (bJ (dc 17 6)) (gF FL)
 tr:=cg (dZ (.func (bJ (dc 17 6)) (gF FL)))
 pre:=[(S,ir d),(d,cy [] 0),(FL,vw S k CO)]
 out _ _ a:=(cg (dZ (.func ((bJ (dc 17 6)).drop 1) (gF FL))),HA FL S d k CO a)
def aa8:bK:=⟨.call (.ref 446) ⟨[.ref CO],[]⟩,[],λN t=>.step (aa7 (N+2) (N+1) N t CO) λc b a=>.fin (rV (.ref (N+1))) [(N+1,ir N),(N,cy [eW Gn (a.n 3) (.ref (a.n 0)),eW Go (a.n 4) (.ref (a.n 1)),eW oP (a.n 5) (.ref (a.n 2)),eW Gp (b+1) (.ref CO)] 4),(a.n 0,br [] 0),(a.n 1,br [] 0),(a.n 2,br [] 0)]⟩
theorem JE:RP 300 0 [nU 0x1003333020000202000000000000000000000000000000 0x1001 3 2 287,nU 0x12220100000101001000000133 0x111100 0 2 0] (aa8 CO):=.a
def XU(fs:List Nat)(ft:Nat):bK:=⟨.call (.ref 303) ⟨[.str ⟨⟨fs⟩⟩ ft],[]⟩,[],λN t=>.fin (rV (.ref (N+1))) [(N+1,ZN N),(N,ZO (t+3) (t+6) (.str ⟨⟨fs⟩⟩ ft) 1 (t+4))]⟩
theorem E5 fs ft:RP 300 0 [nU 0x111102000202002000023111020002020020000233003333020000202000000000000000000000000000000 0x101 3 7 0] (XU fs ft):=.a
def aa9:bK:=⟨.call (.ref 514) ⟨[],[]⟩,[],λN t=>.fin (rV (.ref (N+1))) (i1 (N+1) ⟨N,N+3,N+4,N+5,N+6,t+2,t+4,t+6,t+8,t+9,t+14,t+21,t+26,t+15⟩ false [99,57,57])⟩
theorem JF:RP 300 0 [nU 0x1444400404044b1022000200002b00bbbb0201200002000200023444400404044a1022000200002a00aaaa0201200002000200023444400404044910220002000029900999999020120000200020002344440040404481022000200002800888802012000020002000231110200020200200002311102000202002000023111020002020020000231110200020200200002300330200002020000000000000000000000000 0x1101 11 31 0] (aa9):=.b
noncomputable def pl.bN:pl:={ y with vt:=vt }
def aba(y:pl)(cf:Bool)(bN a:List Nat)(kt vt:Nat):bK:=⟨.call (.ref 497) ⟨[.ref CO,.str ⟨⟨[115,116,100]⟩⟩ kt,.str ⟨⟨a⟩⟩ vt],[]⟩,i1 CO y cf bN,λN t=>.con (um y.s (c0 w.params (ii y cf bN)) (c0 w.params (ii (y.bN vt) cf a)) 4 ⟨⟨[115,116,100]⟩⟩ kt (.str ⟨⟨a⟩⟩ vt)) λz z z=>.fin (rV .none) (i1 CO (y.bN vt) cf a)⟩
theorem JG y cf bN new kt vt:RP 200 2 [nU 0x1130334201100010000144004444440 0x12 1 4 197,nU 0 0x1011 0 0 0] (aba CO y cf bN new kt vt):=.a
def adx(y:pl)(cf:Bool)(bN:List Nat)(kt:Nat):bK:=⟨.call (.ref 483) ⟨[.ref CO,.str ⟨⟨[116,114,105,103,114,97,112,104,115]⟩⟩ kt],[]⟩,i1 CO y cf bN,λN t=>.con (um y.s (c0 w.params (ii y cf bN)) (c0 w.params (ii y true bN)) 4 ⟨⟨[116,114,105,103,114,97,112,104,115]⟩⟩ kt (.bool true)) λz z z=>.fin (rV .none) (i1 CO y true bN)⟩
theorem Ou y cf bN kt:RP 200 2 [nU 0x1130334201100010000140044440 0x12 1 3 197,nU 0 0x1011 0 0 0] (adx CO y cf bN kt):=.a
def Ov:bH:=dK x++[(x.TB,br [] 0),(x.PB,br [] 0),(x.CT,br [] 0)]
def abb(y:pl)(cf:Bool)(bN:List Nat)(kt:Nat):cX where
 c:=.call (.ref 504) ⟨[.ref CO,.str ⟨⟨[116,114,105,103,114,97,112,104,115]⟩⟩ kt],[]⟩
 pre:=i1 CO y cf bN
 out _ _ _:=(rV (.bool cf),i1 CO y cf bN)
noncomputable def fD.wg(g:fJ):fD:={ x with gn:=g }
def ady(y:yy)(fn:Value)(row:Int)(rt:Nat)(op:pl)(bN:List Nat):bK:=⟨.call (.ref 358) ⟨[.ref x.S,.ref y.f,.ref y.sf],[]⟩,Ov x++fX y fn row rt++i1 x.CO op false bN,λN t=>.con (GX w.params y fn row rt) λe c l1=>.con (abb x.CO op false bN (c+2)) λz z l2=>.con (MV (iJ l1 jK)) λz z a=>
  .con ((Cj (x.wg (iJ a yM))).give (Ov x++i1 x.CO op false bN++[(a.n 0,cc (iJ a yM))])) λz z b=>.fin (rV (.ref (b.n 0))) [(b.n 0,cc (hU b hT ql))]⟩
theorem Ow y fn row rt op bN:RP 760 2 [nU 0x110bb000bbbbbb0 0x155 1 3 757,LY,nU 0x110a00 0x13 0 0 757,LZ,nU 0 0x10 0 0 0] (ady x y fn row rt op bN):=.a
def adz(y:yy)(fn:Value)(row:Int)(rt:Nat)(op:pl)(bN:List Nat):bK:=⟨.call (.ref 358) ⟨[.ref x.S,.ref y.f,.ref y.sf],[]⟩,Ov x++fX y fn row rt++i1 x.CO op true bN,λN t=>.con (GX w.params y fn row rt) λg c l1=>.con (abb x.CO op true bN (c+2)) λz z l2=>.con (U9 (iJ l1 jK)) λz z e=>.con (MV (iJ e zt)) λz z a=>
  .con ((Cj (x.wg (iJ a yM))).give (Ov x++i1 x.CO op true bN++[(a.n 0,cc (iJ a yM))])) λz z b=>.fin (rV (.ref (b.n 0))) [(b.n 0,cc (hU b hT ql))]⟩
theorem Ox y fn row rt op bN:RP 760 2 [nU 0x110bb000bbbbbb0 0x155 1 3 757,LY,nU 0x110a00 0x13 0 0 757,nU 0x110a0aa 0x10 0 1 757,LZ,nU 0 0x10 0 0 0] (adz x y fn row rt op bN):=.a
def adA(s:PySem.Str)(c:Nat):bK:=⟨.call (.ref 365) ⟨[.ref x.S,.str s c],[]⟩,Ov x,λN t=>.con (UE s c) λe a l1=>.con ((GX w.params ⟨l1.n 0,e+1,e,0,0,0,0,0,a+5,a+8⟩ .none 1 (a+6)).give [(l1.n 0,cc (iJ l1 rj))]) λz z l2=>
  .con ((Cj (x.wg (iJ l2 jK))).give (Ov x++[(l2.n 0,cc (iJ l2 jK))])) λz z b=>.fin (rV (.ref (b.n 0))) [(b.n 0,cc (hU b hT ql))]⟩
theorem Oy s st:RP 760 2 [nU 0x110600066660 0 1 2 757,nU 0x110770778880900090900900009a8880900090900900009aa00aaaa020000909000000000000000000000000000000000707777 0x1078 3 10 757,nU 0x1107320000200000200000277777 0x1011111 0 2 757,nU 0 0x10 0 0 0] (adA x s st):=.a
end
section
variable{CO:Nat}
noncomputable def gn0:fJ:=⟨0,0,0,⟨⟨[]⟩⟩,0,⟨⟨[]⟩⟩⟩
theorem JH:iN=.Expr (cW iN) (rY iN):=by kernel_rfl
theorem Oz:cW iN=.Call (.Attribute (cJ (cW iN)) (q ew) (fg (cW iN))) (dz (cW iN)) [] (cL (cW iN)):=by kernel_rfl
theorem OA:cJ (cW iN)=.Call (.Name (q nO) (BE (Er (cJ (cW iN))))) [] [] (cL (cJ (cW iN))):=by kernel_rfl
theorem abc:∃a,(V0).data=.func a/\a.params=gt (dc 17 6):=⟨_,rfl,rfl⟩
theorem OB:((gt (dc 17 6)).posonlyargs++(gt (dc 17 6)).args).head?=some (kb (gt (dc 17 6))):=by kernel_rfl
theorem JI:(kb (gt (dc 17 6))).arg=q eG:=by kernel_rfl
theorem Se:(Lp).data=.fields (qf (Lp)):=rfl
theorem Sf:(qf (Lp))[2]?=some (Value.str qg 671):=by kernel_rfl
theorem abd:(bY w.params).get 351=some (V0):=by kernel_rfl
theorem abe:(bY w.params).get 350=some (Lp):=by kernel_rfl
theorem abf(FL:Nat):(gF FL).kindOf "super" = some .globalImplicit:=by kernel_rfl
theorem abg(FL:Nat):(gF FL).kindOf "__class__" = some .free:=by kernel_rfl
theorem OC:bJ (dc 17 6)=iN::(bJ (dc 17 6)).drop 1:=by kernel_rfl
section
variable{room:Nat}
theorem Sg{FL S' d k:Nat}{A:Around}{s:Shared}{L:bH}{G:bR}(g:gY 250 A)(z:Sat (bY w.params) os s ([(S'+642,ir d),(d,cy [] 0),(FL,vw (S'+642) k CO)]++L) G):
  PySem.wpAt (model pz (wv w b1 b2)) A (.func (bJ (dc 17 6)) (gF FL)) (exec iN (gF FL))
   (λf j=>f=.next/\∃a,Sat (bY w.params) os j (HA FL (S'+642) d k CO a++L) G) (λe j=>False) s:=by
 have B:=JH;have y:=Oz;have C:=OA;have D:=λb=>E4 FL S' d k CO b;have l:∀b,(Ot FL S' d k CO b).t=(methodCall (cJ (cW iN)) (q ew) (fg (cW iN)) (cL (cW iN)) (gF FL) (.ref b) ((dz (cW iN)).length+0) (backTo (cL (cW iN)) (starEach (dz (cW iN)) (gF FL))) (backToKw (cL (cW iN)) (keywordEach [] (gF FL)))).bind λv=>.pure (.done (.ret v)):=
  λb=>n7 (cW iN) (q ew) (gF FL) b
 obtain⟨H,m,i⟩:=abc;rw[B];generalize cW iN=e at *;generalize rY iN=I at *;refine ks_wpAt_Expr_any ?_ rfl (by rw[y];rfl);refine tY (body:=bJ (dc 17 6)) (S:=S'+642) (cls:=446) (tf:=671) (L':=λb=>[(b,tT 446 (S'+642) 446),(S'+642,ir d),(d,cy [] 0),(FL,vw (S'+642) k CO)]++L) y C (abf FL) (abg FL) (by decide +kernel) rfl (abd) m (by rw[i];exact OB) rfl (abe) (Se) (Sf)
  (gE (p:=Va FL) (kT (gF FL) (q nO)) (JB FL) rfl (g.le (by decide)))
  (gE (p:=Vb FL) (kT (gF FL) (q lV)) (JC FL) rfl (g.le (by decide)))
  ?_ (mO (p:=NL) ?_ (B9) rfl (g.le (by decide))) ?_ ?_ z
 ·rw[JI];refine Kn.perm (gE (p:=Vc FL (S'+642) k CO) (L:=[(S'+642,ir d),(d,cy [] 0)]++L) (kT (gF FL) (q eG)) (JD FL (S'+642) k CO) rfl (g.le (by decide))) ?_;exact((gM _ _ _).trans ((gM _ _ _).cons _))
 ·unfold NL;rw[<-eh,<-C8]
 ·intro s1 c;have E:gN 250 (.call (.type iK) ⟨[.ref 446,.ref (S'+642)],[]⟩) [(S'+642,ir d)] bV (λZ Z a=>(.ok (.ret (.ref (a.n 0))),[(a.n 0,tT 446 (S'+642) 446),(S'+642,ir d)])) (λZ=>bV):=
   bE.mono (bE.o rfl (wm (S'+642) d) (by intro J N t _;exact cC (cV [N]))) (by decide)
  refine wpAny_call (dj (E A s1 ([(d,cy [] 0),(FL,vw (S'+642) k CO)]++L) G [] [] g ⟨rfl,rfl⟩ c) ?_);rintro r j ⟨a,r1,g1,⟨rfl,rfl⟩,rfl,u⟩;exact⟨a.n 0,rfl,u⟩
 ·intro b s1 c;refine j1 (os:=os) (X:=bV) (X':=λZ=>bV) (out:=λZ Z a=>(.ok (.ret .none),HA FL (S'+642) d k CO a)) (l b) (D b) (λN t=>?_) (F:=L) (FG:=G) (r0:=[]) (g0:=[]) (g.le (by decide)) ⟨rfl,rfl⟩ c ?_
  ·exact⟨rfl,λr0 g0 h=>⟨cV [N+2,N+3,N+4,t+3,t+5,t+7],r0,g0,rfl,h,.refl _,.refl _⟩,λh=>by cases h⟩
  ·rintro j a r1 g1 ⟨rfl,rfl⟩ x;exact⟨rfl,a,x⟩
noncomputable def cY(CO:Nat)(a:L2)(b:fJ):fD:=⟨a.n 0,a.n 1,a.n 2,a.n 3,a.n 4,CO,b,a.n 5,a.n 6,a.n 7,a.n 8,0⟩
def Vd(CO:Nat):cX where
 c:=.call (.ref 446) ⟨[.ref CO],[]⟩
 pre:=[]
 out _ _ a:=(rV (.ref (a.n 0)),Ov (cY CO a gn0))
theorem Sh:gN 300 (Vd CO).c (Vd CO).pre bV (Vd CO).out (λb r g=>r=[]/\g=[]/\642<=b.n 0):=by
 refine bE.of' (US _) (JE CO) λN t x=>?_;obtain⟨S',rfl⟩:∃S',N=S'+641:=⟨N-641,by omega⟩
 refine⟨λZ=>bV,?_,λy o a=>⟨rfl,?_,λh=>by cases h⟩⟩
 ·have l:=qe (prog:=pz) (w:=wv w b1 b2) (kt:=bY w.params) (os:=os) (room:=250) (c:=.func (bJ (dc 17 6)) (gF (S'+643))) (pre:=[(S'+642,ir (S'+641)),(S'+641,cy [] 0),(S'+643,vw (S'+642) t CO)]) (X:=bV) (X':=λZ=>bV)
   (gP:=λZ Z b=>HA (S'+643) (S'+642) (S'+641) t CO b) (s1:=iN) (rest:=(bJ (dc 17 6)).drop 1) (env:=gF (S'+643)) (by
    rintro m s F FG r0 g0 e ⟨rfl,rfl⟩ p;have u:=Sg (FL:=S'+643) (S':=S') (d:=S'+641) (k:=t) (CO:=CO) e (L:=F) (G:=FG) p;refine xv u ?_ λZ Z h=>h;rintro f z ⟨rfl,b,i⟩;exact⟨rfl,b,[],[],⟨rfl,rfl⟩,i⟩)
  rw[<-OC]at l;exact λm v j e=>l m v j (e.le (by decide))
 ·rintro r0 g0 ⟨rfl,rfl⟩;refine⟨cV [S'+642,S'+641,a.n 0,a.n 1,a.n 2,a.n 3,a.n 4,a.n 5,o+1],[],[],rfl,⟨rfl,rfl,by simp[cV]⟩,?_,.refl _⟩;exact PT.q [] [_,_,_,_,_] 0xac0c1c2c3c4ee 0xaac0c1ec2c3c4ee rfl
end
end
section
variable{c k n x y:Nat}{z:Int}
theorem acH{a b s p q:Nat}(h:a+b+s+4*(k+1)<=9000)(e:p+q<=a+b+2):p+q+(s+1)+4*k<=9000:=
 cu (Nat.add_le_add_right (Nat.add_le_add_right e _) _) (cu (nK (by simp +arith:a+b+2+(s+1)+4*k=a+b+s+4*k+3)) (cu (oA _) h))
theorem ab9(a:x<=c)(b:y<=c*k):x+y<=c*(k+1):=cu (lL a b) (nK (Nat.add_comm c (c*k)))
theorem ack{e m:Nat}(a:x<=c*n)(b:y<=e)(hn:n<=4)(d:c*4+e<=m:=by decide):x+y<=m:=cu (lL (cu a (w8 c hn)) b) d
theorem ab3(h:0<=z/\z<n):z.toNat<n:=(Int.toNat_lt h.1).2 h.2
theorem acf(h:0<=z)(e:z.toNat=n):z=n:=(xh h).symm.trans (b8 _ e)
end
section
open PySem.Meets PySem.Builtin PySem.Builtin.Str
variable{t u:Nat}{b:Bool}{x:List Nat}
section
variable{prog:Program}{w:World}{kt:KT}{os:OsState}{room:Nat}
theorem sk{x y:Int}(h:decide (x<y)=b):dq prog w kt os room (ltC x t y u b) bV (λv=>bV):=by
 refine bE.dx (b:=Builtin.«int.__lt__») (by rw[<-GN];decide +kernel) (by rw[<-GN];exact entryFor_of_tree (by kernel_rfl)) (mG (PySem.AutoIntG1.int___lt___int_int_0 x t y u)) ?_;intro A R s F FG _ a k;have z:=k s (l1 0) a;rw[<-h]at z;exact z
theorem fL{n:Int}(h:(x.length:Int)=n)(d:x.length<=100000):dq prog w kt os room (wc x t n) bV (λz=>bV):=by
 refine bE.vk (b:=Builtin.«len») (by rw[<-rX];decide +kernel) (by rw[<-rX];exact entryFor_of_tree (by kernel_rfl)) ?_;rintro A s F FG r0 g0 f ⟨rfl,rfl⟩ c;subst h;have e:((⟨⟨x⟩⟩:PySem.Str).length:Int)=(x.length:Int):=rfl;refine iI (wpAny_len_body (Q:=λv a=>gT kt os (wc x t x.length).out (λz=>bV) F FG (.ok (.ret v)) a) (typeIs_str _ _ _) PySem.F.slot_str_len PySem.F.entry_str_len (PySem.F.args_str_len_1 _) (gives_str_len ⟨⟨x⟩⟩ t) (by rw[e];omega) (by rw[e];omega) ?_) (λfin a h=>?_) (λz z h=>h)
 ·exact gB (l1 (s.toks+1)) rfl (c.toks _)
 ·obtain⟨r,rfl,h⟩:=h;exact⟨_,rfl,h⟩
theorem iz{y:List Nat}(h:(x !=y)=b):dq prog w kt os room (QU x t y u b) bV (λv=>bV):=by
 refine bE.dx (b:=Builtin.«str.__ne__») (by rw[<-GP];decide +kernel) (by rw[<-GP];exact entryFor_of_tree (by kernel_rfl)) (mG (gives_str_ne ⟨⟨x⟩⟩ ⟨⟨y⟩⟩ t u)) ?_;intro A R s F FG _ a k;have z:=k s (l1 0) a;rw[<-h]at z;exact z
theorem OD{x y:List Nat}{t a:Nat}(c d:Option (Int×Nat))(i j:Nat)(o:x.length<=100000)(p:strSliceIndices (c.map (·.1)) (d.map (·.1)) 1 x.length=sliceRange i j 1)(q:i<=j)(v:j<=x.length)(l:y=(x.drop i).take (j-i)):
  dq prog w kt os room (WX x t a (partValue c) (partValue d) y) bV (λz=>bV):=by
 refine bE.dx (b:=Builtin.«str.__getitem__») (by rw[<-Bs];decide +kernel) (by rw[<-Bs];exact entryFor_of_tree (by kernel_rfl)) (meets_str_getitem_slice ⟨⟨x⟩⟩ t a c d none rfl) ?_;intro A R s F FG _ f k;have ho:=f.own (a,Bu (partValue c) (partValue d)) (.head _);refine⟨⟨_,ho,by show Value.type qa=_;rw[<-qb],rfl⟩,?_⟩;have hd:Sat kt os s F FG:=Sat.drop (R:=[(a,Bu (partValue c) (partValue d))]) (f.perm (fu (l₁:=[(a,Bu (partValue c) (partValue d))]) (l₂:=F)));have n:(slicePicked ⟨⟨x⟩⟩ c d none)=sliceRange i j 1:=p;have r:(slicePicked ⟨⟨x⟩⟩ c d none).filterMap ((⟨⟨x⟩⟩:PySem.Str).cps[·]?)=y:=by
  rw[n,rD,pick_run,l]
 have g:(slicePicked ⟨⟨x⟩⟩ c d none).length=j-i:=by
  rw[n,rD];simp
 unfold sliceMade;rw[r];have h:(⟨⟨x⟩⟩:PySem.Str).length=x.length:=rfl;by_cases m:j-i=x.length
 ·rw[bP (by rw[g,h,m];simp)];have e:y=x:=by
   have:i=0:=by omega
   subst this;rw[l,List.drop_zero,m];exact List.take_length
  subst e;exact k s (l1 t) hd
 ·rw[bu (by rw[g,h];simp[m])];refine⟨?_,?_⟩
  ·show y.length<=sizeLine;have:y.length<=x.length:=by rw[l];simp;exact cu (Nat.min_le_right ..) (Nat.sub_le ..)
   exact cu this (cu o (by decide))
  ·exact k _ (l1 s.toks) (hd.toks _)
end
end
section
open PySem.Builtin PySem.Builtin.Str
variable{B:bH}{l:List ht}{room:Nat}{x:List Nat}
section
theorem ws{B:bH}{FL D it f b k1 k2 g:Nat}{xs:List Value}:∀(zs:List ht)(j n:Nat)(ys:List Value)(v1 v2:Value),xs.drop j=ek zs->(∀i∈zs,dr w.params B i.a (rN i))->ys.length+zs.length<=cZ->
  cN 100 (tU FL D it f j b n k1 k2 xs g ys (iQ (Gt zs)) v1 v2) (ce B) (λl=>ce B)
 |[],j,n,ys,v1,v2,hd,k,e=>by
  have hn:xs[j]?=none:=by
   have r:=nH.mp hd;simp[r]
  exists bE.o,IX FL D it f j b n k1 k2 xs g ys v1 v2;intro m N t _;exists bz,cA hn,0;refine cB rfl rfl (λr0 g0 h=>⟨cV [n] [v1,v2],r0,g0,rfl,h,?_,.refl _⟩);simp[m,iQ,Gt,tU,cV]
 |i::zs,j,n,ys,v1,v2,hd,k,e=>by
  have v:xs[j]?=some (.ref i.a):=by
   rw[<-ja,hd];rfl
  have p:xs.drop (j+1)=ek zs:=by
   rw[<-kv,hd];rfl
  exists bE.o,IW FL D it f j b n k1 k2 xs g ys (iQ (Gt zs)) v1 v2 i;intro m N t _;exists bz,b6 v,0;exists cT,(k i (.head _)).dG,0;exists bz,bX (by simp at e;exact cu (h9 _ _) e),0;exists bx,ws zs _ _ _ _ _ p (λx y=>k x (.tail _ y)) (by simp at e ⊢;omega);intro C E d _ _;refine cB rfl rfl (λr0 g0 h=>⟨d,r0,g0,rfl,h,?_,.refl _⟩);simp[m,iQ,Gt,tU]
theorem kY{FL D it f d g:Nat}{b:Bool}(k:l.isEmpty=b)(m:∀i∈l,dr w.params B i.a (rN i))(p:l.length<=1000)(r:100<=room:=by decide):
  cN room (M1 FL D it f d l g b) (ce B) (λZ=>ce B):=by
 refine bE.mono ?_ r;cases l with
 |nil=>
  subst k;exists bE.o,IY FL D it f d g,0;exists bz,cA rfl;intro u h e _;exact cC (cV [0])
 |cons i j=>
  subst k;exists bE.o,IV FL D it f d (ek (i::j)) g (iQ (Gt j)) i,0;exists bz,b6 rfl;intro u h e _;exists cT,(m i (.head _)).dG,0;exists bz,bX,0;exists bx,ws j _ _ _ _ _ rfl (λx y=>m x (.tail _ y)) (by simp at p ⊢;unfold cZ;exact cu (w9 p _) (by decide));intro C E c _ _;exact cC (cV [c.n 0,h,h+1] [c.v 0,c.v 1])
noncomputable def iA(t:List Nat)(n a:Int):List Int:=
 let k:=n.fmod (t.length+2)
 if k<t.length/\((t.take k.toNat).drop ((t.take k.toNat).length-1))≠[92]then[a+k]else[]
noncomputable def OE(y:QZ)(t:List Nat):QZ:={ y with m:=t.length,k:=y.n.fmod (t.length+2),y1:=t.take (y.n.fmod (t.length+2)).toNat,y2:=(t.take (y.n.fmod (t.length+2)).toNat).drop ((t.take (y.n.fmod (t.length+2)).toNat).length-1) }
theorem Ve{k:Int}(a:0<=k)(b:k<=x.length):strSliceIndices none (some k) 1 x.length=sliceRange ((0:Nat):Int) ((k.toNat:Nat):Int) 1:=by
 unfold strSliceIndices;simp
 congr 1
 rw[bu (Int.not_lt.2 a),Int.min_eq_left b,Int.max_comm]
theorem HB:strSliceIndices (some (-1)) none 1 x.length=sliceRange ((x.length-1:Nat):Int) ((x.length:Nat):Int) 1:=by
 unfold strSliceIndices;simp
 congr 1
 generalize x.length=n;cases n with
 |zero=>rfl
 |succ n=>exact ab5 n
theorem Cn{y:QZ}(C:∀i∈l,dr w.params B i.a (rN i))(D:l.length<=1000)(k:(ku l).length<=10000)(V:300<=room):
  cN room (yP y l (iA (ku l) y.n y.size)) (ce B) (λ_=>ce B):=by
 refine bE.mono ?_ V;have q:0<=y.n.fmod ((ku l).length+2):=i7 _ (Int.lt_of_lt_of_le (by decide) (Int.le_add_of_nonneg_left (xm _)));have E:((Gt l).map (·.1)).flatten.length<=100000:=by
  have:((Gt l).map (·.1)).flatten.length<=10000:=k;exact cu this (by decide)
 have p:((ku l).length+2:Int)≠0:=by omega
 by_cases m:y.n.fmod ((ku l).length+2)<(ku l).length
 ·have he:l.isEmpty=false:=by
   cases l with
   |nil=>exact absurd m (by simp[Gt]at q ⊢;exact q)
   |cons=>rfl
  have F:=λ(r:Nat)(W X:List Nat)(a b:Nat)=>@OD pz (wv w b1 b2) (bY w.params) os r W X a b;have S:((ku l).take (y.n.fmod ((ku l).length+2)).toNat).length<=100000:=cu (List.length_take_le' ..) (cu k (by decide));have T:(y.n.fmod ((ku l).length+2)).toNat<=(ku l).length:=Nat.le_of_lt ((Int.toNat_lt q).2 m);have U:∀x:List Nat,x.drop (x.length-1)=(x.drop (x.length-1)).take (x.length-(x.length-1)):=λx=>by rw[Gd];simp
  by_cases hn:(((ku l).take (y.n.fmod ((ku l).length+2)).toNat).drop (((ku l).take (y.n.fmod ((ku l).length+2)).toNat).length-1))≠[92]
  ·have er:iA (ku l) y.n y.size=[y.size+y.n.fmod ((ku l).length+2)]:=by unfold iA;exact bP ⟨m,hn⟩
   rw[er];exists bE.o,I0 (OE y (ku l)) l;intro G N t;rcases two yR b2 with hz|hz<;>rw[hz]<;>(intro _;exists bx,kY he C D,0;exists bz,jk E,0;exists bz,fL rfl (cu k (by decide)),0;exists bz,ff p rfl,0;exists bz,fL rfl (cu k (by decide)),0;exists bz,sk (i9 m);intro s u j _;exists bz,F _ _ _ _ _ none (some (_,_)) 0 _ (by omega) (Ve q (Int.le_of_lt m)) (eo _) T rfl,0;exists bz,F _ _ _ _ _ (some (_,_)) none _ _ S HB (by omega) (cO _) (U _),0;exists bz,iz (kz.2 hn);intro Q R A _;exact cC (cV [Q,R]))
  ·have er:iA (ku l) y.n y.size=[]:=by unfold iA;exact bu λh=>hn h.2
   rw[er];exists bE.o,I1 (OE y (ku l)) l;intro G N t;rcases two yS b2 with hz|hz<;>rw[hz]<;>(intro _;exists bx,kY he C D,0;exists bz,jk E,0;exists bz,fL rfl (cu k (by decide)),0;exists bz,ff p rfl,0;exists bz,fL rfl (cu k (by decide)),0;exists bz,sk (i9 m);intro s u j _;exists bz,F _ _ _ _ _ none (some (_,_)) 0 _ (by omega) (Ve q (Int.le_of_lt m)) (eo _) T rfl,0;exists bz,F _ _ _ _ _ (some (_,_)) none _ _ S HB (by omega) (cO _) (U _),0;exists bz,iz (by rw[show(OE y (ku l)).y2=[92]from Classical.not_not.1 hn];rfl);intro Q R A _;exact cC (cV [Q,R]))
 ·have er:iA (ku l) y.n y.size=[]:=by unfold iA;exact bu λh=>m h.1
  rw[er];cases he:l.isEmpty with
  |true=>
   exists bE.o,IZ (OE y (ku l)) l;intro G N t;rcases two yQ b2 with hz|hz<;>rw[hz]<;>(intro _;exists bx,kY he C D,0;exists bz,jk E,0;exists bz,fL rfl (cu k (by decide)),0;exists bz,ff p rfl,0;exists bz,fL rfl (cu k (by decide)),0;exists bz,sk (h8 m);intro s u j _;exact cC (cV [s,u]))
  |false=>
   exists bE.o,I2 (OE y (ku l)) l;intro G N t;rcases two yT b2 with hz|hz<;>rw[hz]<;>(intro _;exists bx,kY he C D,0;exists bz,jk E,0;exists bz,fL rfl (cu k (by decide)),0;exists bz,ff p rfl,0;exists bz,fL rfl (cu k (by decide)),0;exists bz,sk (h8 m);intro s u j _;exact cC (cV [s,u]))
end
end
section
open PySem.Meets PySem.Builtin PySem.Builtin.Str
theorem HC:"str.__eq__" = aad:=PySem.W.SZ.e18434506764410088663x10
section
variable{prog:Program}{w:World}{kt:KT}{os:OsState}{room:Nat}
theorem gG{x y:List Nat}{t u:Nat}{b:Bool}(h:(x==y)=b):dq prog w kt os room (vo x t y u b) bV (λv=>bV):=by
 refine bE.dx (b:=Builtin.«str.__eq__») (by rw[<-HC];decide +kernel) (by rw[<-HC];exact entryFor_of_tree (by kernel_rfl)) (mG (gives_str_eq ⟨⟨x⟩⟩ ⟨⟨y⟩⟩ t u)) ?_;intro A R s F FG _ a k;have z:=k s (l1 0) a;rw[<-h]at z;exact z
theorem mS{a n:Nat}{xs:List Value}{m:Int}(h:(xs.length:Int)=m)(f:xs.length<=100000):dq prog w kt os room (Hd a xs n m) bV (λz=>bV):=by
 refine bE.vk (b:=Builtin.«len») (by rw[<-rX];decide +kernel) (by rw[<-rX];exact entryFor_of_tree (by kernel_rfl)) ?_;rintro A s F FG r0 g0 g ⟨rfl,rfl⟩ c;subst h;have ho:=iY (c.own (a,br xs n) (.head _));have e:(((⟨xs⟩:Array Value).size:Nat):Int)=(xs.length:Int):=rfl;refine iI (wpAny_len_body_list (Q:=λv d=>gT kt os (Hd a xs n xs.length).out (λz=>bV) F FG (.ok (.ret v)) d) ho (by rw[e];omega) ?_) (λfin d h=>?_) (λz z h=>h)
 ·exact gB (l1 (s.toks+1)) rfl (c.toks _)
 ·obtain⟨r,rfl,h⟩:=h;exact⟨_,rfl,h⟩
end
end
section
open PySem.Builtin PySem.Builtin.Str
variable{vs:List Value}{x:List Nat}{a c cn it j n rt xt:Nat}{cv:List (Int×Nat)}
structure eY where(rows:List (List Nat))(row:List Nat)(wide at_ blanks:Int)(bT:List (Int×Int))
noncomputable def gI(cuts:List (Int×Nat))(sm:List Nat)(s:eY)(c:Nat):eY:=
 let cut:=cuts.any λp=>p.1==s.at_
 let rows:=if cut then s.rows++[s.row++sm]else s.rows
 let row:=if cut then[]else s.row
 let wide:=if cut then 0 else s.wide
 let step:=if c=9 then 8-wide.fmod 8 else 1
 let bT:=s.bT++[((rows.length:Int)+1,wide+1)]
 if c=10 then⟨rows++[row++[c]],[],0,s.at_+1,s.blanks+step,bT⟩else⟨rows,row++[c],wide+step,s.at_+1,s.blanks+step,bT⟩
inductive eZ(vs:List Value)(rows:List (List Nat)):Prop where|mk:∀rs:List (List Nat×Nat),(vs=iQ rs)->(rs.map (·.1)=rows)->eZ vs rows
theorem eZ.add{rows:List (List Nat)}(h:eZ vs rows){t:Nat}:eZ (vs++[.str ⟨⟨x⟩⟩ t]) (rows++[x]):=by
 obtain⟨b,rfl,rfl⟩:=h;exact⟨b++[(x,t)],by simp[iQ],by simp⟩
theorem eZ.len{rows:List (List Nat)}(h:eZ vs rows):vs.length=rows.length:=by
 obtain⟨b,rfl,rfl⟩:=h;simp[iQ]
structure XW where(a:Nat)(r c:Int)(rt ct:Nat)
inductive da(B:bH)(vs:List Value)(sp:List (Int×Int)):Prop where|mk:∀ps:List XW,(vs=ps.map (λp=>.ref p.a))->(ps.map (λp=>(p.r,p.c))=sp)->(∀p∈ps,dr w.params B p.a (pi p.r p.c p.rt p.ct))->da B vs sp
theorem dr.mono{B b:bH}{o:Obj}(h:dr w.params B a o)(d:∀p∈B,p∈b):dr w.params b a o:=h.imp (d _) id
theorem da.add{B:bH}{sp:List (Int×Int)}(h:da B vs sp){r c:Int}{ct:Nat}:da ((a,pi r c rt ct)::B) (vs++[.ref a]) (sp++[(r,c)]):=by
 obtain⟨ps,rfl,rfl,b⟩:=h;refine⟨ps++[⟨a,r,c,rt,ct⟩],by simp,by simp,λp hp=>?_⟩;rcases dw.1 hp with hp|hp
 ·exact(b p hp).mono λq d=>.tail _ d
 ·rw[eC]at hp;subst hp;exact .inl (.head _)
theorem da.len{B:bH}{sp:List (Int×Int)}(h:da B vs sp):vs.length=sp.length:=by
 obtain⟨ps,rfl,rfl,b⟩:=h;simp
inductive abi(s:eY)(v:gw):Prop where|mk:∀rt wt iL bt,v.row=.str ⟨⟨s.row⟩⟩ rt->v.wide=.int s.wide wt->v.at_=.int s.at_ iL->v.blanks=.int s.blanks bt->abi s v
inductive E6(s:eY)(v:gw)(B:bH):Prop where|mk:abi s v->(eZ v.rows s.rows)->(da B v.bT s.bT)->E6 s v B
inductive Si(B:bH)(s:eY)(v:gw)(r:bH)(g:bR):Prop where|mk:∀B',(E6 s v B')->((∀p∈B,p∈B'))->(ce B' r g)->Si B s v r g
def jP(s:eY)(k:Nat):Prop:=s.rows.length+s.row.length+s.bT.length+4*k<=9000
theorem jP.step{cuts:List (Int×Nat)}{sm:List Nat}{s:eY}{c k:Nat}(h:jP s (k+1)):jP (gI cuts sm s c) k:=by
 have e:(gI cuts sm s c).rows.length+(gI cuts sm s c).row.length<=s.rows.length+s.row.length+2/\(gI cuts sm s c).bT.length=s.bT.length+1:=by
  unfold gI;by_cases b:(cuts.any λp=>p.1==s.at_)=true<;>by_cases d:c=10<;>simp +arith [b,d]
 show _+_<=_;rw[e.2];exact acH h e.1
theorem jP.le{s:eY}{k:Nat}(h:jP s k):s.rows.length<=9000/\s.row.length<=9000/\s.bT.length<=9000:=
 ⟨cu (cu (cu (h9 ..) (h9 ..)) (h9 ..)) h,cu (cu (cu (jE ..) (h9 ..)) (h9 ..)) h,cu (cu (jE ..) (h9 ..)) h⟩
section
theorem pt{c:Code}{pre:bH}{X':L2->b7}{out:Nat->Nat->L2->Result×bH}{room:Nat}{p:Nat×Obj}{B:bH}(h:gN room c pre (ce (p::B)) out X'):gN room c (pre++[p]) (ce B) out X':=
 bE.dX h λr g ⟨e1,e2⟩=>⟨p::B,by subst e1;exact .refl _,rfl,e2⟩
noncomputable def Sj(rows:List (List Nat))(row:List Nat)(d a b:Int)(sp:List (Int×Int))(c:Nat):eY:=
 let step:=if c=9 then 8-d.fmod 8 else 1
 if c=10 then⟨rows++[row++[c]],[],0,a+1,b+step,sp++[((rows.length:Int)+1,d+1)]⟩else⟨rows,row++[c],d+step,a+1,b+step,sp++[((rows.length:Int)+1,d+1)]⟩
theorem XX{sm:List Nat}{s:eY}:gI cv sm s c=cond (cv.any λp=>p.1==s.at_) (Sj (s.rows++[s.row++sm]) [] 0 s.at_ s.blanks s.bT c) (Sj s.rows s.row s.wide s.at_ s.blanks s.bT c):=by
 unfold gI;cases(cv.any λp=>p.1==s.at_)<;>rfl
noncomputable def JJ(c:Nat):Nat:=if c=9 then 1 else if c=10 then 2 else 0
theorem OG(c:Nat):JJ c∈[0,1,2]:=by
 unfold JJ;by_cases h:c=9
 ·rw[bP h];decide
 rw[bu h];by_cases h:c=10
 ·rw[bP h];decide
 ·rw[bu h];decide
theorem zu{o:Option Nat}(h:x[j]?=o):(⟨⟨x⟩⟩:PySem.Str).cps[j]?=o:=by simpa using h
theorem sgN(h:c≠n):([c]==[n])=false:=by simp[h]
theorem sgY(h:c=n):([c]==[n])=true:=by simp[h]
section
variable{G:Gl Unit}{y:j7}{u:hJ}{z:El}{fs:Bool}{s:eY}{B:bH}{k ct wf yU rn t N t':Nat}{row:List Nat}{wd:Int}{rows:List Value}{rw':List (List Nat)}{sp:List (Int×Int)}
def abj(G:Gl Unit)(y:j7)(u:hJ)(z:El)(fs:Bool)(s:eY)(B:bH):Prop:=
 ∀k b a o v,E6 s v ((a,o)::B)->∀d1 d2 r2 ns N t,C1 G ((yW (y.yk (cond fs (some k) none) b) u z v a o).res (.n d1 100::.n d2 r2::ns) N t) (ce B) []
theorem q9{b:Bool}(l:row.length<=9999)(hn:z.ln=rows.length)(p:z.md=wd.fmod 8)(f:rows.length<=99999)(i:eZ rows rw')(M:da B z.bT sp)(m:z.bT.length<=cZ)(h:abj G y u z fs (Sj rw' row wd z.a z.b sp z.c) B):
  C1 G ((yX y u z ct row wf wd yU rows rn (Nat.beq (JJ z.c) 1) (Nat.beq (JJ z.c) 2) (cond fs (some k) none) t).res (lzR b (JJ z.c)) N t') (ce B) []:=by
 have o:row.length+[z.c].length<=10000:=ox l;have g:∀{a r q:Nat},da ((a,pi (z.ln+1) (wd+1) r q)::B) (z.bT++[.ref a]) (sp++[((rw'.length:Int)+1,wd+1)]):=by
  intro a r q;rw[<-i.len,<-hn];exact M.add
 by_cases e:z.c=9
 ·rw[show JJ z.c=1 from bP e];rw[show Sj rw' row wd z.a z.b sp z.c=⟨rw',row++[z.c],wd+(8-z.md),z.a+1,z.b+(8-z.md),sp++[((rw'.length:Int)+1,wd+1)]⟩by unfold Sj;rw[p,bP e,bu (by rw[e];decide)]]at h;cases b<;>(refine HE.of ?_;intro v _;exists bz,gG (b:=true) (sgY e),0;exists bz,ff (by decide) p.symm,0;exists bz,mS hn.symm (jd f),0;exists bz,bX m,0;exists bz,i4 o,0;exists bz,gG (b:=false) (sgN (by rw[e];decide)),0;exact h k _ _ _ _ ⟨⟨_,_,_,_,rfl,rfl,rfl,rfl⟩,i,g⟩ _ _ _ _ _ _)
 by_cases d:z.c=10
 ·rw[show JJ z.c=2 from(bu e).trans (bP d)];rw[show Sj rw' row wd z.a z.b sp z.c=⟨rw'++[row++[z.c]],[],0,z.a+1,z.b+1,sp++[((rw'.length:Int)+1,wd+1)]⟩by unfold Sj;rw[bu e,bP d]]at h;cases b<;>(refine HE.of ?_;intro v _;exists bz,gG (b:=false) (sgN e),0;exists bz,mS hn.symm (jd f),0;exists bz,bX m,0;exists bz,i4 o,0;exists bz,gG (b:=true) (sgY d),0;exists bz,bX (jd f),0;exact h k _ _ _ _ ⟨⟨_,_,_,_,rfl,rfl,rfl,rfl⟩,i.add,g⟩ _ _ _ _ _ _)
 ·rw[show JJ z.c=0 from(bu e).trans (bu d)];rw[show Sj rw' row wd z.a z.b sp z.c=⟨rw',row++[z.c],wd+1,z.a+1,z.b+1,sp++[((rw'.length:Int)+1,wd+1)]⟩by unfold Sj;rw[bu e,bu d]]at h;cases b<;>(refine HE.of ?_;intro v _;exists bz,gG (b:=false) (sgN e),0;exists bz,mS hn.symm (jd f),0;exists bz,bX m,0;exists bz,i4 o,0;exists bz,gG (b:=false) (sgN d),0;exact h k _ _ _ _ ⟨⟨_,_,_,_,rfl,rfl,rfl,rfl⟩,i,g⟩ _ _ _ _ _ _)
noncomputable def XY(it:Nat)(x:List Nat)(xt j:Nat)(cv:List (Int×Nat))(cn c:Nat)(s:eY)(rt d iL e:Nat)(vc vs:Value)(rows:List Value)(rn:Nat)(bT:List Value)(sn:Nat)(b:Bool):El:=
 ⟨it,x,xt,j,cv.map λp=>.int p.1 p.2,cn,c,s.row,s.wide,s.at_,s.blanks,cond b (rows.length+1:Nat) rows.length,cond b ((0:Int).fmod 8) (s.wide.fmod 8),rt,d,iL,e,vc,vs,rows,rn,bT,sn⟩
theorem rc{f iL g:Nat}{vc vs:Value}{rn:Nat}{bT:List Value}{sn:Nat}(l:y.sm.length<=10)(q:x[j]?=some c)(m:eZ rows s.rows)(o:da B bT s.bT)(v:jP s (n+1))(h:abj G y u (XY it x xt j cv cn c s rt f iL g vc vs rows rn bT sn (cv.any λp=>p.1==s.at_)) fs (gI cv y.sm s c) B):
  C1 G ((M4 y u (XY it x xt j cv cn c s rt f iL g vc vs rows rn bT sn (cv.any λp=>p.1==s.at_)) (cv.any λp=>p.1==s.at_) (Nat.beq (JJ c) 1) (Nat.beq (JJ c) 2) fs).res (lzN (cv.any λp=>p.1==s.at_) (JJ c)) N t') (ce B) []:=by
 have i:=v.le;have d:=cu (nK m.len) i.1;have e:=cu (nK o.len) i.2.2;rw[XX]at h;generalize r:(cv.any λp=>p.1==s.at_)=b at h ⊢;cases b with
 |false=>
  refine HE.of ?_;intro w _;exists bz,nX (zu q),0;exists bz,Bt cv rfl r,0;exact q9 (b:=false) (z:=XY it x xt j cv cn c s rt f iL g vc vs rows rn bT sn false) (cu i.2.1 (by decide)) rfl rfl (cu d (by decide)) m o (cu e (by decide)) h
 |true=>
  refine HE.of ?_;intro w _;exists bz,nX (zu q),0;exists bz,Bt cv rfl r,0;exists bz,i4 (cu (lL i.2.1 l) (by decide)),0;exists bz,bX (cu d (by decide)),0;exact q9 (b:=true) (z:=XY it x xt j cv cn c s rt f iL g vc vs rows rn bT sn true) (eo _) (by rw[c5];rfl) rfl (by rw[c5];exact cu (ox d) (by decide)) m.add o (cu e (by decide)) h
theorem un(g:y.sm.length<=10):∀(cs:List Nat)(j:Nat)(s:eY)(v:gw)(B:bH),x.drop j=cs->E6 s v B->jP s cs.length->
  cN 100 (tV y v u it x xt j (cv.map λp=>.int p.1 p.2) cn) (ce B) (λd=>Si B (cs.foldl (gI cv y.sm) s) (mN d)):=by
 intro cs
 induction cs with
 |nil=>
  intro j s ⟨m,q,r,vb,vc,vs,rows,rn,bT,sn⟩ B hd ⟨⟨rt,wt,iL,bt,e1,e2,e3,e4⟩,e,f⟩ i;simp only at e1 e2 e3 e4 e f;subst e1 e2 e3 e4;have w:x[j]?=none:=List.getElem?_eq_none (nH.mp hd);exists bE.o,I3 y u (XY it x xt j cv cn 0 s rt wt iL bt vc vs rows rn bT sn false),0;exists bz,v0 (zu w),0;exact cC (⟨λn=>match n with
   |0=>rn
   |Y=>sn,λn=>match n with
   |0=>_
   |1=>_
   |2=>_
   |3=>_
   |4=>vc
   |Y=>vs,λn=>match n with
   |0=>rows
   |Y=>bT⟩) (λr0 g0 h=>⟨B,⟨⟨rt,wt,iL,bt,rfl,rfl,rfl,rfl⟩,e,f⟩,λz h=>h,h⟩)
 |cons c cs A=>
  intro j s ⟨m,q,r,vb,vc,vs,rows,rn,bT,sn⟩ B hd ⟨⟨rt,wt,iL,bt,e1,e2,e3,e4⟩,e,f⟩ i;simp only at e1 e2 e3 e4 e f;subst e1 e2 e3 e4;exists bE.o,M5 y u (XY it x xt j cv cn c s rt wt iL bt vc vs rows rn bT sn (cv.any λp=>p.1==s.at_)) (cv.any λp=>p.1==s.at_) (JJ c) (OG c),0;refine rc (fs:=false) g (by rw[<-ja,hd];rfl) e f i ?_;intro k b a o v C d1 d2 r2 ns N t;refine HE.of ?_;intro l _;exists bx,pt (A (j+1) _ v _ (by rw[<-kv,hd];rfl) C i.step);intro _ _ d _ _;exact cC d (λr0 g0 ⟨D,E,F,H⟩=>⟨D,E,λp h=>F p (.tail _ h),H⟩)
noncomputable def adD(a b:Nat)(d:L2):L2:=⟨λn=>match n with
 |0=>d.n 0
 |1=>d.n 1
 |2=>a
 |Y=>b,d.v,d.l⟩
theorem Co{v:gw}(e:y.sm.length<=10){f:List Nat}(m:x=c::f)(q:E6 s v B)(g:jP s (f.length+1)):
  cN 100 (yV y v u it x xt (cv.map λp=>.int p.1 p.2) cn) (ce B) (λd=>Si B ((c::f).foldl (gI cv y.sm) s) (mN d)):=by
 obtain⟨F,H,I,vb,vc,vs,rows,rn,bT,sn⟩:=v;obtain⟨⟨rt,wt,iL,bt,e1,e2,e3,e4⟩,i,l⟩:=q;simp only at e1 e2 e3 e4 i l;subst e1 e2 e3 e4 m;exists bE.o,M6 y u (XY it (c::f) xt 0 cv cn c s rt wt iL bt vc vs rows rn bT sn (cv.any λp=>p.1==s.at_)) (cv.any λp=>p.1==s.at_) (JJ c) (OG c),0;refine rc (fs:=true) e rfl i l g ?_;intro k b a o v w d1 d2 r2 ns N t;refine HE.of ?_;intro r _;exists bx,pt (un (y:=y.keys k b) e f 1 _ v _ rfl w g.step);intro _ _ d _ _;exact cC (adD _ _ d) (λr0 g0 ⟨A,C,D,E⟩=>⟨A,C,λp h=>D p (.tail _ h),E⟩)
end
end
end
section
open PySem.Meets PySem.Builtin PySem.Builtin.Str
variable{t:Nat}
theorem wu:"str.__iter__" = NZ:=PySem.W.SZ.e8232228318002612845x12
section
variable{prog:Program}{w:World}{kt:KT}{os:OsState}{room:Nat}
theorem uo(x:Str)(t:Tok)(a:x.cps.all (· < 128)=true):Meets (Builtin.«str.__iter__» ⟨[.str x t],[]⟩) (λz R s=>
   R (.ok (.ret (.ref s.heap.objs.size))) { s with heap:=s.heap.push { cls:=.type "str_ascii_iterator",data:=.fields #[.str x t,rawInt 0] } }):=
 .of_wp λprog w A R s h=>by
  obtain⟨b,g,d,tk,os⟩:=s;have e:(if isExactStr (.str x t)&&x.cps.all (· < 128)then "str_ascii_iterator" else "str_iterator") = "str_ascii_iterator":=by rw[a];rfl
  wp_walk
  rw[a];exact⟨_,rfl,h⟩
theorem uq{x:List Nat}(c:x.all (· < 128)=true):dq prog w kt os room (EU x t) bV (λy=>bV):=by
 refine bE.dx (b:=Builtin.«str.__iter__») (by rw[<-wu];decide +kernel) (by rw[<-wu];exact entryFor_of_tree (by kernel_rfl)) (uo ⟨⟨x⟩⟩ t (by simpa using c)) ?_;intro A R s F FG _ a k;refine k _ (l1 s.heap.objs.size) ?_;have z:=a.alloc (o:=iu dY ⟨⟨x⟩⟩ t 0) rfl;have e2:iu dY ⟨⟨x⟩⟩ t 0 = { cls:=.type "str_ascii_iterator",data:=.fields #[.str ⟨⟨x⟩⟩ t,rawInt 0] }:=by unfold iu;rw[<-vZ];rfl
 rw[<-e2];exact z
theorem fM{a n:Nat}{xs:List Value}{i:Int}{v:Value}(k:Nat)(o:xs.length<=10000)(p:-100000<=i/\i<=100000)(c:seqIndex? i xs.length=some k)(j:xs[k]?=some v):dq prog w kt os room (uj a xs n i t v) bV (λz=>bV):=by
 refine bE.vk (b:=Builtin.«list.__getitem__») (by rw[<-iw];decide +kernel) (by rw[<-iw];exact entryFor_of_tree (by kernel_rfl)) ?_;rintro A s F FG r0 g0 q ⟨rfl,rfl⟩ h;have d:=h.own (a,br xs n) (.head _);have fin:gT kt os (uj a xs n i t v).out (λz=>bV) F FG (.ok (.ret v)) s:=gB (l1 0) rfl h;have g:seqIndex? i (⟨xs⟩:Array Value).size=some k:=c;have e:(⟨xs⟩:Array Value)[k]?=some v:=by simpa using j
 have r:(!Builtin.List.listFitsIndex i)=false:=by
  unfold Builtin.List.listFitsIndex;simp;omega
 have f1:=AutoSeq1.idx_int;have f:(br xs n).data=.seq ⟨xs⟩ n:=rfl
 wp_walk using wpAny_loadPart' d
 cases i with
 |negSucc m=>
  refine bI (m:=Builtin.List.listItems (.ref a)) ?_;unfold Builtin.List.listItems;refine bI (oy d f (ck ?_));rw[g];simp only[Option.bind_some,e,Option.map_some];exact ck (ck ⟨_,rfl,fin⟩)
 |ofNat m=>
  have l:m=k:=by
   unfold seqIndex? at c;have:¬ (Int.ofNat m<0):=Int.not_lt.2 (xm m);simp only[this,ia]at c
   split at c
   ·injection c with c
   ·cases c
  subst l;refine bI (wpAny_seqItemAt d f ?_);rw[e];exact ck (ck ⟨_,rfl,fin⟩)
theorem ur:∀(n:Nat)(di:Array Nat),(List.replicate n (⟨[32]⟩:Array Nat)).foldl (·++·) di=di++⟨List.replicate n 32⟩
 |0,di=>by exact rfl
 |n+1,di=>by
  rw[List.replicate_succ,List.foldl_cons,ur n,List.replicate_succ];apply Array.ext';simp
theorem JK{n:Int}{u:Nat}{y:List Nat}(i:0<=n/\n<=100000)(h:y=List.replicate n.toNat 32):dq prog w kt os room (U7 [32] t n u y) bV (λz=>bV):=by
 refine bE.dx (b:=Builtin.«str.__mul__») (by rw[<-AN];decide +kernel) (by rw[<-AN];exact entryFor_of_tree (by kernel_rfl)) (mG (gives_str_mul ⟨⟨[32]⟩⟩ n t u (by simp;omega) (λf z=>by
  show ¬ ((1:Int)>_);have:n*1<=2 ^ 63-1:=by omega
  have:=Int.le_ediv_of_mul_le (a:=1) (b:=2 ^ 63-1) (c:=n) (by exact Int.not_lt.1 f) (by omega);omega) (λf z=>by
  unfold tooLong;rw[show sizeLine=16777216 from by decide];show decide (1*n.toNat>16777216)=false;exact h8 (by omega)))) ?_
 intro A R s F FG _ d k;subst h;show Made.post _ _ _;by_cases f:n<1
 ·rw[bP f];have:n.toNat=0:=by omega
  rw[this]at k;exact⟨(by decide),k _ (l1 s.toks) (d.toks _)⟩
 ·rw[bu f];by_cases g:n=1
  ·subst g;exact k s (l1 t) d
  ·have e:((n==1||(⟨⟨[32]⟩⟩:PySem.Str).length==0)=true)=False:=by simp[g,PySem.Str.length]
   simp only[e,ia];have e2:=ur n.toNat #[];have e3:(⟨(List.replicate n.toNat (⟨⟨[32]⟩⟩:PySem.Str).cps).foldl (·++·) #[]⟩:PySem.Str)=⟨⟨List.replicate n.toNat 32⟩⟩:=by
    show(⟨_⟩:PySem.Str)=_;rw[e2];simp
   rw[e3];refine⟨?_,k _ (l1 s.toks) (d.toks _)⟩;show(List.replicate n.toNat 32).length<=sizeLine;rw[show sizeLine=16777216 from by decide,w6];omega
end
end
section
open PySem.Builtin PySem.Builtin.Str
variable{B:bH}{z:hK}{s:eY}{y:j7}{v:gw}{u:hJ}{it room:Nat}{cv:List (Int×Nat)}
noncomputable def lt2(a:L2)(rt b iL c d:Nat)(e:List Value):L2:=⟨λn=>match n with
 |0=>a.n 0
 |1=>a.n 1
 |2=>a.n 2
 |3=>a.n 3
 |10=>rt
 |11=>b
 |12=>iL
 |13=>c
 |Y=>d,a.v,λn=>match n with
 |0=>a.l 0
 |Y=>e⟩
inductive ww(B:bH)(s:eY)(ℓ:L2)(r:bH)(g:bR):Prop where|mk:∀B',(eZ (ℓ.l 0) s.rows)->(da B' (.ref (ℓ.n 14)::ℓ.l 1) s.bT)->((∀p∈B,p∈B'))->(ce B' r g)->ww B s ℓ r g
def Told(z:hK)(s:eY):Prop:=s.row=z.row2/\s.wide=z.wd2/\s.at_=z.a2/\s.blanks=z.bl/\s.bT≠[]
theorem wx(j:Told z s){b:L2}{r:bH}{g:bR}(h:Si B s (mN b) r g):∃c,uk z c=mN b/\c.n 2=b.n 2/\c.n 3=b.n 3/\ww B s c r g:=by
 obtain⟨f,⟨⟨rt,wt,iL,bt,e1,e2,e3,e4⟩,k,i⟩,m,o⟩:=h;obtain⟨q,t,w,x,A⟩:=j;have d:=i;obtain⟨ps,f1,f2,D⟩:=d;cases ps with
 |nil=>exact absurd f2.symm A
 |cons p ps=>
  refine⟨lt2 b rt wt iL bt p.a (ps.map λp=>.ref p.a),?_,rfl,rfl,f,k,?_,m,o⟩
  ·have g1:b.v 0=.str ⟨⟨z.row2⟩⟩ rt:=by rw[<-q];exact e1
   have g2:b.v 1=.int z.wd2 wt:=by rw[<-t];exact e2
   have g3:b.v 2=.int z.a2 iL:=by rw[<-w];exact e3
   have C:b.v 3=.int z.bl bt:=by rw[<-x];exact e4
   have e:b.l 1=.ref p.a::ps.map λp=>.ref p.a:=f1;unfold uk mN;rw[g1,g2,g3,C,e];rfl
  ·have e:b.l 1=.ref p.a::ps.map λp=>.ref p.a:=f1;show da f (.ref p.a::ps.map λp=>.ref p.a) s.bT;rw[<-e];exact i
section
theorem Cp(c:z.cs=cv.map λp=>.int p.1 p.2)(d:y.sm.length<=10)(j:E6 s v B)(k:jP s z.i.s.length)(l:Told z (z.i.s.foldl (gI cv y.sm) s))(m:100<=room:=by decide):
  cN room (Ht y z v u it) (ce B) (λb=>ww B (z.i.s.foldl (gI cv y.sm) s) b):=by
 have h:=un (y:=y) (u:=u) (it:=it) (x:=z.i.s) (xt:=z.i.tt) (cn:=z.cn) (cv:=cv) d z.i.s 0 s v B rfl j k;rw[<-c]at h;refine bE.mono (bE.ej h (λr g n=>⟨r,g,.refl _,.refl _,n⟩) λN t b r g o=>?_) m;obtain⟨a,e,_,_,f⟩:=wx l o;refine⟨a,r,g,rfl,?_,.refl _,f⟩;show([(y.FL,fh y (mN b) u)]++j9 y (mN b) u z.cs z.cn++r).Perm ([(y.FL,fh y (uk z a) u)]++j9 y (uk z a) u z.cs z.cn++r);rw[e]
theorem Cq(d:z.cs=cv.map λp=>.int p.1 p.2)(f:y.sm.length<=10)(o:E6 s v B)(m:jP s z.i.s.length)(j:z.i.s≠[])(q:Told z (z.i.s.foldl (gI cv y.sm) s))(w:100<=room:=by decide):
  cN room (Hu y z v u it) (ce B) (λb=>ww B (z.i.s.foldl (gI cv y.sm) s) b):=by
 obtain⟨c,cs,k⟩:∃c cs,z.i.s=c::cs:=by
  cases h:z.i.s with
  |nil=>exact absurd h j
  |cons c cs=>exact⟨c,cs,rfl⟩
 have h:=Co (y:=y) (u:=u) (it:=it) (x:=z.i.s) (xt:=z.i.tt) (cn:=z.cn) (cv:=cv) f k o (by rw[k]at m;exact m);rw[<-d,<-k]at h;refine bE.mono (bE.ej h (λr g A=>⟨r,g,.refl _,.refl _,A⟩) λN t b r g C=>?_) w;obtain⟨a,e,e2,e3,l⟩:=wx q C;refine⟨a,r,g,rfl,?_,.refl _,l⟩;show([(y.FL,fh (y.keys (b.n 2) (b.n 3)) (mN b) u)]++j9 y (mN b) u z.cs z.cn++r).Perm ([(y.FL,fh (y.keys (a.n 2) (a.n 3)) (uk z a) u)]++j9 y (uk z a) u z.cs z.cn++r);rw[e,e2,e3]
end
end
section
open PySem.Builtin PySem.Builtin.Str
variable{B B':bH}{vs:List Value}
structure qm where(mark text space:List Nat)(first:Bool)(spot:Int×Int)
variable{ds:List qm}
noncomputable def ij:List Nat:=[71,65,80]
noncomputable def iB:List Nat:=[69,78,68]
noncomputable def d0:List Nat:=[66,65,68]
noncomputable def fj:List Nat:=[78,79,84,69]
noncomputable def rm:List Nat:=[66,79,76]
structure ec where(s:eY)(due:List qm)(space:List Nat)(first:Bool)(last:Option (Int×Int))
noncomputable def eY.fresh(s:eY):eY:={ s with blanks:=0,bT:=[] }
def gx(cuts:List (Int×Nat))(sm:List Nat)(g:ec)(m x:List Nat):ec:=
 let s:=x.foldl (gI cuts sm) g.s.fresh
 let sp:=s.bT.headD (0,0)
 if m=ij then{ g with s:=s,space:=g.space++List.replicate s.blanks.toNat 32,last:=some sp }
 else if m=iB then⟨s,if g.first then g.due++[⟨rm,[],[],true,sp⟩]else g.due,[],true,some sp⟩
 else if m=d0 then{ g with s:=s,first:=false }
 else if m=fj then{ g with s:=s }
 else{ g with s:=s,due:=g.due++[⟨m,x,g.space,g.first,sp⟩],space:=[],first:=false }
structure Vf where(a mt tt st:Nat)(p:XW)(d:qm)
inductive Sk(B:bH)(x:Vf):Prop where|mk:(dr w.params B x.a (N0 x.d.mark x.d.text x.d.space x.d.first x.p.a x.mt x.tt x.st))->((x.p.r,x.p.c)=x.d.spot)->(dr w.params B x.p.a (pi x.p.r x.p.c x.p.rt x.p.ct))->Sk B x
inductive fF(B:bH)(vs:List Value)(ds:List qm):Prop where|mk:∀xs:List Vf,(vs=xs.map (λx=>.ref x.a))->(xs.map (·.d)=ds)->(∀x∈xs,Sk B x)->fF B vs ds
theorem fF.mono(h:fF B vs ds)(c:∀p∈B,p∈B'):fF B' vs ds:=by
 obtain⟨xs,d,e,a⟩:=h;exact⟨xs,d,e,λx b=>⟨(a x b).1.mono c,(a x b).2,(a x b).3.mono c⟩⟩
theorem fF.add(h:fF B vs ds)(x:Vf)(b:Sk B x):fF B (vs++[.ref x.a]) (ds++[x.d]):=by
 obtain⟨xs,rfl,rfl,c⟩:=h;refine⟨xs++[x],by simp,by simp,λy hy=>?_⟩;rcases dw.1 hy with hy|hy
 ·exact c y hy
 ·rw[eC]at hy;subst hy;exact b
def LastOk(B:bH)(v:Value)(l:Option (Int×Int)):Prop:=match l with
 |none=>∃a,v=.ref a
 |some sp=>∃p:XW,v=.ref p.a/\(p.r,p.c)=sp/\dr w.params B p.a (pi p.r p.c p.rt p.ct)
theorem LastOk.mono{v:Value}{l:Option (Int×Int)}(h:LastOk B v l)(a:∀p∈B,p∈B'):LastOk B' v l:=by
 cases l with
 |none=>exact h
 |some sp=>
  obtain⟨p,b,c,d⟩:=h;exact⟨p,b,c,d.mono a⟩
inductive Vg(v:Value)(x:List Nat):Prop where|mk:∀t,v=.str ⟨⟨x⟩⟩ t->Vg v x
theorem qo{cuts:List (Int×Nat)}{sm:List Nat}:∀(cs:List Nat)(s:eY)(k:Nat),jP s (cs.length+k)->jP (cs.foldl (gI cuts sm) s) k
 |[],s,k,h=>by simpa using h
 |c::cs,s,k,h=>qo cs _ k (jP.step (by rw[List.length_cons]at h;rw[show cs.length+k+1=cs.length+1+k by exact xi _ _ _];exact h))
theorem JL{cuts:List (Int×Nat)}{sm:List Nat}{s:eY}{c:Nat}:∃p,(gI cuts sm s c).bT=s.bT++[p]:=by
 unfold gI;by_cases a:c=10<;>simp[a]
theorem E7{cuts:List (Int×Nat)}{sm:List Nat}{s:eY}{c:Nat}:s.blanks+1<=(gI cuts sm s c).blanks/\(gI cuts sm s c).blanks<=s.blanks+8:=by
 have key:∀w:Int,1<=(if c=9 then 8-w.fmod 8 else 1)/\(if c=9 then 8-w.fmod 8 else 1)<=8:=λw=>by
  by_cases h:c=9
  ·rw[bP h];exact⟨Int.sub_pos_of_lt (iG _ (by decide)),Int.sub_le_self _ (i7 _ (by decide))⟩
  ·rw[bu h]
   decide
 have e:(gI cuts sm s c).blanks=s.blanks+(if c=9 then 8-(if(cuts.any λp=>p.1==s.at_)=true then 0 else s.wide).fmod 8 else 1):=by
  by_cases h:c=10
  ·exact b8 eY.blanks (bP h)
  ·exact b8 eY.blanks (bu h)
 rw[e];exact⟨Int.add_le_add_left (key _).1 _,Int.add_le_add_left (key _).2 _⟩
theorem ut{cuts:List (Int×Nat)}{sm:List Nat}:∀(cs:List Nat)(s:eY),(cs≠[]\/s.bT≠[])->(cs.foldl (gI cuts sm) s).bT≠[]
 |[],s,h=>h.resolve_left (by simp)
 |c::cs,s,Y=>ut cs _ (.inr (by obtain⟨p,e⟩:=@JL cuts sm s c;rw[e];simp))
theorem mo{cuts:List (Int×Nat)}{sm:List Nat}:∀(cs:List Nat)(s:eY),s.blanks<=(cs.foldl (gI cuts sm) s).blanks/\(cs.foldl (gI cuts sm) s).blanks<=s.blanks+8*cs.length
 |[],s=>by simp
 |c::cs,s=>by
  have a:=@E7 cuts sm s c;have b:=mo (cuts:=cuts) (sm:=sm) cs (gI cuts sm s c);exact acv a b
end
section
open PySem.Builtin PySem.Builtin.Str
def rd(cuts:List (Int×Nat))(sm:List Nat)(g:ec)(i:ht):ec:=gx cuts sm g i.m i.s
inductive OH(s:eY)(v:gw):Prop where|mk:∀rt wt iL,v.row=.str ⟨⟨s.row⟩⟩ rt->v.wide=.int s.wide wt->v.at_=.int s.at_ iL->OH s v
inductive re(g:ec)(v:gw)(u:hJ)(due:List Value)(B:bH):Prop where|mk:OH g.s v->(eZ v.rows g.s.rows)->(da B v.bT g.s.bT)->(fF B due g.due)->Vg u.space g.space->(u.first=.bool g.first)->(LastOk B u.last g.last)->re g v u due B
inductive mq(B:bH)(g:ec)(v:gw)(u:hJ)(due:List Value)(r:bH)(gl:bR):Prop where|mk:∀B',(re g v u due B')->((∀p∈B,p∈B'))->(ce B' r gl)->mq B g v u due r gl
noncomputable def gQ(l:List ht):Nat:=(l.map λi=>i.s.length).sum
def iR(g:ec)(l:List ht):Prop:=g.s.rows.length+g.s.row.length+4*gQ l<=9000/\g.space.length+8*gQ l<=9000/\g.due.length+l.length<=9000
def vx(B:bH)(i:ht):Prop:=dr w.params B i.a (rN i)/\i.s≠[]/\i.s.all (· < 128)=true
section
noncomputable def ltE(rn sn SP dn:Nat)(v:gw)(u:hJ)(due:List Value):L2:=⟨λn=>match n with
 |0=>rn
 |1=>sn
 |4=>SP
 |Y=>dn,λn=>match n with
 |0=>v.row
 |1=>v.wide
 |2=>v.at_
 |3=>v.blanks
 |4=>v.c
 |5=>v.step
 |6=>u.space
 |7=>u.first
 |8=>u.last
 |9=>u.mark
 |Y=>u.text,λn=>match n with
 |0=>v.rows
 |1=>v.bT
 |Y=>due⟩
noncomputable def hK.at(z:hK)(j:Nat)(row:List Nat)(e a:Int)(wf yU iL:Nat)(vb vc vs:Value)(rows:List Value)(rn:Nat)(bT:List Value)(sn:Nat)(due:List Value)(dn:Nat)(f:List Nat)(ov:Nat)(g:Bool)(h:Value)(SP:Nat)(vm vt:Value)(i:ht)(b:List Nat)(c k l:Int)(d:List Nat):hK:=
 ⟨z.it,j,z.xs,z.n,z.cs,z.cn,row,e,a,wf,yU,iL,vb,vc,vs,rows,rn,bT,sn,due,dn,f,ov,g,h,SP,vm,vt,i,b,c,k,l,d⟩
theorem vy{y:j7}{z:hK}{j:Nat}{g:ec}{v:gw}{u:hJ}{due:List Value}{dn:Nat}{B:bH}(c:z.xs.drop j=[])(h:re g v u due B):
  cN 150 (oe y z v u j due dn) (ce B) (λa=>mq B g (mN a) (uL a) (a.l 2)):=by
 obtain⟨m,n,p,vb,vc,vs,rows,rn,bT,sn⟩:=v;obtain⟨us,q,b,SP,vm,vt⟩:=u;have d:=h;obtain⟨⟨rt,wt,iL,e1,e2,e3⟩,r,w,hd,⟨ov,e4⟩,e,x⟩:=d;subst e1 e2 e3 e4 e;have f:z.xs[j]?=none:=by
  have i:=nH.mp c;simp[i]
 exists bE.o,Jx y (z.at j g.s.row g.s.wide g.s.at_ rt wt iL vb vc vs rows rn bT sn due dn g.space ov g.first b SP vm vt ⟨0,0,[],0,[]⟩ [] 0 0 0 []),0;exists bz,cA f,0;exact cC (ltE rn sn SP dn ⟨.str ⟨⟨g.s.row⟩⟩ rt,.int g.s.wide wt,.int g.s.at_ iL,vb,vc,vs,rows,rn,bT,sn⟩ ⟨.str ⟨⟨g.space⟩⟩ ov,.bool g.first,b,SP,vm,vt⟩ due) (λr0 g0 k=>⟨B,h,λZ h=>h,k⟩)
end
end
section
noncomputable def qp:Res->Prop|.fin seg Y V U T=>seg=false|.call false false Y V U T O M next=>∀N t a,qp (next N t a)|.dG Y o r=>jW o=false/\qp r|Y=>False
section
variable{prog:Program}{w:World}{kt:KT}{os:OsState}{α:Type}{acj:Nat}{It:α->Value->bH->Prop}{bL:Result->bH->bR->Prop}{G:Gl α}{σ:List α}
theorem Holds.ex{ι:Type}(k:G.seg=false)(r:Res):∀{X:b7}{Y:ι->b7},(∀r g,X r g->∃i,Y i r g)->qp r->(∀i,Holds prog w kt os acj It bL G r (Y i) σ)->Holds prog w kt os acj It bL G r X σ:=by
 induction r with
 |fin seg r L N t=>
  intro X Y f d h;have d:seg=false:=d;subst d;refine⟨k.symm,λr0 g0 q=>?_,λq=>nomatch q⟩;obtain⟨i,q⟩:=f _ _ q;exact(h i).2 r0 g0 q
 |call e seg c room pre N t out next j=>
  intro X Y f d h;cases e with
  |true=>cases seg<;>exact d.elim
  |false=>
   cases seg with
   |true=>exact d.elim
   |false=>
    replace h:=λi=>H1.ex (h i)
    refine⟨λb r g=>∃i,(Classical.choose (h i)) b r g,?_,λN t b=>?_⟩
    ·exact bE.dP (bE.Zb λi=>bE.dP (jC (h i)).1 (λz z q=>q) λb r g q=>⟨i,q⟩) f λz z z q=>q
    ·exact j N t b (Y:=λi=>Classical.choose (h i) b) (λz z q=>q) (d N t b) λi=>(jC (h i)).2 N t b
 |dG a o r j=>
  intro X Y f d h;refine⟨⟨d.1,λr0 g0 q=>?_⟩,j f d.2 λi=>(h i).2⟩;obtain⟨i,q⟩:=f _ _ q;exact(h i).1.2 r0 g0 q
 |_=>intro X Y f d h;exact d.elim
theorem Holds.fact(b:G.seg=false){r:Res}{X Y:b7}{p:Prop}(a:∀r g,X r g->p/\Y r g)(c:qp r)(h:p->Holds prog w kt os acj It bL G r Y σ):Holds prog w kt os acj It bL G r X σ:=
 Holds.ex b r (ι:=PLift p) (Y:=λz=>Y) (λr g q=>⟨⟨(a r g q).1⟩,(a r g q).2⟩) c λi=>h i.down
end
end
section
open PySem.Builtin PySem.Builtin.Str
variable{vs:List Value}{i:ht}{sm x:List Nat}{ℓ:L2}{room t u:Nat}{b:Bool}
theorem da.head{B:bH}{a:Nat}{d:List (Int×Int)}(h:da B (.ref a::vs) d):∃p:XW,p.a=a/\(p.r,p.c)=d.headD (0,0)/\dr w.params B a (pi p.r p.c p.rt p.ct):=by
 obtain⟨ps,e1,e2,e3⟩:=h;cases ps with
 |nil=>simp at e1
 |cons p ps=>
  injection e1 with e1 e4;injection e1 with e1;subst e1;exact⟨p,rfl,by rw[<-e2];rfl,e3 p (.head _)⟩
structure wy(cv:List (Int×Nat))(sm:List Nat)(z:hK)(g:ec)(B:bH)(l:List ht):Prop where(sp:z.sp=g.space)(fi:z.fi=g.first)(du:fF B z.due g.due)(la:LastOk B z.la g.last)(told:Told z (z.i.s.foldl (gI cv sm) g.s.fresh))(Hs:z.Hs=List.replicate (z.i.s.foldl (gI cv sm) g.s.fresh).blanks.toNat 32)(it:vx B z.i)(bd:iR g (z.i::l))
theorem iR.fresh{g:ec}{l:List ht}(h:iR g (i::l)):jP g.s.fresh (i.s.length+gQ l):=by
 have a:=h.1;have e:gQ (i::l)=i.s.length+gQ l:=rfl;rw[e]at a;unfold jP eY.fresh;simp only[List.length_nil];exact a
theorem Cr{cv:List (Int×Nat)}{g a:ec}{l:List ht}(h:iR g (i::l))(k:a.s=i.s.foldl (gI cv sm) g.s.fresh)(m:a.space.length<=g.space.length+a.s.blanks.toNat)(n:a.due.length<=g.due.length+1):iR a l:=by
 have c:=qo (cuts:=cv) (sm:=sm) i.s g.s.fresh (gQ l) h.fresh;have d:=mo (cuts:=cv) (sm:=sm) i.s g.s.fresh;have o:g.s.fresh.blanks=0:=rfl;rw[<-k]at c d;rw[o]at d;obtain⟨_,f,j⟩:=h;have e:gQ (i::l)=i.s.length+gQ l:=rfl;rw[e]at f;rw[List.length_cons]at j;unfold jP at c;exact⟨cu (Nat.add_le_add_right (h9 ..) _) c,cu (Nat.add_le_add_right m _) (ace d f),cu (Nat.add_le_add_right n _) (by rw[Gb,Nat.add_comm 1];exact j)⟩
theorem iR.step{cv:List (Int×Nat)}{sm:List Nat}{g:ec}{i:ht}{l:List ht}(h:iR g (i::l)):iR (rd cv sm g i) l:=by
 by_cases a:i.m=ij
 ·rw[show rd cv sm g i=_ from bP a];exact Cr h rfl (nK (c5.trans (b8 _ w6))) (oA _)
 by_cases c:i.m=iB
 ·rw[show rd cv sm g i=_ from(bu a).trans (bP c)];refine Cr h rfl (eo _) ?_;show(if g.first then g.due++[_]else g.due).length<=_;cases g.first
  ·exact oA _
  ·exact nK c5
 by_cases d:i.m=d0
 ·rw[show rd cv sm g i=_ from((bu a).trans (bu c)).trans (bP d)];exact Cr h rfl (h9 _ _) (oA _)
 by_cases e:i.m=fj
 ·rw[show rd cv sm g i=_ from(((bu a).trans (bu c)).trans (bu d)).trans (bP e)];exact Cr h rfl (h9 _ _) (oA _)
 ·rw[show rd cv sm g i=_ from(((bu a).trans (bu c)).trans (bu d)).trans (bu e)];exact Cr h rfl (eo _) (nK c5)
section
variable{G:Gl Unit}{y:j7}{z:hK}{g:ec}{B:bH}{cv:List (Int×Nat)}{l:List ht}
def HD(G:Gl Unit)(y:j7)(z:hK)(c:ec)(B:bH):Prop:=
 ∀gg a v u due dn,(∀p∈B,p∈gg++a)->re c v u due (gg++a)->∀d1 d2 r2 ns N t,
  C1 G ((EV y z v u due dn gg).res (.n d1 150::.n d2 r2::ns) N t) (ce a) []
def abk(G:Gl Unit)(y:j7)(z:hK)(s:eY)(B:bH)(k SP:Nat)(u:hJ)(t:Nat)(ℓ:L2)(ns:List Num)(N a:Nat):Prop:=
 C1 G ((XI y z k SP u t ℓ).res ns N a) (ww B s ℓ) []
theorem OI(a:Value)(l:List Value):seqIndex? 0 (a::l).length=some 0:=by
 unfold seqIndex?;simp
theorem da.mono{B a:bH}{sp:List (Int×Int)}(h:da B vs sp)(c:∀p∈B,p∈a):da a vs sp:=by
 obtain⟨ps,e1,e2,e3⟩:=h;exact⟨ps,e1,e2,λp d=>(e3 p d).mono c⟩
theorem fF.len{B:bH}{a:List qm}(h:fF B vs a):vs.length=a.length:=by
 obtain⟨xs,rfl,rfl,_⟩:=h;simp
theorem wy.bounds(h:wy cv sm z g B l):(0<=z.bl/\z.bl<=100000)/\z.Hs=List.replicate z.bl.toNat 32/\z.sp.length+z.Hs.length<=10000/\(z.i.s.foldl (gI cv sm) g.s.fresh).bT.length<=10000/\z.due.length<=cZ:=by
 have d:=mo (cuts:=cv) (sm:=sm) z.i.s g.s.fresh;have k:=qo (cuts:=cv) (sm:=sm) z.i.s g.s.fresh (gQ l) h.bd.fresh;have n:g.s.fresh.blanks=0:=rfl;rw[n]at d;have a:=h.bd.2.1;have c:=h.bd.2.2;have e:gQ (z.i::l)=z.i.s.length+gQ l:=rfl;rw[e]at a;rw[List.length_cons]at c;have f:=h.du.len;have o:cZ=100000:=rfl;obtain⟨p,q,r,j,v⟩:=h.told;unfold jP at k;have m:z.Hs=List.replicate z.bl.toNat 32:=by rw[<-j];exact h.Hs
 have b:=ace (j▸d) a;refine⟨⟨j▸d.1,Int.toNat_le.1 (cu (cu (jE ..) (cu (h9 ..) b)) (by decide))⟩,m,?_,by exact cu (cu (cu (jE _ _) (h9 _ _)) k) (by decide),f▸cu (h9 ..) (cu c (by decide))⟩;rw[m,h.sp,w6];exact cu (h9 ..) (cu b (by decide))
theorem mT(j:G.seg=false)(h:wy cv y.sm z g B l){r:Res}(k:qp r)(H:∀e,eZ (ℓ.l 0) (z.i.s.foldl (gI cv y.sm) g.s.fresh).rows->da e (.ref (ℓ.n 14)::ℓ.l 1) (z.i.s.foldl (gI cv y.sm) g.s.fresh).bT->(∀p∈B,p∈e)->OH (z.i.s.foldl (gI cv y.sm) g.s.fresh) (uk z ℓ)->∀p:XW,p.a=ℓ.n 14->(p.r,p.c)=(z.i.s.foldl (gI cv y.sm) g.s.fresh).bT.headD (0,0)->dr w.params e p.a (pi p.r p.c p.rt p.ct)->(uk z ℓ).bT.length<=10000->C1 G r (ce e) []):
  C1 G r (ww B (z.i.s.foldl (gI cv y.sm) g.s.fresh) ℓ) []:=
 Holds.ex j r (ι:={e:bH//eZ (ℓ.l 0) (z.i.s.foldl (gI cv y.sm) g.s.fresh).rows/\da e (.ref (ℓ.n 14)::ℓ.l 1) (z.i.s.foldl (gI cv y.sm) g.s.fresh).bT/\(∀p∈B,p∈e)}) (Y:=λi=>ce i.1) (λr g ⟨e,a,b,c,d⟩=>⟨⟨e,a,b,c⟩,d⟩) k λ⟨e,a,b,c⟩=>by
  obtain⟨m,o,q,v,A⟩:=h.told;obtain⟨p,e1,e2,e3⟩:=b.head;exact H e a b c ⟨_,_,_,by rw[m];rfl,by rw[o];rfl,by rw[q];rfl⟩ p e1 e2 (e1▸e3) (by have f:=h.bounds.2.2.2.1;rw[<-b.len]at f;exact f)
def C5(m:List Nat)(f:Bool):Nat:=if m=ij then 0 else if m=iB then cond f 2 1 else if m=d0 then 3 else if m=fj then 4 else 5
theorem zv(m:List Nat)(f:Bool):C5 m f∈[0,1,2,3,4,5]/\fI (C5 m f) f=f:=by
 by_cases a:m=ij
 ·rw[show C5 m f=0 from bP a];exact⟨by decide,rfl⟩
 by_cases c:m=iB
 ·rw[show C5 m f=cond f 2 1 from(bu a).trans (bP c)];cases f<;>exact⟨by decide,rfl⟩
 by_cases d:m=d0
 ·rw[show C5 m f=3 from(bu a).trans ((bu c).trans (bP d))];exact⟨by decide,rfl⟩
 by_cases e:m=fj
 ·rw[show C5 m f=4 from(bu a).trans ((bu c).trans ((bu d).trans (bP e)))];exact⟨by decide,rfl⟩
 ·rw[show C5 m f=5 from(bu a).trans ((bu c).trans ((bu d).trans (bu e)))];exact⟨by decide,rfl⟩
theorem gH{y:List Nat}(h:x≠y)(e:false=b):dq pz (wv w b1 b2) (bY w.params) os room (vo x t y u b) bV (λz=>bV):=gG (e▸VG h)
theorem pu{y:List Nat}(h:x=y)(e:true=b):dq pz (wv w b1 b2) (bY w.params) os room (vo x t y u b) bV (λz=>bV):=gG (e▸je.2 h)
theorem Cs(w:G.seg=false)(h:wy cv y.sm z g B l)(A:HD G y z (rd cv y.sm g z.i) B){SP:Nat}{vm vt:Value}{N t':Nat}:
  abk G y z (z.i.s.foldl (gI cv y.sm) g.s.fresh) B (C5 z.i.m z.fi) SP ⟨.str ⟨⟨z.sp⟩⟩ z.ov,.bool z.fi,z.la,SP,vm,vt⟩ t ℓ (lyS (C5 z.i.m z.fi)) N t':=by
 obtain⟨M,O,P,_,K⟩:=h.bounds;by_cases d:z.i.m=ij
 ·rw[show C5 z.i.m z.fi=0 from bP d];refine mT w h (λx x x x x x x x x x x x x x x=>rfl) λf j k a c p e1 e2 e3 r=>?_;refine HE.of ?_;intro D _;exists bz,pu d rfl,0;exists bz,JK M O;intro _ o l2 _;exists bz,i4 P;intro _ u3 E _;exists bz,fM 0 r (by decide) (OI _ _) rfl;intro F H I _;refine A [] f _ _ _ _ a ?_ _ _ _ _ _ _;rw[show rd cv y.sm g z.i=_ from bP d];refine⟨c,j,k,h.du.mono a,⟨E.n 0,?_⟩,b8 Value.bool h.fi,⟨p,by rw[e1],e2,e3⟩⟩;show Value.str ⟨⟨z.sp++z.Hs⟩⟩ _=.str ⟨⟨g.space++List.replicate (z.i.s.foldl (gI cv y.sm) g.s.fresh).blanks.toNat 32⟩⟩ _;rw[h.sp,h.Hs]
 by_cases e:z.i.m=iB
 ·rw[show C5 z.i.m z.fi=cond z.fi 2 1 from(bu d).trans (bP e)];cases L:z.fi with
  |false=>
   refine mT w h (λx x x x x x x x x x x x=>rfl) λf j k a c p e1 e2 e3 r=>?_;refine HE.of ?_;intro D _;exists bz,gH d rfl,0;exists bz,pu e rfl;intro _ o l2 _;exists bz,fM 0 r (by decide) (OI _ _) rfl;intro F H I _;refine A [] f _ _ _ _ a ?_ _ _ _ _ _ _;rw[show rd cv y.sm g z.i=_ from(bu d).trans (bP e),h.fi.symm.trans L];exact⟨c,j,k,h.du.mono a,⟨_,rfl⟩,rfl,⟨p,by rw[e1],e2,e3⟩⟩
  |true=>
   refine mT w h (λx x x x x x x x x x x x x x x x x x=>rfl) λf j k a c p e1 e2 e3 r=>?_;refine HE.of ?_;intro D _;exists bz,gH d rfl,0;exists bz,pu e rfl;intro _ o l2 _;exists bz,fM 0 r (by decide) (OI _ _) rfl;intro F H I _;exists bz,bX K;intro J Q R _;exists bz,fM 0 r (by decide) (OI _ _) rfl,0;refine A [(F,N0 rm [] [] true (ℓ.n 14) o (o+1) (o+2))] f _ _ _ _ (λq c=>.tail _ (a q c)) ?_ _ _ _ _ _ _;rw[show rd cv y.sm g z.i=_ from(bu d).trans (bP e),h.fi.symm.trans L];exact⟨c,j,k.mono (λq c=>.tail _ c),(h.du.mono (λq c=>.tail _ (a q c))).add ⟨F,o,o+1,o+2,p,⟨rm,[],[],true,_⟩⟩ ⟨.inl (e1▸.head _),e2,e3.mono λq c=>.tail _ c⟩,⟨_,rfl⟩,rfl,⟨p,by rw[e1],e2,e3.mono λq c=>.tail _ c⟩⟩
 by_cases v:z.i.m=d0
 ·rw[show C5 z.i.m z.fi=3 from(bu d).trans ((bu e).trans (bP v))];refine mT w h (λx x x x x x x x x x x x=>rfl) λf j k a c p e1 e2 e3 r=>?_;refine HE.of ?_;intro D _;exists bz,gH d rfl,0;exists bz,gH e rfl;intro _ o l2 _;exists bz,pu v rfl;intro _ u3 E _;refine A [] f _ _ _ _ a ?_ _ _ _ _ _ _;rw[show rd cv y.sm g z.i=_ from(bu d).trans ((bu e).trans (bP v))];exact⟨c,j,k,h.du.mono a,⟨_,b8 (λl=>Value.str ⟨⟨l⟩⟩ _) h.sp⟩,rfl,h.la.mono a⟩
 by_cases C:z.i.m=fj
 ·rw[show C5 z.i.m z.fi=4 from(bu d).trans ((bu e).trans ((bu v).trans (bP C)))];refine mT w h (λx x x x x x x x x x x x x x x=>rfl) λf j k a c p e1 e2 e3 r=>?_;refine HE.of ?_;intro D _;exists bz,gH d rfl,0;exists bz,gH e rfl;intro _ o l2 _;exists bz,gH v rfl;intro _ u3 E _;exists bz,iz (b:=_) (by show(z.i.m !=_)=_;rw[C];rfl),0;refine A [] f _ _ _ _ a ?_ _ _ _ _ _ _;rw[show rd cv y.sm g z.i=_ from(bu d).trans ((bu e).trans ((bu v).trans (bP C)))];exact⟨c,j,k,h.du.mono a,⟨_,b8 (λl=>Value.str ⟨⟨l⟩⟩ _) h.sp⟩,b8 Value.bool h.fi,h.la.mono a⟩
 ·rw[show C5 z.i.m z.fi=5 from(bu d).trans ((bu e).trans ((bu v).trans (bu C)))];refine mT w h (λx x x x x x x x x x x x x x x x x x x x x=>rfl) λf j k a c p e1 e2 e3 r=>?_;refine HE.of ?_;intro D _;exists bz,gH d rfl,0;exists bz,gH e rfl;intro _ o l2 _;exists bz,gH v rfl;intro _ u3 E _;exists bz,iz (b:=true) (kz.2 C),0;exists bz,fM 0 r (by decide) (OI _ _) rfl;intro J Q R _;exists bz,bX K,0;refine A [(J,N0 z.i.m z.i.s z.sp z.fi (ℓ.n 14) z.i.mt z.i.tt z.ov)] f _ _ _ _ (λq c=>.tail _ (a q c)) ?_ _ _ _ _ _ _;rw[show rd cv y.sm g z.i=_ from(bu d).trans ((bu e).trans ((bu v).trans (bu C)))];exact⟨c,j,k.mono (λq c=>.tail _ c),(h.du.mono (λq c=>.tail _ (a q c))).add ⟨J,z.i.mt,z.i.tt,z.ov,p,⟨z.i.m,z.i.s,g.space,g.first,_⟩⟩ ⟨.inl (e1▸h.sp▸h.fi▸.head _),e2,e3.mono λq c=>.tail _ c⟩,⟨_,rfl⟩,rfl,h.la.mono (λq c=>.tail _ (a q c))⟩
end
end
section
open PySem.Builtin PySem.Builtin.Str
variable{B B':bH}{i:ht}{g:ec}{v:gw}{u:hJ}{due:List Value}{z:hK}{dn:Nat}{l:List ht}
noncomputable def ltK(f:L2)(a b c d e:Nat):L2:=⟨λn=>match n with
 |20=>a
 |21=>b
 |22=>c
 |23=>d
 |24=>e
 |n=>f.n n,f.v,f.l⟩
theorem vx.mono(h:vx B i)(a:∀p∈B,p∈B'):vx B' i:=⟨h.1.mono a,h.2⟩
theorem mq.mono{r:bH}{gl:bR}(h:mq B' g v u due r gl)(a:∀p∈B,p∈B'):mq B g v u due r gl:=
 let⟨b,c,d,e⟩:=h
 ⟨b,c,λp f=>d p (a p f),e⟩
def hK.turn(z:hK)(cv:List (Int×Nat))(sm:List Nat)(j:Nat)(g:ec)(wf yU iL:Nat)(vb vc vs:Value)(rows:List Value)(rn:Nat)(bT:List Value)(sn:Nat)(due:List Value)(dn:Nat)(ov:Nat)(a:Value)(SP:Nat)(vm vt:Value)(i:ht):hK:=
 z.at j g.s.row g.s.wide g.s.at_ wf yU iL vb vc vs rows rn bT sn due dn g.space ov g.first a SP vm vt i (i.s.foldl (gI cv sm) g.s.fresh).row (i.s.foldl (gI cv sm) g.s.fresh).wide (i.s.foldl (gI cv sm) g.s.fresh).at_ (i.s.foldl (gI cv sm) g.s.fresh).blanks (List.replicate (i.s.foldl (gI cv sm) g.s.fresh).blanks.toNat 32)
section
variable{y:j7}{cv:List (Int×Nat)}
theorem Ct{G:Gl Unit}{b c:ec}(e:G.seg=false)(f:∀v u due dn B',(∀p∈B,p∈B')->re b v u due B'->cN 150 (oe y z v u (z.j+1) due dn) (ce B') (λa=>mq B' c (mN a) (uL a) (a.l 2)))(k:∀N t a r g,mq B c (mN a) (uL a) (a.l 2) r g->Dg G (.ok .next) ([(y.FL,fh y (mN a) (uL a))]++nq y (mN a) (uL a) z (a.l 2) (a.n 5)) N t r g):
  HD G y z b B:=by
 intro gg B' v u due dn d h d1 d2 r2 ns N t;refine⟨_,bE.dX (f v u due dn (gg++B') d h) (λr g ⟨e1,e2⟩=>⟨gg++B',by rw[e1],rfl,e2⟩),λN t a=>⟨e.symm,λr0 g0 m=>k _ _ a r0 g0 (m.mono d),λh=>by cases h⟩⟩
theorem HF{j:Nat}{wf yU iL:Nat}{vb vc vs:Value}{rows:List Value}{rn:Nat}{bT:List Value}{sn:Nat}{ov:Nat}{a:Value}{SP:Nat}{vm vt:Value}(c:fF B due g.due)(d:LastOk B a g.last)(b:vx B i)(e:iR g (i::l)):wy cv y.sm (z.turn cv y.sm j g wf yU iL vb vc vs rows rn bT sn due dn ov a SP vm vt i) g B l:=
 ⟨rfl,rfl,c,d,⟨rfl,rfl,rfl,rfl,ut _ _ (.inl b.2.1)⟩,rfl,b,e⟩
theorem uu{z:hK}(f:z.cs=cv.map λp=>.int p.1 p.2)(k:y.sm.length<=10):∀(l:List ht)(j:Nat)(g:ec)(v:gw)(u:hJ)(due:List Value)(dn:Nat)(B:bH),z.xs.drop j=ek l->re g v u due B->iR g l->(∀i∈l,vx B i)->
  cN 150 (oe y z v u j due dn) (ce B) (λb=>mq B (l.foldl (rd cv y.sm) g) (mN b) (uL b) (b.l 2))
 |[],j,g,v,u,due,dn,B,x,h,Y,V=>vy x h
 |i::l,j,⟨c,gd,e,d,n⟩,⟨P,Q,R,vb,vc,vs,rows,rn,bT,sn⟩,⟨us,S,A,SP,vm,vt⟩,due,dn,B,x,h,C,q=>by
  have J:=h;obtain⟨⟨rt,wt,iL,e1,e2,e3⟩,F,K,hd,⟨ov,e4⟩,G,H⟩:=J;simp only at e1 e2 e3 e4 G F K H;subst e1 e2 e3 e4 G;have L:z.xs[j]?=some (.ref i.a):=by
   rw[<-ja,x];rfl
  have D:z.xs.drop (j+1)=ek l:=by
   rw[<-kv,x];rfl
  have w:=q i (.head _);have I:=HF (y:=y) (cv:=cv) (z:=z) (j:=j) (wf:=rt) (yU:=wt) (iL:=iL) (vb:=vb) (vc:=vc) (vs:=vs) (rows:=rows) (rn:=rn) (bT:=bT) (sn:=sn) (dn:=dn) (ov:=ov) (SP:=SP) (vm:=vm) (vt:=vt) hd H w C;have E:jP c.fresh i.s.length:=by
   have:=C.fresh;exact cu (w9 (w8 4 (h9 _ _)) _) this
  have M:HD ⟨false,(oe y z ⟨.str ⟨⟨c.row⟩⟩ rt,.int c.wide wt,.int c.at_ iL,vb,vc,vs,rows,rn,bT,sn⟩ ⟨.str ⟨⟨e⟩⟩ ov,.bool d,A,SP,vm,vt⟩ j due dn).out,(λb=>mq B ((i::l).foldl (rd cv y.sm) ⟨c,gd,e,d,n⟩) (mN b) (uL b) (b.l 2)),[]⟩ y (z.turn cv y.sm j ⟨c,gd,e,d,n⟩ rt wt iL vb vc vs rows rn bT sn due dn ov A SP vm vt i) (rd cv y.sm ⟨c,gd,e,d,n⟩ i) B:=
   Ct rfl (λv u due dn B' O h=>uu f k l (j+1) _ v u due dn B' D h C.step λi w=>(q i (.tail _ w)).mono O) λN t b r g h=>⟨b,r,g,rfl,h,.refl _,.refl _⟩
  exists bE.o,Oa y (z.turn cv y.sm j ⟨c,gd,e,d,n⟩ rt wt iL vb vc vs rows rn bT sn due dn ov A SP vm vt i) (C5 i.m d) (zv i.m d).1 (zv i.m d).2;intro T N t _;exists bz,b6 L,0;exists cT,w.1.dG,0;exists bz,uq w.2.2,0;exists bx,Cp (s:=c.fresh) (z:=(z.turn cv y.sm j ⟨c,gd,e,d,n⟩ rt wt iL vb vc vs rows rn bT sn due dn ov A SP vm vt i)) f k ⟨⟨_,_,_,_,rfl,rfl,rfl,rfl⟩,F,[],rfl,rfl,eu⟩ E I.told,0;exact Cs rfl I M
theorem Cu(w:z.cs=cv.map λp=>.int p.1 p.2)(x:y.sm.length<=10)(H:z.xs=ek (i::l))(h:re g v u due B)(E:iR g (i::l))(A:∀M∈i::l,vx B M):
  cN 150 (si y z v u due dn) (ce B) (λb=>mq B ((i::l).foldl (rd cv y.sm) g) (mN b) (uL b) (b.l 2)):=by
  obtain⟨c,gd,f,e,k⟩:=g;obtain⟨T,U,V,vb,vc,vs,rows,rn,bT,sn⟩:=v;obtain⟨us,W,C,SP,vm,vt⟩:=u;have O:=h;obtain⟨⟨rt,wt,iL,e1,e2,e3⟩,I,P,hd,⟨ov,e4⟩,J,K⟩:=O;simp only at e1 e2 e3 e4 J I P K;subst e1 e2 e3 e4 J;obtain⟨j,rfl⟩:∃j,j=0:=⟨0,rfl⟩
  have Q:z.xs[0]?=some (.ref i.a):=by
   rw[H];rfl
  have F:z.xs.drop (0+1)=ek l:=by
   rw[H];rfl
  have q:=A i (.head _);have G:jP c.fresh i.s.length:=by
   have:=E.fresh;exact cu (w9 (w8 4 (h9 _ _)) _) this
  have L:∀k1 k2 k3 k4 k5,wy cv ((y.q7 k1 k2 k3).keys k4 k5).sm (z.turn cv ((y.q7 k1 k2 k3).keys k4 k5).sm 0 ⟨c,gd,f,e,k⟩ rt wt iL vb vc vs rows rn bT sn due dn ov C SP vm vt i) ⟨c,gd,f,e,k⟩ B l:=λk1 k2 k3 k4 k5=>HF hd K q E;have R:∀k1 k2 k3 k4 k5,HD ⟨false,(si y z ⟨.str ⟨⟨c.row⟩⟩ rt,.int c.wide wt,.int c.at_ iL,vb,vc,vs,rows,rn,bT,sn⟩ ⟨.str ⟨⟨f⟩⟩ ov,.bool e,C,SP,vm,vt⟩ due dn).out,(λb=>mq B ((i::l).foldl (rd cv y.sm) ⟨c,gd,f,e,k⟩) (mN b) (uL b) (b.l 2)),[]⟩ ((y.q7 k1 k2 k3).keys k4 k5) (z.turn cv y.sm 0 ⟨c,gd,f,e,k⟩ rt wt iL vb vc vs rows rn bT sn due dn ov C SP vm vt i) (rd cv y.sm ⟨c,gd,f,e,k⟩ i) B:=
   λk1 k2 k3 k4 k5=>Ct rfl (λv u due dn B' S h=>uu (y:=(y.q7 k1 k2 k3).keys k4 k5) w x l (0+1) _ v u due dn B' F h E.step λi q=>(A i (.tail _ q)).mono S) λN t b r g h=>⟨ltK b k1 k2 k3 k4 k5,r,g,rfl,h,.refl _,.refl _⟩
  exists bE.o,Oc y (z.turn cv y.sm 0 ⟨c,gd,f,e,k⟩ rt wt iL vb vc vs rows rn bT sn due dn ov C SP vm vt i) (C5 i.m e) (zv i.m e).1 (zv i.m e).2;intro X N t _;exists bz,b6 Q;intro _ d l1 _;exists cT,q.1.dG,0;exists bz,uq q.2.2,0;exists bx,Cq (s:=c.fresh) (y:=y.q7 d (d+1) (d+3)) (z:=(z.turn cv y.sm 0 ⟨c,gd,f,e,k⟩ rt wt iL vb vc vs rows rn bT sn due dn ov C SP vm vt i)) w x ⟨⟨_,_,_,_,rfl,rfl,rfl,rfl⟩,I,[],rfl,rfl,eu⟩ G q.2.1 (L d (d+1) (d+3) 0 0).told;intro Y Z D _ _;exact Cs rfl (L d (d+1) (d+3) (D.n 2) (D.n 3)) (R d (d+1) (d+3) (D.n 2) (D.n 3))
end
end
section
open PySem.Builtin PySem.Builtin.Str
variable{B:bH}
noncomputable def iS:ec:=⟨⟨[],[],0,0,0,[]⟩,[],[],true,none⟩
def lv(cv:List (Int×Nat))(sm:List Nat)(l:List ht):ec:=l.foldl (rd cv sm) iS
noncomputable def ec.cM(g:ec):List (List Nat):=if g.s.row=[]then g.s.rows else g.s.rows++[g.s.row]
def ec.gR(g:ec):List qm:=if g.first then g.due++[⟨rm,[],[],true,g.last.getD (0,0)⟩]else g.due
theorem wz{cv:List (Int×Nat)}{sm:List Nat}:∀(l:List ht)(g:ec),iR g l->iR (l.foldl (rd cv sm) g) []
 |[],g,h=>h
 |i::l,g,h=>wz l _ h.step
inductive HG(B:bH)(g:ec)(ℓ:L2)(r:bH)(gl:bR):Prop where|mk:∀B',(eZ (ℓ.l 0) g.s.rows)->(da B' (ℓ.l 1) g.s.bT)->(fF B' (ℓ.l 2) g.due)->(LastOk B' (.ref (ℓ.n 15)) g.last)->((∀p∈B,p∈B'))->(ce B' r gl)->HG B g ℓ r gl
noncomputable def acI(b:L2)(rt a:Nat):L2:=⟨λn=>match n with
 |10=>rt
 |15=>a
 |n=>b.n n,b.v,b.l⟩
theorem E8{v:Value}{l:Option (Int×Int)}(h:LastOk B v l):∃a,v=.ref a:=by
 cases l with
 |none=>exact h
 |some sp=>obtain⟨p,e,_⟩:=h;exact⟨p.a,e⟩
inductive Vh(B:bH)(g:ec)(ℓ:L2)(r:bH)(gl:bR):Prop where|mk:∀B',(eZ (ℓ.l 1) g.cM)->(da B' (ℓ.l 2) g.s.bT)->(fF B' (ℓ.l 0) g.gR)->((∀p∈B,p∈B'))->(ce B' r gl)->Vh B g ℓ r gl
noncomputable def ltF(ns:List Nat)(due rows bT:List Value):L2:=⟨λn=>ns.getD n 0,λz=>.none,λn=>match n with
 |0=>due
 |1=>rows
 |Y=>bT⟩
section
variable{y:j7}{cv:List (Int×Nat)}
theorem Cv{z:hK}(a:z.cs=cv.map λp=>.int p.1 p.2)(b:y.sm.length<=10){i:ht}{l:List ht}{g:ec}{B:bH}{fi:Bool}(k:z.xs=ek (i::l))(h:re g z.v z.u z.due B)(m:iR g (i::l))(c:∀o∈i::l,vx B o)(q:z.row2=((i::l).foldl (rd cv y.sm) g).s.row)(w:fi=((i::l).foldl (rd cv y.sm) g).first){room:Nat}(d:150<=room):
  cN room (zo y z fi) (ce B) (HG B ((i::l).foldl (rd cv y.sm) g)):=by
 refine bE.mono (bE.ej (Cu a b k h m c) (λr g x=>⟨r,g,.refl _,.refl _,x⟩) λN t ℓ r g e=>?_) d;obtain⟨A,⟨⟨rt,wt,iL,e1,e2,e3⟩,d,C,hd,⟨ov,e4⟩,D,f⟩,E,e⟩:=e;obtain⟨la,j⟩:=E8 f;refine⟨acI ℓ rt la,r,g,rfl,?_,.refl _,A,d,C,hd,by rw[j]at f;exact f,E,e⟩;have g1:ℓ.v 0=.str ⟨⟨z.row2⟩⟩ rt:=by rw[q];exact e1
 have g2:ℓ.v 7=.bool fi:=by rw[w];exact D
 have g3:ℓ.v 8=.ref la:=j;have F:YZ z (acI ℓ rt la)=mN ℓ:=by unfold YZ mN;rw[g1];rfl
 have G:u3 fi (acI ℓ rt la)=uL ℓ:=by unfold u3 uL;rw[g2,g3];rfl
 show([(y.FL,fh (sg y ℓ) (mN ℓ) (uL ℓ))]++nq y (mN ℓ) (uL ℓ) z (ℓ.l 2) (ℓ.n 5)++r).Perm ([(y.FL,fh (sg y ℓ) (YZ z (acI ℓ rt la)) (u3 fi (acI ℓ rt la)))]++nq y (YZ z (acI ℓ rt la)) (u3 fi (acI ℓ rt la)) z (ℓ.l 2) (ℓ.n 5)++r);rw[F,G]
theorem pv{G:Gl Unit}{g:ec}(m:G.seg=false){r:Res}{j:L2}(o:qp r)(h:∀k,eZ (j.l 0) g.s.rows->da k (j.l 1) g.s.bT->fF k (j.l 2) g.due->LastOk k (.ref (j.n 15)) g.last->(∀p∈B,p∈k)->C1 G r (ce k) []):
  C1 G r (HG B g j) []:=
 Holds.ex m r (ι:={k:bH//eZ (j.l 0) g.s.rows/\da k (j.l 1) g.s.bT/\fF k (j.l 2) g.due/\LastOk k (.ref (j.n 15)) g.last/\(∀p∈B,p∈k)}) (Y:=λi=>ce i.1) (λr g ⟨k,a,b,c,d,e,f⟩=>⟨⟨k,a,b,c,d,e⟩,f⟩) o λi=>h i.1 i.2.1 i.2.2.1 i.2.2.2.1 i.2.2.2.2.1 i.2.2.2.2.2
theorem Cw{p:R8}{l:List ht}{room:Nat}(O:l≠[])(hx:p.xs=ek l)(P:p.cs=cv.map λp=>.int p.1 p.2)(Q:p.sm.length<=10)(X:iR iS l)(R:∀i∈l,vx B i)(J:p.row2=(lv cv p.sm l).s.row)(S:(lv cv p.sm l).first=true->(lv cv p.sm l).last≠none)(T:200<=room:=by exact db rfl):
  cN room (EW p) (ce B) (Vh B (lv cv p.sm l)):=by
 obtain⟨i,l,rfl⟩:∃i l',l=i::l':=by
  cases l with
  |nil=>exact absurd rfl O
  |cons i l=>exact⟨i,l,rfl⟩
 have K:=wz (cv:=cv) (sm:=p.sm) (i::l) iS X;have Y:=λN t fi g=>@Cv (p.y N t) cv (p.z N t) P Q i l iS B fi hx ⟨⟨_,_,_,rfl,rfl,rfl⟩,⟨[],rfl,rfl⟩,⟨[],rfl,rfl,eu⟩,⟨[],rfl,rfl,eu⟩,⟨_,rfl⟩,rfl,⟨_,rfl⟩⟩ X R J g;have e:(i::l).foldl (rd cv p.sm) iS=lv cv p.sm (i::l):=rfl;have m:∀N t fi,fi=(lv cv p.sm (i::l)).first->∀room,150<=room->cN room (zo (p.y N t) (p.z N t) fi) (ce B) (HG B (lv cv p.sm (i::l))):=λN t fi g room T=>Y N t fi g T
 clear Y;rw[e]at K;generalize lv cv p.sm (i::l)=x at *;obtain⟨q1,q2,q3⟩:=K;have b1:x.s.rows.length<=cZ:=cu (cu (cu (h9 ..) (h9 ..)) q1) (by decide);have Z:x.due.length<=cZ:=cu (cu (h9 ..) q3) (by decide);refine bE.mono ?_ T;have last:x.first=true->∀{j:bH}{a:Nat},LastOk j (.ref a) x.last->∃s:XW,s.a=a/\(s.r,s.c)=x.last.getD (0,0)/\dr w.params j a (pi s.r s.c s.rt s.ct):=λg j a hl=>by
  cases f:x.last with
  |none=>exact absurd f (S g)
  |some sp=>
   rw[f]at hl;obtain⟨s,e1,e2,e3⟩:=hl;injection e1 with e1;subst e1;exact⟨s,rfl,e2,e3⟩
 by_cases hn:p.row2=[]
 ·cases g:x.first with
  |false=>
   exists bE.o,EX p;intro D N t _;exists bx,m N t _ g.symm _ (by decide);intro U V d _ _;refine pv rfl (λ_ _ _=>rfl) λj u E v L F=>?_;refine HE.of ?_;intro D _;exists bz,iz (b:=_) (by rw[hn];rfl);intro A h _ _;refine cB rfl rfl (λr0 g0 G=>?_);refine⟨ltF [A,N+6,N+1,d.n 4,d.n 5,d.n 0,d.n 1] (d.l 2) (d.l 0) (d.l 1),r0,g0,rfl,⟨j,?_,E,?_,F,G⟩,.refl _,.refl _⟩
   ·unfold ec.cM;rw[<-J,bP hn];exact u
   ·unfold ec.gR;rw[g];exact v
  |true=>
   exists bE.o,EY p;intro D N t _;exists bx,m N t _ g.symm _ (by decide);intro U V d _ _;refine pv rfl (λ_ _ _ _ _ _=>rfl) λj u E v L F=>?_;have H:=v.len;obtain⟨s,e1,e2,e3⟩:=last g L;refine HE.of ?_;intro D _;exists bz,iz (b:=_) (by rw[hn];rfl);intro A h _ _;exists bz,bX (cu (nK H) Z);intro C k M _;refine cB rfl rfl (λr0 g0 hz=>?_);obtain⟨G,W⟩:=hz;refine⟨ltF [C,N+6,N+1,d.n 4,M.n 0,d.n 0,d.n 1] (d.l 2++[.ref A]) (d.l 0) (d.l 1),(A,N0 rm [] [] true (d.n 15) h (h+1) (h+2))::r0,g0,rfl,⟨(A,N0 rm [] [] true (d.n 15) h (h+1) (h+2))::j,?_,E.mono λq f=>.tail _ f,?_,λq f=>.tail _ (F q f),by rw[G],W⟩,.refl _,.refl _⟩
   ·unfold ec.cM;rw[<-J,bP hn];exact u
   ·unfold ec.gR;rw[g];refine(v.mono λq f=>.tail _ f).add ⟨A,h,h+1,h+2,s,⟨rm,[],[],true,_⟩⟩ ⟨.inl ?_,e2,?_⟩
    ·rw[e1];exact .head _
    ·rw[e1];exact e3.mono λq f=>.tail _ f
 ·cases g:x.first with
  |false=>
   exists bE.o,EZ p;intro D N t _;exists bx,m N t _ g.symm _ (by decide);intro U V d _ _;refine pv rfl (λ_ _ _ _ _ _=>rfl) λj u E v L F=>?_;have I:=u.len;refine HE.of ?_;intro D _;exists bz,iz (b:=_) (by rw[kz];exact hn);intro A h _ _;exists bz,bX (cu (nK I) b1);intro C k M _;refine cB rfl rfl (λr0 g0 G=>?_);refine⟨ltF [C,N+6,N+1,d.n 4,d.n 5,M.n 0,d.n 1] (d.l 2) (d.l 0++[.str ⟨⟨p.row2⟩⟩ (d.n 10)]) (d.l 1),r0,g0,rfl,⟨j,?_,E,?_,F,G⟩,.refl _,.refl _⟩
   ·unfold ec.cM;rw[<-J,bu hn];exact u.add
   ·unfold ec.gR;rw[g];exact v
  |true=>
   exists bE.o,E1 p;intro D N t _;exists bx,m N t _ g.symm _ (by decide);intro U V d _ _;refine pv rfl (λ_ _ _ _ _ _ _ _ _=>rfl) λj u E v L F=>?_;have H:=v.len;have I:=u.len;obtain⟨s,e1,e2,e3⟩:=last g L;refine HE.of ?_;intro D _;exists bz,iz (b:=_) (by rw[kz];exact hn);intro A h _ _;exists bz,bX (cu (nK I) b1);intro C k M _;exists bz,bX (cu (nK H) Z);intro N4 t4 l4 _;refine cB rfl rfl (λr0 g0 hz=>?_);obtain⟨G,W⟩:=hz;refine⟨ltF [N4,N+6,N+1,d.n 4,l4.n 0,M.n 0,d.n 1] (d.l 2++[.ref C]) (d.l 0++[.str ⟨⟨p.row2⟩⟩ (d.n 10)]) (d.l 1),(C,N0 rm [] [] true (d.n 15) k (k+1) (k+2))::r0,g0,rfl,⟨(C,N0 rm [] [] true (d.n 15) k (k+1) (k+2))::j,?_,E.mono λq f=>.tail _ f,?_,λq f=>.tail _ (F q f),by rw[G],W⟩,.refl _,.refl _⟩
   ·unfold ec.cM;rw[<-J,bu hn];exact u.add
   ·unfold ec.gR;rw[g];refine(v.mono λq f=>.tail _ f).add ⟨C,k,k+1,k+2,s,⟨rm,[],[],true,_⟩⟩ ⟨.inl ?_,e2,?_⟩
    ·rw[e1];exact .head _
    ·rw[e1];exact e3.mono λq f=>.tail _ f
end
end
section
open PySem.Builtin PySem.Builtin.Str
variable{B B':bH}{vs:List Value}{ks:List lr}
structure X0 where(a pa tt vt st rt ct:Nat)(k:lr)
def Vi(B:bH)(x:X0):Prop:=dr w.params B x.a (Ce x.k.typ x.k.val x.k.sp x.k.fi x.pa x.k.at_.file x.tt x.vt x.st)/\dr w.params B x.pa (pi x.k.at_.row x.k.at_.col x.rt x.ct)
inductive gy(B:bH)(vs:List Value)(ks:List lr):Prop where|mk:∀xs:List X0,(vs=xs.map (λx=>.ref x.a))->(xs.map (·.k)=ks)->(∀x∈xs,Vi B x)->gy B vs ks
theorem gy.mono(h:gy B vs ks)(a:∀p∈B,p∈B'):gy B' vs ks:=by
 obtain⟨xs,d,e,b⟩:=h;exact⟨xs,d,e,λx c=>⟨(b x c).1.mono a,(b x c).2.mono a⟩⟩
theorem gy.add(h:gy B vs ks)(x:X0)(b:Vi B x):gy B (vs++[.ref x.a]) (ks++[x.k]):=by
 obtain⟨xs,rfl,rfl,c⟩:=h;refine⟨xs++[x],by simp,by simp,λy hy=>?_⟩;rcases dw.1 hy with hy|hy
 ·exact c y hy
 ·rw[eC]at hy;subst hy;exact b
theorem gy.len(h:gy B vs ks):vs.length=ks.length:=by
 obtain⟨xs,rfl,rfl,_⟩:=h;simp
def dM(f:Value):Prop:=f=.none\/∃fs ft,f=.str ⟨⟨fs⟩⟩ ft
inductive Kr(B:bH)(gs:List lr)(F:L2->b7)(ℓ:L2)(r:bH)(g:bR):Prop where|mk:∀B',(gy B' (ℓ.l 0) gs)->((∀p∈B,p∈B'))->(star (F ℓ) (ce B') r g)->Kr B gs F ℓ r g
theorem Kr.mono{c:List lr}{F:L2->b7}{a:L2}{r:bH}{g:bR}(h:Kr B' c F a r g)(d:∀p∈B,p∈B'):Kr B c F a r g:=
 let⟨b,e,f,i⟩:=h
 ⟨b,e,λp j=>f p (d p j),i⟩
section
variable{gh:fJ}{Up:List lr->b7}{F:L2->b7}{FL k GO:Nat}{er:Bool}
def qq(gh:fJ)(Up:List lr->b7):Prop:=∀k b room,740<=room->lF room (Hr gh k) (Up (k::b)) (λa r g=>Up b ((a.n 7,eI (ls a) k.at_)::r) g)
def HH(gh:fJ)(Up:List lr->b7)(F:L2->b7)(FL k GO:Nat)(er:Bool):Prop:=∀a kt tv got n B,gy B got a->lF 760 (Kq gh FL k GO kt tv got n er) (star (Up []) (ce B)) (Kr B a F)
theorem HI{a b l:Nat×Obj}{X:b7}:∀r g,star (λr g=>X (l::r) g) (ce B) r g->xQ [a,b,l] (star X (ce (a::b::B))) r g:=by
 rintro r g ⟨r1,r2,g1,g2,c,⟨rfl,rfl⟩,d,e⟩;refine⟨_,((d.append_left _).trans ?_),l::r1,a::b::r2,g1,[],c,⟨rfl,rfl⟩,.refl _,e⟩;exact PT.q [_,_] [_,_,_] 0xac0c1c2ea01 0xac20c0c11 rfl
theorem HJ(s:qq gh Up)(u:HH gh Up F FL k GO er):∀(ks e:List lr)(kt tv:Nat)(got:List Value)(n:Nat)(B:bH),gy B got e->(∀x∈ks,dM x.at_.file)->e.length+ks.length<=9000->
  lF 760 (Kq gh FL k GO kt tv got n er) (star (Up ks) (ce B)) (Kr B (e++ks) F)
 |[],e,kt,tv,got,n,B,h,Y,V=>by rw[dU];exact u e kt tv got n B h
 |⟨ty,vl,sp,fi,⟨cd,row,col,f⟩⟩::ks,e,kt,tv,got,n,B,h,v,j=>by
  have E:=h.len;have w:cZ=100000:=rfl;rw[List.length_cons]at j;have l:got.length<=cZ:=by omega
  have y:=λe kt tv got n B h j=>HJ s u ks e kt tv got n B h (λx z=>v x (.tail _ z)) j;have step:∀(d m:Nat)(a b:L2),qL 760 (Kq gh FL k GO kt (a.n 0) (got++[.ref (d+1)]) (b.n 0) er).c ((Kq gh FL k GO kt (a.n 0) (got++[.ref (d+1)]) (b.n 0) er).pre++[(d+1,Ce ty vl sp fi d f (a.n 4) (a.n 5) (a.n 6)),(d,pi row col (a.n 14) (a.n 13)),(a.n 7,eI (ls a) ⟨cd,row,col,f⟩)])
    (star (λr g=>Up ks ((a.n 7,eI (ls a) ⟨cd,row,col,f⟩)::r) g) (ce B)) (Kq gh FL k GO kt (a.n 0) (got++[.ref (d+1)]) (b.n 0) er).out (Kr B (e++⟨ty,vl,sp,fi,⟨cd,row,col,f⟩⟩::ks) F):=λd m a b=>by
   refine bO.dX (bO.dP (y (e++[⟨ty,vl,sp,fi,⟨cd,row,col,f⟩⟩]) kt (a.n 0) _ _ ((d+1,Ce ty vl sp fi d f (a.n 4) (a.n 5) (a.n 6))::(d,pi row col (a.n 14) (a.n 13))::B) ((h.mono λp q=>.tail _ (.tail _ q)).add ⟨d+1,d,a.n 4,a.n 5,a.n 6,a.n 14,a.n 13,⟨ty,vl,sp,fi,⟨cd,row,col,f⟩⟩⟩ ⟨.inl (.head _),.inl (.tail _ (.head _))⟩) (by simp;omega)) (λZ Z h=>h) (λa r g h=>?_)) HI;rw[bQ]at h;exact h.mono λp q=>.tail _ (.tail _ q)
  have A:=λroom C=>s ⟨ty,vl,sp,fi,⟨cd,row,col,f⟩⟩ ks room C
  let D:cU:=⟨FL,k,GO,kt,tv,gh,got,n,ty,vl,sp,fi,cd,row,col⟩
  refine bO.o rfl (NR D (v _ (.head _)) er).1 ?_;intro G N t _;exists cF,(A _ (by decide)).star (ce B);intro d m a _ _;exists bz,bX l;intro H I b _;exists cF,step d m a b;intro J K i _ _;cases er
  ·exact cC i
  ·exact cC i
noncomputable def ltT(a:L2)(t:Nat):L2:=⟨λn=>match n with
 |6=>t
 |n=>a.n n,a.v,a.l⟩
theorem Cx(q:qq gh Up)(v:HH gh Up F FL k GO er)(w:∀a t,F (ltT a t)=F a){n:Nat}(j:ks≠[])(s:∀x∈ks,dM x.at_.file)(y:ks.length<=9000){room:Nat}(l:760<=room):
  lF room (ET gh FL k GO [] n er) (star (Up ks) (ce B)) (Kr B ks F):=by
 refine bO.mono (room:=760) ?_ l;obtain⟨⟨ty,vl,sp,fi,⟨cd,row,col,f⟩⟩,ks,rfl⟩:∃x ks',ks=x::ks':=by
  cases ks with
  |nil=>exact absurd rfl j
  |cons x ks=>exact⟨x,ks,rfl⟩
 rw[List.length_cons]at y;have m:cZ=100000:=rfl;have step:∀(d e:Nat)(a b:L2),qL 760 (Kq gh FL k GO e (a.n 0) ([]++[.ref (d+1)]) (b.n 0) er).c ((Kq gh FL k GO e (a.n 0) ([]++[.ref (d+1)]) (b.n 0) er).pre++[(d+1,Ce ty vl sp fi d f (a.n 4) (a.n 5) (a.n 6)),(d,pi row col (a.n 14) (a.n 13)),(a.n 7,eI (ls a) ⟨cd,row,col,f⟩)])
   (star (λr g=>Up ks ((a.n 7,eI (ls a) ⟨cd,row,col,f⟩)::r) g) (ce B)) (Kq gh FL k GO e (a.n 0) ([]++[.ref (d+1)]) (b.n 0) er).out (Kr B (⟨ty,vl,sp,fi,⟨cd,row,col,f⟩⟩::ks) F):=λd e a b=>by
  refine bO.dX (bO.dP (HJ q v ks ([]++[⟨ty,vl,sp,fi,⟨cd,row,col,f⟩⟩]) e (a.n 0) _ _ ((d+1,Ce ty vl sp fi d f (a.n 4) (a.n 5) (a.n 6))::(d,pi row col (a.n 14) (a.n 13))::B) (gy.add ⟨[],rfl,rfl,eu⟩ ⟨d+1,d,a.n 4,a.n 5,a.n 6,a.n 14,a.n 13,⟨ty,vl,sp,fi,⟨cd,row,col,f⟩⟩⟩ ⟨.inl (.head _),.inl (.tail _ (.head _))⟩) (λx z=>s x (.tail _ z)) (by simp;omega)) (λZ Z h=>h) (λa r g h=>?_)) HI;exact Kr.mono h λp A=>.tail _ (.tail _ A)
 have C:=λroom l=>q ⟨ty,vl,sp,fi,⟨cd,row,col,f⟩⟩ ks room l;have fin:∀a t r g,Kr B (⟨ty,vl,sp,fi,⟨cd,row,col,f⟩⟩::ks) F a r g->Kr B (⟨ty,vl,sp,fi,⟨cd,row,col,f⟩⟩::ks) F (ltT a t) r g:=by
  rintro a t r g ⟨B',D,E,G⟩;exact⟨B',D,E,by rw[w];exact G⟩
 let u:cU:=⟨FL,k,GO,0,0,gh,[],n,ty,vl,sp,fi,cd,row,col⟩
 refine bO.o rfl (NR u (s _ (.head _)) er).2 ?_;intro H N t _;exists cF,(C _ (by decide)).star (ce B);intro d e a _ _;exists bz,bX (by simp[u,m]);intro I J b _;exists cF,step d e a b;intro K L i _ _;cases er
 ·exact cC (ltT i e) (λr0 g0 h=>fin _ _ _ _ h)
 ·exact cC (ltT i e) (λr0 g0 h=>fin _ _ _ _ h)
end
end
section
open PySem.Builtin PySem.Builtin.Str
variable{E:b7}{oc:Option Ch}{O:bH->Prop}{B:bH}{gs ks:List lr}{ℓ:L2}{c:Ch}{room:Nat}
noncomputable def ltG(ℓ:L2)(b n:Nat)(a:List Value):L2:=⟨λi=>match i with
 |5=>b
 |4=>n
 |i=>ℓ.n i,ℓ.v,λi=>match i with
 |0=>a
 |i=>ℓ.l i⟩
inductive abl(B:bH)(vs:List Value)(c:Ch):Prop where|mk:∀a p rt ct,vs=[.ref a]->dr w.params B a (dm [.ref p,c.file] 0)->dr w.params B p (pi c.row c.col rt ct)->abl B vs c
def Vj(B:bH)(vs:List Value):Option (Option Ch)->Prop|none=>vs=[]|some none=>vs=[.none]|some (some c)=>abl B vs c
def Cy(g:fJ):cX where
 c:=.call (.ref 636) ⟨[.ref g.g],[]⟩
 pre:=[(g.g,cc g)]
 out _ _ ℓ:=(rV (.ref (ℓ.n 0)),[(ℓ.n 0,dm [.ref (ℓ.n 1),.ref (ℓ.n 2)] 0),(ℓ.n 1,br (ℓ.l 0) (ℓ.n 3)),(ℓ.n 2,br (ℓ.l 1) 0)])
 e:=true
inductive uv(B:bH)(ks:List lr)(er:Option (Option Ch))(F:b7)(ℓ:L2)(r:bH)(g:bR):Prop where|mk:∀B',(gy B' (ℓ.l 0) ks)->(Vj B' (ℓ.l 1) er)->((∀p∈B,p∈B'))->(star F (ce B') r g)->uv B ks er F ℓ r g
inductive iC(O:bH->Prop)(r:bH)(g_:bR):Prop where|mk:∀o j,(O o)->(r.Perm (o++j))->iC O r g_
noncomputable def ltR(ns:List Nat)(a ref:List Value):L2:=⟨λn=>ns.getD n 0,λz=>.none,λn=>match n with
 |0=>a
 |Y=>ref⟩
noncomputable def exN(ℓ:L2)(k1 k2 k3:Nat)(b e:Value)(y:gv):L2:=⟨λn=>match n with
 |7=>y.l
 |8=>y.a
 |9=>y.d
 |10=>y.sd
 |11=>y.k1
 |12=>y.k2
 |13=>y.ct
 |14=>y.rt
 |15=>y.lt
 |16=>y.st
 |20=>k1
 |21=>k2
 |22=>k3
 |n=>ℓ.n n,λn=>match n with
 |10=>b
 |11=>e
 |n=>ℓ.v n,ℓ.l⟩
inductive HK(B:bH)(gs:List lr)(oc:Option Ch)(O:bH->Prop)(ℓ:L2)(r:bH)(g:bR):Prop where|mk:∀B' o j,(gy B' (ℓ.l 0) gs)->((∀p∈B,p∈B'))->(O o)->(match oc with|none=>r.Perm ((ℓ.n 2,BG (ℓ.n 20) (ℓ.n 21) (ℓ.n 22) (ℓ.v 10) .none (ℓ.v 11))::(o++j++B'))|some c=>r.Perm ((ℓ.n 2,BG (ℓ.n 20) (ℓ.n 21) (ℓ.n 22) (ℓ.v 10) (.ref (ls ℓ).l) (ℓ.v 11))::((ls ℓ).l,eI (ls ℓ) c)::(o++j++B')))->HK B gs oc O ℓ r g
section
variable{gh:fJ}{Up:List lr->b7}{FL k GO:Nat}
theorem Sl(a:∀room,740<=room->lF room (zm gh) (Up []) (λz=>E)):HH gh Up (λz=>E) FL k GO false:=by
 intro gs kt tv got n B h
 let b:cU:=⟨FL,k,GO,kt,tv,gh,got,n,[],[],[],false,0,0,0⟩;refine bO.o rfl (NS b) (by intro e N t _;exists cF,(a _ (by decide)).star (ce B);intro f g ℓ _ _;exact cC (ltG ℓ tv n got) (λr0 g0 d=>⟨B,h,λz h=>h,d⟩))
theorem Sm(b:∀room,740<=room->lF room (mm gh) (Up []) (λℓ=>lE (ℓ.n 2) oc O)):HH gh Up (λℓ=>lE (ℓ.n 2) oc O) FL k GO true:=by
 intro gs kt tv got n B h
 let d:cU:=⟨FL,k,GO,kt,tv,gh,got,n,[],[],[],false,0,0,0⟩;exists bO.o,NT d,0
 exists cF,(b _ (by decide)).star (ce B);intro f g ℓ _ _;exists cK,ud rfl rfl (by kernel_rfl) _;intro i j a _ _;refine cB rfl rfl (λr0 g0 b=>?_);exact⟨ltG ⟨(ue (a.n 0) (ℓ.n 1) (ℓ.n 2) (ℓ.n 3) a.v).n,a.v,a.l⟩ tv n got,r0,g0,rfl,⟨B,h,λz h=>h,b⟩,.refl _,.refl _⟩
theorem HK.mem(a:oc=none):∀r0 g0,HK B gs oc O ℓ r0 g0->((ℓ.n 2,BG (ℓ.n 20) (ℓ.n 21) (ℓ.n 22) (ℓ.v 10) .none (ℓ.v 11)):Nat×Obj)∈r0\/(bY w.params).get (ℓ.n 2)=some (BG (ℓ.n 20) (ℓ.n 21) (ℓ.n 22) (ℓ.v 10) .none (ℓ.v 11)):=by
 subst a;rintro r0 g0 ⟨d,o,j,e,f,g,b⟩;exact .inl (b.mem_iff.2 (.head _))
theorem HK.abm:∀r0 g0,HK B gs (some c) O ℓ r0 g0->((ℓ.n 2,BG (ℓ.n 20) (ℓ.n 21) (ℓ.n 22) (ℓ.v 10) (.ref (ls ℓ).l) (ℓ.v 11)):Nat×Obj)∈r0\/(bY w.params).get (ℓ.n 2)=some (BG (ℓ.n 20) (ℓ.n 21) (ℓ.n 22) (ℓ.v 10) (.ref (ls ℓ).l) (ℓ.v 11)):=by
 rintro r0 g0 ⟨b,o,j,d,e,f,a⟩;exact .inl (a.mem_iff.2 (.head _))
theorem HK.abn:∀r0 g0,HK B gs (some c) O ℓ r0 g0->(((ls ℓ).l,eI (ls ℓ) c):Nat×Obj)∈r0\/(bY w.params).get (ls ℓ).l=some (eI (ls ℓ) c):=by
 rintro r0 g0 ⟨b,o,j,d,e,f,a⟩;exact .inl (a.mem_iff.2 (.tail _ (.head _)))
theorem uw(l:qq gh Up)(m:∀room,740<=room->lF room (mm gh) (Up []) (λℓ=>lE (ℓ.n 2) oc O)){n:Nat}(b:ks≠[])(p:∀x∈ks,dM x.at_.file)(s:ks.length<=9000)(u:760<=room:=by decide):
  lF room (ET gh FL k GO [] n true) (star (Up ks) (ce B)) (HK B ks oc O):=by
 refine bO.ej (Cx l (Sm m) (λz z=>rfl) b p s u) (λr g h=>⟨r,g,.refl _,.refl _,h⟩) λN t ℓ r g h=>?_;refine cm ?_;intro G0;obtain⟨v,d,e,r1,r2,g1,g2,⟨k1,k2,k3,ms,f,o,j,ho,a⟩,⟨rfl,rfl⟩,i,w⟩:=h;cases oc with
 |none=>
  refine⟨exN ℓ k1 k2 k3 ms f ⟨0,0,0,0,0,0,0,0,0,0⟩,r,g,rfl,.refl _,.refl _,r2,o,j,d,e,ho,?_⟩;refine i.trans ((a.append_right r2).trans ?_);exact PT.q [_,_,_] [_] 0xac0a012 0xc0aa012 rfl
 |some c=>
  obtain⟨y,a⟩:=a;refine⟨exN ℓ k1 k2 k3 ms f y,r,g,rfl,.refl _,.refl _,r2,o,j,d,e,ho,?_⟩;refine i.trans ((a.append_right r2).trans ?_);exact PT.q [_,_,_] [_,_] 0xac0c1a012 0xc0c1aa012 rfl
theorem E9(d:qq gh Up)(e:∀room,740<=room->lF room (zm gh) (Up []) (λz=>E))(a:ks≠[])(f:∀x∈ks,dM x.at_.file)(g:ks.length<=9000)(h:780<=room):
  lF room (Cy gh) (star (Up ks) (ce B)) (uv B ks none E):=by
 refine bO.mono (room:=780) (bO.o rfl (NW gh) ?_) h;intro r N t _;exists cF,Cx d (Sl e) (λz z=>rfl) a f g (by decide);intro b s ℓ _ _;refine cB rfl rfl (λr0 g0 i=>?_);obtain⟨j,m,p,q⟩:=i;exact⟨ltR [b+1,N+1,b,ℓ.n 4] (ℓ.l 0) [],r0,g0,rfl,⟨j,m,rfl,p,q⟩,(gM _ _ _).cons _,.refl _⟩
theorem Fa(m:qq gh Up)(g:∀room,740<=room->lF room (mm gh) (Up []) (λℓ=>lE (ℓ.n 2) oc O))(h:ks≠[])(r:∀x∈ks,dM x.at_.file)(J:∀c,oc=some c->dM c.file)(s:ks.length<=9000)(K:780<=room):
  lF room (Cy gh) (star (Up ks) (ce B)) (uv B ks (some oc) (iC O)):=by
 refine bO.mono (room:=780) ?_ K;cases oc with
 |none=>
  exists bO.o,NY gh;intro F N t _;exists cF,uw m g h r s;intro G H ℓ _ _;exists cS,NV rfl _;intro b I _ _ _;exists cT,HK.mem rfl,0;refine cB rfl rfl (λr0 g0 g=>?_);obtain⟨i,o,j,u,w,y,z⟩:=g;refine⟨ltR [b+1,N+1,b,ℓ.n 4] (ℓ.l 0) [.none],r0,g0,rfl,⟨i,u,rfl,w,_,i,g0,[],⟨o,(ℓ.n 2,BG (ℓ.n 20) (ℓ.n 21) (ℓ.n 22) (ℓ.v 10) .none (ℓ.v 11))::j,y,.refl _⟩,⟨rfl,rfl⟩,z.trans ?_,by exact PT.perm [_] [] (.l 0) (.a (.l 0) .n) rfl⟩,(gM _ _ _).cons _,.refl _⟩;exact PT.q [_,_,_] [_] 0xc0aa012 0xaa0c012 rfl
 |some c=>
  obtain⟨cd,row,col,f⟩:=c;have fin:∀(N b:Nat)(ℓ:L2)(r0:bH)(g0:bR),HK B ks (some ⟨cd,row,col,f⟩) O ℓ r0 g0->∃d r1 g1,uv B ks (some (some ⟨cd,row,col,f⟩)) (iC O) d r1 g1/\(Except.ok (Flow.ret (.ref (d.n 0))):Result)=.ok (.ret (.ref (b+3)))/\([(b+3,dm [.ref (N+1),.ref (b+2)] 0),(b+2,br [.ref (b+1)] 0),(b+1,dm [.ref b,f] 0),(b,pi row col (ls ℓ).rt (ls ℓ).ct),(N+1,br (ℓ.l 0) (ℓ.n 4))]++r0).Perm (((Cy gh).out 0 0 d).2++r1)/\g0.Perm g1:=by
   rintro N b ℓ r0 g0 ⟨i,o,j,u,w,y,z⟩;refine⟨ltR [b+3,N+1,b+2,ℓ.n 4] (ℓ.l 0) [.ref (b+1)],(b+1,dm [.ref b,f] 0)::(b,pi row col (ls ℓ).rt (ls ℓ).ct)::r0,g0,⟨(b+1,dm [.ref b,f] 0)::(b,pi row col (ls ℓ).rt (ls ℓ).ct)::i,u.mono λp A=>.tail _ (.tail _ A),⟨b+1,b,(ls ℓ).rt,(ls ℓ).ct,rfl,.inl (.head _),.inl (.tail _ (.head _))⟩,λp A=>.tail _ (.tail _ (w p A)),_,_,g0,[],⟨o,(ℓ.n 2,BG (ℓ.n 20) (ℓ.n 21) (ℓ.n 22) (ℓ.v 10) (.ref (ls ℓ).l) (ℓ.v 11))::((ls ℓ).l,eI (ls ℓ) ⟨cd,row,col,f⟩)::j,y,.refl _⟩,⟨rfl,rfl⟩,((z.cons _).cons _).trans ?_,by exact PT.perm [_] [] (.l 0) (.a (.l 0) .n) rfl⟩,rfl,?_,.refl _⟩
   ·exact PT.q [_,_,_] [_,_,_,_] 0xc0c1c2c3aa012 0xaa0c2c31c0c12 rfl
   ·exact PT.q [_] [_,_,_,_,_] 0xac0c1c2c3c4e0 0xac0c4c1ec2c30 rfl
  rcases J _ rfl with e|⟨fs,ft,e⟩
  all_goals
   simp only at e;subst e
  ·exists bO.o,Jw gh cd row col;intro F N t _;exists cF,uw m g h r s;intro G H ℓ _ _;exists cS,NV rfl _;intro b I _ _ _;exists cT,HK.abm,0;exists cT,HK.abn,0;refine cB rfl rfl (λr0 g0 g=>?_);obtain⟨d,r1,g1,f1,f2,C,D⟩:=fin N b ℓ r0 g0 g;exact⟨d,r1,g1,f2,f1,C,D⟩
  ·exists bO.o,Jv gh cd row col fs ft;intro F N t _;exists cF,uw m g h r s;intro G H ℓ _ _;exists cS,NV rfl _;intro b I _ _ _;exists cT,HK.abm,0;exists cT,HK.abn,0;refine cB rfl rfl (λr0 g0 g=>?_);obtain⟨d,r1,g1,f1,f2,C,D⟩:=fin N b ℓ r0 g0 g;exact⟨d,r1,g1,f2,f1,C,D⟩
end
end
section
open PySem.Builtin PySem.Builtin.Str
variable{E X:b7}{Q:bH->Prop}{gh y:fJ}{fn:Value}{dk:Int}{bN:List Nat}{x:fD}{R R' room:Nat}{Up:List Ch->b7}{er:Option (Option Ch)}{tr:Bool}{op:pl}
def Kp(X:b7)(Q:bH->Prop):Prop:=∀r g,X r g->iC Q r g
theorem X3{L:bH}:Kp (own L) (λq=>q=L):=by
 rintro r g ⟨rfl,rfl⟩;exact⟨r,[],rfl,by exact PT.perm [_] [] (.l 0) (.a (.l 0) .n) rfl⟩
theorem X4:Kp X (λq=>q=[]):=λr g z=>⟨[],r,rfl,by exact PT.perm [_] [] (.l 0) (.a .n (.l 0)) rfl⟩
theorem kf{i:Nat}(h:Kp X Q):Kp (star (gm i) X) Q:=by
 rintro r g ⟨r1,r2,g1,g2,⟨rfl,_⟩,a,b,_⟩;obtain⟨q,j,c,d⟩:=h _ _ a;exact⟨q,j,c,b.trans (by simpa using d)⟩
theorem Fb(h:Kp X Q):Kp (Bw y X) Q:=by
 rintro r g ⟨d,rfl,a⟩;obtain⟨q,j,b,c⟩:=h _ _ a;exact⟨q,(y.g,cc y)::j,b,(c.cons _).trans pP.symm⟩
inductive Sn(y:yy)(fn:Value)(dk:Int)(Q:bH->Prop)(q:bH):Prop where|mk:∀rt a,(Q a)->(q=fX y fn dk rt++a)->Sn y fn dk Q q
theorem OJ{y:yy}(h:Kp X Q):Kp (GW w.params y fn dk X) (Sn y fn dk Q):=by
 rintro r g ⟨rt,e,a,b⟩;obtain⟨q,j,c,d⟩:=h _ _ b;exact⟨_,j,⟨rt,q,c,rfl⟩,a.trans (by rw[bQ];exact d.append_left _)⟩
inductive JM(CO:Nat)(cf:Bool)(bN:List Nat)(Q:bH->Prop)(q:bH):Prop where|mk:∀a b,(Q a)->(XC CO cf bN b)->(q=a++b)->JM CO cf bN Q q
theorem X5{CO:Nat}{cf:Bool}(h:Kp E Q):Keeps (i2 CO cf bN (λz=>E)) (JM CO cf bN Q):=by
 rintro σ r g ⟨r1,r2,g1,g2,a,⟨y,rfl,rfl⟩,b,_⟩;obtain⟨q,j,c,d⟩:=h _ _ a;refine⟨_,j,⟨q,_,c,⟨y,rfl⟩,rfl⟩,b.trans ((d.append_right _).trans ?_)⟩;exact PT.q [_,_,_] [] 0xaa012 0xaa021 rfl
theorem Fc{cf:Bool}(h:Kp E Q):Kp (Sc x (gf (i2 x.CO cf bN (λz=>E)))) (zh (JM x.CO cf bN Q)):=by
 rintro r g ⟨d,j,e,i,r1,r2,g1,g2,⟨rfl,_⟩,⟨k5,n,a,f⟩,b,_⟩;obtain⟨q,c,k,l⟩:=f.keeps (oa (X5 h));refine⟨q,bF { x with k5:=k5 }++c++j,k,e.trans ?_⟩;have m:d.Perm (bF { x with k5:=k5 }++(q++c)):=b.trans (by simpa using a.trans (l.append_left _));refine(m.append_right j).trans ?_;exact PT.q [_,_,_,_] [] 0xaa0a123 0xa1aa023 rfl
inductive jQ(er:Option (Option Ch))(O Q:bH->Prop)(i:Nat)(ks:List lr)(r:bH)(g:bR):Prop where|mk:∀XE,Kp XE Q->fC 1730 (R5) (kd er O XE) i (PW er XE) ks r g->jQ er O Q i ks r g
def Vk(er:Option (Option Ch))(O Q:bH->Prop):bH->Prop:=match er with
 |none=>Q
 |some Y=>O
section
theorem ZY.mono(h:e9 R y Up)(l:R<=R'):e9 R' y Up:=⟨λc σ room a=>h.next c σ room (by exact cu l a),λroom a=>h.stop room (by exact cu l a)⟩
theorem UG.mono(h:jL R y Up E)(l:R<=R'):jL R' y Up E:=λroom a=>h room (by exact cu l a)
def abo(a d k1 k2 b vt st:Nat)(z:gv):L2:=cV [a,d,k1,k2,b,vt,st,z.l,z.a,z.d,z.sd,z.k1,z.k2,z.ct,z.rt,z.lt,z.st]
theorem Cz{c:Result->bH->bR->Prop}{XE:b7}:qq gh (fC 1730 (R5) c gh.i XE):=by
 intro k j room f;refine bO.dP (vR (v:=λb=>.ref (b.n 0)) (d:=λb=>YY (b.n 0) (b.n 1) (b.n 2) (b.n 3) ⟨k.typ,k.val,k.sp,b.n 4,b.n 5,b.n 6,k.fi,b.n 7⟩ (ls b) k.at_) (vp) ?_ f) (λy y h=>h) (λy y y h=>h);rintro a it ⟨g,d,k1,k2,tt,vt,st,z,e,e2⟩;exact⟨abo g d k1 k2 tt vt st z,e,e2⟩
theorem JN{O:bH->Prop}{ks:List lr}{B:bH}(a:ks≠[])(m:∀x∈ks,dM x.at_.file)(t:∀c,er=some (some c)->dM c.file)(j:ks.length<=9000)(b:780<=room:=by decide):
  lF room (Cy gh) (star (jQ er O Q gh.i ks) (ce B)) (uv B ks er (iC (Vk er O Q))):=by
 rintro A s F FG r0 g0 n d ⟨r1,r2,g1,g2,⟨XE,u,o⟩,p,f,g⟩ q;cases er with
 |none=>
  have z:=E9 (gh:=gh) (ks:=ks) (B:=B) Cz (λroom b=>s7 (vp) (XE:=XE) (λr L S h=>h) b) a m j b A s F FG r0 g0 n d ⟨r1,r2,g1,g2,o,p,f,g⟩ q;refine dj z ?_;rintro r T ⟨k,v,w,⟨C,D,G,H,I,a2,J,K,M,j,N,P⟩,e,l⟩;exact⟨k,v,w,⟨C,D,G,H,I,a2,J,K,kf u _ _ M,j,N,P⟩,e,l⟩
 |some U=>
  exact Fa Cz (λroom b=>Hp (by omega) (by omega)) a m (λc e=>t c (by rw[e])) j b A s F FG r0 g0 n d ⟨r1,r2,g1,g2,o,p,f,g⟩ q
structure JO(tr:Bool)(bN:List Nat)(bU:List Ch)(ts:List Tk)(er:Option (Option Ch)):Prop where(run:fE tr bN 380 [] bU ts er)(ok:∀k∈ts,ES k)(len:zj ts<=10000)
theorem wA{bU:List Ch}:∀r g,star (Up bU) Pl r g->xQ (Ov x++i1 x.CO op tr bN++[(y.g,cc y)]) (CxX (x.wg y) (gf (i2 x.CO tr bN Up)) bU) r g:=by
 rintro r g ⟨r1,r2,g1,g2,b,c,d,e⟩;refine⟨dK x++([(x.PB,br [] 0),(x.CT,br [] 0),(x.TB,br [] 0),(y.g,cc y)]++((r1++i1 x.CO op tr bN)++r2)),?_,_,.refl _,⟨0,0,0⟩,[],[],[],bU,_,rfl,rfl,by decide,rfl,.refl _,r1++i1 x.CO op tr bN,r2,g1,g2,⟨r1,_,g1,[],b,⟨op,rfl,rfl⟩,.refl _,by exact PT.perm [_] [] (.l 0) (.a (.l 0) .n) rfl⟩,c,.refl _,e⟩;refine(d.append_left _).trans ?_;exact PT.q [_,_,_,_] [_,_,_,_] 0xaaaa0c0c1c2e1c3ea23 0xa0ac1c2c0c3eaa213 rfl
def Vl(x:fD)(y:yy)(fn:Value)(row:Int)(rt:Nat)(op:pl)(tr:Bool)(bN:List Nat):cX where
 c:=.call (.ref 358) ⟨[.ref x.S,.ref y.f,.ref y.sf],[]⟩
 pre:=Ov x++fX y fn row rt++i1 x.CO op tr bN
 out _ _ a:=(rV (.ref (a.n 0)),[(a.n 0,cc (hU a hT ql))])
set_option maxHeartbeats 1000000 in
theorem OK(q:642<=x.S){y:yy}(g:isFn fn){row:Int}{rt:Nat}{Src:List PySem.Str->b7}{f8:b7}(r:DQ Src f8 y.f)(u:Kp f8 Q){ss:List PySem.Str}(v:∀s∈ss,jj s)(b:row+ss.length=dk){m:List Ch}(l:(if tr then cf [] (cw fn row ss)else some (cw fn row ss))=some m)(z:∀c∈m,Kl c){A:List Tk}(e:JO tr bN (lp m) A er)(d:760<=room):
  cN room (Vl x y fn row rt op tr bN) (star (Src ss) Pl) (λp=>jQ er (jN x.CO tr bN) (zh (JM x.CO tr bN (Sn y fn dk Q))) (p.n 1) (lu er A)):=by
 have k:=vp;refine bE.mono (room:=760) ?_ d;cases tr with
 |false=>
  injection l with l;subst l;exists bE.o,Ow x y fn row rt op bN,0;exists bx,(yB r g v b).star Pl;intro C D l1 _ _;exists bz,B3,0;exists bx,(Hc (y:=iJ l1 jK) ((qc k).mono (by decide)) ((we k).mono (by decide)) z).star Pl;intro H I a _ _;exists bx,bE.dX (Hy (x:=x.wg (iJ a yM)) q ((qc (R:=320) (X:=(Bw (iJ l1 jK) (star (gm (iJ l1 jK).i) (GW w.params y fn dk f8)))) k).mono (by decide)) ((we (R:=320) k).mono (by decide)) e.run e.ok e.len) (wA (x:=x) (y:=iJ a yM) (Up:=fC 320 (qR w.params) (ie (Bw (iJ l1 jK) (star (gm (iJ l1 jK).i) (GW w.params y fn dk f8)))) (a.n 1) (Bw (iJ l1 jK) (star (gm (iJ l1 jK).i) (GW w.params y fn dk f8)))));intro J K j _ _;refine cC j (λr0 g0 h=>⟨_,?_,h⟩);exact Fc (kf (Fb (kf (OJ u))))
 |true=>
  exists bE.o,Ox x y fn row rt op bN,0;exists bx,(yB r g v b).star Pl;intro C D l1 _ _;exists bz,B3,0;exists bx,(JA (y:=iJ l1 jK) ((qc k).mono (by decide)) ((we k).mono (by decide)) l (by decide)).star Pl;intro H I a _ _;exists bx,(Hc (y:=iJ a zt) ((qc k).mono (by decide)) ((we k).mono (by decide)) z).star Pl;intro J K j _ _;exists bx,bE.dX (Hy (x:=x.wg (iJ j yM)) q ((qc (R:=320) (X:=(Bw (iJ a zt) (star (gm (iJ a zt).i) (Bw (iJ l1 jK) (star (gm (iJ l1 jK).i) (GW w.params y fn dk f8)))))) k).mono (by decide)) ((we (R:=320) k).mono (by decide)) e.run e.ok e.len) (wA (x:=x) (y:=iJ j yM) (Up:=fC 320 (qR w.params) (ie (Bw (iJ a zt) (star (gm (iJ a zt).i) (Bw (iJ l1 jK) (star (gm (iJ l1 jK).i) (GW w.params y fn dk f8)))))) (j.n 1) (Bw (iJ a zt) (star (gm (iJ a zt).i) (Bw (iJ l1 jK) (star (gm (iJ l1 jK).i) (GW w.params y fn dk f8)))))));intro M O L _ _;refine cC L (λr0 g0 h=>⟨_,?_,h⟩);exact Fc (kf (Fb (kf (Fb (kf (OJ u))))))
end
end
section
open PySem.Builtin PySem.Builtin.Str
variable{x:fD}{Up:List Ch->b7}{tr:Bool}{bN:List Nat}{bU:List Ch}{ts:List Tk}{er:Option (Option Ch)}{room:Nat}
section
theorem OL(j:642<=x.S)(k:e9 340 x.gn Up){E:b7}(l:jL 340 x.gn Up E)(e:JO tr bN bU ts er)(a:40<=room):
  cN room (Cj x) (λr g=>∃c,r.Perm (dK x++c)/\∀q,jN x.CO tr bN q->co x (gf (i2 x.CO tr bN Up)) [] bU [] (q++c) g)
   (λb r g=>∀q,jN x.CO tr bN q->jQ er (jN x.CO tr bN) (zh (JM x.CO tr bN (λq=>q=[]))) (b.n 1) (lu er ts) (q++r) g):=by
 have ex:x.su (x.S-642)=x:=by unfold fD.su;cases x;simp only at j ⊢;congr 1;omega
 refine bE.mono (room:=40) (bE.o rfl (ug x) ?_) a;intro s N t _;intro g;refine cB rfl rfl (?_);rintro r0 g0 ⟨f,⟨c,m,p⟩,rfl⟩;have d:=@Hx (kd er (jN x.CO tr bN) (Sc x (gf (i2 x.CO tr bN (λy=>E))))) x (x.S-642) ⟨N,t,t+1,0,0,0⟩ Up tr bN k E l bU ts er e.run e.ok e.len;rw[ex]at d;obtain⟨ρ,X',d,he⟩:=d;have z:∀q,jN x.CO tr bN q->vj 1730 (R5) (kd er (jN x.CO tr bN) (Sc x (gf (i2 x.CO tr bN (λy=>E))))) g (lu er ts) ((dK x++[(N,po x ⟨N,t,t+1,0,0,0⟩)])++(q++c)) ((g,.fresh (.func (bJ (dc 17 9)) (el N)))::f):=
  λq i=>nP.fresh d (by decide) (λN t b r g h=>⟨r,g,he b r g h,.refl _,.refl _⟩) (p q i)
 refine⟨cV [N+1,g,t+2,t+3],(dK x++[(N,po x ⟨N,t,t+1,0,0,0⟩)])++c,_,rfl,λq i=>⟨_,Fc X4,_,_,?_,.refl _,.inl (z q i)⟩,?_,.refl _⟩
 ·exact PT.q [_,_,_] [_] 0xa0aa1c0e2 0xaa1c0ea02 rfl
 ·refine(m.append_left _).trans ?_;exact PT.q [_,_] [_,_] 0xac0c1ea01 0xac1eaa0c0e1 rfl
theorem Fd{y:fJ}:∀r g,Up bU r g->xQ (Ov x++[(y.g,cc y)]) (λc g=>∃b,c.Perm (dK (x.wg y)++b)/\∀q,jN x.CO tr bN q->co (x.wg y) (gf (i2 x.CO tr bN Up)) [] bU [] (q++b) g) r g:=by
 intro r g d;refine⟨dK x++([(x.PB,br [] 0),(x.CT,br [] 0),(x.TB,br [] 0),(y.g,cc y)]++r),?_,_,.refl _,?_⟩
 ·exact PT.q [_,_] [_,_,_,_] 0xaaa0c0c1c2ec3e1 0xa0ac1c2c0c3e1 rfl
 ·rintro q ⟨_,p,⟨op,rfl⟩,e,rfl⟩;refine⟨⟨0,0,0⟩,[],[],[],bU,(r++i1 x.CO op tr bN)++[(225,p)],rfl,rfl,by decide,rfl,?_,r++i1 x.CO op tr bN,[(225,p)],g,[],⟨r,_,g,[],d,⟨op,rfl,rfl⟩,.refl _,by exact PT.perm [_] [] (.l 0) (.a (.l 0) .n) rfl⟩,⟨p,rfl,rfl,e⟩,.refl _,by exact PT.perm [_] [] (.l 0) (.a (.l 0) .n) rfl⟩;exact PT.q [_,_] [_,_,_,_,_] 0xaa0c0eac1c2c3c4e1 0xac1c2c3c4eaeaeaeaa10c0e rfl
def Vm(x:fD)(s:PySem.Str)(b:Nat):cX where
 c:=.call (.ref 365) ⟨[.ref x.S,.str s b],[]⟩
 pre:=Ov x
 out _ _ a:=(rV (.ref (a.n 0)),[(a.n 0,cc (hU a hT ql))])
def so(CO:Nat)(tr:Bool)(bN:List Nat)(er:Option (Option Ch))(i:Nat)(ks:List lr):b7:=λr g=>∀q,jN CO tr bN q->jQ er (jN CO tr bN) (zh (JM CO tr bN (λq=>q=[]))) i ks (q++r) g
set_option maxHeartbeats 1000000 in
theorem JP(p:642<=x.S){s:PySem.Str}{m:Nat}{init:List PySem.Str}{last:PySem.Str}(q:iX s=init++[last])(u:1<=s.length)(v:s.length<=9000)(z:∀x∈init,x.length<=9000)(e:init.length<=9000)(f:last.cps.toList.length<=52)(j:∀s∈fz init last,jj s)(A:JO tr bN (cw .none 1 (fz init last)) ts er)(d:760<=room):
  cN room (Vm x s m) bV (λl=>so x.CO tr bN er (l.n 1) (lu er ts)):=by
 have k:=vp;refine bE.mono (room:=760) ?_ d;exists bE.o,Oy x s m,0;exists bx,II q u v z e f (by decide);intro a b l1 _ _;exists bx,bE.dX (yB (Src:=ZW w b1 b2 os 50 (iJ l1 rj) bV) (y:=⟨l1.n 0,a+1,a,0,0,0,0,0,b+5,b+8⟩) (dk:=1+(fz init last).length) (QS k (by decide)) ?_ j rfl) (λr g h=>⟨_,.refl _,r,rfl,h⟩);rotate_left 1;intro D E l2 _ _;exists bx,(bE.dX (OL (x:=x.wg (iJ l2 jK)) p ((qc (R:=220) (X:=GW w.params ⟨l1.n 0,a+1,a,0,0,0,0,0,b+5,b+8⟩ .none (1+(fz init last).length) (λr g=>∃c,r=((iJ l1 rj).g,cc (iJ l1 rj))::c/\fC 50 vn (ie bV) (iJ l1 rj).i bV [] c g)) k).mono (by decide)) ((we (R:=220) k).mono (by decide)) A (by decide))
   (Fd (x:=x) (y:=iJ l2 jK) (tr:=tr) (bN:=bN) (Up:=fC 220 (qR w.params) (ie (GW w.params ⟨l1.n 0,a+1,a,0,0,0,0,0,b+5,b+8⟩ .none (1+(fz init last).length) (λr g=>∃c,r=((iJ l1 rj).g,cc (iJ l1 rj))::c/\fC 50 vn (ie bV) (iJ l1 rj).i bV [] c g))) (l2.n 1) (GW w.params ⟨l1.n 0,a+1,a,0,0,0,0,0,b+5,b+8⟩ .none (1+(fz init last).length) (λr g=>∃c,r=((iJ l1 rj).g,cc (iJ l1 rj))::c/\fC 50 vn (ie bV) (iJ l1 rj).i bV [] c g)))));intro F G B _ _;exact cC B
 exact Or.inr rfl
end
end
section
variable(a:Nat)(xs:List Value)(i:Int)(n t:Nat)
def abp(d t:Nat)(xs:List Value)(n:Nat)(ys:List Value):cX where
 c:=.builtin o9 ⟨[.ref a,.ref d],[]⟩
 pre:=[(d,Bu .none (.int 4 t)),(a,br xs n)]
 out _ _ b:=(rV (.ref (b.n 0)),[(b.n 0,br ys 0),(a,br xs n)])
noncomputable abbrev abq:String:=PySem.W.SZ.s741896355592496720x3
def So(r:Int):cX where
 c:=.builtin abq ⟨[.ref a],[]⟩
 pre:=[(a,br xs n)]
 out _ _ b:=(rV (.int r (b.n 0)),[(a,br xs n)])
def zw(x:Int)(t:Nat)(y:Int)(u:Nat)(r:Int):cX where
 c:=.builtin Mf ⟨[.int x t,.int y u],[]⟩
 pre:=[]
 out _ _ b:=(rV (.int r (b.n 0)),[])
def OM(i:Int)(t:Nat)(x:List Nat):cX where
 c:=.builtin o9 ⟨[.ref a,.int i t],[]⟩
 pre:=[(a,br xs n)]
 out _ _ b:=(rV (.str ⟨⟨x⟩⟩ (b.n 0)),[(a,br xs n)])
noncomputable def opA(b:L2):pl:=⟨b.n 1,b.n 2,b.n 3,b.n 4,b.n 5,b.n 6,b.n 7,b.n 8,b.n 9,b.n 10,b.n 11,b.n 12,b.n 13,b.n 14⟩
def zx:cX where
 c:=.call (.ref 514) ⟨[],[]⟩
 pre:=[]
 out _ _ b:=(rV (.ref (b.n 0)),i1 (b.n 0) (opA b) false [99,57,57])
noncomputable def ON(b:L2):List Value:=[.str ⟨⟨[92,10]⟩⟩ (b.n 1),.str ⟨⟨[92,13]⟩⟩ (b.n 2),.str ⟨⟨[63,63,47,10]⟩⟩ (b.n 3)]
def HL:cX where
 c:=.call (.ref 617) ⟨[],[]⟩
 pre:=[]
 out _ _ b:=(rV (.ref (b.n 0)),[(b.n 0,br (ON b) 0)])
def Vn:cX where
 c:=.builtin o9 ⟨[.ref a,.int i t],[]⟩
 pre:=[]
 out _ _ b:=(rV (.ref (b.n 0)),[])
def ux(i:Int)(t:Nat):cX where
 c:=.builtin o9 ⟨[.ref a,.int i t],[]⟩
 pre:=[(a,br xs n)]
 out _ _ b:=(rV (.ref (b.n 0)),[(a,br xs n)])
def abr:cX where
 c:=.call (.ref 525) ⟨[],[]⟩
 pre:=[]
 out _ _ b:=(rV (.ref (b.n 0)),[(b.n 0,br (b.l 0) 0)])
def Vo(b:Nat)(ys:List Value)(m:Nat):cX where
 c:=.builtin GL ⟨[.ref a,.ref b],[]⟩
 pre:=[(b,br ys m)]
 out _ _ d:=(rV (.ref (d.n 0)),[(d.n 0,br (d.l 0) 0),(b,br ys m)])
def wB(b:Nat)(ys:List Value):cX where
 c:=.builtin GL ⟨[.ref a,.ref b],[]⟩
 pre:=[(a,br xs n)]
 out _ _ d:=(rV (.ref (d.n 0)),[(d.n 0,br (xs++ys) 0),(a,br xs n)])
def OO(v:Nat):cX where
 c:=.builtin o9 ⟨[.ref a,.int i t],[]⟩
 pre:=[]
 out _ _ _:=(rV (.ref v),[])
def Vp(e:Nat)(vs:List Value)(f:Nat)(n:Int)(g:Nat)(d:Int)(h:Nat)(r:List Int):cX where
 c:=.call (.ref 622) ⟨[.ref e,.int n g,.int d h],[]⟩
 pre:=[(e,br vs f)]
 out _ _ b:=(rV (.ref (b.n 0)),[(b.n 0,br (r.map λi=>.int i (b.n 1)) 0),(e,br vs f)])
def wC(e:Nat)(n:Int)(f:Nat)(d:Int)(g:Nat)(r:List Int):cX where
 c:=.call (.ref 622) ⟨[.ref e,.int n f,.int d g],[]⟩
 pre:=[]
 out _ _ b:=(rV (.ref (b.n 0)),[(b.n 0,br (r.map λi=>.int i (b.n 1)) 0)])
end
section
variable{env:Env}{s1:Stmt}
def OP(N:Value->Sem (Option Value))(L:Expr->Value->Value->Sem Unit)(a:Expr->Env->Value->Sem Unit)(b:List Stmt->Env->Sem Flow):
  { t:Expr->Value->List Stmt->List Stmt->Env->Sem PySem.Fin//N=PySem.W.ZFast.zw9404975358583537561->L=PySem.W.ZFast.zw1578499551869305889->a=PySem.W.ZFast.zw17772580674575903948->b=PySem.W.ZFast.zw12563942051412417395->t=PySem.W.ZFast.zw15207555903498437823 }:=by
 refine⟨?t,λc d e f=>?p⟩
 case p=>
  delta PySem.W.ZFast.zw15207555903498437823
  rw[<-c,<-d,<-e,<-f]
def fl(b:Env->Sem Flow)(c:Code):Sem PySem.Fin:=match c with
 |.forLoop a it body orelse env=>Mm (R.onRaiseR ((OP (λz=>pure (some .none)) (λz z z=>pure ()) (λz z z=>pure ()) (λz e=>b e)).1 a it body orelse env) λx=>R.bindR (PySem.W.ZFast.noteFrameY x env) λz=>PySem.W.ZFast.zw1623429502029203251 x)
 |Y=>.unsupported ""
theorem nr(a:Expr)(it:Value)(body orelse:List Stmt)(env:Env):
  ∃(K:Flow->Sem PySem.Fin)(H:Value->Sem Unit),∀b,fl b (.forLoop a it body orelse env)=R.onRaiseR (R.bindR (b env) K) H:=
 ⟨_,_,λb=>rfl⟩
section
variable{prog:Program}{w:World}{kt:KT}{os:OsState}{room:Nat}{pre:bH}{X:b7}{X':L2->b7}{gP:Nat->Nat->L2->bH}
theorem CA{a:Expr}{it:Value}{body orelse:List Stmt}{rest:List Stmt}(l:∀(d:Around)(s:Shared)(F:bH)(FG:bR)(r0:bH)(g0:bR),gY room d->X r0 g0->Sat kt os s (pre++(r0++F)) (g0++FG)->
   PySem.wpAt (model prog w) d (.forLoop a it body orelse env) (exec s1 env) (λf c=>f=.next/\∃b r1 g1,X' b r1 g1/\Sat kt os c (gP c.heap.objs.size c.toks b++(r1++F)) (g1++FG)) (λe c=>False) s):
  c9 prog w kt os room (.forLoop a it body orelse env) (fl (λe=>PySem.W.ZFast.zw12563942051412417395 (s1::rest) e) (.forLoop a it body orelse env)) pre X (λN t b=>(fl (λe=>PySem.W.ZFast.zw12563942051412417395 rest e) (.forLoop a it body orelse env),gP N t b)) X':=by
 intro d m g n s F FG r0 g0 o q r;obtain⟨K,H,e⟩:=nr a it body orelse env;rw[e,<-pN,<-eh,<-jb];show m (((Sem.bind (exec s1 env) _).bind K).onRaise H) s;rw[gL,dI,dI,eg,eg];refine g _ _ _ s λu p v i=>?_;refine eE _ _ _ ?_ (λe x c h=>h.elim) _ _ (l d s F FG r0 g0 n o q u p v i);rintro f x c ⟨rfl,b,r1,g1,j,k⟩;have z:=r c b r1 g1 j k;rw[e,<-pN,<-eh,<-jb,gL,dI,eg]at z;exact z
theorem qr{ρ:Flow}{os:OsState}{room:Nat}{X:b7}{X':L2->b7}{out:Nat->Nat->L2->Result×bH}{ns:List Num}{p:eO}(m:p.t=R.bindR (PySem.W.ZFast.zw12563942051412417395 [s1] env) λf=>.pure (.done f))(e:c6 prog w kt room ns p)(H:∀N t,Holds prog w kt os 0 (λ(_:Unit) _ _=>False) (λZ Z Z=>False) ⟨false,out,X',[]⟩ ((p.lB N t).res ns N t) X [])(l:∀N t a,(out N t a).1=.ok ρ){A:Around}{s:Shared}{F:bH}{FG:bR}{r0:bH}{g0:bR}(n:gY room A)(o:X r0 g0)(r:Sat kt os s (p.pre++(r0++F)) (g0++FG)):
  PySem.wpAt (model prog w) A p.c (exec s1 env) (λf b=>f=ρ/\∃a r1 g1,X' a r1 g1/\Sat kt os b ((out b.heap.objs.size b.toks a).2++(r1++F)) (g1++FG)) (λe b=>False) s:=by
 intro u q x j;obtain⟨SL,bN⟩:=sR (V:=⟨prog,w,kt,os,0,_,_,⟨false,out,X',[]⟩,[],[],[]⟩) (κ:=.base (fp p.c)) e (λZ=>H _ _) (AD n) (λq=>absurd (show 1000<=0 from q) (by decide)) o r;have i:=b5.own (jg (λq=>nomatch (show false=true from q)) 1000000 p.c p.t [] _ _ bN) rfl u q x (qK j);rw[m,<-eh,<-pN,iH]at i;change Sem.wp _ _ (Sem.bind (exec s1 env) _) _ _ _ _ at i;rw[iH]at i;refine eE _ _ _ ?_ ?_ _ _ i
 ·intro f y b k;have z:∃a L g,X' a L g/\(out b.heap.objs.size b.toks a).1=.ok f/\Sat kt os b ((out b.heap.objs.size b.toks a).2++(L++F)) (g++FG):=by
   cases f<;>(obtain⟨a,L,g,d,er,h⟩:=k;exact⟨a,L,g,d,er,h⟩)
  obtain⟨a,L,g,d,er,h⟩:=z;rw[l]at er;injection er with er;exact⟨er.symm,a,L,g,d,h⟩
 ·intro v y b k;obtain⟨a,L,g,d,er,h⟩:=k;rw[l]at er;cases er
end
end
section
variable(FL C:Nat)(D it:Nat)(ch j:Nat)
def cj:Env:=⟨mI (dH 28),FL,3,[(q (uS 0x6e616d65),C)],q (uS 0x6c61772e3c6c6f63616c733e2e),some 641,.ref 640,some FL,0⟩
def kZ(i:Nat):Stmt:=(dy (b9 (dH 28) 8)).getD i (.Pass default)
def abt:Expr:=(dz (Z2 (kZ 5))).getD 0 (.Constant .none 0 default)
def uy(a:Nat):Code:=.compLoop abt 0 (.ref it) (.ref a) (UM abt D (cj FL C))
def hw(d n k1 k2:Nat)(xs:List Value)(e:Nat)(ys:List Value)(f g:Value):cX where
 c:=uy FL C D it d
 pre:=[(D,Km k1 k2 f g),(it,eB ch j),(ch,br xs e),(d,br ys n)]
 out _ _ a:=(oN,[(D,Km k1 k2 (a.v 0) (a.v 1)),(ch,br xs e),(d,br (a.l 0) (a.n 0))])
def X6(d:Nat)(xs:List Value)(e:Nat):cX where
 c:=uy FL C D it d
 pre:=[(D,Ek),(it,eB ch 0),(ch,br xs e),(d,br [] 0)]
 out _ _ a:=(oN,[(D,Km (a.n 1) (a.n 2) (a.v 0) (a.v 1)),(ch,br xs e),(d,br (a.l 0) (a.n 0))])
def ml1(d:Nat)(xs:List Value)(f:Nat)(i:ht)(m:Int):bK:=⟨uy FL C D it d,(X6 FL C D it ch d xs f).pre,λN t=>.con (dd it ch 0 xs f (.ref i.a)) λk g h=>.dG i.a (rN i) <| .con (wc i.s i.tt m) λz z l2=>.con (ee d [] 0 (.int m (l2.n 0))) λo p e=>.con (hw FL C D it ch 1 d (e.n 0) g (g+1) xs f ([]++[.int m (l2.n 0)]) (.str ⟨⟨i.m⟩⟩ i.mt) (.str ⟨⟨i.s⟩⟩ i.tt)) λq r c=>.fin oN [(D,Km g (g+1) (c.v 0) (c.v 1)),(ch,br xs f),(d,br (c.l 0) (c.n 0))]⟩
theorem Sp di xs nn i m:RP 100 0 [oU,AK,L0,LO,GA,lZ] (ml1 FL C D it ch di xs nn i m):=.b
def ml2(d n k1 k2:Nat)(xs:List Value)(f:Nat)(ys:List Value)(h k:Value)(i:ht)(m:Int):bK:=⟨uy FL C D it d,(hw FL C D it ch j d n k1 k2 xs f ys h k).pre,λN t=>.con (dd it ch j xs f (.ref i.a)) λo p g=>.dG i.a (rN i) <| .con (wc i.s i.tt m) λz z l2=>.con (ee d ys n (.int m (l2.n 0))) λq r e=>.con (hw FL C D it ch (j+1) d (e.n 0) k1 k2 xs f (ys++[.int m (l2.n 0)]) (.str ⟨⟨i.m⟩⟩ i.mt) (.str ⟨⟨i.s⟩⟩ i.tt)) λu w c=>.fin oN [(D,Km k1 k2 (c.v 0) (c.v 1)),(ch,br xs f),(d,br (c.l 0) (c.n 0))]⟩
theorem Sq di n k1 k2 xs nn ys v1 v2 i m:RP 100 0 [oU,AK,L0,LO,GA,lZ] (ml2 FL C D it ch j di n k1 k2 xs nn ys v1 v2 i m):=.b
def ml3(a n k1 k2:Nat)(xs:List Value)(c:Nat)(ys:List Value)(d e:Value):bK:=⟨uy FL C D it a,(hw FL C D it ch j a n k1 k2 xs c ys d e).pre,λN t=>.con (eV it ch j xs c) λg h f=>.fin oN [(D,Km k1 k2 d e),(ch,br xs c),(a,br ys n)]⟩
theorem Sr di n k1 k2 xs nn ys v1 v2:RP 100 0 [oU,LL] (ml3 FL C D it ch j di n k1 k2 xs nn ys v1 v2):=.a
structure fH where(FL C k S NU:Nat)(tot:Int)(vz eL:Nat)(told:Int)(tt:Nat)(pw:List Nat)(st CO k1 k2 k3 k4 k5:Nat)
variable(z:fH)
def Vq:List DictEntry:=[eW (uS 0x736372697074) z.k (.ref z.S),eW (uS 0x6e756d62657273) z.k1 (.ref z.NU),eW (uS 0x746f74616c) z.k2 (.int z.tot z.vz),eW (uS 0x656e64696e67) z.k3 (.ref z.eL),eW (uS 0x746f6c64) (z.k3+1) (.int z.told z.tt),eW (uS 0x7365616d) z.k4 (.str ⟨⟨z.pw⟩⟩ z.st),eW [111] z.k5 (.ref z.CO)]
def iO:Obj:=cD (Vq z) 7
def CB(y:pl)(a:Bool):vf where
 c:=.func (bJ (dH 28)) (cj z.FL z.C)
 tr:=cg (dZ (.func ((bJ (dH 28)).drop 5) (cj z.FL z.C)))
 pre:=[(z.FL,iO z)]++i1 z.CO y false [99,57,57]
 out _ _ d:=(cg (dZ (.func ((bJ (dH 28)).drop 6) (cj z.FL z.C))),[(z.FL,iO z)]++i1 z.CO (y.bN (d.n 0)) false (cond a [99,56,57] [99,57,57]))
def uz(y:pl)(bN:List Nat)(tr:Bool):vf where
 c:=.func (bJ (dH 28)) (cj z.FL z.C)
 tr:=cg (dZ (.func ((bJ (dH 28)).drop 6) (cj z.FL z.C)))
 pre:=[(z.FL,iO z)]++i1 z.CO y false bN
 out _ _ a:=(cg (dZ (.func ((bJ (dH 28)).drop 7) (cj z.FL z.C))),[(z.FL,iO z)]++i1 z.CO y tr bN)
structure hM where(k6 it IT:Nat)(xs:List Value)(CU:Nat)(cs:List Value)(sz:Int)(X7:Nat)
variable(b:hM)
def zy:List DictEntry:=Vq z++[eW (uS 0x73697a65) b.k6 (.int b.sz b.X7),eW (uS 0x63757473) (b.k6+1) (.ref b.CU),eW (uS 0x6974656d73) (b.k6+2) (.ref b.IT)]
def sr:Obj:=cD (zy z b) 10
def eM:Code:=m3 (b9 (dH 28) 8) (.ref it) (cj FL C)
def vA:bH:=[(b.IT,br b.xs 0),(b.CU,br b.cs 0)]
noncomputable def hM.HM(a:L2)(sz:Int):hM:=⟨b.k6,b.it,a.n 0,a.l 0,a.n 1,a.l 1,sz,a.n 2⟩
def k0(k1 k2 k3:Nat)(a c d:Value):Obj:=cD (zy z b++[eW [110] k1 a,eW (uS 0x6168656164) k2 c,eW (uS 0x6368756e6b) k3 d]) 13
def OQ(ys:List Value)(sz:Int):cX where
 c:=eM z.FL z.C b.it
 pre:=[(z.FL,sr z b),(b.it,eB z.NU 0),(z.NU,br ys 0)]++vA b
 out _ _ a:=(oN,[(z.FL,k0 z (b.HM a sz) (a.n 3) (a.n 4) (a.n 5) (a.v 0) (a.v 1) (a.v 2))]++vA (b.HM a sz))
end
section
noncomputable def lw(s:Stmt)(env:Env):Sem PySem.Fin:=R.bindR (PySem.W.ZFast.zw12563942051412417395 [s] env) λf=>.pure (.done f)
variable(z:fH)(b:hM)(y:pl)(k1:Nat)(bN:List Nat)(k2:Nat)(n:Int)(nt:Nat)(l:Option (Nat×Value))(t0:Nat)
def X8(e:Nat):eO:=⟨.func (bJ (dH 28)) (cj z.FL z.C),lw (b9 (dH 28) 5) (cj z.FL z.C),[(z.FL,iO z)]++i1 z.CO y false [99,57,57],λN t=>.con (tM z.tot z.vz 14 t (Int.ofNat e)) λx x x=>.fin oN ([(z.FL,iO z)]++i1 z.CO y false [99,57,57])⟩
theorem Fe(z:fH)(y:pl):∀e,e∈[0,1,2,3,4,5,6,7,8,9,10,11,12]->iq 250 [xW,nU 0x100 0x10000 0 1 0] (X8 z y e):=
 c6.e
def zz(CO:Nat)(y:pl)(tr:Bool)(bN a:List Nat)(kt vt:Nat):cX where
 c:=.call (.ref 497) ⟨[.ref CO,.str ⟨⟨[115,116,100]⟩⟩ kt,.str ⟨⟨a⟩⟩ vt],[]⟩
 pre:=i1 CO y tr bN
 out _ _ _:=(rV .none,i1 CO (y.bN vt) tr a)
def HN(CO:Nat)(y:pl)(tr:Bool)(bN:List Nat)(kt:Nat):cX where
 c:=.call (.ref 483) ⟨[.ref CO,.str ⟨⟨[116,114,105,103,114,97,112,104,115]⟩⟩ kt],[]⟩
 pre:=i1 CO y tr bN
 out _ _ _:=(rV .none,i1 CO y true bN)
def X9:eO:=⟨.func (bJ (dH 28)) (cj z.FL z.C),lw (b9 (dH 28) 5) (cj z.FL z.C),[(z.FL,iO z)]++i1 z.CO y false [99,57,57],λN t=>.con (tM z.tot z.vz 14 t 13) λx a x=>.con (zz z.CO y false [99,57,57] [99,56,57] (a+1) (a+2)) λx x x=>.fin oN ([(z.FL,iO z)]++i1 z.CO (y.bN (a+2)) false [99,56,57])⟩
theorem Ff:iq 250 [xW,nU 0x110320000200020002100 0x1111 0 3 247,Dx] (X9 z y):=
 c6.b
def Yb:eO:=⟨.func (bJ (dH 28)) (cj z.FL z.C),lw (b9 (dH 28) 6) (cj z.FL z.C),[(z.FL,iO z)]++i1 z.CO y false bN,λN t=>.con (vo z.pw z.st [63,63,47,10] t false) λx x x=>.fin oN ([(z.FL,iO z)]++i1 z.CO y false bN)⟩
theorem Fg:iq 250 [xW,oV] (Yb z y bN):=
 c6.b
def Yc:eO:=⟨.func (bJ (dH 28)) (cj z.FL z.C),lw (b9 (dH 28) 6) (cj z.FL z.C),[(z.FL,iO z)]++i1 z.CO y false bN,λN t=>.con (vo z.pw z.st [63,63,47,10] t true) λx a x=>.con (HN z.CO y false bN a) λx x x=>.fin oN ([(z.FL,iO z)]++i1 z.CO y true bN)⟩
theorem Fh:iq 250 [xW,nU 0x1103200002000200021 0x1111 0 1 247,Dx] (Yc z y bN):=
 c6.b
def CC(last:Option (Nat×Value))(a:Int)(t:Nat):Obj:=match last with
 |none=>cD (zy z b++[eW [110] k1 (.int n nt),eW (uS 0x6168656164) k2 (.int a t)]) 12
 |some p=>k0 z b k1 k2 p.1 (.int n nt) (.int a t) p.2
def CD(last:Option (Nat×Value))(a:Int)(t:Nat)(f:Int):vf where
 c:=eM z.FL z.C b.it
 tr:=fl (λe=>PySem.W.ZFast.zw12563942051412417395 ((dy (b9 (dH 28) 8)).drop 1) e) (eM z.FL z.C b.it)
 pre:=[(z.FL,CC z b k1 k2 n nt last a t)]
 out _ _ d:=(fl (λe=>PySem.W.ZFast.zw12563942051412417395 ((dy (b9 (dH 28) 8)).drop 2) e) (eM z.FL z.C b.it),[(z.FL,CC z b k1 k2 n nt last f (d.n 0))])
def Yd(a:Nat):eO:=⟨eM z.FL z.C b.it,lw (kZ 1) (cj z.FL z.C),[(z.FL,CC z b k1 k2 n nt l (Int.ofNat a) t0)],λN t=>.fin oN [(z.FL,CC z b k1 k2 n nt l (Int.ofNat a) t0)]⟩
theorem Fi(z:fH)(b:hM)(k1 k2:Nat)(n:Int)(nt:Nat)(l:Option (Nat×Value))(t0:Nat):∀a,a∈[0,1,2,3,4,5,6,7,9]->iq 150 [nU 0x1001 0x10 0 1 0] (Yd z b k1 k2 n nt l t0 a):=by
 cases l
 ·exact c6.e
 ·exact c6.e
def Ye(e:Nat):eO:=⟨eM z.FL z.C b.it,lw (kZ 1) (cj z.FL z.C),[(z.FL,CC z b k1 k2 n nt l 8 t0)],λN t=>.con (tM z.tot z.vz 14 (t+1) (Int.ofNat e)) λy y y=>.fin oN [(z.FL,CC z b k1 k2 n nt l 8 t0)]⟩
theorem Fj(z:fH)(b:hM)(k1 k2:Nat)(n:Int)(nt:Nat)(l:Option (Nat×Value))(t0:Nat):∀e,e∈[0,1,2,3,4,5,6,7,8,9,10,11,12]->iq 150 [L3,nU 0x100 0x10 0 1 0] (Ye z b k1 k2 n nt l t0 e):=by
 cases l
 ·exact c6.e
 ·exact c6.e
def Yg:eO:=⟨eM z.FL z.C b.it,lw (kZ 1) (cj z.FL z.C),[(z.FL,CC z b k1 k2 n nt l 8 t0)],λN t=>.con (tM z.tot z.vz 14 (t+1) 13) λy a y=>.fin oN [(z.FL,CC z b k1 k2 n nt l 9 (a+1))]⟩
theorem Fk:iq 150 [L3,nU 0x11100 0x10 0 3 0] (Yg z b k1 k2 n nt l t0):=by
 cases l
 ·exact c6.b
 ·exact c6.b
end
section
variable(z:fH)(b:hM)(ys:List Value)(sz:Int)(j k1:Nat)(k2 k3:Nat)(v1 v2:Value)(v3:Value)
def wD:cX where
 c:=eM z.FL z.C b.it
 pre:=[(z.FL,k0 z b k1 k2 k3 v1 v2 v3),(b.it,eB z.NU j),(z.NU,br ys 0)]++vA b
 out _ _ a:=(oN,[(z.FL,k0 z (b.HM a sz) k1 k2 k3 (a.v 0) (a.v 1) (a.v 2))]++vA (b.HM a sz))
structure Yh where(n:Int)(nt:Nat)(q a a2 m k:Int)(cr:List Int)(ln:Int)
variable(d:Yh)
noncomputable def hM.nx(f a c e:L2)(d:Yh)(t:Nat):hM:=⟨b.k6,b.it,a.n 0,b.xs++f.l 0,e.n 0,b.cs++d.cr.map (λi=>.int i (c.n 1)),b.sz+d.ln,t⟩
noncomputable def OR(last:Option (Nat×Value))(t:Nat):Nat:=match last with
 |some p=>p.1
 |none=>t
def Yi(k1 k2:Nat->Nat->Nat)(last:Option (Nat×Value)):hS:=
 .con (dd b.it z.NU j ys 0 (.int d.n d.nt)) λU g l1=>.con (zw d.n d.nt 20 (g+1) d.q) λV B l2=>.con (tM d.q (l2.n 0) 10 B d.a) λW r D=>
 .step (CD z b (k1 g r) (k2 g r) d.n d.nt last d.a (D.n 0) d.a2) λX Y x=>.dG 556 (acE) <| .con (Vn 556 d.a2 (x.n 0)) λZ t5 t=>.con abr λN6 E y=>.con (tM d.n d.nt 20 E d.m) λN7 t7 F=>.con (ux (y.n 0) (y.l 0) 0 d.m (F.n 0)) λG t8 H=>
 .dG (t.n 0) (br (t.l 0) 0) <| .con (Vo (t.n 0) G [.ref (H.n 0)] 0) λN9 A e=>.con (qT b.IT b.xs 0 (e.n 0) (e.l 0) 0) λI u h=>.con (zw d.n d.nt 200 (u+1) d.k) λJ K w=>.con (Vp (e.n 0) (e.l 0) 0 d.k (w.n 0) b.sz b.X7 d.cr) λL M c=>
 .con (qT b.CU b.cs 0 (c.n 0) (d.cr.map λi=>.int i (c.n 1)) 0) λf N o=>.con (X6 z.FL z.C (f+2) f (e.n 0) (f+1) (e.l 0) 0) λO P s=>.con (So (f+1) (s.l 0) (s.n 0) d.ln) λQ p R=>
 .con (wD z (b.nx e h c o d p) ys sz (j+1) (k1 g r) (k2 g r) (OR last A) (.int d.n d.nt) (.int d.a2 (x.n 0)) (.ref (e.n 0))) λS T l=>.fin oN ([(z.FL,k0 z ((b.nx e h c o d p).HM l sz) (k1 g r) (k2 g r) (OR last A) (l.v 0) (l.v 1) (l.v 2))]++vA ((b.nx e h c o d p).HM l sz))
def abv:bK:=⟨eM z.FL z.C b.it,(wD z b ys sz j k1 k2 k3 v1 v2 v3).pre,λN t=>Yi z b ys sz j d (λy y=>k1) (λy y=>k2) (some (k3,v3))⟩
def zA(a:Bool):List Num:=match a with
 |false=>[p3,xX,xY,xZ,x0,ya,yb,yc,yd,ye,yf,yg,yh,yi,yj,L4,ym,yn,lZ]
 |true=>[p3,xX,xY,xZ,x0,ya,yb,yc,yd,ye,yf,yg,yh,yi,yj,L5,ym,yn,lZ]
theorem wE:RP 400 0 (zA b2) (abv z b ys sz j k1 k2 k3 v1 v2 v3 d):=.d (f:=zA)
def abw:bK:=⟨eM z.FL z.C b.it,(OQ z b ys sz).pre,λN t=>Yi z b ys sz 0 d (λa y=>a) (λy c=>c) none⟩
def zB(a:Bool):List Num:=match a with
 |false=>[p3,xX,xY,xZ,x0,ya,yb,yc,yd,ye,yf,yg,yh,yi,yj,L4,ym,yn,lZ]
 |true=>[p3,xX,xY,xZ,x0,ya,yb,yc,yd,ye,yf,yg,yh,yi,yj,L5,ym,yn,lZ]
theorem wF:RP 400 0 (zB b2) (abw z b ys sz d):=.d (f:=zB)
def abx:bK:=⟨eM z.FL z.C b.it,(wD z b ys 0 j k1 k2 k3 v1 v2 v3).pre,λN t=>.con (eV b.it z.NU j ys 0) λa c l1=>.fin oN ([(z.FL,k0 z b k1 k2 k3 v1 v2 v3)]++vA b)⟩
theorem JQ:RP 400 0 [p3,nU 0x101 0x1333 0 0 0] (abx z b ys j k1 k2 k3 v1 v2 v3):=.a
end
def OS(t a:Nat)(vs:List Value)(n:Nat)(x:List Nat):cX where
 c:=.builtin D3 ⟨[.str ⟨⟨[]⟩⟩ t,.ref a],[]⟩
 pre:=[(a,br vs n)]
 out _ _ b:=(rV (.str ⟨⟨x⟩⟩ (b.n 0)),[(a,br vs n)])
noncomputable def sfA(a:L2):yy:=⟨0,a.n 0,a.n 1,0,0,0,0,0,a.n 2,a.n 3⟩
def sfC(fs:List Nat)(ft:Nat):cX where
 c:=.call (.ref 303) ⟨[.str ⟨⟨fs⟩⟩ ft],[]⟩
 pre:=[]
 out _ _ a:=(rV (.ref (a.n 0)),fX (sfA a) (.str ⟨⟨fs⟩⟩ ft) 1 (a.n 4))
noncomputable abbrev Vr:String:=PySem.W.SZ.s15660640913423913556x4
def hZ(v:Value):Obj:=⟨.type Vr,none,.cell (some v),#[]⟩
def Fl:Stmt:=(dy (b9 (dH 28) 15)).getD 1 (.Pass default)
def jR(s:Stmt):Expr:=(sp s).e
def OT(e:Expr):Expr:=(ep e).e2
def adG(e:Expr):List Expr:=(ep e).es
def Yj:Expr:=(adG (OT (jR Fl))).getD 0 (.Constant .none 0 default)
def adH:Scope:={ Ej Yj with names:=(Ej Yj).names.map λp=>(p.1,match p.2 with
 |.free=>.cell
 |x=>x) }
def aby(FL C D:Nat):Env:={ scope:=adH,locals:=D,globals:=(cj FL C).globals,cells:=[(q (uS 0x6e616d65),C)],qual:=(cj FL C).qual,func:=none,code:=(cj FL C).code,frame:=(cj FL C).frame,builtins:=(cj FL C).builtins }
def uA(FL C D it a:Nat):Code:=.compLoop Yj 0 (.ref it) (.ref a) (aby FL C D)
def dD(k:Nat)(v:Value):Obj:=cy [eW [100] k v] 1
def uB(a b:Nat)(xs ys:List Value):cX where
 c:=.builtin Uw ⟨[.ref a,.ref b],[]⟩
 pre:=[(b,dm ys 0)]
 out _ _ d:=(rV (.ref (d.n 0)),[(d.n 0,dm (xs++ys) 0)])
def PX(FL C D it e j a n k:Nat)(d:List Value)(dn:Nat)(ys:List Value)(v nm:Value):cX where
 c:=uA FL C D it a
 pre:=[(D,dD k v),(it,eB e j),(e,br d dn),(a,br ys n),(C,hZ nm)]
 out _ _ b:=(oN,[(D,dD k (b.v 0)),(e,br d dn),(a,br (b.l 0) (b.n 0)),(C,hZ nm)])
def Yk(FL C D it e b:Nat)(d:List Value)(dn:Nat)(nm:Value):cX where
 c:=uA FL C D it b
 pre:=[(D,Ek),(it,eB e 0),(e,br d dn),(b,br [] 0),(C,hZ nm)]
 out _ _ a:=(oN,[(D,dD (a.n 1) (a.v 0)),(e,br d dn),(b,br (a.l 0) (a.n 0)),(C,hZ nm)])
def dnT(FL C D it d j b n:Nat)(k:Nat->Nat)(c:List Value)(dn:Nat)(ys:List Value)(nm:Value)(x:qm)(a e f g p:Nat):hS:=
 .con (dd it d j c dn (.ref a)) λm i l1=>.dG a (N0 x.mark x.text x.space x.first p e f g) <| .con (uB a m [.str ⟨⟨x.mark⟩⟩ e,.str ⟨⟨x.text⟩⟩ f,.str ⟨⟨x.space⟩⟩ g,.bool x.first,.ref p] [nm]) λq r l2=>.con (ee b ys n (.ref (l2.n 0))) λs t o=>
 .con ((PX FL C D it d (j+1) b (o.n 0) (k i) c dn (ys++[.ref (l2.n 0)]) (.ref a) nm).give [(l2.n 0,dm ([.str ⟨⟨x.mark⟩⟩ e,.str ⟨⟨x.text⟩⟩ f,.str ⟨⟨x.space⟩⟩ g,.bool x.first,.ref p]++[nm]) 0)]) λu w h=>.fin oN [(D,dD (k i) (h.v 0)),(d,br c dn),(b,br (h.l 0) (h.n 0)),(C,hZ nm)]
def dn2(FL C D it d j b n k:Nat)(c:List Value)(dn:Nat)(ys:List Value)(v nm:Value)(x:qm)(a e f g p:Nat):bK:=⟨uA FL C D it b,(PX FL C D it d j b n k c dn ys v nm).pre,λN t=>dnT FL C D it d j b n (λz=>k) c dn ys nm x a e f g p⟩
def dn1(FL C D it d b:Nat)(c:List Value)(dn:Nat)(nm:Value)(x:qm)(a e f g p:Nat):bK:=⟨uA FL C D it b,(Yk FL C D it d b c dn nm).pre,λN t=>dnT FL C D it d 0 b 0 id c dn [] nm x a e f g p⟩
def dnN:List Num:=[oU,Wi,Wj,Wk,Wl,oV]
theorem OU{FL C D it d j b n k:Nat}{c:List Value}{dn:Nat}{ys:List Value}{v nm:Value}(h:nm=.none\/∃fs t,nm=.str ⟨⟨fs⟩⟩ t)(x:qm)(a e f g p:Nat):RP 100 0 dnN (dn2 FL C D it d j b n k c dn ys v nm x a e f g p)/\RP 100 0 dnN (dn1 FL C D it d b c dn nm x a e f g p):=by
 rcases h with rfl|⟨fs,t,rfl⟩
 ·exact⟨.a,.a⟩
 ·exact⟨.a,.a⟩
def dn3(FL C D it c j a n k:Nat)(b:List Value)(dn:Nat)(ys:List Value)(v nm:Value):bK:=⟨uA FL C D it a,(PX FL C D it c j a n k b dn ys v nm).pre,λN t=>.con (eV it c j b dn) λd e l1=>.fin oN [(D,dD k v),(c,br b dn),(a,br ys n),(C,hZ nm)]⟩
theorem Ss FL C D it du j di n k m7 dn ys v nm:RP 100 0 [oU,nU 0x11 0x12223 0 0 0] (dn3 FL C D it du j di n k m7 dn ys v nm):=.a
section
structure m5 where(b:hM)(k1 k2 k3:Nat)(v1 v2 v3:Value)(kp D1 R1 S1 kq D2 R2 S2 kr SF kw WL:Nat)
variable(z:fH)(c:m5)
def abz(bV:Bool):List DictEntry:=zy z c.b++(match bV with
 |true=>[]
 |false=>[eW [110] c.k1 c.v1,eW (uS 0x6168656164) c.k2 c.v2,eW (uS 0x6368756e6b) c.k3 c.v3])++[eW (uS 0x706c61696e) c.kp (.ref c.D1),eW (uS 0x6c696e6573) (c.kp+1) (.ref c.R1),eW (uS 0x73706f7473) (c.kp+2) (.ref c.S1),eW (uS 0x73706c6974) c.kq (.ref c.D2),eW (uS 0x706965636573) (c.kq+1) (.ref c.R2),eW (uS 0x706c61636573) (c.kq+2) (.ref c.S2),eW (uS 0x6f6e65) c.kr (.ref c.SF),eW (uS 0x77617973) c.kw (.ref c.WL)]
def OV(bV:Bool)(a:List DictEntry)(m:Nat):Obj:=cD (abz z c bV++a) (match bV with
 |true=>18+m
 |false=>21+m)
def dC(FL C it:Nat):Code:=m3 (b9 (dH 28) 15) (.ref it) (cj FL C)
structure LawW where(it w1 w2:Nat)(g1 g2:fJ)(ft:Nat)(d1:List Value)(n1:Nat)(d2:List Value)(n2:Nat)(s1:List Value)(m1:Nat)(s2:List Value)(m2:Nat)
variable(y:LawW)
def abA(z:fH)(c:m5)(y:LawW):bH:=[(y.it,eB c.WL 0),(c.WL,br [.ref y.w1,.ref y.w2] 0),(y.w1,dm [.ref y.g1.g,.str ⟨⟨[111,110,101,46,99]⟩⟩ y.ft,.ref c.D2,.ref c.S2] 0),(y.w2,dm [.ref y.g2.g,.none,.ref c.D1,.ref c.S1] 0),(y.g1.g,cc y.g1),(y.g2.g,cc y.g2),(c.D1,br y.d1 y.n1),(c.D2,br y.d2 y.n2),(c.S1,br y.s1 y.m1),(c.S2,br y.s2 y.m2)]
def abB:Obj:=⟨.type Vr,none,.cell none,#[]⟩
noncomputable def fH.wt(t:Int):fH:={ z with told:=t }
structure m6 where(k1 k2 k3 k4:Nat)(g:fJ)(DU:Nat)(m7:List Value)(dn WH RF:Nat)(CE:List Value)(rl:bH)
def abC(v:m6):List DictEntry:=[eW (uS 0x746f6b656e73) v.k1 (.ref v.g.g),eW (uS 0x647565) v.k2 (.ref v.DU),eW (uS 0x7768657265) v.k3 (.ref v.WH),eW (uS 0x72656675736564) v.k4 (.ref v.RF)]
def eR(bV:Bool)(v:m6):Obj:=OV z c bV (abC v) 4
def CF(bV:Bool)(it:Nat)(v:m6)(nm:Value):vf where
 c:=dC z.FL z.C it
 tr:=fl (λe=>PySem.W.ZFast.zw12563942051412417395 ((dy (b9 (dH 28) 15)).drop 1) e) (dC z.FL z.C it)
 pre:=[(z.FL,eR z c bV v),(z.C,hZ nm),(v.g.g,cc v.g),(v.DU,br v.m7 v.dn),(v.RF,br v.CE 0)]++v.rl
 out _ _ _:=(fl (λe=>PySem.W.ZFast.zw12563942051412417395 ((dy (b9 (dH 28) 15)).drop 2) e) (dC z.FL z.C it),[(z.FL,eR z c bV v),(z.C,hZ nm)])
 e:=true
noncomputable def wv1(z:fH)(c:m5)(y:LawW)(t b:Nat)(d:Nat)(a:List Value)(rl:bH):m6:=⟨t,t+1,t+2,b,y.g1,c.D2,y.d2,y.n2,c.S2,d,a,rl⟩
noncomputable def wv2(z:fH)(c:m5)(y:LawW)(t b:Nat)(d:Nat)(a:List Value)(rl:bH):m6:=⟨t,t+1,t+2,b,y.g2,c.D1,y.d1,y.n1,c.S1,d,a,rl⟩
def wG(bV:Bool)(y:LawW):cX where
 c:=dC z.FL z.C y.it
 pre:=[(z.FL,OV z c bV [] 0),(z.C,abB)]++abA z c y
 out _ _ a:=(oN,[(z.FL,eR z c bV ⟨a.n 0,a.n 1,a.n 2,a.n 3,y.g2,c.D1,[],0,c.S1,a.n 4,[],[]⟩)])
 e:=true
def HO(bV:Bool)(y:LawW)(k:Nat)(d:List Value):hS:=
 .con (dd y.it c.WL 0 [.ref y.w1,.ref y.w2] 0 (.ref y.w1)) λh a l1=>match k with
 |2=>.con (ux c.S2 y.s2 y.m2 z.told z.tt) λe f la=>.step (CF z c bV y.it (wv1 z c y a f (e+1) [.ref e] [(e,dm [.ref (la.n 0),.str ⟨⟨[111,110,101,46,99]⟩⟩ y.ft] 0)]) (.str ⟨⟨[111,110,101,46,99]⟩⟩ y.ft)) λi j l2=>
  .con (dd y.it c.WL 1 [.ref y.w1,.ref y.w2] 0 (.ref y.w2)) λg l m=>.con (ux c.S1 y.s1 y.m1 z.told z.tt) λb tb lb=>.step (CF z c bV y.it (wv2 z c y a f (b+1) [.ref b] [(b,dm [.ref (lb.n 0),.none] 0)]) .none) λo p q=>
  .con (eV y.it c.WL 2 [.ref y.w1,.ref y.w2] 0) λr s t=>.fin oN [(z.FL,eR z c bV (wv2 z c y a f (b+1) [.ref b] [(b,dm [.ref (lb.n 0),.none] 0)]))]
 |_=>.step (CF z c bV y.it (wv1 z c y a (a+cond (k==0) 5 7) (h+3) d []) (.str ⟨⟨[111,110,101,46,99]⟩⟩ y.ft)) λi j l2=>
  .con (dd y.it c.WL 1 [.ref y.w1,.ref y.w2] 0 (.ref y.w2)) λg l m=>.step (CF z c bV y.it (wv2 z c y a (a+cond (k==0) 5 7) (g+3) d []) .none) λo p q=>
  .con (eV y.it c.WL 2 [.ref y.w1,.ref y.w2] 0) λr s t=>.fin oN [(z.FL,eR z c bV (wv2 z c y a (a+cond (k==0) 5 7) (g+3) d []))]
def Yl:bK:=⟨dC z.FL z.C y.it,(wG (z.wt (-2)) c false y).pre,λN t=>HO (z.wt (-2)) c false y 0 []⟩
theorem Fm:RP 790 0 [yo,.n (.b TX 0x1b6422 4 6 0 0x10) 787,p4,.n (.b TY 0x1c4422 4 6 0 0x10) 787,p4,yp] (Yl z c y):=.b
def Ym:bK:=⟨dC z.FL z.C y.it,(wG (z.wt (-2)) c true y).pre,λN t=>HO (z.wt (-2)) c true y 0 []⟩
theorem Fn:RP 790 0 [yo,.n (.b TX 0x1b6422 4 6 0 0x10) 787,p4,.n (.b TY 0x1c4422 4 6 0 0x10) 787,p4,yp] (Ym z c y):=.b
def Yn:bK:=⟨dC z.FL z.C y.it,(wG (z.wt (-1)) c false y).pre,λN t=>HO (z.wt (-1)) c false y 1 [.none]⟩
theorem Fo:RP 790 0 [yo,.n (.b 0x1330000300003333344330fd0dd0dd50dd0dd00dd00dd0dd0dd50dd0dd00dd00dd0dd0dd50dd0dd00dd00dd0dd0dd50dd0dd00dd00dd0dd0dd50dd0dd00dd00dd0dd0505551 0x1b6422 4 8 0 0x10) 787,p4,.n (.b 0x13300003000033333443310d0ed0ed60ed0ed00ed00ed0ed0ed60ed0ed00ed00ed0ed0ed60ed0ed00ed00ed0ed0ed60ed0ed00ed00ed0ed0ed60ed0ed00ed00ed0ed0606661 0x1c4422 4 8 0 0x10) 787,p4,yp] (Yn z c y):=.b
def Yo(m:Nat):bK:=⟨dC z.FL z.C y.it,(wG (z.wt (Int.ofNat m)) c false y).pre,λN t=>HO (z.wt (Int.ofNat m)) c false y 2 []⟩
theorem Fp(z:fH)(c:m5)(y:LawW):∀m,m∈[2,3]->RP 790 0 [yo,nU 0x11c0ccc330000300003333344330fd0dd0dd50dd0dd00dd00dd0dd0dd50dd0dd00dd00dd0dd0dd50dd0dd00dd00dd0dd0dd50dd0dd00dd00dd0dd0dd50dd0dd00dd00dd0dd0505551 0x1b 3 7 787,.n (.b 0x1445 0x1bc7533 2 1 0 0x10) 787,nU 0x114040 0x133 0 0 787,nU 0x11a0aaa3300003000033333443310d0ed0ed70ed0ed00ed00ed0ed0ed70ed0ed00ed00ed0ed0ed70ed0ed00ed00ed0ed0ed70ed0ed00ed00ed0ed0ed70ed0ed00ed00ed0ed0707771 0x19 3 7 787,.n (.b 0x1445 0x1c0dd6633 2 1 0 0x10) 787,nU 0x114040 0x133 0 0 787,yp] (Yo z c y m):=
 RP.e
end
section
structure Fq where(S:Nat)(xs:List Value)(n:Nat)(ys:List Value)(tot e q sm:Int)(ea eL:Nat)(told:Int)(tt:Nat)(zC:List Value)(pw:List Nat)(Su tr:Bool)(sz Ks:Int)(CG:List Int)(r1 r2 txt:List Nat)
variable(d:Fq)
noncomputable def Fq.z(N t a b c e f:Nat)(g h i j:L2):fH:=⟨N,N+1,t,d.S,g.n 0,d.tot,h.n 0,d.eL,d.told,d.tt,d.pw,i.n 0,j.n 0,a,b,c,e,f⟩
def retS(z:fH)(c:m5)(bV:Bool)(v:m6):vf where
 c:=.func (bJ (dH 28)) (cj z.FL z.C)
 tr:=cg (dZ (.func ((bJ (dH 28)).drop 16) (cj z.FL z.C)))
 pre:=[(z.FL,eR z c bV v)]
 out _ _ _:=(.pure (.done (.ret (.bool true))),[])
def uC(r:fH->hM->cX)(next:fH->pl->hM->L2->Nat->Nat->hS)(N t:Nat):hS:=
 .con (abp d.S (N+2) (t+1) d.xs d.n d.ys) λA g l1=>.con (So (l1.n 0) d.ys 0 d.tot) λB f l2=>.con (tM d.tot (l2.n 0) 14 (f+1) d.e) λC D s=>.dG 610 (acF) <| .con (OO 610 d.e (s.n 0) d.ea) λE h F=>.dG d.ea (dm [.ref d.eL,.int d.told d.tt] 0) <|
  .con HL λG u la=>.con (zw d.tot (l2.n 0) 14 u d.q) λH v w=>.con (tM d.q (w.n 0) 3 v d.sm) λI J x=>.con (OM (la.n 0) (ON la) 0 d.sm (x.n 0) d.pw) λK i j=>.con (zx) λL k c=>.step (CB (d.z N t g f h i k l1 l2 j c) (opA c) d.Su) λM O p=>
  .step (uz (d.z N t g f h i k l1 l2 j c) ((opA c).bN (p.n 0)) (cond d.Su [99,56,57] [99,57,57]) d.tr) λa b y=>
  .con (r (d.z N t g f h i k l1 l2 j c) ⟨b+1,a+6,a,[],a+1,[],0,b⟩) λl m o=>next (d.z N t g f h i k l1 l2 j c) ((opA c).bN (p.n 0)) ⟨b+1,a+6,a,[],a+1,[],0,b⟩ o l m
def og(z:fH)(op:pl)(b:hM)(bV:Bool)(e h F m:L2)(xs:List Value)(u w o:Nat)(G:List Value):hS:=
  .con (EW ⟨h.n 0,u,w+1,[],xs,0,[],0,d.r1⟩) λH p a=>.con (EW ⟨h.n 0,m.n 0,z.st,d.pw,xs,0,G,0,d.r2⟩) λI i c=>
  .con (sfC [111,110,101,46,99] (i+3)) λJ q j=>.con (Vd z.CO) λr K x=>.con ((Vl (cY z.CO x gn0) { sfA j with f:=r } (.str ⟨⟨[111,110,101,46,99]⟩⟩ (i+3)) 1 (j.n 4) op d.tr (cond d.Su [99,56,57] [99,57,57])).give [(r,eB (c.n 2) 0),(c.n 2,br (c.l 1) (c.n 5))]) λy A B=>
  .con (Vd z.CO) λL C D=>.con (OS C (a.n 2) (a.l 1) (a.n 5) d.txt) λM N E=>.con (Vm (cY z.CO D gn0) ⟨⟨d.txt⟩⟩ (E.n 0)) λk s t=>
  .con (wG z ⟨⟨b.k6,b.it,h.n 0,[],m.n 0,[],d.sz,o⟩,e.n 3,e.n 4,e.n 5,e.v 0,e.v 1,e.v 2,p,a.n 1,a.n 2,a.n 3,i,c.n 1,c.n 2,c.n 3,q,j.n 0,s,k+1⟩ bV ⟨k+2,y,k,hU B hT ql,hU t hT ql,A,a.l 0,a.n 4,c.l 0,c.n 4,a.l 2,a.n 6,c.l 2,c.n 6⟩) λO P g=>
  .step (retS z ⟨⟨b.k6,b.it,h.n 0,[],m.n 0,[],d.sz,o⟩,e.n 3,e.n 4,e.n 5,e.v 0,e.v 1,e.v 2,p,a.n 1,a.n 2,a.n 3,i,c.n 1,c.n 2,c.n 3,q,j.n 0,s,k+1⟩ bV ⟨g.n 0,g.n 1,g.n 2,g.n 3,hU t hT ql,a.n 1,[],0,a.n 3,g.n 4,[],[]⟩) λQ R T=>.fin (rV (.bool true)) [(d.S,br d.xs d.n)]
def Vs:bK where
 c:=.call (.ref 641) ⟨[.ref d.S],[]⟩
 pre:=[(d.S,br d.xs d.n)]
 lB:=uC d (λz b=>OQ z b d.ys d.sz) λz op b a o p=>.dG d.eL (br d.zC 0) <| .con (wB (a.n 0) (a.l 0) 0 d.eL d.zC) λq f g=>.con (zw d.tot z.vz 42 (f+1) d.Ks) λr s h=>
  .con (wC d.eL d.Ks (h.n 0) d.sz (a.n 2) d.CG) λt u e=>.con (qT (a.n 1) (a.l 1) 0 (e.n 0) (d.CG.map λi=>.int i (e.n 1)) 0) λj k m=>og d z op b false a g e m (a.l 0++d.zC) j k (a.n 2) (a.l 1++d.CG.map λi=>.int i (e.n 1))
theorem JR:RP 850 2 [nU 0x1110111200220 0x103 3 2 847,nU 0x11030033 0x10 0 1 847,nU 0x1103033 0 0 2 847,yq,nU 0x113e8e03e8e3e8e 0 0 0 847,yq,L6,nU 0x1104 0 0 1 847,nU 0x110 0 0 1 847,nU 0x1110111 0x10 0 0 847,nU 0x11000440 0 0 1 847,nU 0x177 0x10006 0 1 847,nU 0 0x10000 0 0 847,L7,nU 0x13e6e211 0 0 0 0,nU 0x11202 0x11 0 0 847,nU 0x110330333 0 0 2 847,nU 0x1103 0 0 0 847,nU 0x1150515 0x104 0 0 847,nU 0x1106066 0x112d3 1 2 847,L8,L9,nU 0x110011d011d11d 0 0 1 847,Ma,nU 0x11000fd00fd0fd 0 1 1 847,Mb,nU 0x110 0x111111 0 0 847,.n (.b 0x1124d023d023d23d10d10d10d10d10d 0x12627021ed1ed20d21d11d0fd 3 1 0 0x10) 847,nU 0 0x10 0 0 847,nU 0 0x1a 0 0 0] (Vs d):=.b
def OW(z:fH)(b:hM):cX where
 c:=eM z.FL z.C b.it
 pre:=[(z.FL,sr z b),(b.it,eB z.NU 0),(z.NU,br [] 0)]++vA b
 out _ _ _:=(oN,[(z.FL,sr z b)]++vA b)
def abD(z:fH)(b:hM):bK:=⟨eM z.FL z.C b.it,(OW z b).pre,λN t=>.con (eV b.it z.NU 0 [] 0) λa c l1=>.fin oN ([(z.FL,sr z b)]++vA b)⟩
theorem JS z b:RP 400 0 [p3,nU 0x101 0x1333 0 0 0] (abD z b):=.a
def Vt:bK where
 c:=.call (.ref 641) ⟨[.ref d.S],[]⟩
 pre:=[(d.S,br d.xs d.n)]
 lB:=uC { d with ys:=[],sz:=0 } (λz b=>OW z b) λz op b e m o=>.dG d.eL (br d.zC 0) <| .con (wB b.IT [] 0 d.eL d.zC) λp f g=>.con (zw d.tot z.vz 42 (f+1) d.Ks) λq r h=>
  .con (wC d.eL d.Ks (h.n 0) 0 b.X7 d.CG) λs t a=>.con (qT b.CU [] 0 (a.n 0) (d.CG.map λi=>.int i (a.n 1)) 0) λj k l=>og { d with ys:=[],sz:=0 } z op b true e g a l ([]++d.zC) j k b.X7 ([]++d.CG.map λi=>.int i (a.n 1))
theorem JT:RP 850 2 [nU 0x1110111200220 0x103 3 2 847,nU 0x11030033 0x10 0 1 847,nU 0x1103033 0 0 2 847,yq,nU 0x113e8e03e8e3e8e 0 0 0 847,yq,L6,nU 0x1104 0 0 1 847,nU 0x110 0 0 1 847,nU 0x1110111 0x10 0 0 847,nU 0x11000440 0 0 1 847,nU 0x177 0x10006 0 1 847,nU 0 0x10000 0 0 847,L7,nU 0x13e6e211 0 0 0 0,nU 0x11202 0x11 0 0 847,nU 0x110330333 0 0 2 847,nU 0x1103 0 0 0 847,nU 0x1150515 0x104 0 0 847,nU 0x1106066 0x112d3 1 2 847,L8,L9,nU 0x110011d011d11d 0 0 1 847,Ma,nU 0x11000fd00fd0fd 0 1 1 847,Mb,nU 0x110 0x111111 0 0 847,.n (.b 0x1124d023d023d23d10d10d10d10d10d 0x12627021ed1ed20d21d11d0fd 3 1 0 0x10) 847,nU 0 0x10 0 0 847,nU 0 0x1a 0 0 0] (Vt d):=.b
end
section
def Sv(e:Expr):Expr:=(ep e).e
variable(z:fH)(c:m5)(it:Nat)
def abE(v:m6)(e:Bool):eO:=⟨dC z.FL z.C it,W5 (Sv (jR Fl)) (cj z.FL z.C),[(z.FL,eR z c e v),(v.g.g,cc v.g)],λN t=>.con (Cy v.g) λa b l1=>.fin (rV (.ref (l1.n 0))) [(z.FL,eR z c e v),(l1.n 0,dm [.ref (l1.n 1),.ref (l1.n 2)] 0),(l1.n 1,br (l1.l 0) (l1.n 3)),(l1.n 2,br (l1.l 1) 0)]⟩
theorem OX v e:iq 787 [.n (.b 0x11010 0x11 0 0 0 0x11) 784,Dx] (abE z c it v e):=by
 cases e
 ·exact c6.b
 ·exact c6.b
def abF(v:m6)(e:Bool)(nm:Value):eO:=⟨dC z.FL z.C it,W5 (OT (jR Fl)) (cj z.FL z.C),[(z.FL,eR z c e v),(z.C,hZ nm),(v.DU,br v.m7 v.dn),(v.RF,br v.CE 0)],λN t=>.con (Yk z.FL z.C (N+2) N v.DU (N+1) v.m7 v.dn nm) λa b l1=>.fin (rV (.ref a)) [(z.FL,eR z c e v),(a,dm [.ref (N+1),.ref v.RF] 0),(N+1,br (l1.l 0) (l1.n 0)),(v.RF,br v.CE 0),(v.DU,br v.m7 v.dn),(z.C,hZ nm)]⟩
def wH(a:Bool):List Num:=match a with
 |false=>[Wm,Mc]
 |true=>[Wn,Mc]
theorem Sw(v:m6)(e:Bool){nm:Value}(h:nm=.none\/∃fs t,nm=.str ⟨⟨fs⟩⟩ t):iq 787 (wH b2) (abF z c it v e nm):=by
 rcases h with rfl|⟨fs,t,rfl⟩
 ·cases e
  ·exact c6.d (f:=wH)
  ·exact c6.d (f:=wH)
 ·cases e
  ·exact c6.d (f:=wH)
  ·exact c6.d (f:=wH)
end
def adI(z:fH)(c:m5)(v:m6)(i:Int):eO:=⟨.func (bJ (dH 28)) (cj z.FL z.C),lw (b9 (dH 28) 16) (cj z.FL z.C),[(z.FL,eR (z.wt i) c false v)],λN t=>.fin (rV (.bool true)) []⟩
theorem OY(z:fH)(c:m5)(v:m6){i:Int}(h:i = -1\/i=2\/i=3):iq 150 [Wo] (adI z c v i):=by
 rcases h with rfl|rfl|rfl
 ·exact c6.b
 ·exact c6.b
 ·exact c6.b
noncomputable def L41:List Nat:=[0,1,2,3,4,5,6,7,8,9,10,11,12,13,14,15,16,17,18,19,20,21,22,23,24,25,26,27,28,29,30,31,32,33,34,35,36,37,38,39,40]
def adK(z:fH)(c:m5)(v:m6)(d k5 k6:Nat)(fs:List Nat)(ft rt:Nat)(C6:List Value)(pn:Nat)(e:Bool)(m:Nat):eO:=⟨.func (bJ (dH 28)) (cj z.FL z.C),lw (b9 (dH 28) 16) (cj z.FL z.C),[(z.FL,eR (z.wt (-2)) c e v),(c.SF,ZN d),(d,ZO k5 k6 (.str ⟨⟨fs⟩⟩ ft) (Int.ofNat (m+1)) rt),(c.R2,br C6 pn)],λN t=>.con (Hd c.R2 C6 pn (Int.ofNat m)) λy y y=>.fin (rV (.bool true)) []⟩
theorem OZ(z:fH)(c:m5)(v:m6)(d k5 k6:Nat)(fs:List Nat)(ft rt:Nat)(C6:List Value)(pn:Nat)(e:Bool):∀m,m∈L41->iq 150 [Wp,nU 0x10000 0 0 2 0] (adK z c v d k5 k6 fs ft rt C6 pn e m):=by
 cases e
 ·exact c6.e
 ·exact c6.e
section
variable{c:Code}{s1:Stmt}{body rest:List Stmt}{env:Env}
section
variable{prog:Program}{w:World}{kt:KT}{os:OsState}{room:Nat}{pre:bH}{X:b7}{X':L2->b7}{gP:Nat->Nat->L2->bH}
theorem Fs{v:Value}(l:∀(d:Around)(s:Shared)(F:bH)(FG:bR)(r0:bH)(g0:bR),gY room d->X r0 g0->Sat kt os s (pre++(r0++F)) (g0++FG)->
   PySem.wpAt (model prog w) d c (exec s1 env) (λf b=>f=.ret v/\∃a r1 g1,X' a r1 g1/\Sat kt os b (gP b.heap.objs.size b.toks a++(r1++F)) (g1++FG)) (λe b=>False) s):
  c9 prog w kt os room c (cg (dZ (.func (s1::rest) env))) pre X (λN t a=>(.pure (.done (.ret v)),gP N t a)) X':=by
 intro d m g n s F FG r0 g0 o q r;rw[i5];show m (((Sem.bind (exec s1 env) _).onRaise (leaving env)).bind hC) s;rw[gL,dI,dI,eg,eg];refine g _ _ _ s λu p x i=>?_;refine eE _ _ _ ?_ (λe y b h=>h.elim) _ _ (l d s F FG r0 g0 n o q u p x i);rintro f y b ⟨rfl,a,r1,g1,j,k⟩;exact r b a r1 g1 j k
theorem zD{a:Expr}{it:Value}{orelse:List Stmt}(n:∀(g:Around)(s:Shared)(F:bH)(FG:bR)(r0:bH)(g0:bR),gY room g->lh g (.forLoop a it body orelse env) F->X r0 g0->Sat kt os s (pre++(r0++F)) (g0++FG)->
   PySem.wpAt (model prog w) g (.forLoop a it body orelse env) (exec s1 env) (λf d=>f=.next/\∃b r1 g1,X' b r1 g1/\Sat kt os d (gP d.heap.objs.size d.toks b++(r1++F)) (g1++FG)) (λe d=>False) s):
  dt prog w kt os room (.forLoop a it body orelse env) (fl (λe=>PySem.W.ZFast.zw12563942051412417395 (s1::rest) e) (.forLoop a it body orelse env)) pre X (λN t b=>(fl (λe=>PySem.W.ZFast.zw12563942051412417395 rest e) (.forLoop a it body orelse env),gP N t b)) X':=by
 intro g o i q s F FG r0 g0 j r u v;obtain⟨K,H,e⟩:=nr a it body orelse env;rw[e,<-pN,<-eh,<-jb];show o (((Sem.bind (exec s1 env) _).bind K).onRaise H) s;rw[gL,dI,dI,eg,eg];refine i _ _ _ s λx p y k=>?_;refine eE _ _ _ ?_ (λe A d h=>h.elim) _ _ (n g s F FG r0 g0 q j r u x p y k);rintro f A d ⟨rfl,b,r1,g1,l,m⟩;have z:=v d b r1 g1 l m;rw[e,<-pN,<-eh,<-jb,gL,dI,eg]at z;exact z
theorem Sx{M:Model}{A:Around}{s:Shared}{l r:Expr}{v k:Pos}{Q:Flow->Shared->Prop}{E:Value->Shared->Prop}(x:behindInMarks .NotEq r=false)(h:PySem.wpAt M A c (eval l env) (λa s1=>PySem.wpAt M A c (eval r env) (λb s2=>wpAny M A (compareOp .NotEq a b) (λcv y=>cv=.bool false/\Q .next y) E s2) E s1) E s):
  PySem.wpAt M A c (exec (.If (.Compare l [.NotEq] [r] v) body [] k) env) Q E s:=by
 intro f p m e;simp only[exec_If,isTrue_Compare1,markedBehindIn_of_false x,jF,Sem.wp_holding,Sem.wp_cmd_standAt,Sem.wp_operate];refine eE M f _ (λa n o g=>eE M f _ (λb z q i=>eE M f _ (λcv t u d=>?_) (λZ Z Z j=>j) _ _ (i f _ e)) (λZ Z Z j=>j) _ _ (g f _ m e)) (λZ Z Z j=>j) _ _ (h f _ m e);obtain⟨rfl,d⟩:=d;exact d
end
end
section
open PySem.Meets PySem.Builtin PySem.Builtin.Str
variable{r:Int}{a n t:Nat}{xs:List Value}
theorem HP:"sum" = abq:=PySem.W.SZ.e741896355592496720x3
section
variable{prog:Program}{w:World}{kt:KT}{os:OsState}{room:Nat}
theorem Sat.kept{s:Shared}{L:bH}{G:bR}(h:Sat kt os s L G){c:Heap}{tk:Nat}(k:∀b o,s.heap.get? b=some o->c.get? b=some o):Sat kt os { s with heap:=c,toks:=tk } L G:=by
 obtain⟨SL,h⟩:=h;exact⟨SL,λa o e=>k _ _ (h.old a o e),λp d=>k _ _ (h.own p d),h.free,h.nd,h.kB,h.Gf,h.bare,h.C0⟩
theorem mU{x y:Int}{u:Nat}(d:y≠0)(e:y.natAbs<1073741824)(h:x.fdiv y=r):dq prog w kt os room (zw x t y u r) bV (λv=>bV):=by
 refine bE.dx (b:=Builtin.«int.__floordiv__») (by rw[<-vX];decide +kernel) (by rw[<-vX];exact entryFor_of_tree (by kernel_rfl)) (mG (PySem.AutoIntG4.int___floordiv___int_int_1 x t y u (by simpa using d) (by rw[PyProof.noPylong_small e];decide))) ?_;intro A R s F FG _ c k;have z:=k { s with toks:=s.toks+1 } (l1 s.toks) (c.toks _);rw[<-h]at z;exact z
theorem Ft{b:Nat}{i:Int}{x:List Nat}(k:Nat)(c:xs.length<=10000)(d:-100000<=i/\i<=100000)(e:seqIndex? i xs.length=some k)(f:xs[k]?=some (.str ⟨⟨x⟩⟩ b)):dq prog w kt os room (OM a xs n i t x) bV (λy=>bV):=by
 have z:=fM (prog:=prog) (w:=w) (kt:=kt) (os:=os) (room:=room) (a:=a) (n:=n) (t:=t) k c d e f;exact bE.ej z (λr g h=>⟨r,g,.refl _,.refl _,h⟩) λN l j r g h=>⟨l1 b,r,g,rfl,.refl _,.refl _,h⟩
theorem O0{d:Nat}{ys:List Value}(p:xs.length<=10000)(j:ys=xs.take 4):dq prog w kt os room (abp a d t xs n ys) bV (λy=>bV):=by
 subst j;refine bE.vk (b:=Builtin.«list.__getitem__») (by rw[<-iw];decide +kernel) (by rw[<-iw];exact entryFor_of_tree (by kernel_rfl)) ?_;rintro A s F FG r0 g0 u ⟨rfl,rfl⟩ g;have c:=g.own (d,Bu .none (.int 4 t)) (.head _);have h:=g.own (a,br xs n) (.tail _ (.head _));have f:s.TypeIs (.ref d) "slice":=⟨_,c,by show Value.type qa=_;rw[<-qb]⟩
 show wpAny _ _ (Builtin.List.listSubscript? (.ref d) >>= _) _ _ s;refine bI ?_;unfold Builtin.List.listSubscript?;refine bI (rB f slice_no_index ?_);simp only[Option.isNone_none,oB];refine ck ?_;show wpAny _ _ (typeOf (.ref d) >>= _) _ _ s;refine bI (rK f ?_);rw[bu (by decide)];rw[listSliceParts_eq];have hd:(Bu .none (.int 4 t)).data=.fields #[.none,.int 4 t,.none]:=rfl;refine bI (bI (eQ c hd (x:=.none) rfl (bI (pT .none ?_))));rw[bu (by decide)];refine bI (eQ c hd (x:=.none) rfl (bI (pT .none ?_)));refine bI (eQ c hd (x:=.int 4 t) rfl (bI (pT (.int 4 t) (ck ?_))));refine bI (m:=Builtin.List.listItems (.ref a)) ?_;unfold Builtin.List.listItems;have i:(br xs n).data=.seq ⟨xs⟩ n:=rfl;refine bI (oy h i (ck ?_));refine bI (mF (sliceIndices_raw none (some 4) none (⟨xs⟩:Array Value).size (by simp)) ?_);have k:sliceBounds none (some 4) none (⟨xs⟩:Array Value).size=(((0:Nat):Int),((min 4 xs.length:Nat):Int),1):=by
  simp[sliceBounds];exact acq 4 _
 have e:(sliceRange ((0:Nat):Int) ((min 4 xs.length:Nat):Int) 1).filterMap ((⟨xs⟩:Array Value)[·]?)=xs.take 4:=by
  rw[rD,Nat.sub_zero,pick_run];simp
 rw[k];dsimp only;rw[e];refine bI (jD (ck ⟨_,rfl,?_⟩) (by show(xs.take 4).length<=sizeLine;rw[show sizeLine=16777216 from by decide,ru];omega));have z:=g.alloc (o:=br (xs.take 4) 0) rfl;refine gB (l1 s.heap.objs.size) rfl ?_;have l:Sat kt os { s with heap:=s.heap.push { cls:=.type "list",dict:=none,data:=.seq ⟨xs.take 4⟩ 0,slots:=#[] } } ((s.heap.objs.size,br (xs.take 4) 0)::(a,br xs n)::F) FG:=by
  rw[<-dW];exact Sat.drop (R:=[(d,Bu .none (.int 4 t))]) (z.perm (kx _ (by
   exact PT.q [_] [_,_] 0xac0c1eae0 0xac10c0e rfl)))
 exact l
theorem CH{xs:List (Int×Nat)}(h:(xs.map (·.1)).sum=r):dq prog w kt os room (So a (df xs) n r) bV (λz=>bV):=by
 rintro A s u FG r0 g0 i ⟨rfl,rfl⟩ f;have j:s.heap.IsList a (intItems ⟨xs⟩):=by
  have:=iY (f.own (a,br (df xs) n) (.head _));have e:(⟨df xs⟩:Array Value)=intItems ⟨xs⟩:=by
   unfold df intItems;simp
  rw[e]at this;exact this
 have k:=i.hd;refine g6 (by rw[<-HP];exact PySem.F.entry_sum) ?_;rw[nG (by rw[<-HP];exact PySem.F.plain_sum)];unfold Builtin.«sum»;simp only[List.length_cons,List.length_nil];rw[bu (by decide)];refine bI (mF (show Builtin.Builtins.bindParams "sum" ["start"] 0 { }=pure [none]from rfl) ?_);refine bI (iter_intList j λg e st c d=>?_);subst e;have W:=Walks.list (prog:=prog) (w:=w) (A:=A.in1) k _ a d (intItems ⟨xs⟩);refine bI (wpAny_mkInt (bI (ck ?_)));simp only[xx,List.forIn_nil];refine bI (bI (bI (ry (T:="int") (b:=false) (typeIs_int _ _ _) PySem.sub_int_str ?_)));simp only[sC,ia];refine ck (bI (bI (ry (T:="int") (b:=false) (typeIs_int _ _ _) PySem.sub_int_bytes ?_)));simp only[sC,ia];refine ck (bI (bI (ry (T:="int") (b:=false) (typeIs_int _ _ _) PySem.sub_int_bytearray ?_)));simp only[sC,ia];refine ck (ck (bI (jD ?_)));refine ck ⟨rJ PySem.F.plain_sum_loop _,codeAny_sum_loopG W (numAt ⟨xs⟩) (λz z=>intItems_at) _ (λl=>pS _ (c _ l)) _ 0 _ _ 0 0 (Or.inl rfl) rfl (eo _) (W.frame _ _ _ st λb z o e=>w7 _ e) (rp _ rfl) λv tk m p=>?_⟩;refine⟨l1 m,[],[],⟨rfl,rfl⟩,?_,Sat.kept (s:=s) (by simpa[So]using f) (old_kept λb o q e=>p b o q (rG (jG e)) (w7 _ e))⟩;have e2:preSum (numAt ⟨xs⟩) (intItems ⟨xs⟩).size=r:=by
  rw[preSum_eq,Gd (by simp[intItems])];exact h
 rw[e2];rfl
end
end
section
open PySem.Builtin PySem.Builtin.Str
variable{vs:List Value}{ns:List Int}
inductive mr(vs:List Value)(ns:List Int):Prop where|mk:∀l:List (Int×Nat),(vs=df l)->(l.map (·.1)=ns)->mr vs ns
theorem mr.add(h:mr vs ns){m:Int}{t:Nat}:mr (vs++[.int m t]) (ns++[m]):=by
 obtain⟨l,rfl,rfl⟩:=h;exact⟨l++[(m,t)],by simp[df],by simp⟩
theorem mr.len(h:mr vs ns):vs.length=ns.length:=by
 obtain⟨l,rfl,rfl⟩:=h;simp[df]
noncomputable def jq(l:List ht):List Int:=l.map λi=>(i.s.length:Int)
def Yp(B:bH)(ns:List Int)(a:L2):b7:=λr g=>mr (a.l 0) ns/\ce B r g
section
variable{FL C D it ch di nn:Nat}{xs:List Value}
noncomputable def ltM(vs:List Value)(a b:Value)(n:Nat):L2:=⟨λz=>n,λn=>match n with
 |0=>a
 |Y=>b,λz=>vs⟩
theorem HQ{B:bH}:∀(l:List ht)(j n k1 k2:Nat)(ys:List Value)(ns:List Int)(v1 v2:Value),xs.drop j=ek l->(∀i∈l,dr w.params B i.a (rN i)/\i.s.length<=100000)->mr ys ns->ns.length+l.length<=9000->
  cN 100 (hw FL C D it ch j di n k1 k2 xs nn ys v1 v2) (ce B) (Yp B (ns++jq l))
 |[],j,n,k1,k2,ys,ns,v1,v2,d,Y,h,V=>by
  have e:xs[j]?=none:=by
   have m:=nH.mp d;simp[m]
  exists bE.o,Sr FL C D it ch j di n k1 k2 xs nn ys v1 v2,0;exists bz,cA e,0;exact cC (ltM ys v1 v2 n) (λr0 g0 b=>⟨by simpa[jq,ltM]using h,b⟩)
 |i::l,j,n,k1,k2,ys,ns,v1,v2,d,k,h,u=>by
  have e:xs[j]?=some (.ref i.a):=by
   rw[<-ja,d];rfl
  have f:xs.drop (j+1)=ek l:=by
   rw[<-kv,d];rfl
  have v:cZ=100000:=rfl;have z:=h.len;rw[List.length_cons]at u;have c:=k i (.head _);exists bE.o,Sq FL C D it ch j di n k1 k2 xs nn ys v1 v2 i i.s.length,0;exists bz,b6 e,0;exists cT,c.1.dG,0;exists bz,fL rfl c.2,0;exists bz,bX (by omega),0;exists bx,HQ l (j+1) _ k1 k2 _ (ns++[(i.s.length:Int)]) _ _ f (λx y=>k x (.tail _ y)) h.add (by simp;omega);intro G H g _ _;refine cC g (λr0 g0 b=>?_);have b:Yp B (ns++[(i.s.length:Int)]++jq l) g r0 g0:=b;show Yp B (ns++jq (i::l)) g r0 g0;simpa[jq]using b
noncomputable def abG(a:L2)(k1 k2:Nat):L2:=⟨λn=>match n with
 |1=>k1
 |2=>k2
 |n=>a.n n,a.v,a.l⟩
theorem O1{B:bH}{l:List ht}(d:l≠[])(c:xs=ek l)(h:∀i∈l,dr w.params B i.a (rN i)/\i.s.length<=100000)(m:l.length<=9000){room:Nat}(n:100<=room):
  cN room (X6 FL C D it ch di xs nn) (ce B) (Yp B (jq l)):=by
 obtain⟨i,l,rfl⟩:∃i l',l=i::l':=by
  cases l with
  |nil=>exact absurd rfl d
  |cons i l=>exact⟨i,l,rfl⟩
 have p:xs[0]?=some (.ref i.a):=by rw[c];rfl
 have e:xs.drop 1=ek l:=by rw[c];rfl
 have f:cZ=100000:=rfl;rw[List.length_cons]at m;have b:=h i (.head _);refine bE.mono (bE.o rfl (Sp FL C D it ch di xs nn i i.s.length) ?_) n;intro q N t _;exists bz,b6 p;intro r j l1 _;exists cT,b.1.dG,0;exists bz,fL rfl b.2,0;exists bz,bX (by simp[f]),0;exists bx,HQ l 1 _ _ _ _ [(i.s.length:Int)] _ _ e (λx c=>h x (.tail _ c)) ⟨[(_,_)],rfl,rfl⟩ (by simp;omega);intro z A k _ _;refine cC (abG k j (j+1)) (λr0 g0 g=>?_);have g:Yp B ([(i.s.length:Int)]++jq l) k r0 g0:=g;show Yp B _ _ r0 g0;simpa[jq,Yp,abG]using g
end
end
section
variable{B:bH}{i:Nat}
theorem fS.mono{B':bH}(h:fS B)(a:∀p∈B,p∈B'):fS B':=λp b=>a p (h p b)
theorem fS.ah(h:fS B):(556,br (YX.map λp=>.ref p.1) 0)∈B:=h _ (by simp[hv])
theorem fS.en(h:fS B):(610,br (V5.map λe=>.ref e.a) 0)∈B:=h _ (by simp[hv])
theorem fS.aL(h:fS B)(a:i<10):((rO i).1,br (ek (rO i).2) 0)∈B:=by
 refine h _ (dQ _ (dQ _ (dQ _ (dp _ ?_))));refine dO.2 ⟨rO i,?_,rfl⟩;unfold rO;rw[lH,i8 (h:=a)];exact sF _
theorem fS.ahI(h:fS B)(b:i<10):∀x∈(rO i).2,(x.a,rN x)∈B:=λx c=>by
 refine h _ (dQ _ (dp _ (dO.2 ⟨x,List.mem_flatten.2 ⟨(rO i).2,dO.2 ⟨rO i,?_,rfl⟩,c⟩,rfl⟩)));unfold rO;rw[lH,i8 (h:=b)];exact sF _
theorem HR(a:i<14):rP i∈V5:=by
 unfold rP;rw[lH,i8 (h:=a)];exact sF _
theorem fS.eL(h:fS B)(a:i<14):((rP i).l,br (ek (rP i).its) 0)∈B:=
 h _ (dQ _ (dQ _ (dp _ (dO.2 ⟨rP i,HR a,rfl⟩))))
theorem fS.enI(h:fS B)(b:i<14):∀x∈(rP i).its,(x.a,rN x)∈B:=λx c=>
 h _ (dp _ (dO.2 ⟨x,List.mem_flatten.2 ⟨(rP i).its,dO.2 ⟨rP i,HR b,rfl⟩,c⟩,rfl⟩))
end
section
open PySem.Meets PySem.Builtin PySem.Builtin.Str
variable{a b ch m n nn nt st t v:Nat}{i size:Int}{vs xs ys:List Value}{r:List Int}{l:List ht}
section
variable{prog:Program}{w:World}{kt:KT}{os:OsState}{room:Nat}{c:Code}
theorem bE.hid{pre f:bH}{B:bH}{o:Obj}{out j:Nat->Nat->L2->Result×bH}{p:L2->Prop}(k:(a,o)∈B)(h:bE prog w kt os room c pre bV out (λv=>bV))(q:(f++[(a,o)]).Perm pre)(s:∀N t e,∃d,p d/\(out N t e).1=(j N t d).1/\(out N t e).2.Perm ((j N t d).2++[(a,o)])):bE prog w kt os room c f (ce B) j (λe r g=>p e/\ce B r g):=by
 obtain⟨l1,l2,rfl⟩:=xl k;refine bE.ej (h.fr (ce (l1++l2))) ?_ ?_
 ·rintro r g ⟨rfl,rfl⟩;refine⟨l1++l2,[],?_,.refl _,rfl,rfl⟩;refine(fZ f pP).trans ?_;have:=q.append_right (l1++l2);simpa using this
 ·rintro N t e r g ⟨rfl,rfl⟩;obtain⟨d,u,x,y⟩:=s N t e;refine⟨d,l1++(a,o)::l2,[],x,?_,.refl _,u,rfl,rfl⟩;have z:=y.append_right (l1++l2);refine z.trans ?_;rw[bQ];exact fZ _ (pP (l₂:=l2)).symm
end
section
variable{room:Nat}{B:bH}
theorem uD(d:0<=i)(e:i<n):seqIndex? i n=some i.toNat:=by
 unfold seqIndex?;have:¬ i<0:=by omega
 simp only[this,ia];rw[bP (by simp;omega)]
theorem JU{us:List Value}(e:(a,br vs n)∈B)(f:0<=i)(h:i<vs.length)(j:vs.length<=10000)(k:vs[i.toNat]?=some (.ref v)):
  cN room (Vn a i t) (ce B) (λd r g=>(d.n 0=v/\d.l 0=us)/\ce B r g):=
 bE.hid e (fM i.toNat j (by omega) (uD f h) k) (.refl _) λN t d=>⟨⟨λz=>v,λz=>.none,λz=>us⟩,⟨rfl,rfl⟩,rfl,.refl _⟩
theorem Fu(e:0<=i)(f:i<vs.length)(j:vs.length<=10000)(k:vs[i.toNat]?=some (.ref v)):
  cN room (ux a vs n i t) (ce B) (λd r g=>d.n 0=v/\ce B r g):=
 bE.ej ((fM i.toNat j (by omega) (uD e f) k).fr (ce B)) (λr g h=>⟨r,g,.refl _,.refl _,h⟩) λN t d r g h=>⟨cV [v],r,g,rfl,.refl _,.refl _,rfl,h⟩
theorem JV(e:(a,br xs n)∈B)(f:xs.length+ys.length<=cZ):
  cN room (Vo a b ys m) (ce B) (λd r g=>d.l 0=xs++ys/\ce B r g):=
 bE.hid e (j6 f) (gM _ _ _) λN t d=>⟨⟨d.n,d.v,λz=>xs++ys⟩,rfl,rfl,(gM _ _ _).cons _⟩
theorem JW(e:(b,br ys m)∈B)(f:xs.length+ys.length<=cZ):
  cN room (wB a xs n b ys) (ce B) (λz=>ce B):=
 bE.dP (bE.hid e (j6 f) (.refl _) λN t d=>⟨d,trivial,rfl,.refl _⟩) (λz z h=>h) λz z z h=>h.2
theorem Fv(e:(a,br vs n)∈B)(f:0<=i)(g:i<vs.length)(j:vs.length<=10000)(k:vs[i.toNat]?=some (.ref v)):
  cN room (OO a i t v) (ce B) (λz=>ce B):=
 bE.dP (bE.hid e (fM i.toNat j (by omega) (uD f g) k) (.refl _) λN t d=>⟨d,trivial,rfl,.refl _⟩) (λz z h=>h) λz z z h=>h.2
theorem JY{n:Int}(e:vs=ek l)(f:∀i∈l,dr w.params B i.a (rN i))(g:l.length<=1000)(h:(ku l).length<=10000)(j:r=iA (ku l) n size)(d:300<=room):
  cN room (Vp ch vs nn n nt size st r) (ce B) (λz=>ce B):=by
 subst e j;exact Cn (y:=⟨ch,nt,st,nn,n,size,0,0,[],[]⟩) f g h d
theorem JZ{n:Int}(k:(ch,br (ek l) nn)∈B)(f:∀i∈l,dr w.params B i.a (rN i)/\i.a≠ch)(o:l.length<=1000)(p:(ku l).length<=10000)(q:r=iA (ku l) n size)(d:300<=room):
  cN room (wC ch n nt size st r) (ce B) (λz=>ce B):=by
 subst q;obtain⟨l1,l2,rfl⟩:=xl k;have h:=Cn (B:=l1++l2) (y:=⟨ch,nt,st,nn,n,size,0,0,[],[]⟩) (λi j=>by
  rcases(f i j).1 with h|h
  ·refine .inl ?_;rcases dw.1 h with h|h
   ·exact dQ _ h
   ·rcases c4.1 h with h|h
    ·injection h with s u;exact absurd s (f i j).2
    ·exact dp _ h
  ·exact .inr h) o p d
 refine bE.ej h ?_ ?_
 ·rintro r g ⟨rfl,rfl⟩;refine⟨l1++l2,[],?_,.refl _,rfl,rfl⟩;exact pP
 ·rintro N t e r g ⟨rfl,rfl⟩;refine⟨e,l1++(ch,br (ek l) nn)::l2,[],rfl,?_,.refl _,rfl,rfl⟩;exact(pP (l₁:=l1)).symm.cons _
theorem O2(e:100<=room):cN room abr (ce B) (λd r g=>∃a t,d.l 0=ek (lC dv a t)/\ce (Qi (lC dv a t)++B) r g):=
 bE.mono (bE.of (Oe) λN t=>⟨rfl,λr0 g0 ⟨h,f⟩=>⟨⟨λz=>N+21,λz=>.none,λz=>ek (lC dv (N+1) t)⟩,Qi (lC dv (N+1) t)++r0,g0,rfl,⟨N+1,t,rfl,by rw[h],f⟩,by
  rw[bQ];exact pP,.refl _⟩,λh=>by cases h⟩) e
theorem J0(d:100<=room):gN room HL.c HL.pre bV HL.out (λz=>bV):=
 bE.mono (bE.of (Jy) λN t=>⟨rfl,λr0 g0 h=>⟨cV [N+1,t,t+1,t+2],r0,g0,rfl,h,.refl _,.refl _⟩,λh=>by cases h⟩) d
theorem Fw(d:300<=room):gN room (zx).c (zx).pre bV (zx).out (λz=>bV):=
 bE.mono (bE.of (JF) λN t=>⟨rfl,λr0 g0 h=>⟨cV [N+1,N,N+3,N+4,N+5,N+6,t+2,t+4,t+6,t+8,t+9,t+14,t+21,t+26,t+15],r0,g0,rfl,h,.refl _,.refl _⟩,λh=>by cases h⟩) d
end
end
section
open PySem.Builtin PySem.Builtin.Str
variable{k:Nat}{z:fH}{b:hM}
def Vu(s:Stmt):Expr:=(sp s).e
def Vv(s:Stmt):List Stmt:=(sp s).o
theorem px(FL C it:Nat):eM FL C it=.forLoop (Vu (b9 (dH 28) 8)) (.ref it) (dy (b9 (dH 28) 8)) (Vv (b9 (dH 28) 8)) (cj FL C):=by kernel_rfl
theorem vB:(dy (b9 (dH 28) 8)).drop 1=kZ 1::(dy (b9 (dH 28) 8)).drop 2:=by kernel_rfl
theorem nv:(bJ (dH 28)).drop 5=b9 (dH 28) 5::(bJ (dH 28)).drop 6:=by kernel_rfl
theorem nw:(bJ (dH 28)).drop 6=b9 (dH 28) 6::(bJ (dH 28)).drop 7:=by kernel_rfl
theorem abH(h:k<13):k∈[0,1,2,3,4,5,6,7,8,9,10,11,12]:=
 (by decide +kernel:∀k<13,k∈[0,1,2,3,4,5,6,7,8,9,10,11,12]) k h
theorem ne8(h:k<10)(a:k≠8):k∈[0,1,2,3,4,5,6,7,9]:=
 (by decide +kernel:∀k<10,k≠8->k∈[0,1,2,3,4,5,6,7,9]) k h a
section
variable{room:Nat}{Y:b7}
theorem c9.Yq{c:Code}{tr:Sem PySem.Fin}{pre:bH}{out:Nat->Nat->L2->Sem PySem.Fin×bH}(n:c=eM z.FL z.C b.it)(j:tr=fl (λe=>PySem.W.ZFast.zw12563942051412417395 ((dy (b9 (dH 28) 8)).drop 1) e) (eM z.FL z.C b.it)){gP:Nat->Nat->L2->bH}(g:out=λN t a=>(fl (λe=>PySem.W.ZFast.zw12563942051412417395 ((dy (b9 (dH 28) 8)).drop 2) e) (eM z.FL z.C b.it),gP N t a)){p:eO}{ns:List Num}(o:p.c=eM z.FL z.C b.it)(q:p.t=lw (kZ 1) (cj z.FL z.C))(h:p.pre=pre)(d:150<=room)(e:iq 150 ns p)(H:∀N t,C1 ⟨false,λN t a=>(.ok .next,gP N t a),λy=>Y,[]⟩ ((p.lB N t).res ns N t) Y []):
  lX room c tr pre Y out (λy=>Y):=by
 subst n j g h;have m:∀(l:Around)(s:Shared)(F:bH)(FG:bR)(r0:bH)(g0:bR),gY room l->Y r0 g0->Sat (bY w.params) os s (p.pre++(r0++F)) (g0++FG)->
   PySem.wpAt (model pz (wv w b1 b2)) l p.c (exec (kZ 1) (cj z.FL z.C)) (λf i=>f=.next/\∃a r1 g1,(λ_:L2=>Y) a r1 g1/\Sat (bY w.params) os i (gP i.heap.objs.size i.toks a++(r1++F)) (g1++FG)) (λe i=>False) s:=
  λl s F FG r0 g0 r u v=>qr (p:=p) (out:=λN t a=>(.ok .next,gP N t a)) q e H (λy y y=>rfl) (r.le d) u v
 rw[o,px]at m;rw[px,vB];exact CA m
theorem acL{x:Int}{e:Nat}(a:x=Int.ofNat e)(c:x<14)(h:¬ x=13):e<13:=by
 subst a;exact Nat.lt_of_le_of_ne (Nat.le_of_lt_succ (Int.ofNat_lt.1 c)) λq=>h (by rw[q];rfl)
theorem O3{k1 k2:Nat}{n:Int}{g:Nat}{last:Option (Nat×Value)}{a:Int}{t:Nat}{f:Int}(i:150<=room)(s:0<=a)(u:a<10)(j:f=if a=8/\z.tot.fmod 14=13 then 9 else a):
  lX room (CD z b k1 k2 n g last a t f).c (CD z b k1 k2 n g last a t f).tr (CD z b k1 k2 n g last a t f).pre Y (CD z b k1 k2 n g last a t f).out (λy=>Y):=by
 obtain⟨k,rfl⟩:∃k:Nat,a=Int.ofNat k:=⟨a.toNat,(xh s).symm⟩
 have v:k<10:=Int.ofNat_lt.1 u;have l:0<=z.tot.fmod 14:=i7 _ (by decide);have m:z.tot.fmod 14<14:=iG _ (by decide);by_cases o:k=8
 ·subst o;by_cases d:z.tot.fmod 14=13
  ·have e2:f=9:=by rw[j,bP ⟨rfl,d⟩]
   subst e2;exact c9.Yq (z:=z) (b:=b) rfl rfl rfl rfl rfl rfl i (Fk z b k1 k2 n g last t) λN q=>⟨_,(ff (by decide) d).fr _,λy r y=>⟨rfl,λr0 g0 h=>⟨cV [r+1],r0,g0,rfl,h,.refl _,.refl _⟩,λh=>by cases h⟩⟩
  ·have e2:f=8:=by rw[j,bu (λh=>d h.2)];rfl
   subst e2;obtain⟨e,he⟩:∃e:Nat,z.tot.fmod 14=Int.ofNat e:=⟨(z.tot.fmod 14).toNat,(xh l).symm⟩
   have p:e<13:=acL he m d;exact c9.Yq (z:=z) (b:=b) rfl rfl rfl rfl rfl rfl i (Fj z b k1 k2 n g last t e (abH p)) λN q=>⟨_,(ff (by decide) he).fr _,λy r y=>⟨rfl,λr0 g0 h=>⟨cV [t],r0,g0,rfl,h,.refl _,.refl _⟩,λh=>by cases h⟩⟩
 ·have e2:f=Int.ofNat k:=by rw[j,bu (λh=>o (Int.ofNat.inj h.1))]
  subst e2;exact c9.Yq (z:=z) (b:=b) rfl rfl rfl rfl rfl rfl i (Fi z b k1 k2 n g last t k (ne8 v o)) λN q=>⟨rfl,λr0 g0 h=>⟨cV [t],r0,g0,rfl,h,.refl _,.refl _⟩,λh=>by cases h⟩
end
end
section
open PySem.Builtin PySem.Builtin.Str
noncomputable abbrev MS:=List Nat×List Nat
noncomputable def ms(i:ht):MS:=(i.m,i.s)
noncomputable def bM(l:List MS):List Nat:=(l.map (·.2)).flatten
noncomputable def jS(a n:Int):Int:=if(n.fdiv 20).fmod 10=8/\a.fmod 14=13 then 9 else(n.fdiv 20).fmod 10
def c8(a n:Int):List MS:=(rO (jS a n).toNat).2.map ms++[dv.getD (n.fmod 20).toNat ([],[])]
structure oh where(its:List MS)(cuts:List Int)(size:Int)
def gk(a:Int)(s:oh)(n:Int):oh:=⟨s.its++c8 a n,s.cuts++iA (bM (c8 a n)) (n.fdiv 200) s.size,s.size+((bM (c8 a n)).length:Int)⟩
def J1(a:Int)(s:oh)(n:Int)(b:Nat):Yh:=⟨n,b,n.fdiv 20,(n.fdiv 20).fmod 10,jS a n,n.fmod 20,n.fdiv 200,iA (bM (c8 a n)) (n.fdiv 200) s.size,(bM (c8 a n)).length⟩
inductive uE(B:bH)(b:hM)(s:oh):Prop where|mk:∀its cv,(b.xs=ek its)->(its.map ms=s.its)->((∀i∈its,dr w.params B i.a (rN i)))->(b.cs=df cv)->(cv.map (·.1)=s.cuts)->(b.sz=s.size)->uE B b s
inductive zE(B:bH)(s:oh)(ℓ:L2)(r:bH)(g:bR):Prop where|mk:∀B' its cv,(∀p∈B,p∈B')->ℓ.l 0=ek its->its.map ms=s.its->(∀i∈its,dr w.params B' i.a (rN i))->ℓ.l 1=df cv->cv.map (·.1)=s.cuts->ce B' r g->zE B s ℓ r g
theorem zF(l:List ht):bM (l.map ms)=ku l:=by
 unfold bM ku Gt;rw[jc,jc];rfl
theorem CI:∀l:List ht,(jq l).sum=((ku l).length:Int)
 |[]=>rfl
 |i::l=>by
  have:=CI l;have e1:(jq (i::l)).sum=(i.s.length:Int)+(jq l).sum:=rfl;have e2:ku (i::l)=i.s++ku l:=rfl;rw[e1,e2,this,c5];exact rfl
theorem zG:∀(l:List MS)(a t:Nat),(lC l a t).map ms=l
 |[],Y,V=>rfl
 |(m,s)::l,a,t=>by
  show ms ⟨a,t,m,t+1,s⟩::(lC l (a+1) (t+2)).map ms=_;rw[zG l];rfl
theorem zH(a n:Int):0<=jS a n/\jS a n<10:=by
 have b:0<=(n.fdiv 20).fmod 10:=i7 _ (by decide);have c:(n.fdiv 20).fmod 10<10:=iG _ (by decide);unfold jS
 split<;>omega
theorem O4:∀i<10,(rO i).2.length<=4/\(ku (rO i).2).length<=10/\((rO i).2.all λx=>decide (x.s.length<=10))=true:=by decide +kernel
theorem Sy:(dv.all λx=>decide (x.2.length<=10))=true:=by decide +kernel
theorem nz(a n:Int):(bM (c8 a n)).length<=20/\(c8 a n).length<=5:=by
 have f:=zH a n;have g:=O4 (jS a n).toNat (ab3 f);have b:0<=n.fmod 20:=i7 _ (by decide);have c:n.fmod 20<20:=iG _ (by decide);have h:(dv.getD (n.fmod 20).toNat ([],[])).2.length<=10:=by
  have e:dv.length=20:=rfl;rw[lH,i8 (show(n.fmod 20).toNat<dv.length from ab3 (n:=20) ⟨b,c⟩)];exact xn (f0.1 Sy _ (sF _))
 have d:=zF (rO (jS a n).toNat).2;unfold c8;constructor
 ·unfold bM at d ⊢;rw[fc,xb,d,c5];simp only[fN,List.map_nil,List.flatten_cons,List.flatten_nil,dU];omega
 ·simp;omega
section
def zI(z:fH)(b:hM)(ys:List Value)(sz:Int)(j k1 k2 k3:Nat)(a c d:Value):hS:=
 .con (wD z b ys sz j k1 k2 k3 a c d) λy y l=>.fin oN ([(z.FL,k0 z (b.HM l sz) k1 k2 k3 (l.v 0) (l.v 1) (l.v 2))]++vA (b.HM l sz))
set_option maxHeartbeats 1000000 in
theorem k7{G:Gl Unit}(F:G.seg=false){z:fH}{b:hM}{ys:List Value}{sz:Int}{j:Nat}{k1 k2:Nat->Nat->Nat}{last:Option (Nat×Value)}{B:bH}{s:oh}{n:Int}{X:Nat}(d:fS B)(hb:uE B b s)(aO:s.its.length+5<=9000/\s.cuts.length+1<=9000)(hc:ys[j]?=some (.int n X))(hN:∀S Z T U t9 v1 v2 v3,S.k6=b.k6->S.it=b.it->(∀p∈B,p∈Z)->uE Z S (gk z.tot s n)->∀d1 d2 r2 ns N t,C1 G ((zI z S ys sz (j+1) (k1 T U) (k2 T U) (OR last t9) v1 v2 v3).res (.n d1 400::.n d2 r2::ns) N t) (ce Z) []){d1 d2 d3 d4 d5 d6 d7 d8 d9 aa ab ac ae af ai aj ak al am:ND}{r1 r2 r3 r4 r5 r6 r7 r8 r9 an ao ap aq r14 ar r16 au av:Nat}{ns:List Num}{N t:Nat}(h4:150<=r4:=by decide)(h7:100<=r7:=by decide)(aw:300<=r14:=by decide)(ax:100<=r16:=by decide):
  C1 G ((Yi z b ys sz j (J1 z.tot s n X) k1 k2 last).res (.n d1 r1::.n d2 r2::.n d3 r3::.n d4 r4::.n d5 r5::.n d6 r6::.n d7 r7::.n d8 r8::.n d9 r9::.n aa an::.n ab ao::.n ac ap::.n ae aq::.n af r14::.n ai ar::.n aj r16::.n ak au::.n al 400::.n am av::ns) N t) (ce B) []:=by
 obtain⟨its,cv,e1,e2,e3,e4,e5,e6⟩:=hb;have ha:=zH z.tot n;have V:(jS z.tot n).toNat<10:=ab3 ha;have hl:=O4 _ V;have H:0<=n.fmod 20:=i7 _ (by decide);have I:n.fmod 20<20:=iG _ (by decide);have ay:0<=(n.fdiv 20).fmod 10:=i7 _ (by decide);have az:(n.fdiv 20).fmod 10<10:=iG _ (by decide);have aP:cZ=100000:=rfl;have aA:=nz z.tot n;have aB:b.xs.length<=9000:=by rw[e1];have:=b8 List.length e2;simp[ek]at this ⊢;omega
 have aC:b.cs.length<=9000:=by rw[e4];have:=b8 List.length e5;simp[df]at this ⊢;omega
 refine HE.of ?_;intro J _;exists bz,b6 hc;intro N1 T l1 _;exists bz,mU (by decide) (by decide) rfl,0;exists bz,ff (by decide) rfl;intro N3 U l3 _;exists cS,O3 h4 ay az rfl,0;exists cT,(λr0 g0 h=>.inl (by rw[h.1];exact d.ah)),0;skip;refine HE.of ?_;intro J _;exists bx,JU (us:=ek (rO (jS z.tot n).toNat).2) (v:=(rO (jS z.tot n).toNat).1) d.ah ha.1 ha.2 (by decide +kernel) ?_;rotate_left 1;intro N5 t5 l5 _ _;refine Holds.fact F (λr g h=>h) (λ_ _ _ _ _ _ _ _ _=>⟨rfl,λ_ _ _ _ _ _ _ _ _ _ _ _ _ _ _ _ _ _ _ _ _ _ _ _=>rfl⟩) λaD=>?_;rotate_left 1
 ·show(YX.map λp=>Value.ref p.1)[(jS z.tot n).toNat]?=_;rw[lJ];unfold rO;rw[lH,i8 (h:=V)];rfl
 obtain⟨K,f⟩:=aD;refine HE.of ?_;intro J _;exists bx,O2 h7;intro N6 t6 l6 _ _;refine Holds.ex F _ (ι:={p:Nat×Nat//l6.l 0=ek (lC dv p.1 p.2)}) (Y:=λp=>ce (Qi (lC dv p.1.1 p.1.2)++B)) (λr g ⟨a,t,h1,A⟩=>⟨⟨(a,t),h1⟩,A⟩) (λ_ _ _ _ _ _=>⟨rfl,λ_ _ _ _ _ _ _ _ _ _ _ _ _ _ _ _ _ _ _ _ _ _ _ _=>rfl⟩) ?_;rintro⟨⟨m,tt⟩,C⟩;simp only at C;have aE:(lC dv m tt).length=20:=by
  have:=b8 List.length (zG dv m tt);rw[fb]at this;exact this
 obtain⟨tk,D⟩:∃tk,(lC dv m tt)[(n.fmod 20).toNat]?=some tk:=⟨_,i8 (aE▸ab3 (n:=20) ⟨H,I⟩)⟩
 have L:tk∈lC dv m tt:=xf D;have aF:ms tk=dv.getD (n.fmod 20).toNat ([],[]):=by
  have:=b8 (λl=>l[(n.fmod 20).toNat]?) (zG dv m tt);simp only[lJ,D,Option.map_some]at this;rw[lH,<-this];rfl
 have M:(l6.l 0).length=20:=by rw[C];exact rfl
 have o:∀p∈B,p∈Qi (lC dv m tt)++B:=λp hp=>dp _ hp;refine HE.of ?_;intro J _;exists bz,ff (by decide) rfl,0;exists bx,Fu (v:=tk.a) H (by rw[M];exact I) (by rw[M];decide) (by rw[C];show((lC dv m tt).map λi=>Value.ref i.a)[(n.fmod 20).toNat]?=_;rw[lJ,D];rfl);rotate_left 1;intro N8 t8 l8 _ _;refine Holds.fact F (λr g h=>h) ⟨rfl,λ_ _ _ _ _ _ _ _ _ _ _ _ _ _ _ _ _ _ _ _ _ _ _ _=>rfl⟩ λaG=>?_;rotate_left 1;have O:(l5.n 0,br (l5.l 0) 0)∈Qi (lC dv m tt)++B:=by
  rw[K,f];exact o _ (d.aL V)
 refine HE.of ?_;intro J _;exists cT,(λr0 g0 h=>.inl (by rw[h.1];exact O)),0;exists bx,JV O (by rw[f];simp[ek];omega);intro N9 t9 W _ _;refine Holds.fact F (λr g h=>h) (λ_ _ _ _ _ _ _ _ _ _ _ _ _ _ _ _ _ _ _ _ _=>rfl) λaH=>?_;have q:W.l 0=ek ((rO (jS z.tot n).toNat).2++[tk]):=by
  rw[aH,f,aG];simp[ek]
 have P:((rO (jS z.tot n).toNat).2++[tk]).map ms=c8 z.tot n:=by
  rw[fc,List.map_singleton,aF];rfl
 have u:ku ((rO (jS z.tot n).toNat).2++[tk])=bM (c8 z.tot n):=by rw[<-P,zF]
 have k:∀i∈(rO (jS z.tot n).toNat).2++[tk],dr w.params (Qi (lC dv m tt)++B) i.a (rN i):=λi c=>by
  rcases dw.1 c with h|h
  ·exact .inl (o _ (d.ahI V i h))
  ·rw[eC]at h;subst h;exact .inl (dQ _ (dO.2 ⟨i,L,rfl⟩))
 have Q:∀i∈(rO (jS z.tot n).toNat).2++[tk],i.s.length<=100000:=λi c=>by
  have A:=aA.1;rw[<-u]at A;obtain⟨x,y,e⟩:=xl c;rw[e]at A;unfold ku Gt at A;simp at A;exact cu (cu (h9 ..) (cu (jE ..) A)) (by decide)
 have aI:(W.l 0).length<=5:=by rw[q];simp[ek];omega
 have aJ:(iA (bM (c8 z.tot n)) (n.fdiv 200) s.size).length<=1:=by
  unfold iA;dsimp only
  split<;>simp
 refine HE.of ?_;intro J _;exists bz,j6 (cu (lL aB aI) (by decide));intro aQ aR aK _;exists bz,mU (by decide) (by decide) rfl,0;exists bx,JY q k (by simp;omega) (by rw[u];omega) (by rw[u,e6];rfl) aw;intro aV aW E _ _;exists bz,j6 (by rw[fb];exact cu (lL aC aJ) (by decide));intro aX aY aM _;exists bx,O1 (l:=(rO (jS z.tot n).toNat).2++[tk]) (by simp) q (λi c=>⟨k i c,Q i c⟩) (by simp;omega) ax,0;refine Holds.fact F (λr g h=>h) (λ_ _ _ _ _ _=>rfl) λR=>?_;obtain⟨ll,g1,g2⟩:=R;refine⟨_,(bE.fr (by rw[g1];exact CH (by rw[g2,CI,u];rfl)) _),λa3 aN a4=>?_⟩;refine hN (b.nx W aK E aM (J1 z.tot s n X) aN) _ T U t9 _ _ _ rfl rfl o ⟨its++((rO (jS z.tot n).toNat).2++[tk]),cv++(iA (bM (c8 z.tot n)) (n.fdiv 200) s.size).map (λi=>(i,E.n 1)),?_,?_,?_,?_,?_,?_⟩ _ _ _ _ _ _
 ·show b.xs++W.l 0=_;rw[e1,q];simp[ek]
 ·rw[fc,e2,P];rfl
 ·intro i c;rcases dw.1 c with h|h
  ·exact(e3 i h).mono o
  ·exact k i h
 ·show b.cs++(iA (bM (c8 z.tot n)) (n.fdiv 200) s.size).map (λi=>Value.int i (E.n 1))=_;rw[e4];simp[df]
 ·rw[fc,e5];simp[gk,Function.comp_def]
 ·show b.sz+((bM (c8 z.tot n)).length:Int)=_;rw[e6];rfl
end
end
section
open PySem.Builtin PySem.Builtin.Str
variable{B:bH}{s:oh}
theorem zE.mono{d:bH}{c a:L2}{r:bH}{g:bR}(h:zE d s c r g)(f:∀p∈B,p∈d)(e:a.l=c.l:=by rfl):zE B s a r g:=
 let⟨b,its,cv,i,j,k,m,n,o,q⟩:=h
 ⟨b,its,cv,λp t=>i p (f p t),(et e 0).trans j,k,m,(et e 1).trans n,o,q⟩
noncomputable def ltN(a c t:Nat)(xs b:List Value)(d e f:Value):L2:=⟨λn=>match n with
 |0=>a
 |1=>c
 |Y=>t,λn=>match n with
 |0=>d
 |1=>e
 |Y=>f,λn=>match n with
 |0=>xs
 |Y=>b⟩
noncomputable def adL(a:L2)(k1 k2 k3:Nat):L2:=⟨λn=>match n with
 |3=>k1
 |4=>k2
 |5=>k3
 |n=>a.n n,a.v,a.l⟩
def fm(a:Int)(s:oh)(ns:List Int):oh:=ns.foldl (gk a) s
theorem mu(a:Int)(s:oh)(n:Int):(gk a s n).its.length<=s.its.length+5/\(gk a s n).cuts.length<=s.cuts.length+1:=by
 have h:=(nz a n).2;have b:(iA (bM (c8 a n)) (n.fdiv 200) s.size).length<=1:=by
  unfold iA;dsimp only
  split<;>simp
 unfold gk;simp;omega
section
variable{z:fH}{ys:List Value}{sz:Int}
theorem uF:∀(ns:List (Int×Nat))(j:Nat)(b:hM)(k1 k2 k3:Nat)(v1 v2 v3:Value)(B:bH)(s:oh),ys.drop j=df ns->fS B->uE B b s->s.its.length+5*ns.length<=9000/\s.cuts.length+ns.length<=9000->sz=(fm z.tot s (ns.map (·.1))).size->
  cN 400 (wD z b ys sz j k1 k2 k3 v1 v2 v3) (ce B) (zE B (fm z.tot s (ns.map (·.1))))
 |[],j,b,k1,k2,k3,v1,v2,v3,B,s,m,a,q,c,g=>by
  have r:ys[j]?=none:=by
   have E:ys.length<=j:=nH.mp m;simp[E]
  obtain⟨its,cv,e1,e2,e3,e4,F,G⟩:=q;have g:sz=b.sz:=g.trans G.symm;subst g;exists bE.o,JQ z b ys j k1 k2 k3 v1 v2 v3;intro H N t _;exists bz,cA r;intro L A l1 _;exact cC (ltN b.IT b.CU b.X7 b.xs b.cs v1 v2 v3) (λr0 g0 I=>⟨B,its,cv,λZ h=>h,e1,e2,e3,e4,F,I⟩)
 |(n,nt)::ns,j,b,k1,k2,k3,v1,v2,v3,B,s,m,a,q,c,g=>by
  have r:ys[j]?=some (.int n nt):=by
   rw[<-ja,m];rfl
  have u:ys.drop (j+1)=df ns:=by
   rw[<-kv,m];rfl
  rw[List.length_cons]at c;have M:=mu z.tot s n;have C:∀f i (A J K:Nat) w1 w2 v,f.k6=b.k6->f.it=b.it->(∀p∈B,p∈i)->uE i f (gk z.tot s n)->∀d1 d2 r2 k N t,
    C1 ⟨false,(wD z b ys sz j k1 k2 k3 v1 v2 v3).out,zE B (fm z.tot s (((n,nt)::ns).map (·.1))),[]⟩ ((zI z f ys sz (j+1) k1 k2 k3 w1 w2 v).res (.n d1 400::.n d2 r2::k) N t) (ce i) []:=by
   intro f i A J K w1 w2 v w x D y d1 d2 r2 k N t;refine HE.of ?_;intro H _;exists bx,uF ns (j+1) f k1 k2 k3 w1 w2 v i _ u (a.mono D) y (acd c (mu _ _ _)) g;intro N t l _ _;refine cB rfl rfl (λr0 g0 h=>⟨l,r0,g0,rfl,h.mono D,?_,.refl _⟩);have e:f.HM l sz=b.HM l sz:=by unfold hM.HM;rw[w,x]
   rw[e];exact .refl _
  rcases two zA b2 with hz|hz
  ·have d:=wE z b ys sz j k1 k2 k3 v1 v2 v3 (J1 z.tot s n nt);rw[hz]at d;exact bE.of d λN t=>k7 rfl a q (ab6 c) r C
  ·have d:=wE z b ys sz j k1 k2 k3 v1 v2 v3 (J1 z.tot s n nt);rw[hz]at d;exact bE.of d λN t=>k7 rfl a q (ab6 c) r C
theorem O5{n:Int}{d:Nat}{ns:List (Int×Nat)}{b:hM}{room:Nat}(x:ys=df ((n,d)::ns))(a:fS B)(y:uE B b s)(f:s.its.length+5*(ns.length+1)<=9000/\s.cuts.length+(ns.length+1)<=9000)(E:sz=(fm z.tot s (((n,d)::ns).map (·.1))).size)(F:400<=room):
  cN room (OQ z b ys sz) (ce B) (zE B (fm z.tot s (((n,d)::ns).map (·.1)))):=by
 have A:ys[0]?=some (.int n d):=by rw[x];rfl
 have q:ys.drop (0+1)=df ns:=by rw[x];rfl
 have G:=mu z.tot s n;refine bE.mono (room:=400) ?_ F;have C:∀g i (k m o:Nat) w1 w2 r,g.k6=b.k6->g.it=b.it->(∀p∈B,p∈i)->uE i g (gk z.tot s n)->∀d1 d2 r2 j N t,
   C1 ⟨false,(OQ z b ys sz).out,zE B (fm z.tot s (((n,d)::ns).map (·.1))),[]⟩ ((zI z g ys sz (0+1) k m o w1 w2 r).res (.n d1 400::.n d2 r2::j) N t) (ce i) []:=by
  intro g i k m o w1 w2 r u v D w d1 d2 r2 j N t;refine HE.of ?_;intro H _;exists bx,uF ns (0+1) g k m o w1 w2 r i _ q (a.mono D) w (acd f (mu _ _ _)) E;intro N t l _ _;refine cB rfl rfl (λr0 g0 h=>⟨adL l k m o,r0,g0,rfl,h.mono D,?_,.refl _⟩);have e:g.HM l sz=b.HM l sz:=by unfold hM.HM;rw[u,v]
  rw[e];exact .refl _
 rcases two zB b2 with hz|hz
 ·have c:=wF z b ys sz (J1 z.tot s n d);rw[hz]at c;exact bE.of c λN t=>k7 rfl a y (ab6 f) A C
 ·have c:=wF z b ys sz (J1 z.tot s n d);rw[hz]at c;exact bE.of c λN t=>k7 rfl a y (ab6 f) A C
end
end
section
open PySem.Meets PySem.Builtin PySem.Builtin.Str
variable{B B' r:bH}{nm:Value}{vs:List Value}{ds:List qm}{ℓ:L2}{g:bR}
inductive Yr(B:bH)(nm:Value)(x:Vf):Prop where|mk:(dr w.params B x.a (Ce x.d.mark x.d.text x.d.space x.d.first x.p.a nm x.mt x.tt x.st))->((x.p.r,x.p.c)=x.d.spot)->(dr w.params B x.p.a (pi x.p.r x.p.c x.p.rt x.p.ct))->Yr B nm x
inductive ro(B:bH)(nm:Value)(vs:List Value)(ds:List qm):Prop where|mk:∀xs:List Vf,(vs=xs.map (λx=>.ref x.a))->(xs.map (·.d)=ds)->(∀x∈xs,Yr B nm x)->ro B nm vs ds
theorem ro.mono(h:ro B nm vs ds)(c:∀p∈B,p∈B'):ro B' nm vs ds:=by
 obtain⟨xs,d,e,a⟩:=h;exact⟨xs,d,e,λx b=>⟨(a x b).1.mono c,(a x b).2,(a x b).3.mono c⟩⟩
theorem ro.add(h:ro B nm vs ds)(x:Vf)(b:Yr B nm x):ro B nm (vs++[.ref x.a]) (ds++[x.d]):=by
 obtain⟨xs,rfl,rfl,c⟩:=h;refine⟨xs++[x],by simp,by simp,λy hy=>?_⟩;rcases dw.1 hy with hy|hy
 ·exact c y hy
 ·rw[eC]at hy;subst hy;exact b
theorem ro.len(h:ro B nm vs ds):vs.length=ds.length:=by
 obtain⟨xs,rfl,rfl,_⟩:=h;simp
inductive HS(B:bH)(nm:Value)(ds:List qm)(ℓ:L2)(r:bH)(g:bR):Prop where|mk:∀B',ro B' nm (ℓ.l 0) ds->(∀p∈B,p∈B')->ce B' r g->HS B nm ds ℓ r g
theorem HS.to{a:L2}(h:HS B nm ds ℓ r g)(e:a.l=ℓ.l:=by rfl):HS B nm ds a r g:=let⟨b,c,d,f⟩:=h;⟨b,(et e 0).symm▸c,d,f⟩
theorem HS.mono(h:HS B' nm ds ℓ r g)(a:∀p∈B,p∈B'):HS B nm ds ℓ r g:=
 let⟨b,c,d,e⟩:=h
 ⟨b,c,λp f=>d p (a p f),e⟩
section
variable{prog:Program}{w:World}{kt:KT}{os:OsState}{room:Nat}
theorem zJ(l:List Value)(n:Nat):dm l n = { cls:=.type "tuple",dict:=none,data:=.seq ⟨l⟩ n,slots:=#[] }:=by
 unfold dm;rw[<-vM]
theorem wI{a b:Nat}{xs ys:List Value}(j:xs≠[])(k:ys≠[])(l:xs.length+ys.length<=100000)(m:(a,dm xs 0)∈B\/kt.get a=some (dm xs 0)):
  bE prog w kt os room (uB a b xs ys).c (uB a b xs ys).pre (ce B) (uB a b xs ys).out (λy=>ce B):=by
 rintro A s F FG r0 g0 n ⟨rfl,rfl⟩ d;have f:s.heap.get? a=some (dm xs 0):=by
  rcases m with h|h
  ·exact d.own (a,dm xs 0) (dp _ (dQ _ h))
  ·exact d.elim λy z=>z.old _ _ h
 have i:=d.own (b,dm ys 0) (.head _);refine g6 (b:=Builtin.«tuple.__add__») (by rw[<-Mg];exact entryFor_of_tree (by kernel_rfl)) ?_;refine PySem.AutoSeq1.tuple___add___tuple_tuple_2 a ⟨xs⟩ 0 b ⟨ys⟩ 0 (by simpa using j) (by simpa using k) (by show xs.length+ys.length<=sizeLine;rw[show sizeLine=16777216 from by decide];exact cu l (by decide)) prog w A (gT kt os (uB a b xs ys).out (λy=>ce r0) F FG) s ⟨by rw[<-zJ];exact f,by rw[<-zJ];exact i,?_⟩;have z:=Sat.drop ((d.alloc rfl).perm (L':=(s.heap.objs.size,dm (xs++ys) 0)::(r0++F)++[(b,dm ys 0)]) (by
  refine kx _ ?_;exact PT.q [_,_] [_] 0xac0ea01 0xaa01c0e rfl))
 refine⟨l1 s.heap.objs.size,r0,[],⟨rfl,rfl⟩,rfl,?_⟩;have e:((⟨xs⟩:Array Value)++⟨ys⟩)=⟨xs++ys⟩:=by simp
 have e2:dm (xs++ys) 0 = { cls:=Value.type "tuple",data:=Data.seq ((⟨xs⟩:Array Value)++⟨ys⟩) }:=by rw[zJ,e]
 rw[<-e2];exact z
end
section
variable{FL C D it du di dn:Nat}{m7:List Value}
noncomputable def ltD(vs:List Value)(v:Value)(n:Nat):L2:=⟨λz=>n,λz=>v,λz=>vs⟩
noncomputable def adM(ℓ:L2)(k:Nat):L2:=⟨λn=>match n with
 |1=>k
 |n=>ℓ.n n,ℓ.v,ℓ.l⟩
theorem HT{nm:Value}(i:dM nm):∀(xs:List Vf)(j n k:Nat)(ys:List Value)(ds:List qm)(v:Value)(B:bH),m7.drop j=xs.map (λx=>.ref x.a)->(∀x∈xs,Sk B x)->ro B nm ys ds->ds.length+xs.length<=9000->
  cN 100 (PX FL C D it du j di n k m7 dn ys v nm) (ce B) (HS B nm (ds++xs.map (·.d)))
 |[],j,n,k,ys,ds,v,B,l,Y,h,V=>by
  have u:m7[j]?=none:=by
   have y:=nH.mp l;simp[y]
  exists bE.o,Ss FL C D it du j di n k m7 dn ys v nm,0;exists bz,cA u,0;exact cC (ltD ys v n) (λr0 g0 m=>⟨B,by simpa[ltD]using h,λZ h=>h,m⟩)
 |⟨a,mt,tt,st,p,d⟩::xs,j,n,k,ys,ds,v,B,l,s,h,H=>by
  have u:m7[j]?=some (.ref a):=by
   rw[<-ja,l];rfl
  have z:m7.drop (j+1)=xs.map (λx=>.ref x.a):=by
   rw[<-kv,l];rfl
  rw[List.length_cons]at H;have I:cZ=100000:=rfl;have M:=h.len;obtain⟨A,y,J⟩:=s _ (.head _);have K:=A;have step:∀(l2 f:L2),gN 100 (PX FL C D it du (j+1) di (f.n 0) k m7 dn (ys++[.ref (l2.n 0)]) (.ref a) nm).c ((PX FL C D it du (j+1) di (f.n 0) k m7 dn (ys++[.ref (l2.n 0)]) (.ref a) nm).pre++[(l2.n 0,dm ([.str ⟨⟨d.mark⟩⟩ mt,.str ⟨⟨d.text⟩⟩ tt,.str ⟨⟨d.space⟩⟩ st,.bool d.first,.ref p.a]++[nm]) 0)]) (ce B) (PX FL C D it du (j+1) di (f.n 0) k m7 dn (ys++[.ref (l2.n 0)]) (.ref a) nm).out (HS B nm (ds++d::xs.map (·.d))):=λl2 f=>by
   refine pt (bE.dP (HT i xs (j+1) _ k _ (ds++[d]) (.ref a) ((l2.n 0,dm ([.str ⟨⟨d.mark⟩⟩ mt,.str ⟨⟨d.text⟩⟩ tt,.str ⟨⟨d.space⟩⟩ st,.bool d.first,.ref p.a]++[nm]) 0)::B) z (λx e=>⟨(s x (.tail _ e)).1.mono λq b=>.tail _ b,(s x (.tail _ e)).2,(s x (.tail _ e)).3.mono λq b=>.tail _ b⟩) ((h.mono λq b=>.tail _ b).add ⟨l2.n 0,mt,tt,st,p,d⟩ ⟨.inl (.head _),y,J.mono λq b=>.tail _ b⟩) (by simp;omega)) (λZ Z h=>h) λℓ r g m=>?_);rw[bQ]at m;exact m.mono λq b=>.tail _ b
  exact bE.o rfl (OU i d a mt tt st p.a).1 (by intro E N t _;exists bz,b6 u,0;exists cT,A.dG,0;exists bx,wI (by simp) (by simp) (by simp) K;intro O P l2 _ _;exists bz,bX (by omega);intro Q R f _;exists bx,step l2 f;intro S T L _ _;exact cC L)
theorem O6{nm:Value}(i:dM nm){ds:List qm}{B:bH}(s:ds≠[])(h:fF B m7 ds)(F:ds.length<=9000){room:Nat}(G:100<=room):
  cN room (Yk FL C D it du di m7 dn nm) (ce B) (HS B nm ds):=by
 obtain⟨xs,rfl,rfl,m⟩:=h;obtain⟨⟨a,mt,tt,st,p,d⟩,xs,rfl⟩:∃x xs',xs=x::xs':=by
  cases xs with
  |nil=>exact absurd rfl s
  |cons x xs=>exact⟨x,xs,rfl⟩
 refine bE.mono ?_ G;have u:cZ=100000:=rfl;have H:xs.length+1<=9000:=by simpa using F
 obtain⟨A,I,J⟩:=m _ (.head _);generalize l:List.map (λx:Vf=>Value.ref x.a) (⟨a,mt,tt,st,p,d⟩::xs)=m7;have K:m7[0]?=some (.ref a):=by rw[<-l];rfl
 have y:m7.drop 1=xs.map (λx=>.ref x.a):=by rw[<-l];rfl
 have L:=A;have step:∀(k:Nat)(l2 f:L2),gN 100 (PX FL C D it du (0+1) di (f.n 0) k m7 dn ([]++[.ref (l2.n 0)]) (.ref a) nm).c ((PX FL C D it du (0+1) di (f.n 0) k m7 dn ([]++[.ref (l2.n 0)]) (.ref a) nm).pre++[(l2.n 0,dm ([.str ⟨⟨d.mark⟩⟩ mt,.str ⟨⟨d.text⟩⟩ tt,.str ⟨⟨d.space⟩⟩ st,.bool d.first,.ref p.a]++[nm]) 0)]) (ce B) (PX FL C D it du (0+1) di (f.n 0) k m7 dn ([]++[.ref (l2.n 0)]) (.ref a) nm).out (HS B nm (d::xs.map (·.d))):=λk l2 f=>by
  refine pt (bE.dP (HT i xs (0+1) _ k _ [d] (.ref a) ((l2.n 0,dm ([.str ⟨⟨d.mark⟩⟩ mt,.str ⟨⟨d.text⟩⟩ tt,.str ⟨⟨d.space⟩⟩ st,.bool d.first,.ref p.a]++[nm]) 0)::B) y (λx b=>⟨(m x (.tail _ b)).1.mono λq e=>.tail _ e,(m x (.tail _ b)).2,(m x (.tail _ b)).3.mono λq e=>.tail _ e⟩) ⟨[⟨l2.n 0,mt,tt,st,p,d⟩],rfl,rfl,λx b=>by
   rw[eC]at b;subst b;exact⟨.inl (.head _),I,J.mono λq e=>.tail _ e⟩⟩ (by simp;omega)) (λZ Z h=>h) λℓ r g z=>?_)
  exact HS.mono z λq e=>.tail _ e
 exact bE.o rfl (OU (j:=0) (n:=0) (k:=0) (ys:=[]) (v:=.none) i d a mt tt st p.a).2 (by intro O N t _;exists bz,b6 K;intro P E l1 _;exists cT,A.dG,0;exists bx,wI (by simp) (by simp) (by simp) L;intro Q R l2 _ _;exists bz,bX (by simp[u]);intro S T f _;exists bx,step E l2 f;intro U V M _ _;exact cC (adM M E) (λr0 g0 z=>z.to))
end
end
section
open PySem.Builtin PySem.Builtin.Str
variable{a ct rt:Nat}{h:Heap}{vs:List Value}{ds:List PyData}{as ty vl:List Nat}{c r:Int}{f nm:Value}{fi:Bool}{er:Option (Option Ch)}
noncomputable def k8:Value->PyData|.str s Y=>.str s|Y=>.none
noncomputable def py(ty vl b:List Nat)(fi:Bool)(r c:Int)(f:PyData):PyData:=.tuple [.str ⟨⟨ty⟩⟩,.str ⟨⟨vl⟩⟩,.str ⟨⟨b⟩⟩,.bool fi,.tuple [.int r,.int c],f]
def ly(k:lr):PyData:=py k.typ k.val k.sp k.fi k.at_.row k.at_.col (k8 k.at_.file)
def kg(nm:PyData)(d:qm):PyData:=py d.mark d.text d.space d.first d.spot.1 d.spot.2 nm
def wJ:Option (Option Ch)->List PyData|none=>[]|some none=>[.none]|some (some c)=>[.tuple [.tuple [.int c.row,.int c.col],k8 c.file]]
section
variable{P:Params}{os:OsState}{s:Shared}{L B:bH}{G:bR}
theorem qs{o:Obj}(h:dr P B a o)(b:Sat (bY P) os s L G)(d:∀p∈B,p∈L)(e:jW o=false):s.heap.get? a=some o:=by
 rcases h with h|h
 ·exact b.own (a,o) (d _ h) e
 ·exact b.elim λy z=>z.old _ _ h
theorem i6(e:h.get? a=some (dm vs 0))(b:ReadsAll h vs ds as):Reads h (.ref a) (.tuple ds) as:=
 .tuple e (by show Value.type Dr=_;rw[<-vM]) rfl b
theorem k9{n:Nat}(e:h.get? a=some (br vs n))(b:ReadsAll h vs ds as):Reads h (.ref a) (.list ds) (a::as):=
 .list e (by show Value.type Gq=_;rw[<-oQ]) rfl b
theorem uG(h:dr P B a (pi r c rt ct))(b:Sat (bY P) os s L G)(d:∀p∈B,p∈L):Reads s.heap (.ref a) (.tuple [.int r,.int c]) []:=
 i6 (qs h b d rfl) (.cons (.int _ _) (.cons (.int _ _) .nil))
theorem zK(b:dM f):Reads h f (k8 f) []:=by
 rcases b with rfl|⟨fs,ft,rfl⟩
 ·exact .none
 ·exact .str _ _
theorem wK{p:Nat}{b:List Nat}{g vt i:Nat}(h:dr P B a (Ce ty vl b fi p f g vt i))(j:dr P B p (pi r c rt ct))(k:dM f)(d:Sat (bY P) os s L G)(e:∀p∈B,p∈L):Reads s.heap (.ref a) (py ty vl b fi r c (k8 f)) []:=
 i6 (qs h d e rfl) (.cons (.str _ _) (.cons (.str _ _) (.cons (.str _ _) (.cons (.bool _) (.cons (uG j d e) (.cons (zK k) .nil))))))
theorem lc{h:Heap}{b:Type}{f:b->Value}{g:b->PyData}:∀xs:List b,(∀x∈xs,Reads h (f x) (g x) [])->ReadsAll h (xs.map f) (xs.map g) []
 |[],Y=>.nil
 |x::xs,d=>.cons (d x (.head _)) (lc xs λy e=>d y (.tail _ e))
theorem Fx{ks:List lr}(h:gy B vs ks)(e:∀k∈ks,dM k.at_.file)(g:Sat (bY w.params) os s L G)(i:∀p∈B,p∈L):ReadsAll s.heap vs (ks.map ly) []:=by
 obtain⟨xs,rfl,rfl,d⟩:=h;rw[jc];exact lc xs λx b=>wK (d x b).1 (d x b).2 (e _ (dO.2 ⟨x,b,rfl⟩)) g i
theorem Fy{ds:List qm}(h:ro B nm vs ds)(e:dM nm)(g:Sat (bY w.params) os s L G)(i:∀p∈B,p∈L):ReadsAll s.heap vs (ds.map (kg (k8 nm))) []:=by
 obtain⟨xs,rfl,rfl,j⟩:=h;rw[jc];refine lc xs λx b=>?_;obtain⟨k,l,m⟩:=j x b;have:=wK k m e g i;show Reads s.heap (.ref x.a) (py x.d.mark x.d.text x.d.space x.d.first x.d.spot.1 x.d.spot.2 (k8 nm)) [];rw[<-l];exact this
theorem Fz(h:Vj B vs er)(e:∀c,er=some (some c)->dM c.file)(b:Sat (bY w.params) os s L G)(d:∀p∈B,p∈L):ReadsAll s.heap vs (wJ er) []:=by
 match er,h with
 |none,h=>obtain rfl:vs=[]:=h;exact .nil
 |some none,h=>obtain rfl:vs=[.none]:=h;exact .cons .none .nil
 |some (some c),h=>
  obtain⟨a,p,rt,ct,rfl,g,i⟩:=h;exact .cons (i6 (qs g b d rfl) (.cons (uG i b d) (.cons (zK (e c rfl)) .nil))) .nil
end
inductive RfO(B rl:bH)(nm:Value)(CE:List Value)(c:Ch):Prop where|mk:∀a p rt ct,CE=[.ref a]->(a,dm [.ref p,nm] 0)∈rl->k8 nm=k8 c.file->dr w.params B p (pi c.row c.col rt ct)->RfO B rl nm CE c
def O7(B rl:bH)(nm:Value)(b:List Value):Option (Option Ch)->Prop|none=>b=[]|some none=>b=[.none]|some (some c)=>RfO B rl nm b c
theorem O8{os:OsState}{s:Shared}{L B rl:bH}{G:bR}{b:List Value}(h:O7 B rl nm b er)(e:dM nm)(d:Sat (bY w.params) os s L G)(g:∀p∈B,p∈L)(i:∀p∈rl,p∈L):ReadsAll s.heap b (wJ er) []:=by
 match er,h with
 |none,h=>obtain rfl:b=[]:=h;exact .nil
 |some none,h=>obtain rfl:b=[.none]:=h;exact .cons .none .nil
 |some (some c),h=>
  obtain⟨a,p,rt,ct,rfl,j,k,l⟩:=h;have:=zK (h:=s.heap) e;rw[k]at this;exact .cons (i6 (d.own (a,_) (i _ j) rfl) (.cons (uG l d g) (.cons this .nil))) .nil
noncomputable def nB(l:List Nat):Bool:=l.all (· < 0x110000)
def okK(k:lr):Prop:=nB k.typ=true/\nB k.val=true/\nB k.sp=true/\(∀fs ft,k.at_.file=.str ⟨⟨fs⟩⟩ ft->nB fs=true)
theorem HU(b:dM f)(h:∀fs ft,f=.str ⟨⟨fs⟩⟩ ft->nB fs=true):(k8 f).canLay0=true:=by
 rcases b with rfl|⟨fs,ft,rfl⟩
 ·rfl
 ·show PySem.PyData.strOk ⟨⟨fs⟩⟩=true;have:=h fs ft rfl;unfold nB at this;unfold PySem.PyData.strOk;simpa using this
theorem Sz{b:List Nat}{f:PyData}(d:nB ty=true)(g:nB vl=true)(i:nB b=true)(j:f.canLay0=true):(py ty vl b fi r c f).canLay0=true:=by
 have e:∀l,nB l=true->PySem.PyData.strOk ⟨⟨l⟩⟩=true:=λl h=>by unfold nB at h;unfold PySem.PyData.strOk;simpa using h
 show(PySem.PyData.strOk _&&(PySem.PyData.strOk _&&(PySem.PyData.strOk _&&(true&&((true&&(true&&true))&&(f.canLay0&&true))))))=true;rw[e _ d,e _ g,e _ i,j];rfl
theorem O9{b:Type}{g:b->PyData}:∀xs:List b,(∀x∈xs,(g x).canLay0=true)->PyData.canLayAll0 (xs.map g)=true
 |[],Y=>rfl
 |x::xs,h=>by
  show((g x).canLay0&&PyData.canLayAll0 (xs.map g))=true;rw[h x (.head _),O9 xs λy d=>h y (.tail _ d)];rfl
theorem rf{b:Type}{g:b->PyData}{m:Nat}:∀xs:List b,(∀x∈xs,(g x).depth<=m)->PyData.depthAll (xs.map g)<=m
 |[],Y=>eo _
 |x::xs,h=>by
  exact Nat.max_le.2 ⟨h x (.head _),rf xs λy d=>h y (.tail _ d)⟩
mutual
theorem CJ:∀d:PyData,d.canLay0=true->d.eqv d=true
 |.none,Y=>rfl
 |.bool b,Y=>by show(b==b)=true;simp
 |.int i,Y=>by show(i==i)=true;simp
 |.str x,Y=>by show(x==x)=true;simp
 |.list xs,h=>mv xs h
 |.tuple xs,h=>mv xs h
 |.dict Y,h=>nomatch h
theorem mv:∀ds:List PyData,PyData.canLayAll0 ds=true->PyData.eqvAll ds ds=true
 |[],Y=>rfl
 |d::ds,h=>by
  have b:(d.canLay0&&PyData.canLayAll0 ds)=true:=h;rw[eD]at b;show(d.eqv d&&PyData.eqvAll ds ds)=true;rw[CJ d b.1,mv ds b.2];rfl
end
theorem wL(f:Value):(k8 f).depth=0:=by cases f<;>rfl
theorem J2{b:List Nat}{f:PyData}(d:f.depth=0):(py ty vl b fi r c f).depth<=2:=by
 show max 0 (max 0 (max 0 (max 0 (max (max 0 (max 0 0)+1) (max f.depth 0)))))+1<=2;rw[d]
 decide
end
section
open PySem.Builtin PySem.Builtin.Str
variable{er:Option (Option Ch)}{O Q:bH->Prop}{ks:List lr}{B B2 F:bH}{A:Around}{s:Shared}{FG:bR}{E Q':Value->Shared->Prop}{ds:List qm}{vs:List Value}
def abI(s:Stmt):Pos:=(sp s).p
def Ys(s:Stmt):List Stmt:=(sp s).b
def Yt(e:Expr):Pos:=(ep e).p
theorem nC(FL C it:Nat):dC FL C it=.forLoop (Vu (b9 (dH 28) 15)) (.ref it) (dy (b9 (dH 28) 15)) (Vv (b9 (dH 28) 15)) (cj FL C):=by kernel_rfl
theorem uH:(dy (b9 (dH 28) 15)).drop 1=Fl::(dy (b9 (dH 28) 15)).drop 2:=by kernel_rfl
theorem Pa:Fl=.If (.Compare (Sv (jR Fl)) [.NotEq] [OT (jR Fl)] (Yt (jR Fl))) (Ys Fl) [] (abI Fl):=by kernel_rfl
noncomputable def adN(d:L2)(a b:Nat):L2:=⟨λn=>match n with
 |2=>a
 |3=>b
 |n=>d.n n,d.v,d.l⟩
section
variable{room:Nat}{z:fH}{c:m5}{bV:Bool}{it:Nat}{v:m6}{nm:Value}
theorem Yu(b:ks≠[])(f:∀x∈ks,dM x.at_.file)(j:∀c,er=some (some c)->dM c.file)(k:ks.length<=9000){r0:bH}{g0:bR}(m:gY 787 A)(d:lh A (dC z.FL z.C it) F)(o:star (jQ er O Q v.g.i ks) (ce B) r0 g0)(q:Sat (bY w.params) os s ([(z.FL,eR z c bV v),(v.g.g,cc v.g)]++(r0++F)) (g0++FG))(r:∀(e:Shared)(a:L2) r1 g1,uv B ks er (iC (Vk er O Q)) a r1 g1->Sat (bY w.params) os e ([(z.FL,eR z c bV v),(a.n 0,dm [.ref (a.n 1),.ref (a.n 2)] 0),(a.n 1,br (a.l 0) (a.n 3)),(a.n 2,br (a.l 1) 0)]++(r1++F)) (g1++FG)->Q' (.ref (a.n 0)) e):
  PySem.wpAt (model pz (wv w b1 b2)) A (dC z.FL z.C it) (eval (Sv (jR Fl)) (cj z.FL z.C)) Q' E s:=by
 exact AE (os:=os) (acj:=1000) (p:=abE z c it v bV) (X':=uv B ks er (iC (Vk er O Q))) (out:=λZ Z a=>(.ok (.ret (.ref (a.n 0))),[(z.FL,eR z c bV v),(a.n 0,dm [.ref (a.n 1),.ref (a.n 2)] 0),(a.n 1,br (a.l 0) (a.n 3)),(a.n 2,br (a.l 1) 0)])) (yZ (Sv (jR Fl)) (cj z.FL z.C)) (OX z c it v bV)
  (λN t=>⟨_,⟨by decide,JN (B:=B) (O:=O) (Q:=Q) b f j k⟩,λu y l1=>⟨rfl,λr0 g0 h=>⟨l1,r0,g0,rfl,h,.refl _,.refl _⟩,λh=>by cases h⟩⟩) m (λZ=>d) o q r
theorem Yv(b:dM nm)(d:ds≠[])(h:fF B v.m7 ds)(f:ds.length<=9000)(g:gY 787 A)(i:Sat (bY w.params) os s ([(z.FL,eR z c bV v),(z.C,hZ nm),(v.DU,br v.m7 v.dn),(v.RF,br v.CE 0)]++(B++F)) ([]++FG))(j:∀(e:Shared)(a:L2) r1 g1,HS B nm ds a r1 g1->Sat (bY w.params) os e ([(z.FL,eR z c bV v),(a.n 2,dm [.ref (a.n 3),.ref v.RF] 0),(a.n 3,br (a.l 0) (a.n 0)),(v.RF,br v.CE 0),(v.DU,br v.m7 v.dn),(z.C,hZ nm)]++(r1++F)) (g1++FG)->Q' (.ref (a.n 2)) e):
  PySem.wpAt (model pz (wv w b1 b2)) A (dC z.FL z.C it) (eval (OT (jR Fl)) (cj z.FL z.C)) Q' E s:=by
 have dn:=λ{FL C D it du di dn:Nat}{room:Nat}(k:100<=room)=>@O6 FL C D it du di dn v.m7 nm b ds B d h f room k;exact j1 (os:=os) (p:=abF z c it v bV nm) (X:=ce B) (X':=HS B nm ds) (out:=λy y a=>(.ok (.ret (.ref (a.n 2))),[(z.FL,eR z c bV v),(a.n 2,dm [.ref (a.n 3),.ref v.RF] 0),(a.n 3,br (a.l 0) (a.n 0)),(v.RF,br v.CE 0),(v.DU,br v.m7 v.dn),(z.C,hZ nm)])) (yZ (OT (jR Fl)) (cj z.FL z.C)) (Sw z c it v bV b)
  (λN t=>by rcases two wH b2 with hz|hz<;>rw[hz]<;>exact⟨_,dn (by decide),λm o l1=>⟨rfl,λr0 g0 h=>⟨adN l1 m (N+1),r0,g0,rfl,h.to,.refl _,.refl _⟩,λh=>by cases h⟩⟩) g ⟨rfl,rfl⟩ i j
inductive Pb(B:bH)(F:b7)(r:bH)(g:bR):Prop where|mk:∀B',((∀p∈B,p∈B'))->(star F (ce B') r g)->Pb B F r g
theorem aaq(h:Vj B vs er)(k:∀p∈B,p∈B2):Vj B2 vs er:=by
 rcases er with _|_|c
 ·exact h
 ·exact h
 ·obtain⟨a,p,rt,ct,e1,e2,e3⟩:=h;exact⟨a,p,rt,ct,e1,e2.mono k,e3.mono k⟩
theorem jw{rl:bH}{nm:Value}(h:O7 B rl nm vs er)(k:∀p∈B,p∈B2):O7 B2 rl nm vs er:=by
 rcases er with _|_|c
 ·exact h
 ·exact h
 ·obtain⟨a,p,rt,ct,e1,e2,e3,e4⟩:=h;exact⟨a,p,rt,ct,e1,e2,e3,e4.mono k⟩
theorem aaU(b:∀c,er=some (some c)->dM c.file)(a:∀c,er=some (some c)->∀fs ft,c.file=.str ⟨⟨fs⟩⟩ ft->nB fs=true):PyData.canLayAll0 (wJ er)=true:=by
 rcases er with _|_|c
 ·rfl
 ·rfl
 ·show(((true&&(true&&true))&&((k8 c.file).canLay0&&true))&&true)=true;rw[HU (b c rfl) (a c rfl)];rfl
theorem abh(er:Option (Option Ch)):PyData.depthAll (wJ er)<=2:=by
 rcases er with _|_|c
 ·exact eo _
 ·exact eo _
 ·show max (max (max 0 (max 0 0)+1) (max (k8 c.file).depth 0)+1) 0<=2;rw[wL]
  decide
theorem abu{a b:Nat}(d:a<=2)(e:b<=2):max (a+1) (max (b+1) 0)+1<=4:=by omega
theorem ab1{u n:Nat}(h:u+787<=sL)(hn:n<=4):u+min n n<cLine:=by
 rw[Nat.min_self];exact sD (w9 hn u) (Nat.lt_of_lt_of_le (Nat.add_lt_add_left (by decide:4<787) u) (cu h (by decide)))
theorem Pc(y:dM nm)(G:ks≠[])(L:∀x∈ks,dM x.at_.file)(M:∀c,er=some (some c)->dM c.file)(Z:ks.length<=9000)(N:fF B v.m7 ds)(P:ks.map ly=ds.map (kg (k8 nm)))(t:∀k∈ks,okK k)(S:∀c,er=some (some c)->∀fs ft,c.file=.str ⟨⟨fs⟩⟩ ft->nB fs=true)(T:O7 B v.rl nm v.CE er)(hr:787<=room):
  Jq room (CF z c bV it v nm) (star (jQ er O Q v.g.i ks) (ce B)) (λE=>Pb B (iC (Vk er O Q))):=by
 have u:ks.length=ds.length:=by have:=b8 List.length P;simpa using this
 have U:ds≠[]:=λe=>G (List.eq_nil_of_length_eq_zero (by rw[u,e];rfl));have hW:∀(I:Around)(s:Shared)(F:bH)(FG:bR)(r0:bH)(g0:bR),gY room I->lh I (dC z.FL z.C it) F->star (jQ er O Q v.g.i ks) (ce B) r0 g0->Sat (bY w.params) os s ((CF z c bV it v nm).pre++(r0++F)) (g0++FG)->
   PySem.wpAt (model pz (wv w b1 b2)) I (dC z.FL z.C it) (exec Fl (cj z.FL z.C)) (λf J=>f=.next/\∃a r1 g1,(λ_:L2=>Pb B (iC (Vk er O Q))) a r1 g1/\Sat (bY w.params) os J ((λ(_ _:Nat)(_:L2)=>[(z.FL,eR z c bV v),(z.C,hZ nm)]) J.heap.objs.size J.toks a++(r1++F)) (g1++FG)) (λe J=>False) s:=by
  intro I s F FG r0 g0 H V hX hs;have H:=H.le hr;rw[Pa];refine Sx (by kernel_rfl) ?_;refine Yu (bV:=bV) (c:=c) (v:=v) (O:=O) (Q:=Q) (B:=B) G L M Z H (F:=[(z.C,hZ nm),(v.DU,br v.m7 v.dn),(v.RF,br v.CE 0)]++v.rl++F) (FG:=FG) (r0:=r0) (g0:=g0) (V.mono λp m=>dp _ m) hX (hs.perm ?_) ?_
  ·exact PT.q [_,_,_] [_,_,_,_,_] 0xaac0c1c2c3c4e0a12 0xac0c2ea1aac1c3c4e02 rfl
  rintro s1 a r1 g1 ⟨B1,h1,h2,X,q,bq,g2,g3,hk,⟨rfl,rfl⟩,D,hg⟩ Y;refine Yv (bV:=bV) (c:=c) (v:=v) y U (N.mono X) (by exact cu (nK u.symm) Z) H (F:=[(a.n 0,dm [.ref (a.n 1),.ref (a.n 2)] 0),(a.n 1,br (a.l 0) (a.n 3)),(a.n 2,br (a.l 1) 0)]++v.rl++q++F) (FG:=g2++FG) ((Y.perm ?_).fv ?_) ?_
  ·refine((D.append_right _).append_left _).trans ?_;exact PT.q [_,_,_,_] [_,_,_,_,_,_,_] 0xac0c1c2c3eaa01aac4c5c6e23 0xac0c4c5c6ea1aaac1c2c3e203 rfl
  ·simpa using hg.append_right FG
  rintro s2 b r2 g4 ⟨B2,k1,k2,rfl,rfl⟩ h;have K:∀p∈r2,p∈[(z.FL,eR z c bV v),(b.n 2,dm [.ref (b.n 3),.ref v.RF] 0),(b.n 3,br (b.l 0) (b.n 0)),(v.RF,br v.CE 0),(v.DU,br v.m7 v.dn),(z.C,hZ nm)]++(r2++([(a.n 0,dm [.ref (a.n 1),.ref (a.n 2)] 0),(a.n 1,br (a.l 0) (a.n 3)),(a.n 2,br (a.l 1) 0)]++v.rl++q++F)):=λp D=>dp _ (dQ _ D);have ra:=i6 (h.own (a.n 0,dm [.ref (a.n 1),.ref (a.n 2)] 0) (by simp) rfl) (.cons (k9 (h.own (a.n 1,br (a.l 0) (a.n 3)) (by simp) rfl) (Fx (h1.mono k2) L h K)) (.cons (k9 (h.own (a.n 2,br (a.l 1) 0) (by simp) rfl) (Fz (aaq h2 k2) M h K)) .nil));have rb:=i6 (h.own (b.n 2,dm [.ref (b.n 3),.ref v.RF] 0) (by simp) rfl) (.cons (k9 (h.own (b.n 3,br (b.l 0) (b.n 0)) (by simp) rfl) (Fy k1 y h K)) (.cons (k9 (h.own (v.RF,br v.CE 0) (by simp) rfl) (O8 (B:=r2) (rl:=v.rl) (nm:=nm) (er:=er) (jw (jw T X) k2) y h K (λp D=>by simp[D]))) .nil));rw[P]at ra;have j:PyData.canLayAll0 (ks.map ly)=true:=O9 ks λk o=>Sz (t k o).1 (t k o).2.1 (t k o).2.2.1 (HU (L k o) (t k o).2.2.2);rw[P]at j;have r:(PyData.tuple [.list (ds.map (kg (k8 nm))),.list (wJ er)]).canLay0=true:=by
   show(PyData.canLayAll0 _&&(PyData.canLayAll0 _&&true))=true;rw[j,aaU M S];rfl
  have hd:(PyData.tuple [.list (ds.map (kg (k8 nm))),.list (wJ er)]).depth<=4:=abu (rf ds λd E=>J2 (wL _)) (abh er);refine PySem.SeqAt.compareNe_reads ra rb r r (ab1 H.units hd) ?_;rw[CJ _ r];refine⟨rfl,rfl,cV [],q++r2,g2,⟨r2,λp D=>k2 p (X p D),q,r2,g2,[],hk,⟨rfl,rfl⟩,.refl _,by simp⟩,?_⟩;refine Sat.drop (R:=[(b.n 2,dm [.ref (b.n 3),.ref v.RF] 0),(b.n 3,br (b.l 0) (b.n 0)),(v.RF,br v.CE 0),(v.DU,br v.m7 v.dn),(a.n 0,dm [.ref (a.n 1),.ref (a.n 2)] 0),(a.n 1,br (a.l 0) (a.n 3)),(a.n 2,br (a.l 1) 0)]++v.rl) ((h.perm ?_).fv (by simp));exact PT.q [_,_,_,_] [_,_,_,_,_,_,_,_,_] 0xac0c1c2c3c4c5ea0aaac6c7c8e123 0xaac0c5eaa203ac1c2c3c4c6c7c8e1 rfl
 show dt pz (wv w b1 b2) (bY w.params) os room (dC z.FL z.C it) (fl (λe=>PySem.W.ZFast.zw12563942051412417395 ((dy (b9 (dH 28) 15)).drop 1) e) (dC z.FL z.C it)) _ _ (λE E E=>(fl (λe=>PySem.W.ZFast.zw12563942051412417395 ((dy (b9 (dH 28) 15)).drop 2) e) (dC z.FL z.C it),[(z.FL,eR z c bV v),(z.C,hZ nm)])) _;rw[nC]at hW;rw[nC,uH];exact zD (gP:=λE E E=>[(z.FL,eR z c bV v),(z.C,hZ nm)]) hW
end
end
section
open PySem.Builtin PySem.Builtin.Str
variable{v:m6}{nm:Value}
section
variable{prog:Program}{w:World}{kt:KT}{os:OsState}{room:Nat}{c:Code}{tr:Sem PySem.Fin}{pre:bH}{X Y:b7}{out:Nat->Nat->L2->Sem PySem.Fin×bH}{X':L2->b7}
theorem dt.star(h:dt prog w kt os room c tr pre X out X')(Y:b7):dt prog w kt os room c tr pre (Mine.Internal.star X Y) out (λa=>Mine.Internal.star (X' a) Y):=by
 rintro i j b k s F FG r0 g0 l ⟨r1,r2,g1,g2,n,o,q,r⟩ t u;refine h i j b k s (r2++F) (g2++FG) r1 g1 (l.mono λp m=>dp _ m) n ((t.perm ?_).fv ?_) ?_
 ·rw[<-bQ r1];exact fZ _ (q.append_right F)
 ·rw[<-bQ];exact r.append_right FG
 ·intro x a f g d e;exact u x a (f++r2) (g++g2) ⟨f,r2,g,g2,d,o,.refl _,.refl _⟩ (by simpa only[bQ]using e)
theorem dt.ex{ι:Type}{Y:ι->b7}{Z':L2->b7}(k:∀r g,X r g->∃i b d,r.Perm b/\g.Perm d/\Y i b d)(h:∀i,dt prog w kt os room c tr pre (Y i) out X')(l:∀a r g,X' a r g->Z' a r g):dt prog w kt os room c tr pre X out Z':=by
 intro m n e o s F FG r0 g0 p q t u;obtain⟨i,b,d,x,A,C⟩:=k _ _ q;exact h i m n e o s F FG b d p C ((t.perm ((x.append_right F).append_left pre)).fv (A.append_right FG)) λD a E G f j=>u D a E G (l _ _ _ f) j
end
def wM(er:Option (Option Ch))(Q:bH->Prop):bH->Prop:=match er with
 |none=>Q
 |some V=>λq=>q=[]
theorem HV{CO:Nat}{tr:Bool}{bN:List Nat}{er:Option (Option Ch)}{Q:bH->Prop}{q:bH}(h:Vk er (jN CO tr bN) (zh (JM CO tr bN Q)) q):∃a o,wM er Q a/\jN CO tr bN o/\q.Perm (a++o):=by
 cases er with
 |none=>
  obtain⟨_,p,⟨a,b,d,e,rfl⟩,f,rfl⟩:=h;exact⟨a,b++[(225,p)],d,⟨b,p,e,f,rfl⟩,by rw[bQ]⟩
 |some g=>exact⟨[],q,rfl,h,.refl _⟩
inductive oi(CO:Nat)(tr:Bool)(bN:List Nat)(B:bH)(r:bH)(g_:bR):Prop where|mk:∀o B' j,(jN CO tr bN o)->((∀p∈B,p∈B'))->(r.Perm (o++(B'++j)))->oi CO tr bN B r g_
structure vC(nm:Value)(ks:List lr)(ds:List qm)(er:Option (Option Ch)):Prop where(hn:dM nm)(ne:ks≠[])(f:∀x∈ks,dM x.at_.file)(o:∀c,er=some (some c)->dM c.file)(b:ks.length<=9000)(m:ks.map ly=ds.map (kg (k8 nm)))(ok:∀k∈ks,okK k)(or:∀c,er=some (some c)->∀fs ft,c.file=.str ⟨⟨fs⟩⟩ ft->nB fs=true)
def Vw(CO:Nat)(tr:Bool)(bN:List Nat)(Q:bH->Prop)(y:LawW)(Y0 FA:List lr)(lG lz:Option (Option Ch))(B:bH):b7:=
 star (star (jQ lG (jN CO tr bN) (zh (JM CO tr bN Q)) y.g1.i Y0) (ce B)) (so CO tr bN lz y.g2.i FA)
inductive HW(CO:Nat)(tr:Bool)(bN:List Nat)(Q:bH->Prop)(y:LawW)(FA:List lr)(lG lz:Option (Option Ch))(B:bH)(r:bH)(g:bR):Prop where|mk:∀B',((∀p∈B,p∈B'))->(star (star (jQ lz (jN CO tr bN) (zh (JM CO tr bN (λq=>q=[]))) y.g2.i FA) (ce B')) (iC (wM lG Q)) r g)->HW CO tr bN Q y FA lG lz B r g
theorem Pd{CO:Nat}{tr:Bool}{bN:List Nat}{Q:bH->Prop}{y:LawW}{FA:List lr}{lG lz:Option (Option Ch)}{B:bH}:∀r g,star (Pb B (iC (Vk lG (jN CO tr bN) (zh (JM CO tr bN Q))))) (so CO tr bN lz y.g2.i FA) r g->
  ∃e g',r.Perm e/\g.Perm g'/\HW CO tr bN Q y FA lG lz B e g':=by
 rintro r g ⟨r1,r2,g1,g2,⟨A,h,C,a2,f,D,⟨q,j,k,m⟩,⟨rfl,rfl⟩,b,d⟩,p,s,t⟩;obtain⟨a,o,u,ho,x⟩:=HV k;refine⟨(o++r2)++a2++(a++j),g2++f,?_,?_,a2,h,(o++r2)++a2,a++j,g2,f,⟨o++r2,a2,g2,[],p o ho,⟨rfl,rfl⟩,.refl _,by exact PT.perm [_] [] (.l 0) (.a (.l 0) .n) rfl⟩,⟨a,j,u,.refl _⟩,.refl _,.refl _⟩
 ·refine s.trans ((b.append_right r2).trans (((m.trans (x.append_right j)).append_right _).append_right _ |>.trans ?_));exact PT.q [_,_,_,_,_] [] 0xaaaa01234 0xaaa143a02 rfl
 ·refine t.trans ((d.append_right g2).trans ?_);exact PT.q [_,_] [] 0xaa0e1 0xa10 rfl
section
variable{room:Nat}{z:fH}{c:m5}{bV:Bool}{it:Nat}{CO:Nat}{tr:Bool}{bN:List Nat}{Q:bH->Prop}{y:LawW}{Y0 FA:List lr}{ds1 ds2:List qm}{lG lz:Option (Option Ch)}{B:bH}
theorem sv(l:v.g=y.g1)(h:vC nm Y0 ds1 lG)(a:fF B v.m7 ds1)(d:O7 B v.rl nm v.CE lG)(n:787<=room:=by decide):
  Jq room (CF z c bV it v nm) (Vw CO tr bN Q y Y0 FA lG lz B) (λx=>λr g=>∃j k,r.Perm j/\g.Perm k/\HW CO tr bN Q y FA lG lz B j k):=
 dt.ex (λr g e=>⟨(),r,g,.refl _,.refl _,e⟩) (λx=>by
  have:=(Pc (z:=z) (c:=c) (bV:=bV) (it:=it) (O:=jN CO tr bN) (Q:=zh (JM CO tr bN Q)) h.hn h.ne h.f h.o h.b a h.m h.ok h.or d n).star (so CO tr bN lz y.g2.i FA);rw[l]at this;exact this) λp r g e=>Pd r g e
theorem sw(F:v.g=y.g2)(h:vC nm FA ds2 lz)(t:fF B v.m7 ds2)(u:O7 B v.rl nm v.CE lz)(d:787<=room:=by decide):
  Jq room (CF z c bV it v nm) (λr g=>∃n s,r.Perm n/\g.Perm s/\HW CO tr bN Q y FA lG lz B n s) (λZ=>star (iC (wM lG Q)) (oi CO tr bN B)):=
 dt.ex (X':=λZ=>star (Pb B (iC (Vk lz (jN CO tr bN) (zh (JM CO tr bN (λq=>q=[])))))) (iC (wM lG Q))) (ι:={e:bH // ∀p∈B,p∈e}) (λr g ⟨n,s,d,k,e,G,l⟩=>⟨⟨e,G⟩,n,s,d,k,l⟩) (λe=>by
  have:=(Pc (z:=z) (c:=c) (bV:=bV) (it:=it) (O:=jN CO tr bN) (Q:=(zh (JM CO tr bN (λq=>q=[])))) h.hn h.ne h.f h.o h.b (t.mono e.2) h.m h.ok h.or (jw u e.2) d).star (iC (wM lG Q));rw[F]at this;exact dt.ex (λr g l=>⟨(),r,g,.refl _,.refl _,l⟩) (λZ=>this) λx r g ⟨r1,r2,g1,g2,⟨E,i,H⟩,A,d,k⟩=>⟨r1,r2,g1,g2,⟨E,λp C=>i p (e.2 p C),H⟩,A,d,k⟩) λx r g l=>by
  obtain⟨r1,r2,g1,g2,⟨E,i,L,a2,M,N,⟨q,j,I,J⟩,⟨rfl,rfl⟩,D,K⟩,A,d,k⟩:=l;obtain⟨a,o,P,ho,C⟩:=HV I;refine⟨r2,r1,g2,g1,A,⟨o,a2,a++j,ho,i,D.trans (((J.trans (C.append_right j)).append_right a2).trans ?_)⟩,d.trans fu,k.trans fu⟩;exact PT.q [_,_,_,_] [] 0xaaa0123 0xa1a3a02 rfl
inductive HX(B:bH)(y:LawW)(told:Int)(lG lz:Option (Option Ch)):Prop where
 |mk:∀(m:Nat)(c1 c2:Ch)(a1 a2 rt1 ct1 rt2 ct2:Nat),told=Int.ofNat m->m∈[2,3]->lG=some (some c1)->lz=some (some c2)->y.s2[m]?=some (.ref a1)->y.s1[m]?=some (.ref a2)->y.s2.length<=10000->y.s1.length<=10000->
  dr w.params B a1 (pi c1.row c1.col rt1 ct1)->dr w.params B a2 (pi c2.row c2.col rt2 ct2)->k8 (.str ⟨⟨[111,110,101,46,99]⟩⟩ y.ft)=k8 c1.file->k8 .none=k8 c2.file->HX B y told lG lz
def Pe(B:bH)(y:LawW)(a:Int)(lG lz:Option (Option Ch)):Prop:=
 (a = -2/\lG=none/\lz=none)\/(a = -1/\lG=some none/\lz=some none)\/
 HX B y a lG lz
def ltV(a b c d e:Nat):L2:=cV [a,b,c,d,e]
theorem uI{a n t:Nat}{i:Int}{vs:List Value}{v:Nat}(Y:b7)(d:0<=i)(e:i<vs.length)(f:vs.length<=10000)(j:vs[i.toNat]?=some (.ref v)):
  cN room (ux a vs n i t) Y (λb r g=>b.n 0=v/\Y r g):=
 bE.ej ((fM i.toNat f (by omega) (uD d e) j).fr Y) (λr g h=>⟨r,g,.refl _,.refl _,h⟩) λN t b r g h=>⟨cV [v],r,g,rfl,.refl _,.refl _,rfl,h⟩
theorem Jq.fact{k:vf}{p:Prop}{X:b7}{X':L2->b7}(h:p->Jq room k X X'):Jq room k (λr g=>p/\X r g) X':=
 dt.ex (ι:=PLift p) (λr g a=>⟨⟨a.1⟩,r,g,.refl _,.refl _,a.2⟩) (λi=>h i.down) λz z z a=>a
set_option maxHeartbeats 1000000 in
theorem J3(g:vC (.str ⟨⟨[111,110,101,46,99]⟩⟩ y.ft) Y0 ds2 lG)(i:vC .none FA ds1 lz)(b:fF B y.d1 ds1)(d:fF B y.d2 ds2)(O:Pe B y z.told lG lz)(J:bV=true->z.told = -2)(P:790<=room):
  lF room (wG z c bV y) (Vw CO tr bN Q y Y0 FA lG lz B) (λv=>star (iC (wM lG Q)) (oi CO tr bN B)):=by
 refine bO.mono ?_ P;have hz:z.wt z.told=z:=rfl;rcases O with⟨e,rfl,rfl⟩|⟨e,rfl,rfl⟩|⟨m,c1,c2,a1,a2,j,k,l,p,e,R,rfl,rfl,K,L,S,T,U,V,W,Z⟩
 ·rw[<-hz,e];cases bV with
  |false=>
   exact bO.o rfl (Fm z c y) (by intro q N t _;exists bz,b6 rfl;intro r a l1 _;exists cK,sv rfl g d rfl,0;exists bz,b6 rfl;intro f x A _;exists cK,sw rfl i b rfl,0;exists bz,cA rfl,0;exact cC (ltV a (a+1) (a+2) (a+5) (f+3)))
  |true=>
   exact bO.o rfl (Fn z c y) (by intro q N t _;exists bz,b6 rfl;intro r a l1 _;exists cK,sv rfl g d rfl,0;exists bz,b6 rfl;intro f x A _;exists cK,sw rfl i b rfl,0;exists bz,cA rfl,0;exact cC (ltV a (a+1) (a+2) (a+5) (f+3)))
 ·cases bV with
  |true=>exact absurd ((J rfl).symm.trans e) (by decide)
  |false=>
   rw[<-hz,e];exact bO.o rfl (Fo z c y) (by intro q N t _;exists bz,b6 rfl;intro r a l1 _;exists cK,sv rfl g d rfl,0;exists bz,b6 rfl;intro f x A _;exists cK,sw rfl i b rfl,0;exists bz,cA rfl,0;exact cC (ltV a (a+1) (a+2) (a+7) (f+3)))
 ·cases bV with
  |true=>exact absurd ((J rfl).symm.trans e) (λh=>nomatch h)
  |false=>
   rw[<-hz,e];have I:(Int.ofNat m)<(y.s2.length:Int):=by have:=(w5.1 K).1;exact Int.ofNat_le.2 this
   have lt2:(Int.ofNat m)<(y.s1.length:Int):=by have:=(w5.1 L).1;exact Int.ofNat_le.2 this
   exact bO.o rfl (Fp z c y m R) (by intro q N t _;exists bz,b6 rfl;intro r a l1 _;exists bx,uI _ (xm m) I S K;intro Na ta la _ _;exists cK,Jq.fact λea=>sv rfl g d ⟨Na,la.n 0,j,k,rfl,.head _,W,by rw[ea];exact U⟩,0;exists bz,b6 rfl;intro f x A _;exists bx,uI _ (xm m) lt2 T L;intro M tb lb _ _;exists cK,Jq.fact λeb=>sw rfl i b ⟨M,lb.n 0,l,p,rfl,.head _,Z,by rw[eb];exact V⟩,0;exists bz,cA rfl,0;exact cC (ltV a (a+1) (a+2) ta (M+1)))
end
end
section
open PySem.Builtin PySem.Builtin.Str
variable{CO ft kt:Nat}{y:pl}{fs bN:List Nat}{c:Code}{tr:Sem PySem.Fin}{pre:bH}{out:Nat->Nat->L2->Sem PySem.Fin×bH}{z:fH}{s1:Stmt}{rest:List Stmt}{p:eO}{ns:List Num}{X:b7}{v:m6}
theorem mw:(bJ (dH 28)).drop 16=b9 (dH 28) 16::(bJ (dH 28)).drop 17:=by kernel_rfl
section
variable{room:Nat}{Y:b7}
theorem FC{cf:Bool}{a:List Nat}{vt:Nat}(b:200<=room):gN room (zz CO y cf bN a kt vt).c (zz CO y cf bN a kt vt).pre bV (zz CO y cf bN a kt vt).out (λz=>bV):=
 bE.mono (bE.o rfl (JG CO y cf bN a kt vt) (by intro d N t _;exists bx,pr (ks:=ii y cf bN) (i:=1) rfl rfl (by kernel_rfl) (by kernel_rfl);intro _ _ l _ _;exact cC l)) b
theorem J4{cf:Bool}(a:200<=room):gN room (HN CO y cf bN kt).c (HN CO y cf bN kt).pre bV (HN CO y cf bN kt).out (λz=>bV):=
 bE.mono (bE.o rfl (Ou CO y cf bN kt) (by intro b N t _;exists bx,pr (ks:=ii y cf bN) (i:=0) rfl rfl (by kernel_rfl) (by kernel_rfl);intro _ _ l _ _;exact cC l)) a
theorem c9.HY(m:c=.func (bJ (dH 28)) (cj z.FL z.C))(g:tr=cg (dZ (.func (s1::rest) (cj z.FL z.C)))){gP:Nat->Nat->L2->bH}(d:out=λN t a=>(cg (dZ (.func rest (cj z.FL z.C))),gP N t a))(h:p.c=c)(i:p.t=lw s1 (cj z.FL z.C))(f:p.pre=pre)(b:250<=room)(e:iq 250 ns p)(H:∀N t,C1 ⟨false,λN t a=>(.ok .next,gP N t a),λy=>Y,[]⟩ ((p.lB N t).res ns N t) Y []):
  lX room c tr pre Y out (λy=>Y):=by
 subst g d f;rw[<-h];exact qe λn s F FG r0 g0 j k l=>qr (p:=p) (out:=λN t a=>(.ok .next,gP N t a)) (X:=Y) (X':=λy=>Y) i e H (λy y y=>rfl) (j.le b) k l
theorem Pf{a:Bool}(d:a=decide (z.tot.fmod 14=13))(j:250<=room):
  lX room (CB z y a).c (CB z y a).tr (CB z y a).pre Y (CB z y a).out (λx=>Y):=by
 have f:0<=z.tot.fmod 14:=i7 _ (by decide);have g:z.tot.fmod 14<14:=iG _ (by decide);by_cases b:z.tot.fmod 14=13
 ·have e1:a=true:=by rw[d];exact i9 b
  subst e1;exact c9.HY (z:=z) rfl (by show cg (dZ (.func ((bJ (dH 28)).drop 5) _))=_;rw[nv]) rfl rfl rfl rfl j (Ff z y) λN t=>⟨_,(ff (by decide) b).fr _,λx k x=>⟨_,(FC (by decide)).fr _,λx x x=>⟨rfl,λr0 g0 h=>⟨cV [k+2],r0,g0,rfl,h,.refl _,.refl _⟩,λh=>by cases h⟩⟩⟩
 ·have e1:a=false:=by rw[d];exact h8 b
  subst e1;obtain⟨e,d⟩:∃e:Nat,z.tot.fmod 14=Int.ofNat e:=⟨(z.tot.fmod 14).toNat,(xh f).symm⟩
  have i:e<13:=acL d g b;exact c9.HY (z:=z) rfl (by show cg (dZ (.func ((bJ (dH 28)).drop 5) _))=_;rw[nv]) rfl rfl rfl rfl j (Fe z y e (abH i)) λN t=>⟨_,(ff (by decide) d).fr _,λx k x=>⟨rfl,λr0 g0 h=>⟨cV [y.vt],r0,g0,rfl,h,.refl _,.refl _⟩,λh=>by cases h⟩⟩
theorem J5{tr:Bool}(a:(z.pw==[63,63,47,10])=tr)(b:250<=room):
  lX room (uz z y bN tr).c (uz z y bN tr).tr (uz z y bN tr).pre Y (uz z y bN tr).out (λx=>Y):=by
 cases tr with
 |true=>exact c9.HY (z:=z) rfl (by show cg (dZ (.func ((bJ (dH 28)).drop 6) _))=_;rw[nw]) rfl rfl rfl rfl (by exact b) (Fh z y bN) λN t=>⟨_,(gG a).fr _,λx d x=>⟨_,(J4 (by decide)).fr _,λx x x=>⟨rfl,λr0 g0 h=>⟨cV [],r0,g0,rfl,h,.refl _,.refl _⟩,λh=>by cases h⟩⟩⟩
 |false=>exact c9.HY (z:=z) rfl (by show cg (dZ (.func ((bJ (dH 28)).drop 6) _))=_;rw[nw]) rfl rfl rfl rfl (by exact b) (Fg z y bN) λN t=>⟨_,(gG a).fr _,λx d x=>⟨rfl,λr0 g0 h=>⟨cV [],r0,g0,rfl,h,.refl _,.refl _⟩,λh=>by cases h⟩⟩
def SA:b7:=λz z=>True
theorem c9.Vx(q:c=.func (bJ (dH 28)) (cj z.FL z.C))(f:tr=cg (dZ (.func (s1::rest) (cj z.FL z.C))))(b:out=λN t d=>(.pure (.done (.ret (.bool true))),[])){more:bH}(h:∀r g,X r g->∃j,(pre++r).Perm (p.pre++j))(i:p.c=c)(k:p.t=lw s1 (cj z.FL z.C))(a:150<=room)(e:iq 150 ns p)(H:∀N t,C1 ⟨false,λN t d=>(.ok (.ret (.bool true)),[]),λy=>SA,[]⟩ ((p.lB N t).res ns N t) SA []):
  lX room c tr pre X out (λy=>SA):=by
 subst f b;rw[<-i];refine Fs (gP:=λy y y=>[]) λu s F FG r0 g0 l m n=>?_;obtain⟨j,o⟩:=h _ _ m;exact qr (p:=p) (ρ:=.ret (.bool true)) (out:=λN t d=>(.ok (.ret (.bool true)),[])) (X:=SA) (X':=λy=>SA) k e H (λy y y=>rfl) (l.le a) trivial (r0:=j) (g0:=g0) (n.perm (by rw[<-bQ,<-bQ];exact o.append_right F))
inductive abJ(c:m5)(d k5 k6:Nat)(fs:List Nat)(ft:Nat)(C6:List Value)(pn:Nat)(q:bH):Prop where|mk:∀rt,(q=[(c.SF,ZN d),(d,ZO k5 k6 (.str ⟨⟨fs⟩⟩ ft) (Int.ofNat (C6.length+1)) rt),(c.R2,br C6 pn)])->abJ c d k5 k6 fs ft C6 pn q
theorem SE{c:m5}(a:z.told = -1\/z.told=2\/z.told=3)(b:150<=room):
  lX room (retS z c false v).c (retS z c false v).tr (retS z c false v).pre X (retS z c false v).out (λy=>SA):=by
 have hz:z.wt z.told=z:=rfl;have hd:cg (dZ (.func ((bJ (dH 28)).drop 16) (cj z.FL z.C)))=cg (dZ (.func (b9 (dH 28) 16::(bJ (dH 28)).drop 17) (cj z.FL z.C))):=by rw[mw]
 rw[<-hz];exact c9.Vx (z:=z) (more:=[]) rfl hd rfl (λr g y=>⟨r,.refl _⟩) rfl rfl b (OY z c v a) λN t=>⟨rfl,λr0 g0 h=>⟨cV [],r0,g0,rfl,h,.refl _,.refl _⟩,λh=>by cases h⟩
theorem adO{k:Nat}(h:k<41):k∈L41:=(by decide +kernel:∀k<41,k∈L41) k h
theorem SG{c:m5}{bV:Bool}{d k5 k6:Nat}{C6:List Value}{pn:Nat}(e:z.told = -2)(b:C6.length<41)(f:150<=room):
  lX room (retS z c bV v).c (retS z c bV v).tr (retS z c bV v).pre (iC (abJ c d k5 k6 fs ft C6 pn)) (retS z c bV v).out (λy=>SA):=by
 have hz:z.wt z.told=z:=rfl;have hd:cg (dZ (.func ((bJ (dH 28)).drop 16) (cj z.FL z.C)))=cg (dZ (.func (b9 (dH 28) 16::(bJ (dH 28)).drop 17) (cj z.FL z.C))):=by rw[mw]
 intro i k a l s F FG r0 g0 m n o;obtain⟨q,j,⟨rt,rfl⟩,u⟩:=m;have st:lX room (retS z c bV v).c (retS z c bV v).tr (retS z c bV v).pre (λr y=>r.Perm ([(c.SF,ZN d),(d,ZO k5 k6 (.str ⟨⟨fs⟩⟩ ft) (Int.ofNat (C6.length+1)) rt),(c.R2,br C6 pn)]++j)) (retS z c bV v).out (λy=>SA):=by
  rw[<-hz,e];exact c9.Vx (z:=z) (more:=[]) rfl hd rfl (λr g h=>⟨j,h.append_left _⟩) rfl rfl f (OZ z c v d k5 k6 fs ft rt C6 pn bV C6.length (adO b)) λN t=>⟨_,(mS rfl (by exact Nat.le_of_lt (Nat.lt_of_lt_of_le b (by decide)))).fr _,λy y y=>⟨rfl,λr0 g0 h=>⟨cV [],_,g0,rfl,trivial,.refl _,.refl _⟩,λh=>by cases h⟩⟩
 exact st i k a l s F FG r0 g0 u n o
theorem SH(a:300<=room):gN room (sfC fs ft).c (sfC fs ft).pre bV (sfC fs ft).out (λz=>bV):=
 bE.mono (bE.o rfl (E5 fs ft) (by intro b N t _;exact cC (cV [N+1,N,t+3,t+6,t+4]))) a
theorem FD{t a n:Nat}{vs:List Value}{x:List Nat}{rows:List (List Nat)}(h:eZ vs rows)(b:x=rows.flatten)(d:x.length<=100000):cN room (OS t a vs n x) bV (λz=>bV):=by
 obtain⟨e,rfl,rfl⟩:=h;subst b;exact jk d
end
end
noncomputable def ow(l:List Int):List (Int×Nat):=l.map λi=>(i,0)
def jB(cuts:List Int)(sm:List Nat)(l:List MS):ec:=l.foldl (λg i=>gx (ow cuts) sm g i.1 i.2) iS
theorem Pg(cv:List (Int×Nat))(sm:List Nat):gI cv sm=gI (ow (cv.map (·.1))) sm:=by
 funext s c
 have e:(cv.any λp=>p.1==s.at_)=((ow (cv.map (·.1))).any λp=>p.1==s.at_):=by
  unfold ow;simp[Function.comp_def]
 unfold gI;rw[e]
theorem CK(cv:List (Int×Nat))(sm:List Nat)(l:List ht):lv cv sm l=jB (cv.map (·.1)) sm (l.map ms):=by
 unfold lv jB;rw[List.foldl_map]
 congr 1
 funext g i
 unfold rd gx ms;rw[Pg]
def kh(ns:List Int):oh:=fm ns.sum ⟨[],[],0⟩ ns
def gb(ns:List Int):V4:=rP (ns.sum.fmod 14).toNat
def ca(ns:List Int):List MS:=(kh ns).its++(gb ns).its.map ms
def fU(ns:List Int):List Nat:=mR.getD ((ns.sum.fdiv 14).fmod 3).toNat []
def lf(ns:List Int):List Int:=iA (bM ((gb ns).its.map ms)) (ns.sum.fdiv 42) (kh ns).size
def dE(ns:List Int):List Int:=(kh ns).cuts++lf ns
def ki(ns:List Int):ec:=jB [] [] (ca ns)
def gq(ns:List Int):ec:=jB (dE ns) (fU ns) (ca ns)
def nD(ns:List Int):Bool:=fU ns==[63,63,47,10]
noncomputable def oj(ns:List Int):Bool:=decide (ns.sum.fmod 14=13)
def zL(ns:List Int):List Nat:=cond (oj ns) [99,56,57] [99,57,57]
def ol(ns:List Int):List Nat:=(ki ns).cM.flatten
noncomputable def hO(l:List (List Nat)):List PySem.Str:=l.map λx=>⟨⟨x⟩⟩
noncomputable def jT(ft:Nat):Value:=.str ⟨⟨[111,110,101,46,99]⟩⟩ ft
inductive Ph(told:Int)(sp1 Hs:List (Int×Int))(lG lz:Option (Option Ch)):Prop where|mk:∀(m:Nat)(c1 c2:Ch),told=Int.ofNat m->m∈[2,3]->lG=some (some c1)->lz=some (some c2)->Hs[m]?=some (c1.row,c1.col)->sp1[m]?=some (c2.row,c2.col)->Ph told sp1 Hs lG lz
def Vy(a:Int)(d e:List (Int×Int))(b c:Option (Option Ch)):Prop:=
 (a = -2/\b=none/\c=none)\/(a = -1/\b=some none/\c=some none)\/
 Ph a d e b c
inductive Vz(ns:List Int)(init:List PySem.Str)(last:PySem.Str)(ft ft2:Nat):Prop where
 |mk:∀τ ts1 lG ts2 lz,(if nD ns then cf [] (cw (jT ft) 1 (hO (gq ns).cM))else some (cw (jT ft) 1 (hO (gq ns).cM)))=some τ->(∀c∈τ,Kl c)->JO (nD ns) (zL ns) (lp τ) ts1 lG->
   JO (nD ns) (zL ns) (cw .none 1 (fz init last)) ts2 lz->vC (jT ft2) (lu lG ts1) (gq ns).gR lG->vC .none (lu lz ts2) (ki ns).gR lz->Vy (gb ns).told (ki ns).s.bT (gq ns).s.bT lG lz->
   (∀c,lG=some (some c)->k8 c.file=k8 (jT ft))->(∀c,lz=some (some c)->k8 c.file=k8 .none)->Vz ns init last ft ft2
inductive Pj(ns:List Int):Prop where|mk:∀init last,iX ⟨⟨ol ns⟩⟩=init++[last]->(∀x∈init,x.length<=9000)->init.length<=9000->last.cps.toList.length<=52->(∀s∈fz init last,jj s)->(∀ft ft2,Vz ns init last ft ft2)->Pj ns
structure sx(ns:List Int):Prop where(its:∀i∈ca ns,i.2≠[]/\i.2.all (· < 128)=true)(ne:ca ns≠[])(len:(bM (ca ns)).length<=1000/\(ca ns).length<=1000)(la1:(ki ns).first=true->(ki ns).last≠none)(la2:(gq ns).first=true->(gq ns).last≠none)(rows:(gq ns).cM.length<41)(sp:(ki ns).s.bT.length<=9000/\(gq ns).s.bT.length<=9000)(ok2:∀s∈hO (gq ns).cM,jj s)(txt:(ol ns).length<=9000/\1<=(ol ns).length)(parts:Pj ns)
section
noncomputable def om:Res->Prop|.fin seg Y V U T=>seg=false|.call Y false V U T O M J next=>∀N t a,om (next N t a)|.step Y V U T O M J I next=>∀N t a,om (next N t a)|.dG Y o r=>jW o=false/\om r|Y=>False
section
variable{prog:Program}{w:World}{kt:KT}{os:OsState}{α:Type}{acj:Nat}{It:α->Value->bH->Prop}{bL:Result->bH->bR->Prop}{G:Gl α}{σ:List α}
theorem Holds.Y1{ι:Type}(I:G.seg=false)(H:1000<=acj)(r:Res):∀{X:b7}{Y:ι->b7},(∀r g,X r g->∃i,Y i r g)->om r->(∀i,Holds prog w kt os acj It bL G r (Y i) σ)->Holds prog w kt os acj It bL G r X σ:=by
 induction r with
 |fin seg r L N t=>
  intro X Y f d h;subst d;refine⟨I.symm,λr0 g0 q=>?_,λq=>nomatch q⟩;obtain⟨i,q⟩:=f _ _ q;exact(h i).2 r0 g0 q
 |call e seg c room pre N t out next l=>
  intro X Y f d h;cases seg with
  |true=>cases e<;>exact d.elim
  |false=>
   cases e with
   |false=>
    replace h:=λi=>H1.ex (h i)
    refine⟨λb r g=>∃i,(Classical.choose (h i)) b r g,?_,λN t b=>?_⟩
    ·exact bE.dP (bE.Zb λi=>bE.dP (jC (h i)).1 (λZ Z q=>q) λb r g q=>⟨i,q⟩) f λZ Z Z q=>q
    ·exact l N t b (λZ Z q=>q) (d N t b) λi=>(jC (h i)).2 N t b
   |true=>
    replace h:=λi=>H1.ex (h i)
    refine⟨λb r g=>∃i,(Classical.choose (h i)) b r g,⟨H,?_⟩,λN t b=>?_⟩
    ·intro A s F FG r0 g0 n B p u;obtain⟨i,v⟩:=f _ _ p;refine dj ((jC (h i)).1.2 A s F FG r0 g0 n B v u) ?_;rintro r z ⟨b,x,y,j,e,k⟩;exact⟨b,x,y,⟨i,j⟩,e,k⟩
    ·exact l N t b (λZ Z q=>q) (d N t b) λi=>(jC (h i)).2 N t b
 |step e c room tr pre N t out next l=>
  intro X Y f d h;cases e with
  |false=>
   replace h:=λi=>H1.ex (h i)
   refine⟨λb r g=>∃i,(Classical.choose (h i)) b r g,?_,λN t b=>?_⟩
   ·intro C D m n s F FG r0 g0 p u E;obtain⟨i,v⟩:=f _ _ p;exact(jC (h i)).1 C D m n s F FG r0 g0 v u λz b x y j k=>E z b x y ⟨i,j⟩ k
   ·exact l N t b (λZ Z q=>q) (d N t b) λi=>(jC (h i)).2 N t b
  |true=>
   replace h:=λi=>H1.ex (h i)
   refine⟨λb r g=>∃i,(Classical.choose (h i)) b r g,⟨H,?_⟩,λN t b=>?_⟩
   ·intro C D m n s F FG r0 g0 B p u E;obtain⟨i,v⟩:=f _ _ p;exact(jC (h i)).1.2 C D m n s F FG r0 g0 B v u λz b x y j k=>E z b x y ⟨i,j⟩ k
   ·exact l N t b (λZ Z q=>q) (d N t b) λi=>(jC (h i)).2 N t b
 |dG a o r l=>
  intro X Y f d h;refine⟨⟨d.1,λr0 g0 q=>?_⟩,l f d.2 λi=>(h i).2⟩;obtain⟨i,q⟩:=f _ _ q;exact(h i).1.2 r0 g0 q
 |_=>intro X Y f d h;exact d.elim
theorem Holds.HZ(b:G.seg=false)(c:1000<=acj){r:Res}{X Y:b7}{p:Prop}(a:∀r g,X r g->p/\Y r g)(d:om r)(h:p->Holds prog w kt os acj It bL G r Y σ):Holds prog w kt os acj It bL G r X σ:=
 Holds.Y1 b c r (ι:=PLift p) (λr g q=>⟨⟨(a r g q).1⟩,(a r g q).2⟩) d λi=>h i.down
end
end
section
open PySem.Builtin PySem.Builtin.Str
variable{B pre:bH}{X Y Z:b7}{CO a room:Nat}{p:Prop}{prog:Program}{kt:KT}{c:Code}{tr:Sem PySem.Fin}{out:Nat->Nat->L2->Sem PySem.Fin×bH}{X':L2->b7}{R:Res}
theorem abK:∀{i:Nat},i<14->(bY w.params).get (rP i).a=some (dm [.ref (rP i).l,.int (rP i).told (rP i).tt] 0)
 |0,Y=>by kernel_rfl
 |1,Y=>by kernel_rfl
 |2,Y=>by kernel_rfl
 |3,Y=>by kernel_rfl
 |4,Y=>by kernel_rfl
 |5,Y=>by kernel_rfl
 |6,Y=>by kernel_rfl
 |7,Y=>by kernel_rfl
 |8,Y=>by kernel_rfl
 |9,Y=>by kernel_rfl
 |10,Y=>by kernel_rfl
 |11,Y=>by kernel_rfl
 |12,Y=>by kernel_rfl
 |13,Y=>by kernel_rfl
 |Y+14,h=>absurd h (Nat.not_lt_of_le (jE _ _))
theorem Yw:∀i<14,(rP i).its.length<=4/\(ku (rP i).its).length<=10/\((rP i).its.all λx=>decide (x.a≠(rP i).l))=true:=by decide +kernel
theorem wN{o:Obj}(h:(a,o)∈B):∀r0 g0,star (ce B) Y r0 g0->(a,o)∈r0\/p:=by
 rintro r0 g0 ⟨r1,r2,g1,g2,⟨rfl,rfl⟩,_,b,_⟩;exact .inl (b.mem_iff.2 (dQ _ h))
def Yx(ns:List (Int×Nat))(S:Nat)(xs:List Value)(n:Nat):Fq where
 S:=S
 xs:=xs
 n:=n
 ys:=df ns
 tot:=(ns.map λx:Int×Nat=>x.1).sum
 e:=(ns.map λx:Int×Nat=>x.1).sum.fmod 14
 q:=(ns.map λx:Int×Nat=>x.1).sum.fdiv 14
 sm:=((ns.map λx:Int×Nat=>x.1).sum.fdiv 14).fmod 3
 ea:=(gb (ns.map λx:Int×Nat=>x.1)).a
 eL:=(gb (ns.map λx:Int×Nat=>x.1)).l
 told:=(gb (ns.map λx:Int×Nat=>x.1)).told
 tt:=(gb (ns.map λx:Int×Nat=>x.1)).tt
 zC:=ek (gb (ns.map λx:Int×Nat=>x.1)).its
 pw:=fU (ns.map λx:Int×Nat=>x.1)
 Su:=oj (ns.map λx:Int×Nat=>x.1)
 tr:=nD (ns.map λx:Int×Nat=>x.1)
 sz:=(kh (ns.map λx:Int×Nat=>x.1)).size
 Ks:=(ns.map λx:Int×Nat=>x.1).sum.fdiv 42
 CG:=lf (ns.map λx:Int×Nat=>x.1)
 r1:=(ki (ns.map λx:Int×Nat=>x.1)).s.row
 r2:=(gq (ns.map λx:Int×Nat=>x.1)).s.row
 txt:=ol (ns.map λx:Int×Nat=>x.1)
theorem Pk{vs:List Value}{rows:List (List Nat)}(h:eZ vs rows):vs.map txt=(hO rows).map some:=by
 obtain⟨b,rfl,rfl⟩:=h;simp[iQ,hO,Function.comp_def,txt]
section
theorem CL(Z:b7):gN 300 (Vd CO).c (Vd CO).pre Z (Vd CO).out (λb r g=>642<=b.n 0/\cl Z r g):=
 bE.dP ((Sh (CO:=CO)).star Z) (λr g d=>⟨[],r,[],g,⟨rfl,rfl⟩,d,.refl _,.refl _⟩) (λb r g ⟨r1,r2,i,e,⟨e1,e2,e3⟩,d,f,h⟩=>⟨e3,r2,e,by subst e1;exact f,by subst e2;exact h,d⟩)
theorem FE{k:cX}{W:L2->b7}(h:cN room k bV W):cN room k (cl Z) (λb=>star Z (W b)):=
 bE.dP (h.star (cl Z)) (λr g i=>⟨[],r,[],g,⟨rfl,rfl⟩,i,.refl _,.refl _⟩) λb r g ⟨r1,r2,f,s,j,⟨l,m,d,e,n⟩,o,q⟩=>⟨l,r1,m,f,n,j,(o.trans fu).trans (d.append_right r1),(q.trans fu).trans (e.append_right f)⟩
theorem da.at{B:bH}{vs:List Value}{e:List (Int×Int)}(h:da B vs e){m:Nat}{x:Int×Int}(b:e[m]?=some x):∃p:XW,vs[m]?=some (.ref p.a)/\(p.r,p.c)=x/\dr w.params B p.a (pi p.r p.c p.rt p.ct):=by
 refine cm ?_;intro G0;obtain⟨ps,rfl,rfl,f⟩:=h;rw[lJ]at b;refine cm ?_;intro G0;cases d:ps[m]? with
 |none=>rw[d]at b;cases b
 |some p=>
  rw[d]at b;injection b with b;exact⟨p,by rw[lJ,d];rfl,b,f p (xf d)⟩
theorem vC.tok{b:Nat}{ks:List lr}{d:List qm}{er:Option (Option Ch)}(h:vC (jT a) ks d er):vC (jT b) ks d er:=
 ⟨.inr ⟨_,_,rfl⟩,h.ne,h.f,h.o,h.b,h.m,h.ok,h.or⟩
theorem c9.dP{w:World}{os:OsState}(h:c9 prog w kt os room c tr pre X out X')(d:∀r g,Z r g->X r g):c9 prog w kt os room c tr pre Z out X':=
 λe f b i s F FG r0 g0 j k l=>h e f b i s F FG r0 g0 (d _ _ j) k l
theorem c9.star{w:World}{os:OsState}(h:c9 prog w kt os room c tr pre X out X')(Y:b7):c9 prog w kt os room c tr pre (Mine.Internal.star X Y) out (λb=>Mine.Internal.star (X' b) Y):=by
 rintro j k d l s F FG r0 g0 ⟨r1,r2,g1,g2,m,n,o,q⟩ r t;refine h j k d l s (r2++F) (g2++FG) r1 g1 m ((r.perm ?_).fv ?_) ?_
 ·rw[<-bQ r1];exact fZ _ (o.append_right F)
 ·rw[<-bQ];exact q.append_right FG
 ·intro u b g i e f;exact t u b (g++r2) (i++g2) ⟨g,r2,i,g2,e,n,.refl _,.refl _⟩ (by simpa only[bQ]using f)
theorem oi.law{tr:Bool}{bN:List Nat}{r:bH}{g:bR}(d:fS B)(h:star X (oi CO tr bN B) r g):nV r g:=by
 obtain⟨r1,r2,g1,g2,_,⟨_,e,j,⟨o,p,_,f,rfl⟩,b,i⟩,k,_⟩:=h;refine⟨p,e,j++(r1++o),f,d.mono b,k.trans ((i.append_left r1).trans ?_)⟩;exact PT.q [_,_,_,_] [_] 0xa0aa1c0ea23 0xc0a2a3a01 rfl
theorem HE.Y1{b:Type}{E:HE b}{σ:List b}{ι:Type}{Y:ι->b7}(d:E.G.seg=false)(he:E.e=true)(f:∀r g,X r g->∃i,Y i r g)(j:om R)(h:∀i,let k:=Y i;E.H R k σ):E.H R X σ:=Holds.Y1 d (E.he he) R f j h
theorem HE.HZ{b:Type}{E:HE b}{σ:List b}(d:E.G.seg=false)(he:E.e=true)(f:∀r g,X r g->p/\Y r g)(i:om R)(h:p->let j:=Y;E.H R j σ):E.H R X σ:=Holds.HZ d (E.he he) f i h
abbrev FF(L:bH)(r:Res)(X:b7):Prop:=TU 1000 (λ(_:Unit) _ _=>False) (λz z z=>False) ⟨false,λz z z=>(rV (.bool true),L),λz=>nV,[]⟩ r X []
set_option maxHeartbeats 2000000 in
theorem pA{d:Fq}{z:fH}{op:pl}{b:hM}{bV:Bool}{au K av T:L2}{xs:List Value}{U V aw:Nat}{cs:List Value}{nu:List Int}(F:sx nu){its:List ht}{cv:List (Int×Nat)}(W:fS B)(ax:xs=ek its)(D:its.map ms=ca nu)(ay:∀i∈its,dr w.params B i.a (rN i))(az:cs=df cv)(aA:cv.map (·.1)=dE nu)(hz:z.told=(gb nu).told)(he:bV=true->z.told = -2)(d1:d.pw=fU nu)(d2:d.r1=(ki nu).s.row)(d3:d.r2=(gq nu).s.row)(d4:d.tr=nD nu)(d5:cond d.Su [99,56,57] [99,57,57]=zL nu)(d6:d.txt=ol nu){aB aC aD aE aF aG aH aI aJ aa ab:ND}{aK:Nat}{ns:List Num}{N t:Nat}:
  FF [(d.S,br d.xs d.n)] ((og d z op b bV au K av T xs U V aw cs).res (.n aB 847::.n aC 847::.n aD 847::.n aE 847::.n aF 847::.n aG 847::.n aH 847::.n aI 847::.n aJ 847::.n aa 847::.n ab aK::ns) N t) (star (ce B) Pl):=by
 subst ax az;have k:=vp;have bc:gQ its=(bM (ca nu)).length:=by
  rw[<-D,zF];unfold ku Gt gQ;simp[List.length_flatten,Function.comp_def]
 have aM:its.length=(ca nu).length:=by rw[<-D];simp
 have ac:its≠[]:=λe=>F.ne (by rw[<-D,e];rfl);have be:=F.len.1;have bf:=F.len.2;have ae:iR iS its:=by
  refine⟨?_,?_,?_⟩
  ·show 0+0+4*gQ its<=9000;omega
  ·show 0+8*gQ its<=9000;omega
  ·show 0+its.length<=9000;omega
 have af:∀v,(∀p∈B,p∈v)->∀i∈its,vx v i:=λv hB i hi=>by
  have:=F.its (ms i) (by rw[<-D];exact dO.2 ⟨i,hi,rfl⟩);exact⟨(ay i hi).mono hB,this.1,this.2⟩
 have aN:d.pw.length<=10:=by
  rw[d1];unfold fU;have h3:∀k,(mR.getD k []).length<=10:=λk=>by
   match k with
   |0=>decide
   |1=>decide
   |2=>decide
   |k+3=>exact eo _
  exact h3 _
 have g1:lv [] [] its=ki nu:=by rw[CK,D];rfl
 have g2:lv cv d.pw its=gq nu:=by rw[CK,D,aA,d1];rfl
 obtain⟨init,last,aO,aP,aQ,aR,aS,aT⟩:=F.parts;have L1:=(Cw (room:=847) (p:=⟨K.n 0,U,V+1,[],ek its,0,[],0,d.r1⟩) (cv:=[]) (B:=B) ac rfl rfl (eo _) ae (af B λc h=>h) (by rw[g1];exact d2) (by rw[g1];exact F.la1)).star Pl;rw[g1]at L1;refine HE.of ?_;intro E0 _;exists bx,L1;intro bg bh u _ _;refine HE.Y1 rfl rfl (ι:={v:bH//eZ (u.l 1) (ki nu).cM/\da v (u.l 2) (ki nu).s.bT/\fF v (u.l 0) (ki nu).gR/\(∀p∈B,p∈v)}) (Y:=λv=>star (ce v.1) Pl) (λr g ⟨r1,r2,H,G,⟨v,a1,a2,a3,a4,a5⟩,hP,hr,hg⟩=>⟨⟨v,a1,a2,a3,a4⟩,r1,r2,H,G,a5,hP,hr,hg⟩) (λc c c c c c c c c c c c c c c c c c c c c c c c c c c=>rfl) ?_;rintro⟨B1,aU,ai,aV,aj⟩ _;have L2:=(Cw (room:=847) (p:=⟨K.n 0,T.n 0,z.st,d.pw,ek its,0,df cv,0,d.r2⟩) (cv:=cv) (B:=B1) ac rfl rfl aN ae (af B1 aj) (by rw[g2];exact d3) (by rw[g2];exact F.la2)).star Pl;rw[g2]at L2;exists bx,L2;intro aW I o _ _;refine HE.Y1 rfl rfl (ι:={v:bH//eZ (o.l 1) (gq nu).cM/\da v (o.l 2) (gq nu).s.bT/\fF v (o.l 0) (gq nu).gR/\(∀p∈B1,p∈v)}) (Y:=λv=>star (ce v.1) Pl) (λr g ⟨r1,r2,H,G,⟨v,a1,a2,a3,a4,a5⟩,hP,hr,hg⟩=>⟨⟨v,a1,a2,a3,a4⟩,r1,r2,H,G,a5,hP,hr,hg⟩) (λc c c c c c c c c c c c c c c c c c c c c c c c=>rfl) ?_;rintro⟨L,ak,Hs,aX,M⟩ _;exists bz,SH (db rfl);intro bi bj E _;exists bx,bE.mono (CL (star (ce L) Pl)) (db rfl);intro C bm aY _ _;refine HE.HZ rfl rfl (λr g O=>O) (λc c c c c c c c c c c c c c c c c c=>rfl) ?_;intro aZ _;refine cm ?_;intro G0;obtain⟨τ,bn,al,bo,lz,x1,x2,x3,x4,x5,x6,x7,x8,x9⟩:=aT (I+3) aW;rw[<-d4]at x1;rw[<-d4,<-d5]at x3 x4;have am:(o.l 1).length=(hO (gq nu).cM).length:=by rw[ak.len];simp[hO]
 have an:WT C (o.n 2) (o.n 5) (o.l 1) (hO (gq nu).cM) [(C,eB (o.n 2) 0),(o.n 2,br (o.l 1) (o.n 5))] []:=⟨0,rfl,rfl,Pk ak⟩
 have lx:=OK (x:=cY z.CO aY gn0) aZ (y:={ sfA E with f:=C }) (fn:=jT (I+3)) (.inl ⟨_,_,rfl⟩) (row:=1) (dk:=Int.ofNat ((o.l 1).length+1)) (rt:=E.n 4) (op:=op) (tr:=d.tr) (bN:=cond d.Su [99,56,57] [99,57,57]) (Src:=WT C (o.n 2) (o.n 5) (o.l 1)) (f8:=own [(o.n 2,br (o.l 1) (o.n 5))]) (Q:=λq=>q=[(o.n 2,br (o.l 1) (o.n 5))]) QR X3 (ss:=hO (gq nu).cM) F.ok2 (by rw[am];show(1:Int)+_=((_+1:Nat):Int);omega) x1 x2 x3 (room:=847) (by decide);exists bx,bE.dX (lx.star (ce L)) (λr g ⟨r',g',hr,hg,a1,a2,H,G,⟨e1,e2⟩,hP,a0,a6⟩=>⟨([(C,eB (o.n 2) 0),(o.n 2,br (o.l 1) (o.n 5))]++a2)++L,?_,[(C,eB (o.n 2) 0),(o.n 2,br (o.l 1) (o.n 5))]++a2,L,G,[],⟨_,a2,[],G,an,hP,.refl _,.refl _⟩,⟨rfl,rfl⟩,.refl _,hg.trans (a6.trans (by subst e2;exact PT.q [_] [] 0xae0 0xa0e rfl))⟩);rotate_left 1;intro ao P ap _ _;rotate_left 1
 ·subst e1;rw[bQ];exact((hr.trans a0).trans fu).append_left _
 exists bx,bE.mono (CL _) (db rfl);intro bp bq a7 _ _;refine HE.HZ rfl rfl (λr g O=>O) (λc c c c c c c c c c c c=>rfl) ?_;intro a8 _;have aq:=F.txt;exists bx,bE.fr (FD aU d6 (by rw[d6];omega)) _,0;exists bx,FE (JP (x:=cY z.CO a7 gn0) a8 (s:=⟨⟨d.txt⟩⟩) (by rw[d6];exact aO) (by rw[d6];exact aq.2) (by rw[d6];exact aq.1) aP aQ aR aS x4 (room:=847) (by decide));intro J bw ar _ _;have a9:Pe L ⟨J+2,ao,J,hU ap hT ql,hU ar hT ql,P,u.l 0,u.n 4,o.l 0,o.n 4,u.l 2,u.n 6,o.l 2,o.n 6⟩ z.told al lz:=by
  rw[hz];refine cm ?_;intro G0;rcases x7 with h|h|⟨m,H,G,e1,e2,e3,e4,e5,e6⟩
  ·exact .inl h
  ·exact .inr (.inl h)
  ·refine .inr (.inr ?_);refine cm ?_;intro G0;obtain⟨q1,f1,f2,f3⟩:=Hs.at e5;refine cm ?_;intro G0;obtain⟨q2,f4,f5,f6⟩:=(ai.mono M).at e6;refine⟨m,H,G,q1.a,q2.a,q1.rt,q1.ct,q2.rt,q2.ct,e1,e2,e3,e4,f1,f4,?_,?_,?_,?_,(x8 H e3).symm,(x9 G e4).symm⟩
   ·show(o.l 2).length<=10000;rw[Hs.len];have:=F.sp.2;omega
   ·show(u.l 2).length<=10000;rw[ai.len];have:=F.sp.1;omega
   ·have g1:=b8 Prod.fst f2;have g2:=b8 Prod.snd f2;simp only at g1 g2;rw[<-g1,<-g2];exact f3
   ·have g1:=b8 Prod.fst f5;have g2:=b8 Prod.snd f5;simp only at g1 g2;rw[<-g1,<-g2];exact f6
 exists cF,bO.dP (J3 (z:=z) (bV:=bV) (CO:=z.CO) (tr:=d.tr) (bN:=cond d.Su [99,56,57] [99,57,57]) (Q:=Sn { sfA E with f:=C } (jT (I+3)) (Int.ofNat ((o.l 1).length+1)) (λq=>q=[(o.n 2,br (o.l 1) (o.n 5))])) (y:=⟨J+2,ao,J,hU ap hT ql,hU ar hT ql,P,u.l 0,u.n 4,o.l 0,o.n 4,u.l 2,u.n 6,o.l 2,o.n 6⟩) (B:=L) (x5.tok (b:=P)) x6 (aV.mono M) aX a9 he (db rfl)) (λr g O=>O) λc c c O=>O,0;refine cS (X':=λc=>star SA (oi z.CO d.tr (cond d.Su [99,56,57] [99,57,57]) L)) rfl ?_ ?_;rotate_left 1;intro bB bC bD _ _;exact cB rfl rfl (λr0 g0 h=>⟨cV [],r0,g0,rfl,oi.law ((W.mono aj).mono M) h,.refl _,.refl _⟩) (λh=>nomatch h);refine c9.star ?_ _;by_cases A:z.told = -2
 ·have e1:al=none:=by
   rcases x7 with h|h|⟨m,H,G,e1,e2,_⟩
   ·exact h.2.1
   ·rw[hz]at A;rw[h.1]at A;cases A
   ·rw[hz,e1]at A;cases A
  subst e1;refine c9.dP (SG (d:=E.n 1) (k5:=E.n 2) (k6:=E.n 3) (fs:=[111,110,101,46,99]) (ft:=I+3) (C6:=o.l 1) (pn:=o.n 5) A (by rw[am];have:=F.rows;simpa[hO]using this) (db rfl)) λr g ⟨q,j,⟨rt,a,ha,hq⟩,hj⟩=>⟨q,j,⟨rt,?_⟩,hj⟩
  rw[hq,ha];rfl
 ·have ba:bV=false:=by
   cases bV with
   |true=>exact absurd (he rfl) A
   |false=>rfl
  subst ba;refine SE ?_ (db rfl);refine cm ?_;intro G0;rcases x7 with h|h|⟨m,H,G,e1,e2,_⟩
  ·exact absurd (hz.trans h.1) A
  ·exact .inl (hz.trans h.1)
  ·have bb:m=2\/m=3:=by simpa using e2
   rcases bb with rfl|rfl
   ·exact .inr (.inl (hz.trans e1))
   ·exact .inr (.inr (hz.trans e1))
end
end
section
open PySem.Builtin PySem.Builtin.Str
variable{nl:List Num}{N S n t:Nat}{xs:List Value}{B:bH}{dd1 dd2 dd3 dd4 dd5:ND}{d:Fq}
theorem SI(a:L2){i:Int}(b:0<=i)(c:i<3):∃e,(ON a)[i.toNat]?=some (.str ⟨⟨mR.getD i.toNat []⟩⟩ e):=by
 obtain⟨k,rfl⟩:=Int.eq_ofNat_of_zero_le b;rcases XZ (Int.ofNat_lt.1 c)with rfl|rfl|rfl
 ·exact⟨_,rfl⟩
 ·exact⟨_,rfl⟩
 ·exact⟨_,rfl⟩
theorem on(a:Int):∀(ns:List Int)(s:oh),(fm a s ns).its.length<=s.its.length+5*ns.length/\(fm a s ns).cuts.length<=s.cuts.length+ns.length
 |[],s=>⟨cO _,cO _⟩
 |n::ns,s=>by
  have b:=mu a s n;have c:=on a ns (gk a s n);rw[List.length_cons];exact⟨cu c.1 (cu (Nat.add_le_add_right b.1 _) (nK (by rw[Nat.mul_succ,Gb,Nat.add_comm 5]))),cu c.2 (cu (Nat.add_le_add_right b.2 _) (nK (by rw[Gb,Nat.add_comm 1])))⟩
theorem zM(ns:List Int):(ns.sum.fmod 14).toNat<14:=by
 have a:ns.sum.fmod 14<14:=iG _ (by decide);omega
section
theorem J6{L:bH}{k:cX}{next:Nat->Nat->L2->hS}{X:b7}{X':L2->b7}{b:ND}(f:k.e=false)(h:gN 847 k.c k.pre X k.out X')(hn:∀N t a,FF L ((next N t a).res nl N t) (X' a)):
  FF L ((hS.con k next).res (.n b 847::nl) N t) X:=by
 obtain⟨e,c,pre,out⟩:=k;cases f;exact⟨X',h,hn⟩
set_option maxHeartbeats 2000000 in
theorem pB{ns:List (Int×Nat)}{j:fH->hM->cX}{next:fH->pl->hM->L2->Nat->Nat->hS}{Xn:L2->b7}(f:fS B)(H:xs.length<=10000)(s:df ns=xs.take 4)(u:∀z b,(j z b).e=false)(w:∀z b,z.tot=(ns.map λx:Int×Nat=>x.1).sum->b.xs=[]->b.cs=[]->b.sz=0->gN 847 (j z b).c (j z b).pre (star (ce B) Pl) (j z b).out Xn){y A C D k l m o p:ND}{I J:Nat}(g:∀z op b i q r N t,z.tot=(ns.map λx:Int×Nat=>x.1).sum->z.told=(gb (ns.map λx:Int×Nat=>x.1)).told->FF [(S,br xs n)] ((next z op b i q r).res nl N t) (Xn i)):
  FF [(S,br xs n)] ((uC (Yx ns S xs n) j next N t).res (.n dd1 847::.n dd2 847::.n dd3 847::.n dd4 I::.n dd5 847::.n y J::.n A 847::.n C 847::.n D 847::.n k 847::.n l 847::.n m 847::.n o 847::.n p 847::nl) N t) (star (ce B) Pl):=by
 have K:0<=(ns.map λx:Int×Nat=>x.1).sum.fmod 14:=i7 _ (by decide);have e1:(ns.map λx:Int×Nat=>x.1).sum.fmod 14<14:=iG _ (by decide);have G:=zM (ns.map λx:Int×Nat=>x.1);have E:0<=((ns.map λx:Int×Nat=>x.1).sum.fdiv 14).fmod 3:=i7 _ (by decide);have s1:((ns.map λx:Int×Nat=>x.1).sum.fdiv 14).fmod 3<3:=iG _ (by decide);refine⟨_,(O0 H s).fr _,λP Q l1=>⟨_,(CH rfl).fr _,λR T l2=>⟨_,(ff (by decide) rfl).fr _,λU V W=>⟨⟨rfl,wN f.en⟩,_,(Fv (v:=(gb (ns.map λx:Int×Nat=>x.1)).a) f.en K e1 (by decide +kernel) ?_).star Pl,λX Y Z=>⟨⟨rfl,λr0 g0 d=>.inr (abK G)⟩,_,(J0 (db rfl)).fr _,λNa ta la=>?_⟩⟩⟩⟩⟩
 ·show(V5.map λe=>Value.ref e.a)[((ns.map λx:Int×Nat=>x.1).sum.fmod 14).toNat]?=_;rw[lJ];unfold gb rP;rw[lH,i8 (h:=G)];rfl
 obtain⟨t0,F⟩:=SI la E s1;refine⟨_,(mU (by decide) (by decide) rfl).fr _,λN5 t5 l5=>⟨_,(ff (by decide) rfl).fr _,λN6 t6 l6=>⟨_,(Ft (((ns.map λx:Int×Nat=>x.1).sum.fdiv 14).fmod 3).toNat (db rfl) (by show _/\_;constructor<;>(show _<=_;first|exact Int.le_trans (by decide) E|exact Int.le_trans (Int.le_of_lt s1) (by decide))) (uD E (by exact s1)) F).fr _,λN7 t7 l7=>⟨_,(Fw (db rfl)).fr _,λN8 t8 l8=>⟨_,Pf rfl (db rfl),λN9 t9 l9=>⟨_,J5 rfl (db rfl),λL M O=>J6 (u _ _) (w _ _ rfl rfl rfl rfl) λq r i=>g _ _ _ _ _ _ _ _ rfl rfl⟩⟩⟩⟩⟩⟩
theorem pC{G:Unit}{c:List Int}{z:fH}{op:pl}{b:hM}{bV:Bool}{v:L2}(hp:sx c){its:List ht}{cv:List (Int×Nat)}{IT CU r:Nat}{L:List Value}{sz:Int}(f:fS B)(M:xs=ek its)(x:its.map ms=(kh c).its)(O:∀i∈its,dr w.params B i.a (rN i))(P:L=df cv)(y:cv.map (·.1)=(kh c).cuts)(hz:z.told=(gb c).told)(he:bV=true->z.told = -2)(A:c.length<=4)(Q:sz=(kh c).size)(d1:d.pw=fU c)(d2:d.r1=(ki c).s.row)(d3:d.r2=(gq c).s.row)(d4:d.tr=nD c)(d5:cond d.Su [99,56,57] [99,57,57]=zL c)(d6:d.txt=ol c)(R:d.eL=(gb c).l)(T:d.zC=ek (gb c).its)(d9:d.tot=c.sum)(C:d.Ks=c.sum.fdiv 42)(u:d.CG=lf c){r1:Nat}(hr:∀(j e k:L2)(m o:Nat)(D E:List Value)(g:List ht)(F:List (Int×Nat)) N t,D=ek g->g.map ms=ca c->(∀i∈g,dr w.params B i.a (rN i))->E=df F->F.map (·.1)=dE c->
   FF [(d.S,br d.xs d.n)] ((og d z op b bV v j e k D m o r E).res nl N t) (star (ce B) Pl)):
  FF [(d.S,br d.xs d.n)] ((hS.dG d.eL (br d.zC 0) <| .con (wB IT xs 0 d.eL d.zC) λU H j=>.con (zw d.tot z.vz 42 (H+1) d.Ks) λV W I=>
   .con (wC d.eL d.Ks (I.n 0) sz r d.CG) λX Y e=>.con (qT CU L 0 (e.n 0) (d.CG.map λi=>.int i (e.n 1)) 0) λm o k=>og d z op b bV v j e k (xs++d.zC) m o r (L++d.CG.map λi=>.int i (e.n 1))).res (.n dd1 r1::.n dd2 847::.n dd3 847::.n dd4 847::.n dd5 847::nl) N t) (star (ce B) Pl):=by
 subst M P;have J:=zM c;have p:=Yw _ J;have K:=on c.sum c ⟨[],[],0⟩;have ab:its.length<=20:=by
  have:=b8 List.length x;rw[fb]at this;exact this▸cu (cu K.1 (nK (rv _))) (w8 5 A)
 have Z:cv.length<=4:=by
  have:=b8 List.length y;rw[fb]at this;exact this▸cu K.2 (cu (nK (rv _)) A)
 have aa:(lf c).length<=1:=by
  unfold lf iA;dsimp only
  split<;>simp
 have ac:cZ=100000:=rfl;have hm:(d.eL,br d.zC 0)∈B:=by rw[R,T];exact f.eL J
 have ae:d.zC.length<=4:=by rw[T];have:(gb c).its.length<=4:=p.1;simpa[ek]
 refine⟨⟨rfl,wN hm⟩,_,(JW hm (by simp[ek];omega)).star Pl,λU H j=>⟨_,(mU (by decide) (by decide) (by rw[d9,C])).fr _,λV W I=>⟨_,(JZ (l:=(gb c).its) (by rw[R];exact f.eL J) (λi q=>⟨.inl (f.enI J i q),by
  have:=f0.1 p.2.2 i q;rw[R];exact xn this⟩) (by have:=p.1;exact cu this (by decide)) (by have:=p.2.1;exact cu this (by decide)) (by rw[u,Q,C];unfold lf;rw[zF]) (db rfl)).star Pl,λX Y e=>⟨_,(j6 (by rw[u];simp[df];exact cu (lL Z aa) (by decide))).fr _,λm o k=>?_⟩⟩⟩⟩
 refine hr _ _ _ _ _ _ _ (its++(gb c).its) (cv++(lf c).map λi=>(i,e.n 1)) _ _ ?_ ?_ ?_ ?_ ?_
 ·rw[T];simp[ek]
 ·rw[fc,x];rfl
 ·intro i q;rcases dw.1 q with h|h
  ·exact O i h
  ·exact .inl (f.enI J i h)
 ·rw[u];simp[df]
 ·rw[fc,y];simp[dE,Function.comp_def]
def abL(d:Fq):fH->pl->hM->L2->Nat->Nat->hS:=λz op b c l m=>.dG d.eL (br d.zC 0) <| .con (wB b.IT [] 0 d.eL d.zC) λo e f=>.con (zw d.tot z.vz 42 (e+1) d.Ks) λp q g=>.con (wC d.eL d.Ks (g.n 0) 0 b.X7 d.CG) λr s a=>.con (qT b.CU [] 0 (a.n 0) (d.CG.map λi=>.int i (a.n 1)) 0) λh j k=>og d z op b true c f a k ([]++d.zC) h j b.X7 ([]++d.CG.map λi=>.int i (a.n 1))
def abM(d:Fq):fH->pl->hM->L2->Nat->Nat->hS:=λz op b a m o=>.dG d.eL (br d.zC 0) <| .con (wB (a.n 0) (a.l 0) 0 d.eL d.zC) λp e f=>.con (zw d.tot z.vz 42 (e+1) d.Ks) λq r g=>.con (wC d.eL d.Ks (g.n 0) d.sz (a.n 2) d.CG) λs u c=>.con (qT (a.n 1) (a.l 1) 0 (c.n 0) (d.CG.map λi=>.int i (c.n 1)) 0) λh j k=>og d z op b false a f c k (a.l 0++d.zC) h j (a.n 2) (a.l 1++d.CG.map λi=>.int i (c.n 1))
theorem Pm(a:d.ys=[])(c:d.sz=0):(Vt d).lB=uC d (λz b=>OW z b) (abL d):=by
 obtain⟨⟩:=d;cases a;cases c;rfl
theorem Pn:(Vs d).lB=uC d (λz b=>OQ z b d.ys d.sz) (abM d):=rfl
theorem Po{c:List (Int×Nat)}(hl:c.length<=10000)(D:sx ((c.take 4).map λx:Int×Nat=>x.1)):
  lF 850 (Ay S (df c) n) (star (ce hv) Pl) (λd=>nV):=by
 have e:fS hv:=λd h=>h;have m:(df c).length<=10000:=by simpa[df]using hl
 have u:df (c.take 4)=(df c).take 4:=by unfold df;rw[List.map_take]
 have j:((c.take 4).map λx:Int×Nat=>x.1).length<=4:=by rw[fb,ru];omega
 generalize c.take 4=ns at *;cases ns with
 |nil=>
  refine bO.of (JT (Yx [] S (df c) n)) λN t=>?_;rw[Pm rfl rfl];refine pB (Xn:=λd=>star (ce hv) Pl) e m u (λz b=>rfl) (λz b hz v y A=>?_) λz op b k F H N t hz f=>?_
  ·exact bE.mono (bE.o rfl (JS z b) (by intro E0 N t _;exists bz,cA rfl,0;exact cC (cV []))) (by decide)
  ·exact pC (G:=()) (cv:=[]) D e rfl rfl eu rfl rfl f (λd=>f) j rfl rfl rfl rfl rfl rfl rfl rfl rfl rfl rfl rfl λI J K L M O P C Q N t R T U V W=>pA D e R T U V W f (λd=>f) rfl rfl rfl rfl rfl rfl
 |cons x ns=>
  obtain⟨n1,nt⟩:=x;refine bO.of (JR (Yx ((n1,nt)::ns) S (df c) n)) λN t=>?_;rw[Pn];refine pB (Xn:=λX=>star (zE hv (kh (((n1,nt)::ns).map λx:Int×Nat=>x.1)) X) Pl) e m u (λz b=>rfl) (λz b hz v y A=>?_) λz op b k F H N t hz f=>?_
  ·have hd:=O5 (sz:=(kh (((n1,nt)::ns).map λx:Int×Nat=>x.1)).size) (ns:=ns) (s:=⟨[],[],0⟩) (room:=847) rfl e ⟨[],[],v,rfl,eu,y,rfl,A⟩ (by
    rw[fb,List.length_cons]at j;simp;omega) (by rw[hz];rfl) (by decide)
   rw[hz]at hd;exact hd.star Pl
  ·refine Holds.Y1 rfl (by decide) _ (ι:={p:bH×List ht×List (Int×Nat)//(∀q∈hv,q∈p.1)/\k.l 0=ek p.2.1/\p.2.1.map ms=(kh (((n1,nt)::ns).map λx:Int×Nat=>x.1)).its/\(∀i∈p.2.1,dr w.params p.1 i.a (rN i))/\k.l 1=df p.2.2/\p.2.2.map (·.1)=(kh (((n1,nt)::ns).map λx:Int×Nat=>x.1)).cuts}) (Y:=λp=>star (ce p.1.1) Pl) (λr g ⟨r1,r2,c1,c2,⟨B',its,cv,E,a2,Z,a4,a5,a6,a7⟩,hP,hr,hg⟩=>⟨⟨(B',its,cv),E,a2,Z,a4,a5,a6⟩,r1,r2,c1,c2,a7,hP,hr,hg⟩) ⟨rfl,λd d d d d d d d d d d d d d d d d d d d d d d d d d d d d d d d d d d d d d d d d d=>rfl⟩ ?_;rintro⟨⟨B1,its,cv⟩,E,a2,Z,a4,a5,a6⟩;exact pC (G:=()) D (e.mono E) a2 Z a4 a5 a6 f (λh=>by cases h) j rfl rfl rfl rfl rfl rfl rfl rfl rfl rfl rfl rfl λI J K L M O P C Q N t R T U V W=>pA D (e.mono E) R T U V W f (λh=>by cases h) rfl rfl rfl rfl rfl rfl
end
end
section
set_option genInjectivity true
structure PS where(r:Int)(w:Nat)(a:Int)
noncomputable def ef(cuts:List Int)(a:Int):Bool:=cuts.any (·==a)
noncomputable def uJ(w c:Nat):List Nat:=if c=9 then List.replicate (8-w%8) 32 else[c]
theorem sy(w c:Nat):(uJ w c).length=if c=9 then 8-w%8 else 1:=by
 unfold uJ
 split<;>simp
def vd(cuts:List Int)(s:PS):PS:=if ef cuts s.a then⟨s.r+1,0,s.a⟩else s
def iD(cuts:List Int)(s:PS)(c:Nat):PS:=if c=10 then⟨(vd cuts s).r+1,0,s.a+1⟩else⟨(vd cuts s).r,(vd cuts s).w+(uJ (vd cuts s).w c).length,s.a+1⟩
def dF(cuts:List Int)(fn:Value)(s:PS)(c:Nat):List Ch:=signs (vd cuts s).r fn ((vd cuts s).w+1) (uJ (vd cuts s).w c)
def wO(cuts:List Int)(sm:List Nat)(fn:Value)(s:PS):List Ch:=if ef cuts s.a then signs s.r fn (s.w+1) sm else[]
noncomputable def cx(cuts:List Int)(fn:Value):PS->List Nat->List Ch|Y,[]=>[]|s,c::cs=>dF cuts fn s c++cx cuts fn (iD cuts s c) cs
theorem aca{cuts:List Int}{fn:Value}(s:PS)(c:Nat)(cs:List Nat):cx cuts fn s (c::cs)=dF cuts fn s c++cx cuts fn (iD cuts s c) cs:=rfl
noncomputable def ip(cuts:List Int)(sm:List Nat)(fn:Value):PS->List Nat->List Ch|Y,[]=>[]|s,c::cs=>wO cuts sm fn s++(dF cuts fn s c++ip cuts sm fn (iD cuts s c) cs)
theorem qu(cuts:List Int)(fn:Value):∀(a b:List Nat)(s:PS),cx cuts fn s (a++b)=cx cuts fn s a++cx cuts fn (a.foldl (iD cuts) s) b
 |[],b,s=>rfl
 |c::a,b,s=>by
  show dF cuts fn s c++cx cuts fn (iD cuts s c) (a++b)=_;rw[qu cuts fn a b,<-bQ];rfl
theorem CM(cuts:List Int)(sm:List Nat)(fn:Value):∀(a b:List Nat)(s:PS),ip cuts sm fn s (a++b)=ip cuts sm fn s a++ip cuts sm fn (a.foldl (iD cuts) s) b
 |[],b,s=>rfl
 |c::a,b,s=>by
  show wO cuts sm fn s++(dF cuts fn s c++ip cuts sm fn (iD cuts s c) (a++b))=_;rw[CM cuts sm fn a b];show _=(wO cuts sm fn s++(dF cuts fn s c++ip cuts sm fn (iD cuts s c) a))++_;simp only[bQ];rfl
theorem CN(sm:List Nat)(fn:Value):∀(T:List Nat)(s:PS),ip [] sm fn s T=cx [] fn s T
 |[],s=>rfl
 |c::T,s=>by
  show[]++(dF [] fn s c++ip [] sm fn (iD [] s c) T)=_;rw[CN sm fn T];rfl
noncomputable def kS(k c:Nat):Nat:=if c=9 then k+(8-k%8)else if c=10\/c=13 then 0 else k+1
def fP:Nat->List Nat->List Nat|Y,[]=>[]|k,c::l=>uJ k c++fP (kS k c) l
theorem uK:∀(l:List Nat)(o:Array Nat)(k:Nat),(j5 l o k).1.toList=o.toList++fP k l
 |[],o,k=>(dU _).symm
 |c::l,o,k=>by
  rw[show j5 (c::l) o k=j5 l (jI o k c).1 (jI o k c).2 from rfl,uK l,show fP k (c::l)=uJ k c++fP (kS k c) l from rfl];unfold jI;by_cases h:c=9
  ·subst h;simp[uJ,kS]
  ·simp[uJ,kS,h]
theorem pD:∀(a b:List Nat)(k:Nat),fP k (a++b)=fP k a++fP (a.foldl kS k) b
 |[],b,k=>rfl
 |c::a,b,k=>by
  show uJ k c++fP (kS k c) (a++b)=_;rw[pD a b,<-bQ];rfl
theorem jU(x:List Nat):(cI ⟨⟨x⟩⟩).cps.toList=fP 0 x:=by
 unfold cI;have:=uK x #[] 0;simpa using this
theorem qv(r:Int)(fn:Value):∀(a b:List Nat)(k:Nat),signs r fn k (a++b)=signs r fn k a++signs r fn (k+a.length) b
 |[],b,k=>rfl
 |c::a,b,k=>by
  show _::signs r fn (k+1) (a++b)=_;rw[qv r fn a b,List.length_cons,show k+(a.length+1)=k+1+a.length by omega];rfl
theorem pE(fn:Value):∀(xs:List PySem.Str)(r:Int)(x:PySem.Str),cw fn r (xs++[x])=cw fn r xs++fK fn (r+xs.length) x
 |[],r,x=>by
  show fK fn r x++[]=[]++fK fn (r+((0:Nat):Int)) x;simp
 |y::xs,r,x=>by
  show fK fn r y++cw fn (r+1) (xs++[x])=(fK fn r y++cw fn (r+1) xs)++_;rw[pE fn xs,List.length_cons,bQ,show r+1+(xs.length:Int)=r+((xs.length+1:Nat):Int)by omega]
theorem zN(fn:Value)(r:Int)(x:List Nat):fK fn r ⟨⟨x⟩⟩=signs r fn 1 (fP 0 x):=by
 unfold fK;rw[jU]
noncomputable def fY(s:eY):PS:=⟨(s.rows.length:Int)+1,s.wide.toNat,s.at_⟩
structure LI(s:eY):Prop where(w:s.wide=((s.row.foldl kS 0:Nat):Int))(l:(fP 0 s.row).length=s.row.foldl kS 0)
def FH(fn:Value)(s:eY):List Ch:=cw fn 1 (hO s.rows)++signs ((s.rows.length:Int)+1) fn 1 (fP 0 s.row)
theorem J7(cuts:List Int)(a:Int):((ow cuts).any λp=>p.1==a)=ef cuts a:=by
 unfold ow ef;simp[Function.comp_def]
theorem CP(a:List (List Nat))(x:List Nat):hO (a++[x])=hO a++[⟨⟨x⟩⟩]:=by simp[hO]
theorem Pp(a:List (List Nat)):(hO a).length=a.length:=by simp[hO]
theorem FI{fn:Value}{rows:List (List Nat)}{row x:List Nat}(a:(fP 0 row).length=row.foldl kS 0):
  cw fn 1 (hO (rows++[row++x]))=cw fn 1 (hO rows)++signs ((rows.length:Int)+1) fn 1 (fP 0 row)++signs ((rows.length:Int)+1) fn (row.foldl kS 0+1) (fP (row.foldl kS 0) x):=by
 rw[CP,pE,zN,Pp,pD,qv,a,bQ,Int.add_comm 1,Nat.add_comm 1]
noncomputable def Yy(sm:List Nat)(s:eY):eY:=⟨s.rows++[s.row++sm],[],0,s.at_,s.blanks,s.bT⟩
theorem Pq{cuts:List Int}{sm:List Nat}{s:eY}{c:Nat}:gI (ow cuts) sm s c=gI [] [] (if ef cuts s.at_ then Yy sm s else s) c:=by
 unfold gI;rw[J7];cases ef cuts s.at_<;>rfl
def Yz(p:PS)(c:Nat):PS:=if c=10 then⟨p.r+1,0,p.a+1⟩else⟨p.r,p.w+(uJ p.w c).length,p.a+1⟩
theorem YA{cuts:List Int}{p:PS}{c:Nat}:iD cuts p c=Yz (vd cuts p) c:=by
 unfold iD vd;cases ef cuts p.a<;>rfl
noncomputable def stW(k c:Nat):Int:=if c=9 then 8-(k:Int).fmod 8 else 1
theorem YB(k c:Nat):stW k c=((uJ k c).length:Int):=by
 unfold stW;rw[sy];by_cases h:c=9
 ·rw[bP h,bP h,Int.fmod_eq_emod_of_nonneg _ (by decide)];exact(Int.ofNat_sub (Nat.le_of_lt (Nat.mod_lt k (by decide)))).symm
 ·rw[bu h,bu h];rfl
theorem abN{k c:Nat}(a:c≠10)(b:c≠13):kS k c=k+(uJ k c).length:=by
 unfold kS;rw[sy];by_cases h:c=9
 ·rw[bP h,bP h]
 ·rw[bu h,bu h,bu (not_or.2 ⟨a,b⟩)]
structure qw(fn:Value)(s s':eY)(p:PS)(l:List Ch)(sp:List (Int×Int))(n:Nat):Prop where(li:LI s')(ps:fY s'=p)(st:FH fn s'=FH fn s++l)(sp:s'.bT=s.bT++sp)(bl:s'.blanks=s.blanks+(n:Int))
section
variable{cuts:List Int}{sm:List Nat}{fn:Value}{s s' s'':eY}{c:Nat}{p p':PS}{l l':List Ch}{sp sp':List (Int×Int)}{n n':Nat}
theorem qw.trans(h:qw fn s s' p l sp n)(a:qw fn s' s'' p' l' sp' n'):qw fn s s'' p' (l++l') (sp++sp') (n+n')where
 li:=a.li
 ps:=a.ps
 st:=by rw[a.st,h.st,bQ]
 sp:=by rw[a.sp,h.sp,bQ]
 bl:=by rw[a.bl,h.bl,Int.add_assoc];rfl
theorem qw.cut(h:LI s)(b:∀k,fP k sm=sm):qw fn s (Yy sm s) ⟨(fY s).r+1,0,s.at_⟩ (signs (fY s).r fn ((fY s).w+1) sm) [] 0 where
 li:=⟨rfl,rfl⟩
 ps:=b8 (λn:Nat=>PS.mk ((n:Int)+1) 0 s.at_) c5
 st:=by
  obtain⟨rows,row,wide,a,bl,sp⟩:=s;obtain⟨d,e⟩:=h;obtain rfl:wide=((row.foldl kS 0:Nat):Int):=d;refine(dU _).trans ((FI e).trans ?_);rw[b];rfl
 sp:=(dU _).symm
 bl:=(Int.add_zero _).symm
theorem qw.add(h:LI s)(g:c≠13):qw fn s (gI [] [] s c) (Yz (fY s) c) (signs (fY s).r fn ((fY s).w+1) (uJ (fY s).w c)) [((fY s).r,((fY s).w:Int)+1)] (uJ (fY s).w c).length:=by
 obtain⟨rows,row,wide,a,bl,sp⟩:=s;obtain⟨i,d⟩:=h;obtain rfl:wide=((row.foldl kS 0:Nat):Int):=i;by_cases b:c=10
 ·subst b;exact⟨⟨rfl,rfl⟩,b8 (λn:Nat=>PS.mk ((n:Int)+1) 0 (a+1)) c5,(dU _).trans (FI d),rfl,rfl⟩
 have e:gI [] [] ⟨rows,row,((row.foldl kS 0:Nat):Int),a,bl,sp⟩ c=⟨rows,row++[c],((row.foldl kS 0:Nat):Int)+stW (row.foldl kS 0) c,a+1,bl+stW (row.foldl kS 0) c,sp++[((rows.length:Int)+1,((row.foldl kS 0:Nat):Int)+1)]⟩:=bu b;rw[e,YB,Yz,bu b];have f:=abN (k:=row.foldl kS 0) b g;refine⟨⟨?_,?_⟩,rfl,?_,rfl,rfl⟩
 ·show _=(((row++[c]).foldl kS 0:Nat):Int);rw[nI];exact(b8 Int.ofNat f).symm
 ·show(fP 0 (row++[c])).length=(row++[c]).foldl kS 0;rw[pD,c5,d,nI];show _+(uJ _ c++[]).length=kS _ c;rw[dU,f]
 ·show _++signs _ fn 1 (fP 0 (row++[c]))=_;rw[pD,qv,d,Nat.add_comm 1,<-bQ];exact b8 (λz=>_++signs _ fn _ z) (dU _)
theorem SJ(h:LI s)(g:∀k,fP k sm=sm)(d:c≠13):
  qw fn s (gI (ow cuts) sm s c) (iD cuts (fY s) c) (wO cuts sm fn (fY s)++dF cuts fn (fY s) c) [((vd cuts (fY s)).r,((vd cuts (fY s)).w:Int)+1)] (uJ (vd cuts (fY s)).w c).length:=by
 rw[Pq,YA];unfold dF;by_cases a:ef cuts s.at_=true
 ·have b:=qw.cut (fn:=fn) h g;have e:=qw.add (fn:=fn) b.li d;rw[b.ps]at e;have f:=b.trans e;rw[rv (List.length _)]at f;rw[bP a,show vd cuts (fY s)=_ from bP a,show wO cuts sm fn (fY s)=_ from bP a];exact f
 ·rw[bu a,show vd cuts (fY s)=_ from bu a,show wO cuts sm fn (fY s)=_ from bu a];exact qw.add h d
end
end
section
variable{m x:List Nat}{l:List Ch}{g:ec}
structure AI where(m x:List Nat)(l:List Ch)
structure AG where(due:List qm)(space:List Nat)(first:Bool)(last:Option (Int×Int))
noncomputable def ec.ag(g:ec):AG:=⟨g.due,g.space,g.first,g.last⟩
noncomputable def nF:List Ch->Int×Int|[]=>(0,0)|c::Y=>(c.row,c.col)
def ev(g:AG)(i:AI):AG:=
 if i.m=ij then⟨g.due,g.space++List.replicate i.l.length 32,g.first,some (nF i.l)⟩
 else if i.m=iB then⟨if g.first then g.due++[⟨rm,[],[],true,nF i.l⟩]else g.due,[],true,some (nF i.l)⟩
 else if i.m=d0 then⟨g.due,g.space,false,g.last⟩
 else if i.m=fj then g
 else⟨g.due++[⟨i.m,i.x,g.space,g.first,nF i.l⟩],[],false,g.last⟩
noncomputable def fV(cuts:List Int)(fn:Value):PS->List MS->List AI|Y,[]=>[]|s,i::is=>⟨i.1,i.2,cx cuts fn s i.2⟩::fV cuts fn (i.2.foldl (iD cuts) s) is
theorem rg(cuts:List Int)(fn:Value):∀(l:List MS)(s:PS),(fV cuts fn s l).flatMap (·.l)=cx cuts fn s (bM l)
 |[],s=>rfl
 |i::l,s=>by
  show cx cuts fn s i.2++(fV cuts fn (i.2.foldl (iD cuts) s) l).flatMap (·.l)=cx cuts fn s (i.2++bM l);rw[rg cuts fn l,qu]
def SM(cuts:List Int)(s:PS):Int×Int:=((vd cuts s).r,((vd cuts s).w:Int)+1)
theorem acg{cuts:List Int}{fn:Value}(s:PS)(i:MS)(is:List MS):fV cuts fn s (i::is)=⟨i.1,i.2,cx cuts fn s i.2⟩::fV cuts fn (i.2.foldl (iD cuts) s) is:=rfl
noncomputable def zO(cuts:List Int):PS->List Nat->List (Int×Int)|Y,[]=>[]|s,c::cs=>SM cuts s::zO cuts (iD cuts s c) cs
theorem uM(w c:Nat):∃d ds,uJ w c=d::ds:=by
 cases h:uJ w c with
 |nil=>
  have:=sy w c;rw[h]at this
  split at this<;>simp at this<;>omega
 |cons d ds=>exact⟨d,ds,rfl⟩
theorem FJ(cuts:List Int)(fn:Value)(s:PS)(c:Nat):nF (dF cuts fn s c)=SM cuts s:=by
 obtain⟨d,a,e⟩:=uM (vd cuts s).w c;unfold dF;rw[e];rfl
theorem mx(cuts:List Int)(fn:Value)(s:PS)(c:Nat):∃d ds,dF cuts fn s c=d::ds:=by
 obtain⟨d,ds,e⟩:=uM (vd cuts s).w c;unfold dF;rw[e];exact⟨_,_,rfl⟩
theorem FK(cuts:List Int)(fn:Value)(s:PS)(h:x≠[]):nF (cx cuts fn s x)=(zO cuts s x).headD (0,0):=by
 cases x with
 |nil=>exact absurd rfl h
 |cons c cs=>
  show nF (dF cuts fn s c++_)=SM cuts s;rw[<-FJ cuts fn];obtain⟨d,a,e⟩:=mx cuts fn s c;rw[e];rfl
theorem qx(cuts:List Int)(fn:Value):∀(x:List Nat)(s:PS),(∀c∈x,c≠9)->(cx cuts fn s x).map (λc=>(c.row,c.col))=zO cuts s x
 |[],s,Y=>rfl
 |c::x,s,h=>by
  have a:=h c (.head _);show(dF cuts fn s c++cx cuts fn (iD cuts s c) x).map _=SM cuts s::zO cuts (iD cuts s c) x;rw[fc,qx cuts fn x _ λd hd=>h d (.tail _ hd)];unfold dF uJ;rw[bu a];rfl
theorem qy(r:Int)(fn:Value):∀(l:List Nat)(k:Nat),(signs r fn k l).length=l.length
 |[],Y=>rfl
 |c::l,k=>by
  show(signs r fn (k+1) l).length+1=_;rw[qy r fn l];rfl
theorem uN(r:Int)(fn:Value):∀(l:List Nat)(k:Nat),(signs r fn k l).map (·.code)=l
 |[],Y=>rfl
 |c::l,k=>by
  show c::(signs r fn (k+1) l).map (·.code)=_;rw[uN r fn l]
theorem uO(r:Int)(fn:Value):∀(l:List Nat)(k:Nat),∀c∈signs r fn k l,c.file=fn
 |[],Y,c,h=>by cases h
 |d::l,k,c,h=>by
  rcases c4.1 h with rfl|h
  ·rfl
  ·exact uO r fn l _ c h
theorem oo(cuts:List Int)(fn:Value):∀(x:List Nat)(s:PS),∀c∈cx cuts fn s x,c.file=fn
 |[],Y,c,h=>by cases h
 |d::l,k,c,h=>by
  rcases dw.1 h with h|h
  ·exact uO _ fn _ _ c h
  ·exact oo cuts fn l _ c h
theorem e7(cuts:List Int)(fn:Value):∀(x:List Nat)(s:PS),(∀c∈x,c≠9)->(cx cuts fn s x).map (·.code)=x
 |[],s,Y=>rfl
 |c::x,s,h=>by
  have a:=h c (.head _);show(dF cuts fn s c++cx cuts fn (iD cuts s c) x).map _=_;rw[fc,e7 cuts fn x _ λd hd=>h d (.tail _ hd)];unfold dF uJ;rw[bu a];rfl
section
variable{cuts:List Int}{sm:List Nat}{fn:Value}
theorem H0(i:∀k,fP k sm=sm)(x:List Nat):∀(s:eY),LI s->(∀c∈x,c≠13)->
  qw fn s (x.foldl (gI (ow cuts) sm) s) (x.foldl (iD cuts) (fY s)) (ip cuts sm fn (fY s) x) (zO cuts (fY s) x) (cx cuts fn (fY s) x).length:=by
 induction x with
 |nil=>exact λs h z=>⟨h,rfl,(dU _).symm,(dU _).symm,(Int.add_zero _).symm⟩
 |cons c x j=>
  intro s h b;have a:=SJ (cuts:=cuts) (fn:=fn) h i (b c (.head _));have e:=j _ a.li (λd hd=>b d (.tail _ hd));rw[a.ps]at e;have f:=a.trans e;rw[bQ,show(uJ (vd cuts (fY s)).w c).length=(dF cuts fn (fY s) c).length from(qy _ fn _ _).symm,<-c5]at f;exact f
theorem pF(g:ec)(m x:List Nat):(gx (ow cuts) sm g m x).s=x.foldl (gI (ow cuts) sm) g.s.fresh:=by
 unfold gx
 repeat' split
 all_goals rfl
theorem FM{g:AG}(a:m≠ij)(b:m≠iB)(c:m≠d0)(d:m≠fj):ev g ⟨m,x,l⟩=⟨g.due++[⟨m,x,g.space,g.first,nF l⟩],[],false,g.last⟩:=
 (((bu a).trans (bu b)).trans (bu c)).trans (bu d)
theorem abO(a:(x.foldl (gI (ow cuts) sm) g.s.fresh).bT.headD (0,0)=nF l)(f:(x.foldl (gI (ow cuts) sm) g.s.fresh).blanks.toNat=l.length):
  (gx (ow cuts) sm g m x).ag=ev g.ag ⟨m,x,l⟩:=by
 by_cases b:m=ij
 ·subst b;show AG.mk _ (_++List.replicate _ 32) _ (some _)=AG.mk _ (_++List.replicate _ 32) _ (some _);rw[a,f];rfl
 by_cases c:m=iB
 ·subst c;show AG.mk (if _ then _++[qm.mk _ _ _ _ _]else _) _ _ (some _)=_;rw[a];rfl
 by_cases d:m=d0
 ·subst d;rfl
 by_cases e:m=fj
 ·subst e;rfl
 rw[FM b c d e,<-a];exact b8 ec.ag ((((bu b).trans (bu c)).trans (bu d)).trans (bu e))
structure VA(fn:Value)(g g':ec)(ag:AG)(p:PS)(l:List Ch):Prop where(ag:g'.ag=ag)(li:LI g'.s)(ps:fY g'.s=p)(st:FH fn g'.s=FH fn g.s++l)
theorem SN(b:∀k,fP k sm=sm)(h:LI g.s)(a:x≠[])(d:∀c∈x,c≠13):
  VA fn g (gx (ow cuts) sm g m x) (ev g.ag ⟨m,x,cx cuts fn (fY g.s) x⟩) (x.foldl (iD cuts) (fY g.s)) (ip cuts sm fn (fY g.s) x):=by
 have c:=H0 (cuts:=cuts) (fn:=fn) b x g.s.fresh ⟨h.w,h.l⟩ d;have e:=pF (cuts:=cuts) (sm:=sm) g m x;refine⟨abO ?_ ?_,?_,?_,?_⟩
 ·rw[c.sp];exact(FK cuts fn _ a).symm
 ·rw[c.bl];exact rv _
 ·rw[e];exact c.li
 ·rw[e];exact c.ps
 ·rw[e];exact c.st
theorem Pr(a:∀k,fP k sm=sm)(h:LI g.s)(b:∀c∈x,c≠13):(gx (ow cuts) sm g m x).s.bT=zO cuts (fY g.s) x:=by
 rw[pF,(H0 (fn:=.none) a x g.s.fresh ⟨h.w,h.l⟩ b).sp];rfl
theorem uP(e:∀k,fP k sm=sm)(l:List MS):∀(g:ec),LI g.s->(∀i∈l,i.2≠[]/\∀c∈i.2,c≠13)->
  VA fn g (l.foldl (λg i=>gx (ow cuts) sm g i.1 i.2) g) ((fV cuts fn (fY g.s) l).foldl ev g.ag) ((bM l).foldl (iD cuts) (fY g.s)) (ip cuts sm fn (fY g.s) (bM l)):=by
 induction l with
 |nil=>exact λg h z=>⟨rfl,h,rfl,(dU _).symm⟩
 |cons i l f=>
  intro g h d;have a:=SN (cuts:=cuts) (fn:=fn) (m:=i.1) e h (d i (.head _)).1 (d i (.head _)).2;have b:=f (gx (ow cuts) sm g i.1 i.2) a.li (λj n=>d j (.tail _ n));rw[a.ag,a.ps]at b;rw[show bM (i::l)=i.2++bM l from rfl,nI,CM];exact⟨b.ag,b.li,b.ps,b.st.trans (by rw[a.st,bQ])⟩
theorem Ps(h:LI g.s):cw fn 1 (hO g.cM)=FH fn g.s:=by
 unfold ec.cM FH;by_cases e:g.s.row=[]
 ·rw[e];simp[show fP 0 []=[]from rfl,show ∀r k,signs r fn k []=[]from λz z=>rfl]
 ·rw[bu e];have:=FI (fn:=fn) (rows:=g.s.rows) (row:=[]) (x:=g.s.row) rfl;rw[List.nil_append]at this;rw[this];simp[show fP 0 []=[]from rfl,show ∀r k,signs r fn k []=[]from λz z=>rfl]
end
end
section
variable{cuts:List Int}{sf:PS->List Ch}{fn:Value}{c:Nat}{x:Ch}{X:List Ch}
noncomputable def hQ(cuts:List Int)(sf:PS->List Ch)(fn:Value):PS->List Nat->List Ch
 |Y,[]=>[]
 |s,c::cs=>(if ef cuts s.a then sf s else[])++(dF cuts fn s c++hQ cuts sf fn (iD cuts s c) cs)
theorem FZ(s:PS)(c:Nat)(b:List Nat):hQ cuts sf fn s (c::b)=(if ef cuts s.a then sf s else[])++(dF cuts fn s c++hQ cuts sf fn (iD cuts s c) b):=rfl
theorem H4(cuts:List Int)(sm:List Nat)(fn:Value):∀(T:List Nat)(s:PS),ip cuts sm fn s T=hQ cuts (λs=>signs s.r fn (s.w+1) sm) fn s T
 |[],s=>rfl
 |c::T,s=>by
  show wO cuts sm fn s++(dF cuts fn s c++ip cuts sm fn (iD cuts s c) T)=_;rw[H4 cuts sm fn T];rfl
theorem H5(cuts:List Int)(s:PS)(c:Nat):(iD cuts s c).a=s.a+1:=by
 unfold iD
 split<;>rfl
noncomputable def YC:List Nat:=[34,56,110,113]
noncomputable def YD:List Nat:=[9,10,32,47]
def FN(c:Nat):Bool:=c==9||(decide (c∈qU)&&c !=63&&(decide (c∈jp)||decide (64<=c)))
def h5(nx:Option Nat):List Nat->Bool
 |[]=>true
 |c::cs=>(if c=92 then(match cs.head?.or nx with
   |some d=>decide (d∈YC)
   |none=>false)else if c=63 then(match cs.head?.or nx with
   |some d=>decide (d∈YD)
   |none=>true)else FN c)&&h5 nx cs
theorem qz(nx:Option Nat):∀(a b:List Nat),h5 nx (a++b)=(h5 (b.head?.or nx) a&&h5 nx b)
 |[],b=>by exact rfl
 |c::a,b=>by
  show(_&&h5 nx (a++b))=_;rw[qz nx a b,<-Bool.and_assoc]
  congr 1
  congr 1
  cases a with
  |nil=>rfl
  |cons d a=>rfl
def uQ(cuts:List Int)(a:Int)(T:List Nat):Prop:=∀i:Nat,T[i]?=some 92->ef cuts (a+i+1)=false
theorem uQ.tail{a:Int}{T:List Nat}(h:uQ cuts a (c::T)):uQ cuts (a+1) T:=λi b=>by
 have:=h (i+1) (by simpa using b);rw[show a+1+(i:Int)+1=a+((i+1:Nat):Int)+1 by omega];exact this
theorem qA(cuts:List Int)(fn:Value)(s:PS)(h:c≠9:=by decide):dF cuts fn s c=[⟨c,(vd cuts s).r,Int.ofNat ((vd cuts s).w+1),fn⟩]:=by
 unfold dF uJ;rw[bu h];rfl
theorem gc(cuts:List Int)(fn:Value)(s:PS)(c:Nat):∀d∈dF cuts fn s c,d.code=if c=9 then 32 else c:=by
 intro d hd;have a:=iE (f:=λc:Ch=>c.code) hd;unfold dF at a;rw[uN]at a;unfold uJ at a;by_cases b:c=9
 ·rw[bP b]at a ⊢;exact(xj.1 a).2
 ·rw[bu b]at a ⊢;exact eC.1 a
theorem wP:∀(l Y:List Ch),(∀d∈l,d.code≠92)->lp (l++Y)=l++lp Y
 |[],Y,V=>rfl
 |d::l,Y,h=>by
  show lp (d::(l++Y))=d::(l++lp Y);rw[Eg (h d (.head _)),wP l Y λe he=>h e (.tail _ he)]
theorem wQ(h:FN c=true):(if c=9 then 32 else c)∈qU/\((if c=9 then 32 else c)∈jp\/64<=(if c=9 then 32 else c))/\(if c=9 then 32 else c)≠63:=by
 unfold FN at h;by_cases a:c=9
 ·rw[bP a];decide
 ·rw[bu a];simp only[xy,je,eD,iF,kz]at h;rcases h with h|h
  ·exact absurd h a
  ·exact⟨h.1.1,h.2,h.1.2⟩
theorem YE{d:Nat}(h:d∈YC):d≠9/\d≠10/\d≠13/\d≠92/\d≠63:=by
 revert h;revert d;decide
theorem SO:∀d∈YD,(if d=9 then 32 else d)∈[10,32,47]:=by decide
theorem uR(k:∀s,∃x y,sf s=[x,y]/\x.code=92/\(y.code=10\/y.code=13)):∀(n:Nat)(T:List Nat)(s:PS),T.length<=n->h5 none T=true->uQ cuts s.a T->
  lp (hQ cuts sf fn s T)=cx cuts fn s T:=by
 have pw:∀(s:PS)(Y:List Ch),lp ((if ef cuts s.a then sf s else[])++Y)=lp Y:=λs Y=>by
  split
  ·obtain⟨x,y,e,m,o⟩:=k s;rw[e];exact(ab7 m).trans (bP o)
  ·rfl
 intro n
 induction n with
 |zero=>
  intro T s hn j b;obtain rfl:T=[]:=Gc.1 (Nat.le_zero.1 hn);rfl
 |succ n l=>
  intro T s hn j b
  match T,hn,j,b with
  |[],_,_,_=>rfl
  |c::cs,hn,j,b=>
   rw[FZ,pw,aca];obtain⟨g1,g2⟩:=Bool.and_eq_true_iff.1 j;by_cases f:c=92
   ·subst f;cases cs with
    |nil=>cases g1
    |cons d p=>
     have hd:d∈YC:=by simpa using g1
     obtain⟨e1,e2,e3,e4,u⟩:=YE hd;have g:ef cuts (iD cuts s 92).a=false:=by
      have:=b 0 rfl;rw[H5];simpa using this
     rw[qA cuts fn s];rw[FZ,aca,g,bu (by decide),qA cuts fn _ e1];simp only[List.cons_append,List.nil_append]
     replace g2:=Bool.and_eq_true_iff.1 g2
     have i:=b.tail.tail;rw[<-H5 cuts s 92,<-H5 cuts _ d]at i;rw[show ∀(x y:Ch)(Y:List Ch),x.code=92->y.code≠10->y.code≠13->lp (x::y::Y)=x::y::lp Y from λx y Y q r t=>(ab7 q).trans (bu λh=>h.elim r t)]
     ·rw[l p _ (by simp only[List.length_cons]at hn;omega) g2.2 i]
     ·rfl
     ·exact e2
     ·exact e3
   ·have i:=b.tail;rw[<-H5 cuts s c]at i;rw[wP _ _ (λd hd=>by
     rw[gc cuts fn s c d hd]
     split
     ·decide
     ·exact f),l cs _ (by simp only[List.length_cons]at hn;omega) g2 i]
def oq(l:List Ch):Option (List Ch):=if l.length<2 then some l else cf [] l
def YF(x:Ch)(X:List Ch):Prop:=(x.code≠63/\(x.code∈jp\/64<=x.code))\/(x.code=63/\match X with
 |y::c::Y=>(y.code=63/\c.code=63)\/(y.code≠63/\(y.code∈[10,32,47]\/64<=y.code))
 |Y=>True)
theorem qB(h:YF x X):oq (x::X)=(oq X).map (x::·):=by
 match X,h with
 |[],h=>rfl
 |[y],h=>exact rfl
 |y::c::cs,h=>
  have e1:oq (x::y::c::cs)=cf [x,y] (c::cs):=rfl;have e2:oq (y::c::cs)=cf [y,c] cs:=rfl;rw[e1,e2,On,Om];rcases h with⟨b,a⟩|⟨b,a⟩
  ·rw[bu b,bP a]
  ·rw[bP b];rcases a with⟨a,d⟩|⟨a,d⟩
   ·rw[bP a,bu (by omega),bu (by rw[d];decide)]
   ·rw[bu a,bP d]
theorem J8{y z:Ch}{u v:Ch}(a:x.code=63)(b:y.code=63)(hz:z.code=47):oq (x::y::z::u::v::X)=(oq (u::v::X)).map (x.as 92::·):=by
 have e1:oq (x::y::z::u::v::X)=cf [x,y] (z::u::v::X):=rfl;rw[e1,On,Om,bP a,bP b,bP hz];rfl
theorem uU:∀(l Y:List Ch),(∀d∈l,d.code≠63/\(d.code∈jp\/64<=d.code))->oq (l++Y)=(oq Y).map (l++·)
 |[],Y,V=>by simp
 |d::l,Y,h=>by
  show oq (d::(l++Y))=_;rw[qB (.inl (h d (.head _))),uU l Y λe he=>h e (.tail _ he),Option.map_map];rfl
def Y2(fn:Value)(s:PS):List Ch:=signs s.r fn (s.w+1) [63,63,47,10]
def YG(fn:Value)(s:PS):List Ch:=[⟨92,s.r,Int.ofNat (s.w+1),fn⟩,⟨10,s.r,Int.ofNat (s.w+1+1+1+1),fn⟩]
theorem CQ{cuts:List Int}{fn:Value}:∀(T:List Nat)(s:PS),h5 none T=true->oq (hQ cuts (Y2 fn) fn s T)=some (hQ cuts (YG fn) fn s T)
 |[],s,Y=>rfl
 |c::cs,s,n=>by
  obtain⟨g1,g2⟩:=Bool.and_eq_true_iff.1 n;have l:=CQ (cuts:=cuts) (fn:=fn) cs (iD cuts s c) g2;have key:oq (dF cuts fn s c++hQ cuts (Y2 fn) fn (iD cuts s c) cs)=some (dF cuts fn s c++hQ cuts (YG fn) fn (iD cuts s c) cs):=by
   by_cases g:c=63
   ·subst g;rw[qA cuts fn s];simp only[List.cons_append,List.nil_append];rw[qB,l]
    ·rfl
    ·refine .inr ⟨rfl,?_⟩;cases cs with
     |nil=>trivial
     |cons d o=>
      have hd:d∈YD:=by simpa using g1
      rw[FZ];by_cases b:ef cuts (iD cuts s 63).a=true
      ·rw[bP b];exact .inl ⟨rfl,rfl⟩
      ·rw[bu b];obtain⟨e,es,he⟩:=mx cuts fn (iD cuts s 63) d;have m:=gc cuts fn (iD cuts s 63) d e (by rw[he];exact .head _);rw[he,List.cons_append];have k:=SO d hd;cases es++hQ cuts (Y2 fn) fn (iD cuts (iD cuts s 63) d) o with
       |nil=>trivial
       |cons f fs=>
        refine .inr ⟨?_,.inl ?_⟩
        ·rw[m];intro h;rw[h]at k;revert k;decide
        ·rw[m];exact k
   ·rw[uU,l]
    ·rfl
    ·intro d hd;rw[gc cuts fn s c d hd];by_cases i:c=92
     ·subst i;decide
     ·rw[bu i,bu g]at g1;have:=wQ g1;exact⟨this.2.2,this.2.1⟩
  rw[FZ,FZ];by_cases b:ef cuts s.a=true
  ·rw[bP b,bP b];obtain⟨e,es,he⟩:=mx cuts fn s c;rw[he]at key ⊢;have j:oq (e::(es++hQ cuts (Y2 fn) fn (iD cuts s c) cs))=some (e::(es++hQ cuts (YG fn) fn (iD cuts s c) cs)):=key;show oq (⟨63,s.r,Int.ofNat (s.w+1),fn⟩::⟨63,s.r,Int.ofNat (s.w+1+1),fn⟩::⟨47,s.r,Int.ofNat (s.w+1+1+1),fn⟩::⟨10,s.r,Int.ofNat (s.w+1+1+1+1),fn⟩::e::(es++hQ cuts (Y2 fn) fn (iD cuts s c) cs))=_;rw[J8 rfl rfl rfl,qB (.inl ⟨show(10:Nat)≠63 by decide,.inl (show(10:Nat)∈jp by decide)⟩),j];rfl
  ·rw[bu b,bu b];exact key
theorem pG{cuts:List Int}{sf:PS->List Ch}{fn:Value}(a:∀s,∀c∈sf s,Kl c):∀(T:List Nat)(s:PS),h5 none T=true->∀c∈hQ cuts sf fn s T,Kl c
 |[],s,Y,c,h=>by cases h
 |d::cs,s,f,c,h=>by
  obtain⟨g1,g2⟩:=Bool.and_eq_true_iff.1 f;rcases dw.1 h with h|h
  ·split at h
   ·exact a _ c h
   ·cases h
  ·rcases dw.1 h with h|h
   ·unfold Kl;rw[gc cuts fn s d c h];by_cases b:d=92
    ·subst b;decide
    ·by_cases e:d=63
     ·subst e;decide
     ·rw[bu b,bu e]at g1;exact .inr (wQ g1).1
   ·exact pG a cs _ g2 c h
end
section
variable{l rest:List Ch}{p:Ch->Prop}{c:Ch}
noncomputable def zU(l:List Ch):List Nat:=l.map (·.code)
theorem mV(h:zU l=[]):l=[]:=xa.1 h
theorem ed{a:Nat}{x:List Nat}(h:zU l=a::x):∃c w,l=c::w/\c.code=a/\zU w=x:=by
 cases l with
 |nil=>cases h
 |cons c w=>
  injection h with b d;exact⟨c,w,rfl,b,d⟩
def PV(rest:List Ch):Prop:=∀c t,rest=c::t->c.code∈[10,32,47]
theorem PV.no{vs:List Nat}(h:PV rest)(a:∀n∈[10,32,47],n∉vs):jM ⟨⟨vs⟩⟩ rest=false:=by
 cases rest with
 |nil=>rfl
 |cons c t=>exact ub rfl (a _ (h c t rfl))
section
variable{tr:Bool}{bN:List Nat}{f f':Nat}{cH bU cur' todo':List Ch}{ts:List Tk}{er:Option (Option Ch)}
theorem lb(k:Nat)(hz:l.length+rest.length<=2000)(a:Nat.ble k 1000=true:=by rfl):Nat.ble (rest.length+k) 3000=true:=
 Nat.ble_eq_true_of_le (lL (cu (jE ..) hz) (db a))
theorem lbs{cH bU:List Ch}(h:Nat.ble (bU.length+cH.length) 3000=true):cH.length+bU.length<=3000:=Nat.add_comm ..▸db h
theorem eP(s:dB f cH bU f' cur' todo' [])(h:fE tr bN f' cur' todo' ts er)(a:Nat.ble (bU.length+cH.length) 3000=true:=by rfl)(b:f∈fns:=by decide):fE tr bN f cH bU ts er:=.step (qi:=[]) s.opt (db rfl) (lbs a) b h
theorem gr{k:Tk}(s:dB f cH bU f' cur' todo' [k])(h:fE tr bN f' cur' todo' ts er)(a:Nat.ble (bU.length+cH.length) 3000=true:=by rfl)(b:f∈fns:=by decide):fE tr bN f cH bU (k::ts) er:=.step (qi:=[k]) s.opt (db rfl) (lbs a) b h
end
theorem al0:∀d∈([]:List Ch),p d:=eu
theorem al1(h:p c):∀d∈[c],p d:=λd hd=>by rw[eC.1 hd];exact h
theorem al2{a:Ch}(h:p a)(b:p c):∀d∈[a,c],p d:=λd hd=>by
 rcases c4.1 hd with rfl|hd
 ·exact h
 ·rw[eC.1 hd];exact b
inductive abP(tr:Bool)(bN m:List Nat)(l rest:List Ch)(ts:List Tk)(er:Option (Option Ch)):Prop where|mk:∀c w,l=c::w->fE tr bN 380 [] (l++rest) (fq m c w::ts) er->abP tr bN m l rest ts er
def jV(m x:List Nat):Prop:=∀(tr:Bool)(bN:List Nat)(l rest:List Ch)(ts:List Tk)(er:Option (Option Ch)),zU l=x->PV rest->l.length+rest.length<=2000->fE tr bN 380 [] rest ts er->abP tr bN m l rest ts er
def wR(x:List Nat):Prop:=∀(tr:Bool)(bN:List Nat)(l rest:List Ch)(ts:List Tk)(er:Option (Option Ch)),zU l=x->l.length+rest.length<=2000->fE tr bN 380 [] rest ts er->fE tr bN 380 [] (l++rest) ts er
def zP(bN x:List Nat)(k:Option Nat):Prop:=∀(tr:Bool)(l:List Ch),zU l=x->∃er,fE tr bN 380 [] l [] er/\(match k with
 |none=>er=some none
 |some k=>∃c,l[k]?=some c/\er=some (some c))
theorem tk0:jV [73,68] [97,98]:=by
 intro tr bN l rest ts er a hn hz b;obtain⟨c,i,rfl,e,g⟩:=ed a;obtain⟨d,w1,rfl,hd,h⟩:=ed g;obtain rfl:=mV h;exact⟨c,[d],rfl,eP (adc e) (gr (Ns (cH:=[]) (w1:=[d]) (al1 (mQ hd)) (hn.no (by decide))) b (lb 2 hz)) (lb 2 hz)⟩
theorem tk1:jV [78,85,77,66,69,82] [49,50]:=by
 intro tr bN l rest ts er b hn hz e;obtain⟨c,i,rfl,a,g⟩:=ed b;obtain⟨d,w1,rfl,hd,h⟩:=ed g;obtain rfl:=mV h;exact⟨c,[d],rfl,eP (aaG a) (gr (Rv (c:=c) (w1:=[d]) (ub a (by decide)) (al2 (mQ a) (mQ hd)) (hn.no (by decide)) (hn.no (by decide)) (hn.no (by decide))) e (lb 2 hz)) (lb 2 hz)⟩
theorem tk2:jV [45,62] [45,62]:=by
 intro tr bN l rest ts er a hn hz b;obtain⟨c,i,rfl,e,g⟩:=ed a;obtain⟨d,w1,rfl,hd,h⟩:=ed g;obtain rfl:=mV h;exact⟨c,[d],rfl,gr (Nt e hd) b (lb 2 hz)⟩
theorem tk3:jV [83,84,82,73,78,71] [34,97,32,98,34]:=by
 intro tr bN l rest ts er a hn hz b;obtain⟨c,r,rfl,h,i⟩:=ed a;obtain⟨d,w1,rfl,hd,j⟩:=ed i;obtain⟨e,w2,rfl,he,k⟩:=ed j;obtain⟨f,s,rfl,m,n⟩:=ed k;obtain⟨g,t,rfl,o,q⟩:=ed n;obtain rfl:=mV q;exact⟨c,[d,e,f,g],rfl,eP (BX h) (gr (RE hd he m o) b (lb 5 hz)) (lb 5 hz)⟩
theorem tk4:jV [67,72,65,82] [39,99,39]:=by
 intro tr bN l rest ts er a hn hz b;obtain⟨c,k,rfl,g,h⟩:=ed a;obtain⟨d,w1,rfl,hd,i⟩:=ed h;obtain⟨e,w2,rfl,he,j⟩:=ed i;obtain rfl:=mV j;exact⟨c,[d,e],rfl,eP (BY g) (gr (Hn (cH:=[]) (ub hd (by decide)) he (by decide)) b (lb 3 hz)) (lb 3 hz)⟩
theorem tk5:jV [73,68] [76]:=by
 intro tr bN l rest ts er a hn hz b;obtain⟨c,g,rfl,d,e⟩:=ed a;obtain rfl:=mV e;exact⟨c,[],rfl,eP (aaD d (hn.no (by decide))) (gr (Ns (cH:=[]) (w1:=[]) al0 (hn.no (by decide))) b (lb 1 hz)) (lb 1 hz)⟩
theorem tk6:jV [62,62,61] [62,62,61]:=by
 intro tr bN l rest ts er a hn hz b;obtain⟨c,k,rfl,g,h⟩:=ed a;obtain⟨d,w1,rfl,hd,i⟩:=ed h;obtain⟨e,w2,rfl,he,j⟩:=ed i;obtain rfl:=mV j;exact⟨c,[d,e],rfl,gr (aaJ g hd he) b (lb 3 hz)⟩
theorem tk7:jV [78,85,77,66,69,82] [48,120,70]:=by
 intro tr bN l rest ts er b hn hz g;obtain⟨c,k,rfl,a,h⟩:=ed b;obtain⟨d,w1,rfl,hd,i⟩:=ed h;obtain⟨e,w2,rfl,he,j⟩:=ed i;obtain rfl:=mV j;exact⟨c,[d,e],rfl,eP (ade a) (gr (Rw (w1:=[e]) a hd (al1 (mQ he)) (hn.no (by decide)) (hn.no (by decide)) (hn.no (by decide))) g (lb 3 hz)) (lb 3 hz)⟩
theorem tk8:jV [46,46,46] [46,46,46]:=by
 intro tr bN l rest ts er a hn hz b;obtain⟨c,k,rfl,g,h⟩:=ed a;obtain⟨d,w1,rfl,hd,i⟩:=ed h;obtain⟨e,w2,rfl,he,j⟩:=ed i;obtain rfl:=mV j;exact⟨c,[d,e],rfl,gr (RB g hd he) b (lb 3 hz)⟩
theorem tk9:jV [67,72,65,82] [76,39,120,39]:=by
 intro tr bN l rest ts er a hn hz b;obtain⟨c,n,rfl,g,h⟩:=ed a;obtain⟨d,w1,rfl,hd,i⟩:=ed h;obtain⟨e,w2,rfl,he,j⟩:=ed i;obtain⟨f,o,rfl,k,m⟩:=ed j;obtain rfl:=mV m;exact⟨c,[d,e,f],rfl,eP (aaC g hd) (gr (Hn (cH:=[d]) (ub he (by decide)) k (by simp)) b (lb 4 hz)) (lb 4 hz)⟩
theorem adQ:jV [35,35] [35,35]:=by
 intro tr bN l rest ts er a hn hz b;obtain⟨c,i,rfl,e,g⟩:=ed a;obtain⟨d,w1,rfl,hd,h⟩:=ed g;obtain rfl:=mV h;exact⟨c,[d],rfl,gr (Rz e hd) b (lb 2 hz)⟩
theorem adR:jV [40] [40]:=by
 intro tr bN l rest ts er a hn hz b;obtain⟨c,g,rfl,d,e⟩:=ed a;obtain rfl:=mV e;exact⟨c,[],rfl,gr (aaK d) b (lb 1 hz)⟩
theorem adT:jV [83,84,82,73,78,71] [34,92,34,34]:=by
 intro tr bN l rest ts er a hn hz b;obtain⟨c,n,rfl,g,h⟩:=ed a;obtain⟨d,w1,rfl,hd,i⟩:=ed h;obtain⟨e,w2,rfl,he,j⟩:=ed i;obtain⟨f,o,rfl,k,m⟩:=ed j;obtain rfl:=mV m;exact⟨c,[d,e,f],rfl,eP (BX g) (gr (RG hd he k) b (lb 4 hz)) (lb 4 hz)⟩
theorem adU:jV [78,85,77,66,69,82] [49,46,101,43]:=by
 intro tr bN l rest ts er b hn hz g;obtain⟨c,n,rfl,a,h⟩:=ed b;obtain⟨d,w1,rfl,hd,i⟩:=ed h;obtain⟨e,w2,rfl,he,j⟩:=ed i;obtain⟨f,o,rfl,k,m⟩:=ed j;obtain rfl:=mV m;exact⟨c,[d,e,f],rfl,eP (aaG a) (gr (Rx a hd he k (hn.no (by decide))) g (lb 4 hz)) (lb 4 hz)⟩
theorem adV:jV [63] [63]:=by
 intro tr bN l rest ts er a hn hz b;obtain⟨c,g,rfl,d,e⟩:=ed a;obtain rfl:=mV e;exact⟨c,[],rfl,gr (aaL d) b (lb 1 hz)⟩
theorem adW:jV [33,61] [33,61]:=by
 intro tr bN l rest ts er a hn hz b;obtain⟨c,i,rfl,e,g⟩:=ed a;obtain⟨d,w1,rfl,hd,h⟩:=ed g;obtain rfl:=mV h;exact⟨c,[d],rfl,gr (Ry e hd) b (lb 2 hz)⟩
theorem adX:jV [67,72,65,82] [39,92,110,39]:=by
 intro tr bN l rest ts er a hn hz b;obtain⟨c,n,rfl,g,h⟩:=ed a;obtain⟨d,w1,rfl,hd,i⟩:=ed h;obtain⟨e,w2,rfl,he,j⟩:=ed i;obtain⟨f,o,rfl,k,m⟩:=ed j;obtain rfl:=mV m;exact⟨c,[d,e,f],rfl,eP (BY g) (gr (RJ hd he k) b (lb 4 hz)) (lb 4 hz)⟩
theorem adY:jV [73,68] [95,57]:=by
 intro tr bN l rest ts er a hn hz b;obtain⟨c,i,rfl,e,g⟩:=ed a;obtain⟨d,w1,rfl,hd,h⟩:=ed g;obtain rfl:=mV h;exact⟨c,[d],rfl,eP (aaE e) (gr (Ns (cH:=[]) (w1:=[d]) (al1 (mQ hd)) (hn.no (by decide))) b (lb 2 hz)) (lb 2 hz)⟩
theorem adZ:jV [83,84,82,73,78,71] [34,47,42,34]:=by
 intro tr bN l rest ts er a hn hz b;obtain⟨c,n,rfl,g,h⟩:=ed a;obtain⟨d,w1,rfl,hd,i⟩:=ed h;obtain⟨e,w2,rfl,he,j⟩:=ed i;obtain⟨f,o,rfl,k,m⟩:=ed j;obtain rfl:=mV m;exact⟨c,[d,e,f],rfl,eP (BX g) (gr (RH hd he k) b (lb 4 hz)) (lb 4 hz)⟩
theorem ad0:jV [43,43] [43,43]:=by
 intro tr bN l rest ts er a hn hz b;obtain⟨c,i,rfl,e,g⟩:=ed a;obtain⟨d,w1,rfl,hd,h⟩:=ed g;obtain rfl:=mV h;exact⟨c,[d],rfl,gr (RA e hd) b (lb 2 hz)⟩
theorem SQ:∀i∈dv,jV i.1 i.2:=by
 intro i a;simp only[dv,c4,pQ,oD]at a;rcases a with rfl|rfl|rfl|rfl|rfl|rfl|rfl|rfl|rfl|rfl|rfl|rfl|rfl|rfl|rfl|rfl|rfl|rfl|rfl|rfl
 ·exact tk0
 ·exact tk1
 ·exact tk2
 ·exact tk3
 ·exact tk4
 ·exact tk5
 ·exact tk6
 ·exact tk7
 ·exact tk8
 ·exact tk9
 ·exact adQ
 ·exact adR
 ·exact adT
 ·exact adU
 ·exact adV
 ·exact adW
 ·exact adX
 ·exact adY
 ·exact adZ
 ·exact ad0
theorem nt0:wR [47,42,42,47]:=by
 intro tr bN l rest ts er a hz b;obtain⟨c,n,rfl,g,h⟩:=ed a;obtain⟨d,w1,rfl,hd,i⟩:=ed h;obtain⟨e,w2,rfl,he,j⟩:=ed i;obtain⟨f,o,rfl,k,m⟩:=ed j;obtain rfl:=mV m;exact eP (uc g hd) (eP (RC he k) (b) (lb 4 hz)) (lb 4 hz)
theorem nt1:wR [47,42,10,42,47]:=by
 intro tr bN l rest ts er a hz b;obtain⟨c,r,rfl,h,i⟩:=ed a;obtain⟨d,w1,rfl,hd,j⟩:=ed i;obtain⟨e,w2,rfl,he,k⟩:=ed j;obtain⟨f,s,rfl,m,n⟩:=ed k;obtain⟨g,t,rfl,o,q⟩:=ed n;obtain rfl:=mV q;exact eP (uc h hd) (eP (Hm (ub he (by decide)) m o) (b) (lb 5 hz)) (lb 5 hz)
theorem nt2:wR [12]:=by
 intro tr bN l rest ts er a hz b;obtain⟨c,g,rfl,d,e⟩:=ed a;obtain rfl:=mV e;exact eP (aaI d) (b) (lb 1 hz)
theorem nt3:wR [47,42,42,42,47]:=by
 intro tr bN l rest ts er a hz b;obtain⟨c,r,rfl,h,i⟩:=ed a;obtain⟨d,w1,rfl,hd,j⟩:=ed i;obtain⟨e,w2,rfl,he,k⟩:=ed j;obtain⟨f,s,rfl,m,n⟩:=ed k;obtain⟨g,t,rfl,o,q⟩:=ed n;obtain rfl:=mV q;exact eP (uc h hd) (eP (RD he m o) (b) (lb 5 hz)) (lb 5 hz)
theorem nt4:wR [47,42,122,42,47]:=by
 intro tr bN l rest ts er a hz b;obtain⟨c,r,rfl,h,i⟩:=ed a;obtain⟨d,w1,rfl,hd,j⟩:=ed i;obtain⟨e,w2,rfl,he,k⟩:=ed j;obtain⟨f,s,rfl,m,n⟩:=ed k;obtain⟨g,t,rfl,o,q⟩:=ed n;obtain rfl:=mV q;exact eP (uc h hd) (eP (Hm (ub he (by decide)) m o) (b) (lb 5 hz)) (lb 5 hz)
theorem SR{tr:Bool}{ts:List Tk}{er:Option (Option Ch)}(h:zU l=[47,47,121])(hn:∀c t,rest=c::t->c.code=10)(hz:l.length+rest.length<=2000)(a:fE tr [99,57,57] 380 [] rest ts er):fE tr [99,57,57] 380 [] (l++rest) ts er:=by
 obtain⟨c,m,rfl,b,i⟩:=ed h;obtain⟨d,w1,rfl,hd,j⟩:=ed i;obtain⟨e,w2,rfl,he,k⟩:=ed j;obtain rfl:=mV k;cases rest with
 |nil=>exact .step (qi:=[]) (UZ b hd) (by decide) (db rfl) (by decide) (eP (Nv he) a)
 |cons g t=>exact .step (qi:=[]) (UZ b hd) (by decide) (lbs (lb 3 hz)) (by decide) (eP (Nu he (hn g t rfl)) a (lb 3 hz))
theorem bd0(bN:List Nat):zP bN [34,117,110] none:=by
 intro tr l a;obtain⟨c,j,rfl,b,g⟩:=ed a;obtain⟨d,w1,rfl,hd,h⟩:=ed g;obtain⟨e,w2,rfl,he,i⟩:=ed h;obtain rfl:=mV i;exact⟨_,eP (BX b) (.err (RM hd he).opt (db rfl) (by decide)),rfl⟩
theorem bd1(bN:List Nat):zP bN [39,92,113,39] (some 2):=by
 intro tr l a;obtain⟨c,k,rfl,b,g⟩:=ed a;obtain⟨d,w1,rfl,hd,h⟩:=ed g;obtain⟨e,w2,rfl,he,i⟩:=ed h;obtain⟨f,m,rfl,n,j⟩:=ed i;obtain rfl:=mV j;exact⟨_,eP (BY b) (.err (RL hd (by rw[he];decide)).opt (db rfl) (by decide)),⟨e,rfl,rfl⟩⟩
theorem bd2(bN:List Nat):zP bN [39,120,121,39] (some 2):=by
 intro tr l a;obtain⟨c,k,rfl,b,g⟩:=ed a;obtain⟨d,w1,rfl,hd,h⟩:=ed g;obtain⟨e,w2,rfl,he,i⟩:=ed h;obtain⟨f,m,rfl,n,j⟩:=ed i;obtain rfl:=mV j;exact⟨_,eP (BY b) (.err (Ho (ub hd (by decide)) (ub he (by decide))).opt (db rfl) (by decide)),⟨e,rfl,rfl⟩⟩
theorem bd3(bN:List Nat):zP bN [47,42,117,110] none:=by
 intro tr l a;obtain⟨c,m,rfl,b,g⟩:=ed a;obtain⟨d,w1,rfl,hd,h⟩:=ed g;obtain⟨e,w2,rfl,he,i⟩:=ed h;obtain⟨f,n,rfl,j,k⟩:=ed i;obtain rfl:=mV k;exact⟨_,eP (uc b hd) (.err (XB (ub he (by decide)) (ub j (by decide))).opt (db rfl) (by decide)),rfl⟩
theorem bd4(bN:List Nat):zP bN [34,97,92,56,34] (some 3):=by
 intro tr l a;obtain⟨c,o,rfl,b,h⟩:=ed a;obtain⟨d,w1,rfl,hd,i⟩:=ed h;obtain⟨e,w2,rfl,he,j⟩:=ed i;obtain⟨f,q,rfl,k,m⟩:=ed j;obtain⟨g,r,rfl,s,n⟩:=ed m;obtain rfl:=mV n;exact⟨_,eP (BX b) (.err (RN hd he (by rw[k];decide)).opt (db rfl) (by decide)),⟨f,rfl,rfl⟩⟩
theorem bd5(bN:List Nat):zP bN [39,39,59] (some 2):=by
 intro tr l a;obtain⟨c,j,rfl,b,g⟩:=ed a;obtain⟨d,w1,rfl,hd,h⟩:=ed g;obtain⟨e,w2,rfl,he,i⟩:=ed h;obtain rfl:=mV i;exact⟨_,eP (BY b) (.err (Ho (ub hd (by decide)) (ub he (by decide))).opt (db rfl) (by decide)),⟨e,rfl,rfl⟩⟩
theorem bd6:zP [99,56,57] [47,47,32,121] (some 2):=by
 intro tr l a;obtain⟨c,k,rfl,b,g⟩:=ed a;obtain⟨d,w1,rfl,hd,h⟩:=ed g;obtain⟨e,w2,rfl,he,i⟩:=ed h;obtain⟨f,m,rfl,n,j⟩:=ed i;obtain rfl:=mV j;exact⟨_,.err (aaM b hd) (db rfl) (by decide),⟨e,rfl,rfl⟩⟩
theorem SS{tr:Bool}{bN:List Nat}{n:Nat}{ts:List Tk}{er:Option (Option Ch)}(b:zU l=List.replicate (n+1) 32)(hn:jM ⟨⟨[32,9]⟩⟩ rest=false)(hz:l.length+rest.length<=2000)(e:fE tr bN 380 [] rest ts er):
  ∃c w,l=c::w/\fE tr bN 380 [] (l++rest) (fq [87,83] c w::ts) er:=by
 obtain⟨c,w,rfl,g,a⟩:=ed b;have z:Nat.ble ((w++rest).length+1) 3000=true:=Nat.ble_eq_true_of_le (c5▸cu (nK (xi ..)) (cu hz (by decide)));refine⟨c,w,rfl,eP (aaF g) (gr (aaB (cH:=[]) (w1:=w) (λd hd=>mQ (n:=32) ?_) hn) e z) z⟩;have:=iE (f:=λc:Ch=>c.code) hd;unfold zU at a;rw[a]at this;exact(xj.1 this).2
theorem SU{tr:Bool}{bN:List Nat}{ts:List Tk}{er:Option (Option Ch)}(a:zU l=[10])(hz:l.length+rest.length<=2000)(b:fE tr bN 380 [] rest ts er):
  ∃c,l=[c]/\fE tr bN 380 [] (l++rest) (fq [66,79,76] c []::ts) er:=by
 obtain⟨c,w,rfl,d,e⟩:=ed a;obtain rfl:=mV e;exact⟨c,rfl,gr (aaH d) b (lb 1 hz)⟩
end
section
variable{is l:List MS}
noncomputable def uV:List (List Nat):=[[47,42,42,47],[47,42,10,42,47],[12],[47,42,42,42,47],[47,42,122,42,47]]
noncomputable def uW:List (List Nat):=[[34,117,110],[39,92,113,39],[39,120,121,39],[47,42,117,110],[34,97,92,56,34],[39,39,59]]
noncomputable def SV:List Nat:=[47,47,32,121]
noncomputable def gJ(x:List Nat):Option Nat:=if x=[34,117,110]\/x=[47,42,117,110]then none else if x=[34,97,92,56,34]then some 3 else some 2
def YH(jt:Bool)(i:MS)(nx:Option Nat):Bool:=
 if i.1=ij then i.2.all (λc=>c==32||c==9)&&decide (nx≠some 32/\nx≠some 9)
 else if i.1=iB then i.2==[10]
 else if i.1=fj then decide (i.2∈uV)||(i.2==[47,47,121]&&!jt&&decide (nx=none\/nx=some 10))
 else if i.1=d0 then decide (nx=none)&&(decide (i.2∈uW)||(i.2==SV&&jt))
 else decide (i∈dv)&&decide (nx=none\/nx=some 9\/nx=some 10\/nx=some 32\/nx=some 47)
noncomputable def fB(l:List MS):Option Nat:=l.head?.map λi=>i.2.headD 0
def h6(jt:Bool)(nx:Option Nat):List MS->Bool|[]=>true|i::is=>YH jt i ((fB is).or nx)&&h6 jt nx is
theorem ach{jt:Bool}{nx:Option Nat}{i:MS}:h6 jt nx (i::is)=(YH jt i ((fB is).or nx)&&h6 jt nx is):=rfl
theorem qC(jt:Bool)(nx:Option Nat):∀(a b:List MS),h6 jt nx (a++b)=(h6 jt ((fB b).or nx) a&&h6 jt nx b)
 |[],b=>by exact rfl
 |i::a,b=>by
  show(_&&h6 jt nx (a++b))=_;rw[qC jt nx a b,<-Bool.and_assoc]
  congr 1
  congr 1
  cases a with
  |nil=>rfl
  |cons d a=>rfl
def eA(i:AI):List Tk:=match i.l with
 |[]=>[]
 |c::w=>if i.m=ij then[fq [87,83] c w]else if i.m=iB then[fq [66,79,76] c w]else if i.m=d0 then[]else if i.m=fj then[]else[fq i.m c w]
def kj:List AI->Option (Option Ch)
 |[]=>none
 |i::is=>if i.m=d0 then some ((gJ i.x).bind λk=>i.l[k]?)else kj is
theorem aci(i:AI)(is:List AI):kj (i::is)=if i.m=d0 then some ((gJ i.x).bind λk=>i.l[k]?)else kj is:=rfl
section
variable{cuts:List Int}{fn:Value}
theorem wS:∀(x:List Nat)(s:PS),(∀c∈x,c=32\/c=9)->∀d∈cx cuts fn s x,d.code=32
 |[],s,Y,d,h=>by cases h
 |c::x,s,a,d,h=>by
  rcases dw.1 h with h|h
  ·rw[gc cuts fn s c d h];rcases a c (.head _)with rfl|rfl<;>rfl
  ·exact wS x _ (λe he=>a e (.tail _ he)) d h
theorem ot(s:PS)(c:Nat)(x:List Nat):∃d w,cx cuts fn s (c::x)=d::w/\d.code=if c=9 then 32 else c:=by
 obtain⟨d,a,e⟩:=mx cuts fn s c;refine⟨d,a++cx cuts fn (iD cuts s c) x,?_,gc cuts fn s c d (by rw[e];exact .head _)⟩;show dF cuts fn s c++_=_;rw[e];rfl
theorem H6{x:List Nat}{s:PS}(a:x≠[])(f:∀c∈x,c=32\/c=9):∃n,zU (cx cuts fn s x)=List.replicate (n+1) 32:=by
 cases x with
 |nil=>exact absurd rfl a
 |cons c x=>
  obtain⟨d,w,e,_⟩:=ot s c x;have h:=wS (cuts:=cuts) (fn:=fn) (c::x) s f;rw[e]at h ⊢;refine⟨w.length,?_⟩;apply List.eq_replicate_iff.2;refine⟨by simp[zU],λb g=>?_⟩;obtain⟨q,i,rfl⟩:=dO.1 g;exact h q i
theorem FO{s:PS}(h:∀i∈l,i.2≠[]):(l=[]/\cx cuts fn s (bM l)=[]/\fB l=none)\/∃d w n,cx cuts fn s (bM l)=d::w/\fB l=some n/\d.code=if n=9 then 32 else n:=by
 cases l with
 |nil=>exact .inl ⟨rfl,rfl,rfl⟩
 |cons i l=>
  right;obtain⟨m,x⟩:=i;cases x with
  |nil=>exact absurd rfl (h _ (.head _))
  |cons c x=>
   obtain⟨d,w,e,hd⟩:=ot s c (x++bM l);exact⟨d,w,c,e,rfl,hd⟩
theorem mW:∀i∈dv,i.1≠ij/\i.1≠iB/\i.1≠fj/\i.1≠d0/\i.1≠iM/\i.1≠C4/\(∀c∈i.2,c≠9)/\∃j,j<12/\i.1=hY j:=by decide
theorem SW:∀x∈uV,∀c∈x,c≠9:=by decide
theorem YI:∀x∈uW,∀c∈x,c≠9:=by decide
theorem Pt:∀x∈uV,wR x:=by
 intro i a;simp only[uV,c4,pQ,oD]at a;rcases a with rfl|rfl|rfl|rfl|rfl
 ·exact nt0
 ·exact nt1
 ·exact nt2
 ·exact nt3
 ·exact nt4
theorem SX(bN:List Nat):∀x∈uW,zP bN x (gJ x):=by
 intro i a;simp only[uW,c4,pQ,oD]at a;rcases a with rfl|rfl|rfl|rfl|rfl|rfl
 ·exact bd0 bN
 ·exact bd1 bN
 ·exact bd2 bN
 ·exact bd3 bN
 ·exact bd4 bN
 ·exact bd5 bN
theorem Pu{bN x:List Nat}{tr:Bool}{l:List Ch}(h:zP bN x (gJ x))(e:zU l=x):fE tr bN 380 [] l [] (some ((gJ x).bind λk=>l[k]?)):=by
 obtain⟨er,a,b⟩:=h tr l e;cases d:gJ x with
 |none=>
  rw[d]at b;rw[b]at a;exact a
 |some k=>
  rw[d]at b;obtain⟨c,f,g⟩:=b;rw[g]at a;show fE tr bN 380 [] l [] (some l[k]?);rw[f];exact a
inductive uX(rest:List Ch)(nx:Option Nat):Prop where|none:rest=[]->nx=.none->uX rest nx|some:∀d w n,rest=d::w->nx=.some n->d.code=(if n=9 then 32 else n)->uX rest nx
section
variable{tr:Bool}{jt:Bool}{x:List Nat}{s:PS}{rest:List Ch}{nx:Option Nat}{ts:List Tk}{er:Option (Option Ch)}{bN:List Nat}
theorem abQ(g:x≠[])(q:(x.all (λc=>c==32||c==9)&&decide (nx≠some 32/\nx≠some 9))=true)(hn:uX rest nx)(a:(cx cuts fn s x).length+rest.length<=2000)(i:fE tr bN 380 [] rest ts er):
  fE tr bN 380 [] (cx cuts fn s x++rest) (eA ⟨ij,x,cx cuts fn s x⟩++ts) er:=by
 rw[eD,f0,iF]at q;obtain⟨j,b⟩:=q;obtain⟨n,e⟩:=H6 (cuts:=cuts) (fn:=fn) (s:=s) g (λc k=>by simpa using j c k);have f:jM ⟨⟨[32,9]⟩⟩ rest=false:=by
  rcases hn with⟨h,_⟩|⟨d,w,n,h,m,o⟩
  ·rw[h];rfl
  ·rw[h];subst m;refine ub o ?_;simp only[ne_eq,xo]at b;rw[bu b.2];simp only[c4,pQ,oD,not_or];exact b
 obtain⟨c,w,p,r⟩:=SS e f a i;have t:eA ⟨ij,x,cx cuts fn s x⟩=[fq [87,83] c w]:=by
  unfold eA;simp only[p,oB]
 rw[t];exact r
theorem abR(q:(x==[10])=true)(a:(cx cuts fn s x).length+rest.length<=2000)(b:fE tr bN 380 [] rest ts er):
  fE tr bN 380 [] (cx cuts fn s x++rest) (eA ⟨iB,x,cx cuts fn s x⟩++ts) er:=by
 rw[je]at q;subst q;obtain⟨c,d,e⟩:=SU (e7 cuts fn [10] s (by decide)) a b;have f:eA ⟨iB,[10],cx cuts fn s [10]⟩=[fq [66,79,76] c []]:=by
  rw[d];rfl
 rw[f];exact e
theorem YJ(q:(decide (x∈uV)||(x==[47,47,121]&&!jt&&decide (nx=none\/nx=some 10)))=true)(hn:uX rest nx)(a:(cx cuts fn s x).length+rest.length<=2000)(e:fE tr (cond jt [99,56,57] [99,57,57]) 380 [] rest ts er):
  fE tr (cond jt [99,56,57] [99,57,57]) 380 [] (cx cuts fn s x++rest) (eA ⟨fj,x,cx cuts fn s x⟩++ts) er:=by
 have f:eA ⟨fj,x,cx cuts fn s x⟩=[]:=by
  cases cx cuts fn s x<;>rfl
 rw[f];rw[xy,iF]at q;rcases q with q|q
 ·exact Pt x q _ _ _ _ _ _ (e7 cuts fn x s (SW x q)) a e
 ·simp only[eD,je,Bool.not_eq_true',iF]at q;obtain⟨⟨rfl,rfl⟩,q3⟩:=q;refine SR (e7 cuts fn _ s (by decide)) (λc t h=>?_) a e;rcases hn with⟨b,_⟩|⟨d,w,n,b,g,i⟩
  ·rw[b]at h;cases h
  ·rw[b]at h;injection h with j k;subst j g;rcases q3 with q3|q3
   ·cases q3
   ·injection q3 with q3;subst q3;exact i
theorem abS{a:List AI}(q:(decide (nx=none)&&(decide (x∈uW)||(x==SV&&jt)))=true)(hn:uX rest nx):
  fE tr (cond jt [99,56,57] [99,57,57]) 380 [] (cx cuts fn s x++rest) [] (kj (⟨d0,x,cx cuts fn s x⟩::a)):=by
 rw[eD,iF,xy,iF]at q;obtain⟨b,q4⟩:=q;rcases hn with⟨rfl,_⟩|⟨d,w,n,e,c,f⟩
 ·rw[aci,dU];rcases q4 with q4|q4
  ·exact Pu (SX _ x q4) (e7 cuts fn x s (YI x q4))
  ·simp only[eD,je]at q4;obtain⟨rfl,rfl⟩:=q4;exact Pu bd6 (e7 cuts fn _ s (by decide))
 ·rw[c]at b;cases b
theorem abT{m:List Nat}(i:m≠ij)(j:m≠iB)(k:m≠fj)(o:m≠d0)(q:(decide ((m,x)∈dv)&&decide (nx=none\/nx=some 9\/nx=some 10\/nx=some 32\/nx=some 47))=true)(hn:uX rest nx)(a:(cx cuts fn s x).length+rest.length<=2000)(p:fE tr (cond jt [99,56,57] [99,57,57]) 380 [] rest ts er):fE tr (cond jt [99,56,57] [99,57,57]) 380 [] (cx cuts fn s x++rest) (eA ⟨m,x,cx cuts fn s x⟩++ts) er:=by
 rw[eD,iF,iF]at q;obtain⟨f,g⟩:=q;have r:=mW _ f;have b:PV rest:=by
  intro c t h;rcases hn with⟨e,_⟩|⟨d,w,n,e,u,v⟩
  ·rw[e]at h;cases h
  ·rw[e]at h;injection h with y C;subst y u;simp only[xo,reduceCtorEq,false_or]at g;rw[v];rcases g with rfl|rfl|rfl|rfl<;>decide
 obtain⟨c,w,z,A⟩:=SQ _ f tr (cond jt [99,56,57] [99,57,57]) (cx cuts fn s x) rest _ _ (e7 cuts fn x s r.2.2.2.2.2.2.1) b a p;have B:eA ⟨m,x,cx cuts fn s x⟩=[fq m c w]:=by
  rw[z];show(if m=ij then _ else if m=iB then _ else if m=d0 then _ else if m=fj then _ else _)=_;rw[bu i,bu j,bu o,bu k]
 rw[B];exact A
end
theorem YK{s:PS}(h:∀i∈l,i.2≠[]):uX (cx cuts fn s (bM l)) (fB l):=by
 rcases FO h with⟨_,a,b⟩|⟨d,w,n,a,b,c⟩
 ·exact .none a b
 ·exact .some d w n a b c
theorem YL{jt:Bool}{nx:Option Nat}{x:List Nat}(q:(decide (nx=none)&&(decide (x∈uW)||(x==SV&&jt)))=true)(hn:nx=fB is)(a:∀i∈is,i.2≠[]):is=[]:=by
 rw[eD]at q;cases is with
 |nil=>rfl
 |cons i is=>rw[hn]at q;cases q.1
theorem SY{tr jt:Bool}(b:List MS):∀(s:PS),h6 jt none b=true->(∀i∈b,i.2≠[])->(cx cuts fn s (bM b)).length<=2000->
  fE tr (cond jt [99,56,57] [99,57,57]) 380 [] (cx cuts fn s (bM b)) ((fV cuts fn s b).flatMap eA) (kj (fV cuts fn s b)):=by
 induction b with
 |nil=>exact λz z z z=>.fin
 |cons i is f=>
  intro s p g a;obtain⟨m,x⟩:=i;have c:∀i∈is,i.2≠[]:=λj q=>g j (.tail _ q);rw[ach,eD,rz]at p;obtain⟨d,r⟩:=p;have e:cx cuts fn s (bM ((m,x)::is))=cx cuts fn s x++cx cuts fn (x.foldl (iD cuts) s) (bM is):=qu cuts fn x (bM is) s;rw[e,c5]at a;rw[e,acg,lI];have f:=f (x.foldl (iD cuts) s) r c (cu (jE _ _) a);have hn:=YK (cuts:=cuts) (fn:=fn) (s:=x.foldl (iD cuts) s) c;have d:(if m=ij then _ else if m=iB then _ else if m=fj then _ else if m=d0 then _ else _)=true:=d;by_cases h:m=d0
  ·subst h;obtain rfl:=YL d rfl c;have t:eA ⟨d0,x,cx cuts fn s x⟩=[]:=by
    cases cx cuts fn s x<;>rfl
   rw[t];exact abS (nx:=fB []) d hn
  rw[aci,bu h];by_cases k:m=ij
  ·subst k;exact abQ (g _ (.head _)) d hn a f
  rw[bu k]at d;by_cases n:m=iB
  ·subst n;exact abR d a f
  rw[bu n]at d;by_cases o:m=fj
  ·subst o;exact YJ d hn a f
  rw[bu o,bu h]at d;exact abT k n o h d hn a f
end
end
section
structure qD(fn:Value)(i:AI):Prop where(ne:i.l≠[])(file:∀c∈i.l,c.file=fn)(asc:∀c∈i.l,c.code<128)(gap:i.m=ij->zU i.l=List.replicate i.l.length 32)(tok:i.m≠ij->i.m≠iB->i.m≠d0->i.m≠fj->zU i.l=i.x/\∃j,j<12/\i.m=hY j)
noncomputable def pH:List AI->Prop|[]=>True|i::is=>(i.m=d0->is=[])/\pH is
noncomputable def abU(c:Ch):Int×Int:=(c.row,c.col)
def VB(k:Tk):Int×Int:=abU k.at_
section
variable{fn nm:Value}
section
variable{x:List Nat}{c:Ch}{w:List Ch}{g:AG}{m:List Nat}{sp:List Nat}{fi:Bool}{ks:List Tk}
theorem FP(a:m≠ij)(b:m≠iB)(d:m≠d0)(e:m≠fj):eA ⟨m,x,c::w⟩=[fq m c w]:=
 (((bu a).trans (bu b)).trans (bu d)).trans (bu e)
theorem H7{a:Sort _}{p q r:a}{j:Nat}(h:m=hY j):(if m=iM then p else if m=C4 then q else r)=r:=
 (bu (λe=>(qk j).1 (h▸e))).trans (bu (λe=>(qk j).2 (h▸e)))
theorem H8{d:List qm}{e:qm}{k:lr}{l:List lr}(h:kg (k8 nm) e=ly k):(d++[e]).map (kg (k8 nm))++l.map ly=d.map (kg (k8 nm))++(k::l).map ly:=by
 rw[fc,bQ];exact b8 (λz=>d.map (kg (k8 nm))++z::l.map ly) h
end
theorem S0(r:k8 fn=k8 nm)(a:List AI):∀(g:AG),(∀i∈a,qD fn i)->pH a->
  (a.foldl ev g).due.map (kg (k8 nm))=g.due.map (kg (k8 nm))++(dg g.space g.first (a.flatMap eA)).map ly:=by
 induction a with
 |nil=>exact λg z z=>(dU _).symm
 |cons i is n=>
  intro g p b;have n:=λg=>n g (λj s=>p j (.tail _ s)) b.2;have b:=b.1;have d:=p i (.head _);obtain⟨m,x,l⟩:=i;cases l with
  |nil=>exact absurd rfl d.ne
  |cons c w=>
   have q:=d.file c (.head _)▸r.symm;rw[List.foldl_cons,lI,n];by_cases e:m=ij
   ·subst e;show _=_++List.map ly (dg (g.space++zU (c::w)) g.first _);rw[d.gap rfl];rfl
   by_cases f:m=iB
   ·subst f;show List.map _ (if g.first then g.due++[_]else g.due)++List.map _ (dg [] true _)=_++List.map _ (if g.first then _ else _);cases g.first
    ·rfl
    ·exact H8 (b8 (py _ _ _ _ _ _) q)
   by_cases h:m=d0
   ·subst h;obtain rfl:=b rfl;rfl
   by_cases k:m=fj
   ·subst k;rfl
   obtain⟨o,j,_,t⟩:=d.tok e f h k;have o:zU (c::w)=x:=o;subst o;rw[FM e f h k,FP e f h k];show _=_++List.map _ (if m=iM then _ else if m=C4 then _ else _);rw[H7 t];exact H8 (b8 (py _ _ _ _ _ _) q)
theorem H9(a:List AI):∀(g:AG)(lt:Option Tk),(∀i∈a,qD fn i)->(∀i∈a,i.m≠d0)->(g.first=true->g.last=lt.map VB)->
  (a.foldl ev g).first=ga g.first (a.flatMap eA)/\((a.foldl ev g).first=true->(a.foldl ev g).last=(ke lt (a.flatMap eA)).map VB):=by
 induction a with
 |nil=>exact λz z z z h=>⟨rfl,h⟩
 |cons i is b=>
  intro g lt o p h;have b:=λg lt=>b g lt (λj k=>o j (.tail _ k)) (λj k=>p j (.tail _ k));have n:=p i (.head _);have q:=o i (.head _);obtain⟨m,x,l⟩:=i;cases l with
  |nil=>exact absurd rfl q.ne
  |cons c w=>
   rw[List.foldl_cons,lI];by_cases d:m=ij
   ·subst d;exact b _ (some (fq [87,83] c w)) (λz=>rfl)
   by_cases e:m=iB
   ·subst e;exact b _ (some (fq [66,79,76] c w)) (λz=>rfl)
   by_cases f:m=fj
   ·subst f;exact b g lt h
   obtain⟨_,j,_,r⟩:=q.tok d e n f;have b:=b ⟨g.due++[⟨m,x,g.space,g.first,nF (c::w)⟩],[],false,g.last⟩ (some (fq m c w)) (λs=>by cases s);rw[FM d e n f,FP d e n f,List.cons_append];refine⟨b.1.trans (H7 r).symm,b.2⟩
theorem wT:∀(a:List AI)(g:AG),pH a->(∃i∈a,i.m=d0)->(a.foldl ev g).first=false
 |[],Y,V,h=>by obtain⟨i,f,_⟩:=h;cases f
 |i::is,g,d,h=>by
  by_cases b:i.m=d0
  ·obtain rfl:=d.1 b;show(ev g i).first=false
   unfold ev;simp only[b,oB,show ¬ (d0=ij)by decide,show ¬ (d0=iB)by decide,ia]
  ·refine wT is _ d.2 ?_;refine cm ?_;intro G0;obtain⟨j,hj,e⟩:=h;refine cm ?_;intro G0;rcases c4.1 hj with rfl|hj
   ·exact absurd e b
   ·exact⟨j,hj,e⟩
theorem pI:∀a:List AI,kj a=none↔∀i∈a,i.m≠d0
 |[]=>⟨λz=>eu,λz=>rfl⟩
 |i::is=>by
  rw[aci];by_cases b:i.m=d0
  ·rw[bP b];exact⟨(λh=>by cases h),λh=>absurd b (h i (.head _))⟩
  ·rw[bu b,pI is];refine⟨λh j hj=>?_,λh j hj=>h j (.tail _ hj)⟩;rcases c4.1 hj with rfl|hj
   ·exact b
   ·exact h j hj
theorem YM:∀j<12,nB (hY j)=true:=by decide
structure TkG(fn:Value)(i:AI)(k:Tk):Prop where(ok:ES k)(ty:nB k.typ=true)(vl:nB k.val=true)(fi:k.at_.file=fn)(le:k.val.length<=i.l.length)
theorem mX{i:AI}(h:qD fn i):∀k∈eA i,TkG fn i k:=by
 obtain⟨m,x,l⟩:=i;cases l with
 |nil=>exact absurd rfl h.ne
 |cons c w=>
  have q:nB (zU (c::w))=true:=f0.2 λa r=>by
   obtain⟨d,hd,rfl⟩:=dO.1 r;exact i9 (cu (h.asc d hd) (by decide))
  have main:∀ty,(ty=iM\/ty=C4\/∃j,ty=hY j)->nB ty=true->∀k∈[fq ty c w],TkG fn ⟨m,x,c::w⟩ k:=λty s t k b=>eC.1 b▸⟨s,t,q,h.file c (.head _),nK (b8 (· + 1) (fb _))⟩;by_cases e:m=ij
  ·subst e;exact main _ (.inr (.inl rfl)) rfl
  by_cases f:m=iB
  ·subst f;exact main _ (.inl rfl) rfl
  by_cases n:m=d0
  ·subst n;exact λk b=>by cases b
  by_cases o:m=fj
  ·subst o;exact λk b=>by cases b
  obtain⟨_,j,u,p⟩:=h.tok e f n o;rw[FP e f n o];exact main _ (.inr (.inr ⟨j,p⟩)) (by rw[show m=_ from p];exact YM j u)
theorem S3{a b:List Nat}(d:nB a=true)(e:nB b=true):nB (a++b)=true:=by
 unfold nB at *;rw[List.all_append,d,e];rfl
theorem wU:∀(b:List Tk)(sp:List Nat)(fi:Bool),nB sp=true->(∀k∈b,nB k.typ=true/\nB k.val=true/\k.at_.file=fn)->∀q∈dg sp fi b,nB q.typ=true/\nB q.val=true/\nB q.sp=true/\q.at_.file=fn
 |[],sp,fi,Y,V,q,hq=>by cases hq
 |k::b,sp,fi,d,f,q,hq=>by
  have a:=f k (.head _);have e:=λsp fi d=>wU b sp fi d (λj l=>f j (.tail _ l)) q;rw[ab8]at hq;by_cases h:k.typ=iM
  ·rw[bP h]at hq;cases fi with
   |true=>
    rcases c4.1 hq with rfl|hq
    ·exact⟨rfl,rfl,rfl,a.2.2⟩
    ·exact e _ _ rfl hq
   |false=>
    exact e _ _ rfl hq
  ·rw[bu h]at hq;by_cases i:k.typ=C4
   ·rw[bP i]at hq;exact e _ _ (S3 d a.2.1) hq
   ·rw[bu i]at hq;rcases c4.1 hq with rfl|hq
    ·exact⟨a.1,a.2.1,d,a.2.2⟩
    ·exact e _ _ rfl hq
theorem uY:∀(a:List Tk)(sp:List Nat)(fi:Bool),(dg sp fi a).length<=a.length
 |[],Y,V=>cO _
 |k::a,sp,fi=>by
  have b:=λsp fi=>uY a sp fi;rw[ab8]
  repeat' split
  all_goals (try rw[List.length_cons])
  ·have:=b [] true;exact sE this
  ·have:=b [] true;exact jd this
  ·have:=b (sp++k.val) fi;exact jd this
  ·have:=b [] false;exact sE this
theorem CR:∀a:List AI,(a.flatMap eA).length<=a.length
 |[]=>cO _
 |i::is=>by
  have b:=CR is;have:(eA i).length<=1:=by
   unfold eA
   repeat' split
   all_goals simp
  rw[lI,c5,List.length_cons];omega
theorem wV:∀(a:List Tk)(lt:Option Tk)(k:Tk),ke lt a=some k->lt=some k\/k∈a
 |[],lt,k,h=>.inl h
 |q::a,lt,k,h=>by
  rcases wV a _ k h with h|h
  ·injection h with h;exact .inr (by rw[h];exact .head _)
  ·exact .inr (.tail _ h)
end
end
section
noncomputable def qE:PS:=⟨1,0,0⟩
theorem Pw(cuts:List Int)(fn:Value):∀(x:List Nat)(s:PS),(cx cuts fn s x).length<=8*x.length
 |[],Y=>cO _
 |c::x,s=>by
  have a:=Pw cuts fn x (iD cuts s c);show(dF cuts fn s c++cx cuts fn (iD cuts s c) x).length<=_;rw[c5,List.length_cons];have:(dF cuts fn s c).length<=8:=by
   unfold dF;rw[qy,sy]
   split<;>omega
  omega
theorem wW(cuts:List Int)(fn:Value):∀(x:List Nat)(s:PS),(∀c∈x,c<128)->∀d∈cx cuts fn s x,d.code<128
 |[],Y,V,d,h=>by cases h
 |c::x,s,a,d,h=>by
  rcases dw.1 h with h|h
  ·rw[gc cuts fn s c d h];have:=a c (.head _)
   split<;>omega
  ·exact wW cuts fn x _ (λe he=>a e (.tail _ he)) d h
section
variable{cuts:List Int}{fn nm:Value}{jt:Bool}{sm:List Nat}
theorem Px(a:List MS):∀(s:PS)(nx:Option Nat),h6 jt nx a=true->(∀i∈a,i.2≠[]/\∀c∈i.2,c<128)->∀i∈fV cuts fn s a,qD fn i:=by
 induction a with
 |nil=>exact λZ Z Z Z i h=>by cases h
 |cons i is o=>
  intro s nx f b j h;rw[ach,eD]at f;rcases c4.1 h with rfl|h
  ·have k:=b _ (.head _);obtain⟨m,x⟩:=i;refine⟨?_,oo cuts fn x s,wW cuts fn x s k.2,?_,?_⟩
   ·cases x with
    |nil=>exact absurd rfl k.1
    |cons c x=>
     obtain⟨d,w,e,_⟩:=ot s c x;rw[e];exact List.cons_ne_nil _ _
   ·intro p;obtain rfl:m=ij:=p;have g:=f.1;obtain⟨n,hn⟩:=H6 k.1 (λc q=>by simpa using f0.1 ((eD _ _).mp g).1 c q);have r:=(fb _).symm.trans ((b8 List.length hn).trans w6);rw[r,hn]
   ·intro t u v y;have g:(if m=ij then _ else if m=iB then _ else if m=fj then _ else if m=d0 then _ else _)=true:=f.1;rw[bu t,bu u,bu y,bu v,eD,iF]at g;have l:=mW _ g.1;exact⟨e7 cuts fn x s l.2.2.2.2.2.2.1,l.2.2.2.2.2.2.2⟩
  ·exact o _ nx f.2 (λj z=>b j (.tail _ z)) j h
theorem Py(a:List MS):∀(s:PS),h6 jt none a=true->pH (fV cuts fn s a):=by
 induction a with
 |nil=>exact λz z=>trivial
 |cons i is c=>
  intro s b;rw[ach,eD,rz]at b;refine⟨λd=>?_,c _ b.2⟩;obtain⟨m,x⟩:=i;obtain rfl:m=d0:=d;have e:(decide (fB is=none)&&(decide (x∈uW)||(x==SV&&jt)))=true:=b.1;cases is with
  |nil=>rfl
  |cons j f=>cases xn ((eD _ _).mp e).1
theorem wX:∀(its:List MS)(s:PS),(fV cuts fn s its).length=its.length
 |[],Y=>rfl
 |i::is,s=>by
  rw[acg,List.length_cons,List.length_cons,wX is]
theorem li0:LI iS.s:=⟨rfl,rfl⟩
theorem pJ(d:∀k,fP k sm=sm){a:List MS}(h:∀i∈a,i.2≠[]/\∀c∈i.2,c≠13):
  (jB cuts sm a).ag=(fV cuts fn qE a).foldl ev ⟨[],[],true,none⟩/\LI (jB cuts sm a).s/\cw fn 1 (hO (jB cuts sm a).cM)=ip cuts sm fn qE (bM a):=by
 obtain⟨e,b,j,f⟩:=uP d a iS li0 h;refine⟨e,b,?_⟩;rw[Ps (g:=jB cuts sm a) b];show FH fn (a.foldl (λg i=>gx (ow cuts) sm g i.1 i.2) iS).s=_;rw[f];rfl
theorem my:∀a:List AI,(∀i∈a,qD fn i)->zj (a.flatMap eA)<=(a.flatMap (·.l)).length
 |[],Y=>cO _
 |i::is,h=>by
  have b:=my is λj c=>h j (.tail _ c);have d:=mX (h i (.head _));rw[lI,lI,c5];unfold zj at b ⊢;rw[fc,List.sum_append];have f:(eA i).length<=1:=by
   unfold eA
   repeat' split
   all_goals simp
  have:((eA i).map λk=>k.val.length).sum<=i.l.length:=by
   generalize eA i=e at *;rcases e with _|⟨k,_|⟨k2,e⟩⟩
   ·exact eo _
   ·have:=(d k (.head _)).le;simpa using this
   ·exact absurd (Nat.le_of_succ_le_succ f) (Nat.not_succ_le_zero _)
  exact lL this b
theorem sA:∀(a:List AI)(c:Ch),(∀i∈a,∀c∈i.l,c.file=fn)->kj a=some (some c)->c.file=fn
 |[],c,Y,h=>by cases h
 |i::is,c,b,h=>by
  rw[aci]at h;by_cases d:i.m=d0
  ·rw[bP d]at h;injection h with h;cases e:gJ i.x with
   |none=>rw[e]at h;cases h
   |some k=>
    rw[e]at h;exact b i (.head _) c (xf h)
  ·rw[bu d]at h;exact sA is c (λj f=>b j (.tail _ f)) h
theorem mz{a:Type}{P:a->Prop}{l:List a}{x:a}(h:∀r∈l,P r)(b:P x):∀r∈l++[x],P r:=λr c=>(dw.1 c).elim (h r) (λe=>eC.1 e▸b)
def AG.out(g:AG):List qm:=if g.first then g.due++[⟨rm,[],[],true,g.last.getD (0,0)⟩]else g.due
structure YN(fn nm:Value)(ks:List lr)(ds:List qm):Prop where(m:ks.map ly=ds.map (kg (k8 nm)))(k:∀k∈ks,nB k.typ=true/\nB k.val=true/\nB k.sp=true/\k.at_.file=fn)(n:ks.length<=101)
theorem abV{a:List AI}(o:k8 fn=k8 nm)(d:∀i∈a,qD fn i)(p:pH a)(hn:a.length<=100)(n:(a.foldl ev ⟨[],[],true,none⟩).first=true->(a.foldl ev ⟨[],[],true,none⟩).last≠none):
  YN fn nm (lu (kj a) (a.flatMap eA)) (a.foldl ev ⟨[],[],true,none⟩).out:=by
 have q:=wU (a.flatMap eA) [] true rfl (λk g=>by
  obtain⟨i,j,g⟩:=rq.1 g;exact⟨(mX (d i j) k g).ty,(mX (d i j) k g).vl,(mX (d i j) k g).fi⟩)
 have l:=cu (uY (a.flatMap eA) [] true) (cu (CR a) hn);have hd:=S0 o a ⟨[],[],true,none⟩ d p;unfold AG.out;cases b:(a.foldl ev ⟨[],[],true,none⟩).first with
 |false=>
  have e:lu (kj a) (a.flatMap eA)=dg [] true (a.flatMap eA):=by
   cases he:kj a with
   |some _=>rfl
   |none=>
    show _++wr _ _=_;rw[<-(H9 a ⟨[],[],true,none⟩ none d ((pI a).1 he) (λz=>rfl)).1,b];exact dU _
  rw[e];exact⟨hd.symm,q,jd l⟩
 |true=>
  have he:=(pI a).2 λi j r=>by
   have:=wT a ⟨[],[],true,none⟩ p ⟨i,j,r⟩;rw[b]at this;cases this
  have e:=H9 a ⟨[],[],true,none⟩ none d ((pI a).1 he) (λz=>rfl);have e3:=e.2 b;rw[he];cases c:ke none (a.flatMap eA)with
  |none=>
   rw[c]at e3;exact absurd e3 (n b)
  |some k=>
   rw[c]at e3;have m:k.at_.file=fn:=by
    rcases wV _ _ _ c with h|h
    ·cases h
    ·obtain⟨i,j,g⟩:=rq.1 h;exact(mX (d i j) k g).fi
   show YN fn nm (_++wr _ _) _;rw[<-e.1,b,c,e3];refine⟨?_,mz q ⟨rfl,rfl,rfl,m⟩,?_⟩
   ·show List.map ly (_++[_])=List.map _ (_++[_]);rw[fc,fc,hd];exact b8 (λf=>_++[py iM [] [] true k.at_.row k.at_.col f]) ((b8 k8 m).trans o)
   ·rw[c5];exact ox l
theorem way(u:h6 jt none its=true)(f:∀i∈its,i.2≠[]/\∀c∈i.2,c<128/\c≠13)(j:(bM its).length<=200/\its.length<=100)(D:∀k,fP k sm=sm)(C:dM fn)(o:∀fs ft,fn=.str ⟨⟨fs⟩⟩ ft->nB fs=true)(v:dM nm)(w:k8 fn=k8 nm)(y:(jB cuts sm its).first=true->(jB cuts sm its).last≠none)(E:(jB cuts sm its).gR≠[])(tr:Bool):
  JO tr (cond jt [99,56,57] [99,57,57]) (cx cuts fn qE (bM its)) ((fV cuts fn qE its).flatMap eA) (kj (fV cuts fn qE its))/\
  vC nm (lu (kj (fV cuts fn qE its)) ((fV cuts fn qE its).flatMap eA)) (jB cuts sm its).gR (kj (fV cuts fn qE its)):=by
 have z:=Pw cuts fn (bM its) qE;have p:=SY (tr:=tr) its qE u (λi g=>(f i g).1) (cu z (cu (w8 8 j.1) (by decide)));have t:=Px (cuts:=cuts) (fn:=fn) its qE none u (λi g=>⟨(f i g).1,λc l=>((f i g).2 c l).1⟩);have q:=(pJ (cuts:=cuts) (fn:=fn) D (λi g=>⟨(f i g).1,λc l=>((f i g).2 c l).2⟩)).1;have d:=abV w t (Py its qE u) (by rw[wX];exact j.2) (λh=>by rw[<-q]at h ⊢;exact y h);rw[<-q]at d;change YN _ _ _ (jB cuts sm its).gR at d;have r:=λc=>sA _ c (λi g=>(t i g).file);refine⟨⟨p,λk d=>?_,?_⟩,v,?_,λx F=>?_,λc l=>(r c l)▸C,cu d.n (by decide),d.m,λk h=>?_,λc l fs ft h=>o fs ft ((r c l).symm.trans h)⟩
 ·obtain⟨i,g,d⟩:=rq.1 d;exact(mX (t i g) k d).ok
 ·have A:=my _ t;rw[rg]at A;omega
 ·intro h;have B:=d.m;rw[h]at B;cases s:(jB cuts sm its).gR with
  |nil=>exact E s
  |cons a b=>rw[s]at B;cases B
 ·rw[(d.k x F).2.2.2];exact C
 ·exact⟨(d.k k h).1,(d.k k h).2.1,(d.k k h).2.2.1,λfs ft e=>o fs ft ((d.k k h).2.2.2.symm.trans e)⟩
end
end
section
variable{jt:Bool}{l:List MS}{cuts ns:List Int}{T:List Nat}
noncomputable def Ia:List (Option Nat):=[none,some 9,some 10,some 32,some 47]
def pX(a t:Nat):List MS:=(rO a).2.map ms++[dv.getD t ([],[])]
noncomputable def gK(T:List Nat):Nat:=(T.reverse.takeWhile (·!=10)).length
def CS(jt:Bool)(l:List MS):Bool:=(Ia.all λd=>h6 jt d l&&h5 d (bM l))&&decide (fB l∈Ia/\fB l≠none)&&l.all (λi=>i.2!=[]&&i.2.all λc=>decide (c<128/\c≠13))&&decide ((bM l).length<=12/\l.length<=5/\(bM l).count 10<=2/\gK (bM l)<=11/\2<=(bM l).length)&&(bM l).getLast? !=some 92
theorem S4:∀a<10,∀t<20,CS false (pX a t)=true:=by decide +kernel
theorem Pz:∀a<10,a≠8->∀t<20,CS true (pX a t)=true:=by decide +kernel
def VC(j:Nat):Bool:=
 let l:=(rP j).its.map ms
 h6 (j==13) none l&&h5 none (bM l)&&decide (fB l∈Ia)&&l.all (λi=>i.2!=[]&&i.2.all λc=>decide (c<128/\c≠13))&&decide ((bM l).length<=10/\l.length<=4/\(bM l).count 10<=2/\gK (bM l)<=8)
theorem FQ:∀j<14,VC j=true:=by decide +kernel
set_option tactic.hygienic true in
theorem uZ(b n:Int):∃a t,a<10/\t<20/\(b.fmod 14=13->a≠8)/\c8 b n=pX a t:=by
 have d:=zH b n;have e:n.fmod 20<20:=iG _ (by decide);refine⟨(jS b n).toNat,(n.fmod 20).toNat,ab3 d,ab3 ⟨i7 _ (by decide),e⟩,λh f=>?_,rfl⟩;have c:jS b n=8:=acf d.1 f;unfold jS at c
 split at c
 ·cases c
 ·rename_i g;exact g ⟨c,h⟩
theorem u0(b n:Int):CS (decide (b.fmod 14=13)) (c8 b n)=true:=by
 obtain⟨a,t,c,d,f,e⟩:=uZ b n;rw[e];by_cases h:b.fmod 14=13
 ·rw[i9 h];exact Pz a c (f h) t d
 ·rw[h8 h];exact S4 a c t d
structure abW(jt:Bool)(l:List MS):Prop where(sq:∀d∈Ia,h6 jt d l=true)(gd:∀d∈Ia,h5 d (bM l)=true)(f1:fB l∈Ia/\fB l≠none)(it:∀i∈l,i.2≠[]/\∀c∈i.2,c<128/\c≠13)(len:(bM l).length<=12)(num:l.length<=5)(nl:(bM l).count 10<=2)(tl:gK (bM l)<=11)(two:2<=(bM l).length)(lst:(bM l).getLast?≠some 92)
theorem YO(h:CS jt l=true):abW jt l:=by
 unfold CS at h;simp only[eD,f0,iF,kz]at h;obtain⟨⟨⟨⟨b,c⟩,e⟩,a⟩,f⟩:=h;exact⟨λd hd=>(b d hd).1,λd hd=>(b d hd).2,c,λi g=>e i g,a.1,a.2.1,a.2.2.1,a.2.2.2.1,a.2.2.2.2,f⟩
structure aeu(jt:Bool)(l:List MS):Prop where(sq:h6 jt none l=true)(gd:h5 none (bM l)=true)(f1:fB l∈Ia)(it:∀i∈l,i.2≠[]/\∀c∈i.2,c<128/\c≠13)(len:(bM l).length<=10)(num:l.length<=4)(nl:(bM l).count 10<=2)(tl:gK (bM l)<=8)
theorem aev:aeu (oj ns) ((gb ns).its.map ms):=by
 have b:=zM ns;have h:=FQ _ b;have e:((ns.sum.fmod 14).toNat==13)=oj ns:=by
  unfold oj;by_cases h:ns.sum.fmod 14=13
  ·rw[h];rfl
  ·rw[h8 h];have:¬ (ns.sum.fmod 14).toNat=13:=λq=>h (acf (i7 _ (by decide)) q);simp[this]
 unfold VC at h;rw[e]at h;simp only[eD,f0,iF,kz]at h;obtain⟨⟨⟨⟨c,d⟩,f⟩,g⟩,a⟩:=h;exact⟨c,d,f,λi b=>g i b,a.1,a.2.1,a.2.2.1,a.2.2.2⟩
theorem fW(a b:List MS):bM (a++b)=bM a++bM b:=by
 unfold bM;rw[fc,xb]
theorem kl(p:Nat->Bool):∀a b:List Nat,((a++b).takeWhile p).length<=(a.takeWhile p).length+(b.takeWhile p).length
 |[],b=>by simp
 |c::a,b=>by
  have d:=kl p a b;rw[List.cons_append,xg,xg]
  split
  ·rw[List.length_cons,List.length_cons,xi];exact ox d
  ·simp
theorem CV(a b:List Nat):gK (a++b)<=gK a+gK b:=by
 unfold gK;rw[List.reverse_append];rw[Nat.add_comm];exact kl (·!=10) b.reverse a.reverse
theorem FR(a b:List MS):fB (a++b)=(fB a).or (fB b):=by
 cases a with
 |nil=>rfl
 |cons i a=>rfl
theorem u2(h:∀i∈l,i.2≠[]):(bM l).head?=fB l:=by
 cases l with
 |nil=>rfl
 |cons i l=>
  obtain⟨m,x⟩:=i;cases x with
  |nil=>exact absurd rfl (h _ (.head _))
  |cons c x=>rfl
structure J9(jt:Bool)(k:Nat)(l:List MS):Prop where(sq:∀d∈Ia,h6 jt d l=true)(gd:∀d∈Ia,h5 d (bM l)=true)(f1:fB l∈Ia)(it:∀i∈l,i.2≠[]/\∀c∈i.2,c<128/\c≠13)(len:(bM l).length<=12*k)(num:l.length<=5*k)(nl:(bM l).count 10<=2*k)(tl:gK (bM l)<=11*k)
theorem FS{a b:Option Nat}(c:a∈Ia)(d:b∈Ia):a.or b∈Ia:=by
 cases a with
 |none=>exact d
 |some a=>exact c
theorem J9.add{k:Nat}{a b:List MS}(e:abW jt a)(c:J9 jt k b):J9 jt (k+1) (a++b)where
 sq d hd:=by rw[qC,e.sq _ (FS c.f1 hd),c.sq d hd];rfl
 gd d hd:=by
  rw[fW,qz,u2 λi hi=>(c.it i hi).1,e.gd _ (FS c.f1 hd),c.gd d hd];rfl
 f1:=by rw[FR];exact FS e.f1.1 c.f1
 it i hi:=(dw.1 hi).elim (e.it i) (c.it i)
 len:=by rw[fW,c5];exact ab9 e.len c.len
 num:=by rw[c5];exact ab9 e.num c.num
 nl:=by rw[fW,List.count_append];exact ab9 e.nl c.nl
 tl:=by rw[fW];exact cu (CV ..) (ab9 e.tl c.tl)
theorem u4(a:Int):∀(ns:List Int)(s:oh),(fm a s ns).its=s.its++ns.flatMap (c8 a)
 |[],s=>by simp[fm]
 |n::ns,s=>by
  show(fm a (gk a s n) ns).its=_;rw[u4 a ns,lI,<-bQ];rfl
theorem u5(a:Int):∀ns:List Int,J9 (decide (a.fmod 14=13)) ns.length (ns.flatMap (c8 a))
 |[]=>⟨λz z=>rfl,λz z=>rfl,(by decide:(none:Option Nat)∈Ia),eu,cO 0,cO 0,cO 0,cO 0⟩
 |n::ns=>by
  exact J9.add (YO (u0 a n)) (u5 a ns)
structure S5(ns:List Int):Prop where(sq:h6 (oj ns) none (ca ns)=true)(gd:h5 none (bM (ca ns))=true)(it:∀i∈ca ns,i.2≠[]/\∀c∈i.2,c<128/\c≠13)(len:(bM (ca ns)).length<=60)(num:(ca ns).length<=24)(nl:(bM (ca ns)).count 10<=10)(tl:gK (bM (ca ns))<=52)
theorem u6(ns:List Int):(kh ns).its=ns.flatMap (c8 ns.sum):=by
 unfold kh;rw[u4];rfl
theorem ad4(b:ns.length<=4):S5 ns:=by
 have a:=u5 ns.sum ns;have he:=aev (ns:=ns);have d:=u6 ns;rw[<-d]at a;change J9 (oj ns) _ _ at a;refine⟨?_,?_,?_,?_,?_,?_,?_⟩
 ·unfold ca;rw[qC,rz,a.sq _ he.f1,he.sq];rfl
 ·unfold ca;rw[fW,qz,u2 λi c=>(he.it i c).1,rz,a.gd _ he.f1,he.gd];rfl
 ·intro i c;exact(dw.1 c).elim (a.it i) (he.it i)
 ·unfold ca;rw[fW,c5];exact ack a.len he.len b
 ·unfold ca;rw[c5];exact ack a.num he.num b
 ·unfold ca;rw[fW,List.count_append];exact ack a.nl he.nl b
 ·unfold ca;rw[fW];exact cu (CV ..) (ack a.tl he.tl b)
structure vD(cuts:List Int)(T:List Nat):Prop where(lt:∀a∈cuts,a<T.length)(bs:∀a∈cuts,∀i:Nat,T[i]?=some 92->a≠(i:Int)+1)
set_option tactic.hygienic true in
theorem vD.add{t:List Nat}{n:Int}(h:vD cuts T)(m:T.getLast?≠some 92):vD (cuts++iA t n T.length) (T++t):=by
 have key:∀a∈iA t n T.length,∃k:Nat,a=(T.length:Int)+k/\k<t.length/\((t.take k).drop ((t.take k).length-1))≠[92]:=by
  intro a ha;unfold iA at ha;simp only at ha
  split at ha
  ·rename_i o;rw[eC]at ha;have p:0<=n.fmod (t.length+2):=i7 _ (Int.lt_of_lt_of_le (by decide) (Int.le_add_of_nonneg_left (xm _)));exact⟨(n.fmod (t.length+2)).toNat,ha.trans (b8 _ (xh p).symm),(Int.toNat_lt p).2 o.1,o.2⟩
  ·cases ha
 constructor
 ·intro a ha;rw[c5];rcases dw.1 ha with ha|ha
  ·exact Int.lt_of_lt_of_le (h.lt a ha) (Int.ofNat_le.2 (h9 ..))
  ·obtain⟨k,e,g,_⟩:=key a ha;rw[e];exact Int.ofNat_lt.2 (Nat.add_lt_add_left g _)
 ·intro a ha i c e;rcases dw.1 ha with ha|ha
  ·have r:=h.lt a ha;rw[F9 (Nat.lt_of_succ_lt (Int.ofNat_lt.1 (show((i+1:Nat):Int)<_ from by rw[e]at r;exact r)))]at c;exact h.bs a ha i c e
  ·obtain⟨k,e2,g,u⟩:=key a ha;have q:i+1=T.length+k:=Int.ofNat.inj (e.symm.trans e2);cases k with
   |zero=>
    have j:i<T.length:=Nat.lt_of_lt_of_eq (Nat.lt_succ_self i) q;rw[F9 j]at c;rw[List.getLast?_eq_getElem?,show T.length-1=i from b8 (· - 1) q.symm]at m;exact m c
   |succ k=>
    have s:i=T.length+k:=Nat.succ.inj q;rw[List.getElem?_append_right (s▸h9 ..),s,Nat.add_sub_cancel_left]at c;apply u;have d:(t.take (k+1)).length=k+1:=by rw[ru];exact Nat.min_eq_left (Nat.le_of_lt g)
    rw[d,Nat.add_sub_cancel,List.drop_take,Nat.add_sub_cancel_left];have hd:(t.drop k)[0]?=some 92:=by rw[List.getElem?_drop];exact c
    cases f:t.drop k with
    |nil=>rw[f]at hd;cases hd
    |cons b bs=>
     rw[f]at hd;simp only[List.getElem?_cons_zero,xo]at hd;subst hd;rfl
theorem PA{a b:List Nat}(h:b≠[]):(a++b).getLast?=b.getLast?:=by
 rw[List.getLast?_append];cases d:b.getLast? with
 |none=>exact absurd (F8.1 d) h
 |some c=>rfl
theorem CW(a:Int):∀(ns:List Int)(s:oh),vD s.cuts (bM s.its)->(bM s.its).getLast?≠some 92->s.size=((bM s.its).length:Int)->
  vD (fm a s ns).cuts (bM (fm a s ns).its)/\(bM (fm a s ns).its).getLast?≠some 92/\(fm a s ns).size=((bM (fm a s ns).its).length:Int)
 |[],s,c,d,b=>⟨c,d,b⟩
 |n::ns,s,c,d,b=>by
  have e:=YO (u0 a n);refine CW a ns (gk a s n) ?_ ?_ ?_
  ·show vD (s.cuts++iA (bM (c8 a n)) (n.fdiv 200) s.size) (bM (s.its++c8 a n));rw[fW,b];exact c.add d
  ·show(bM (s.its++c8 a n)).getLast?≠some 92;rw[fW,PA (by intro h;have:=e.two;rw[h]at this;simp at this)];exact e.lst
  ·show s.size+((bM (c8 a n)).length:Int)=((bM (s.its++c8 a n)).length:Int);rw[fW,c5,b];rfl
theorem PC(ns:List Int):vD (dE ns) (bM (ca ns)):=by
 obtain⟨a,b,c⟩:=CW ns.sum ns ⟨[],[],0⟩ ⟨eu,eu⟩ (by decide) rfl;unfold dE ca lf;rw[fW];show vD ((kh ns).cuts++iA (bM ((gb ns).its.map ms)) (ns.sum.fdiv 42) (fm ns.sum ⟨[],[],0⟩ ns).size) _;rw[c];exact a.add b
theorem vD.ok(h:vD cuts T):uQ cuts 0 T:=by
 intro i c;unfold ef;rw[VH];intro b;rw[List.any_eq_true]at b;obtain⟨a,b,e⟩:=b;rw[je]at e;exact h.bs a b i c (e.trans (by rw[Int.zero_add]))
theorem PD(ns:List Int):(dE ns).length<=ns.length+1:=by
 have a:=on ns.sum ns ⟨[],[],0⟩;unfold dE kh lf iA;have b:=a.2;simp only[List.length_nil]at b;simp only
 split<;>simp<;>omega
end
section
open PySem.Builtin PySem.Builtin.Str
variable{c i k:Nat}{T:List Nat}{s:eY}
def mA(cuts:List Int):Int->List Nat->Nat
 |Y,[]=>0
 |a,Y::T=>(if ef cuts a then 1 else 0)+mA cuts (a+1) T
theorem ab2{cuts:List Int}{a:Int}:mA cuts a (c::T)=(if ef cuts a then 1 else 0)+mA cuts (a+1) T:=rfl
theorem abX(cuts:List Int):∀(T:List Nat)(s:PS),(T.foldl (iD cuts) s).r=s.r+((T.count 10:Nat):Int)+((mA cuts s.a T:Nat):Int)
 |[],s=>by show s.r=s.r+0+0;rw[Int.add_zero,Int.add_zero]
 |c::T,s=>by
  rw[List.foldl_cons,abX cuts T,ab2];unfold iD vd;by_cases b:c=10
  ·subst b;cases d:ef cuts s.a<;>simp<;>omega
  ·cases d:ef cuts s.a<;>simp[b]<;>omega
theorem VD(c:Int):∀(T:List Nat)(a:Int),c<a->mA [c] a T=0
 |[],a,Y=>rfl
 |d::T,a,h=>by
  have e:ef [c] a=false:=by
   unfold ef;simp;omega
  rw[ab2,e,VD c T (a+1) (by omega)];rfl
theorem VE(c:Int):∀(T:List Nat)(a:Int),mA [c] a T<=1
 |[],a=>eo _
 |d::T,a=>by
  rw[ab2];by_cases h:c=a
  ·have:=VD c T (a+1) (by omega)
   split<;>omega
  ·have e:ef [c] a=false:=by
    unfold ef;simpa using h
   rw[e];have:=VE c T (a+1);simp;exact this
theorem wY(c:Int)(b:List Int):∀(T:List Nat)(a:Int),mA (c::b) a T<=mA [c] a T+mA b a T
 |[],a=>cO _
 |d::T,a=>by
  have f:=wY c b T (a+1);have e:ef (c::b) a=(ef [c] a||ef b a):=by
   unfold ef;simp
  rw[ab2,ab2,ab2,e];cases ef [c] a<;>cases ef b a<;>simp<;>omega
theorem Ib:∀(cuts:List Int)(T:List Nat)(a:Int),mA cuts a T<=cuts.length
 |[],T,a=>by
  have:∀(T:List Nat)(a:Int),mA [] a T=0:=λT=>by
   induction T with
   |nil=>intro a;rfl
   |cons d T b=>
    intro a;rw[ab2,b];rfl
  rw[this];exact eo _
 |c::cs,T,a=>by
  have e:=wY c cs T a;have f:=VE c T a;have g:=Ib cs T a;rw[List.length_cons];omega
structure abY(k:Nat)(r:List Nat):Prop where(ne:r≠[])(asc:∀c∈r,c<128)(len:r.length<=k+4)
structure RI(s:eY)(k:Nat):Prop where(rows:∀r∈s.rows,abY k r)(asc:∀c∈s.row,c<128)(len:s.row.length<=k)
section
variable{cuts:List Int}{sm:List Nat}
theorem RI.cut(h:RI s k)(a:(∀c∈sm,c<128)/\sm.length<=4)(hn:sm≠[]):RI (Yy sm s) k where
 rows:=mz h.rows ⟨F3 _ hn,λc b=>(dw.1 b).elim (h.asc c) (a.1 c),by rw[c5];exact lL h.len a.2⟩
 asc:=eu
 len:=eo _
theorem RI.add(h:RI s k)(d:c<128):RI (gI [] [] s c) (k+1):=by
 have a:∀r∈s.rows,abY (k+1) r:=λr a=>⟨(h.rows r a).ne,(h.rows r a).asc,jd (h.rows r a).len⟩
 have f:(s.row++[c]).length<=k+1:=by
  rw[c5];exact ox h.len
 by_cases b:c=10
 ·subst b;exact⟨mz a ⟨F3 _ (by exact nofun),mz h.asc d,cu f (h9 _ 4)⟩,eu,eo _⟩
 have e:gI [] [] s c=⟨s.rows,s.row++[c],_,_,_,_⟩:=bu b;rw[e];exact⟨a,mz h.asc d,f⟩
theorem RI.step{s:eY}{k c:Nat}(h:RI s k)(f:c<128)(b:(∀c∈sm,c<128)/\sm.length<=4)(d:∀a,ef cuts a=true->sm≠[]):RI (gI (ow cuts) sm s c) (k+1):=by
 rw[Pq];by_cases e:ef cuts s.at_=true
 ·rw[bP e];exact(h.cut b (d _ e)).add f
 ·rw[bu e];exact h.add f
theorem RI.fold(b:(∀c∈sm,c<128)/\sm.length<=4)(e:∀a,ef cuts a=true->sm≠[]):∀(x:List Nat)(s:eY)(k:Nat),RI s k->(∀c∈x,c<128)->RI (x.foldl (gI (ow cuts) sm) s) (k+x.length)
 |[],s,k,h,Y=>h
 |c::x,s,k,h,f=>by
  rw[List.length_cons,show k+(x.length+1)=k+1+x.length by omega];exact RI.fold b e x _ _ (h.step (f c (.head _)) b e) λd hd=>f d (.tail _ hd)
theorem RI.lay(b:(∀c∈sm,c<128)/\sm.length<=4)(d:∀a,ef cuts a=true->sm≠[]):∀(l:List MS)(g:ec)(k:Nat),RI g.s k->(∀i∈l,∀c∈i.2,c<128)->RI (l.foldl (λg i=>gx (ow cuts) sm g i.1 i.2) g).s (k+(bM l).length)
 |[],g,k,h,Y=>h
 |i::l,g,k,h,e=>by
  rw[show bM (i::l)=i.2++bM l from rfl,c5,<-Gb];refine RI.lay b d l _ _ ?_ λj f=>e j (.tail _ f);rw[pF];exact RI.fold b d i.2 _ _ ⟨h.rows,h.asc,h.len⟩ (e i (.head _))
theorem FT{x:List Nat}(f:x≠[])(g:∀c∈x,c<128)(j:x.length<=1000):jj ⟨⟨x⟩⟩where
 len:=by
  show 8*x.length<=sizeLine;rw[show sizeLine=16777216 from by decide];omega
 asc:=by
  have he:∀(x:List Nat)(k:Nat),(∀c∈x,c<128)->∀c∈fP k x,c<128:=λx=>by
   induction x with
   |nil=>intro k _ c hc;cases hc
   |cons d x h=>
    intro k b c hc;rcases dw.1 hc with hc|hc
    ·unfold uJ at hc
     split at hc
     ·rw[(xj.1 hc).2];decide
     ·rw[eC.1 hc];exact b d (.head _)
    ·exact h _ (λe he=>b e (.tail _ he)) c hc
  have e:=jU x;unfold strIterType;have a:(cI ⟨⟨x⟩⟩).cps.all (· < 128)=true:=by
   rw[<-Array.all_toList,e,f0];intro c hc;exact i9 (he x 0 g c hc)
  rw[bP a];exact vZ
 ne:=by
  rw[jU];cases x with
  |nil=>exact absurd rfl f
  |cons c x=>
   obtain⟨d,m,e⟩:=uM 0 c;rw[show ∀k c l,fP k (c::l)=uJ k c++fP (kS k c) l from λz z z=>rfl,e];exact nofun
set_option tactic.hygienic true in
theorem PE(e:(∀c∈sm,c<128)/\sm.length<=4)(f:∀a,ef cuts a=true->sm≠[]){d:List MS}(l:∀i∈d,∀c∈i.2,c<128)(j:(bM d).length<=200):∀s∈hO (jB cuts sm d).cM,jj s:=by
 have h:=RI.lay e f d iS 0 ⟨eu,eu,cO _⟩ l;change RI (jB cuts sm d).s _ at h;intro s m;obtain⟨x,hx,rfl⟩:=dO.1 m;unfold ec.cM at hx
 split at hx
 ·obtain⟨a,b,c⟩:=h.rows x hx;exact FT a b (by omega)
 ·rename_i g;rcases dw.1 hx with hx|hx
  ·obtain⟨a,b,c⟩:=h.rows x hx;exact FT a b (by omega)
  ·rw[eC]at hx;subst hx;exact FT g h.asc (by have:=h.len;omega)
end
noncomputable def zV(p:List (List Nat)×List Nat)(c:Nat):List (List Nat)×List Nat:=if c=10 then(p.1++[p.2++[10]],[])else(p.1,p.2++[c])
noncomputable def ei:List Nat->List Nat->List (List Nat)
 |r,[]=>[r]
 |r,c::S=>if c=10 then r::ei [] S else ei (r++[c]) S
theorem ab4{r:List Nat}{S:List Nat}:ei r (c::S)=if c=10 then r::ei [] S else ei (r++[c]) S:=rfl
theorem mY:∀(S r:List Nat),ei r S≠[]
 |[],r=>by exact nofun
 |c::S,r=>by
  rw[ab4]
  split
  ·exact nofun
  ·exact mY S _
theorem qF:∀(S:List Nat)(rows:List (List Nat))(r:List Nat),S.foldl zV (rows,r)=(rows++(ei r S).dropLast.map (·++[10]),(ei r S).getLast (mY S r))
 |[],rows,r=>Prod.ext (dU _).symm rfl
 |c::S,rows,r=>by
  rw[List.foldl_cons];unfold zV;by_cases h:c=10
  ·subst h;rw[show(λ(p:List (List Nat)×List Nat)(c:Nat)=>if c=10 then(p.1++[p.2++[10]],([]:List Nat))else(p.1,p.2++[c]))=zV from rfl,qF S];have e:ei r (10::S)=r::ei [] S:=bP rfl;have a:=mY S [];simp only[e,List.dropLast_cons_of_ne_nil a,List.getLast_cons a];simp
  ·simp only[h,ia];rw[show(λ(p:List (List Nat)×List Nat)(c:Nat)=>if c=10 then(p.1++[p.2++[10]],([]:List Nat))else(p.1,p.2++[c]))=zV from rfl,qF S];have e:ei r (c::S)=ei (r++[c]) S:=bu h;simp only[e]
theorem u7:∀(S:List Nat)(rows:List (List Nat))(r:List Nat),(S.foldl zV (rows,r)).1.flatten++(S.foldl zV (rows,r)).2=rows.flatten++r++S
 |[],rows,r=>by simp
 |c::S,rows,r=>by
  rw[List.foldl_cons,show zV (rows,r) c=(if c=10 then(rows++[r++[10]],[])else(rows,r++[c]))from rfl];by_cases h:c=10
  ·subst h;rw[u7 S];simp
  ·rw[bu h,u7 S];simp
theorem PF(T:List Nat):(T.foldl zV ([],[])).2.length=gK T:=by
 have key:∀R:List Nat,(R.reverse.foldl zV ([],[])).2.length=(R.takeWhile (·!=10)).length:=λR=>by
  induction R with
  |nil=>rfl
  |cons c R a=>
   rw[List.reverse_cons,nI,xg];show(zV (R.reverse.foldl zV ([],[])) c).2.length=_;unfold zV;by_cases h:c=10
   ·subst h;exact rfl
   ·have e:(c !=10)=true:=by simpa using h
    rw[bu h,e];show((R.reverse.foldl zV ([],[])).2++[c]).length=_;rw[c5,a];rfl
 have:=key T.reverse;rw[List.reverse_reverse]at this;exact this
theorem YP(s:eY)(c:Nat):((gI (ow []) [] s c).rows,(gI (ow []) [] s c).row)=zV (s.rows,s.row) c:=by
 show((gI [] [] s c).rows,(gI [] [] s c).row)=_;by_cases h:c=10
 ·subst h;rfl
 ·have e:gI [] [] s c=⟨s.rows,s.row++[c],_,_,_,_⟩:=bu h;rw[e,zV,bu h]
theorem abZ:∀(x:List Nat)(s:eY),((x.foldl (gI (ow []) []) s).rows,(x.foldl (gI (ow []) []) s).row)=x.foldl zV (s.rows,s.row)
 |[],s=>rfl
 |c::x,s=>by rw[List.foldl_cons,List.foldl_cons,abZ x,YP]
theorem PG:∀(l:List MS)(g:ec),((l.foldl (λg i=>gx (ow []) [] g i.1 i.2) g).s.rows,(l.foldl (λg i=>gx (ow []) [] g i.1 i.2) g).s.row)=(bM l).foldl zV (g.s.rows,g.s.row)
 |[],g=>rfl
 |i::l,g=>by
  rw[List.foldl_cons,PG l,pF,abZ,show bM (i::l)=i.2++bM l from rfl,nI];rfl
noncomputable def PH(x:List Nat):PySem.Str:=⟨⟨x⟩⟩
noncomputable def pK:Nat->List Nat->List Nat
 |Y,[]=>[]
 |i,c::cs=>if c=10 then i::pK (i+1) cs else pK (i+1) cs
theorem acw{cs:List Nat}:pK i (c::cs)=if c=10 then i::pK (i+1) cs else pK (i+1) cs:=rfl
theorem PI:subAt ⟨⟨T⟩⟩ va i=true↔T[i]?=some 10:=by
 rw[StrLaws.subAt_eq];exact StrLaws.take1_drop
theorem FU{T:List Nat}:∀(n i:Nat)(di:Array Nat)(free:Nat),i+n=T.length+1->free<=i->di.size<=i->
  (forIn (List.range' i n) (di,free) (StrLaws.occBody ⟨⟨T⟩⟩ va T.length (T.length+1))).run.fst.toList=di.toList++pK i (T.drop i)
 |0,i,di,free,h,Y,V=>by
  rw[xd (by omega)];exact(dU _).symm
 |n+1,i,di,free,h,e,f=>by
  rw[List.range'_succ,xx];unfold StrLaws.occBody;have g:va.length=1:=rfl;by_cases b:T[i]?=some 10
  ·have a:=(w5.1 b).1;rw[bP ⟨⟨⟨by show di.size<T.length+1;omega,e⟩,by rw[g];exact a⟩,PI.2 b⟩];have d:=FU (T:=T) n (i+1) (di.push i) (i+va.length) (by omega) (by rw[g];exact cO _) (by rw[rx];exact sE f);refine Eq.trans d ?_;have hd:T.drop i=10::T.drop (i+1):=by
    rw[Ga a]
    congr 1
    exact(w5.1 b).2
   rw[hd,acw];simp
  ·rw[bu (λh=>b (PI.1 h.2))];have d:=FU (T:=T) n (i+1) di free (by omega) (by exact jd e) (by exact jd f);refine Eq.trans d ?_;by_cases a:i<T.length
   ·rw[Ga a,acw,bu (λh=>b (by rw[i8 a,h]))]
   ·rw[xd (by omega),xd (by exact Nat.le_of_not_lt a)];rfl
theorem mB{T:List Nat}:∀(S P r:List Nat),T=P++r++S->StrLaws.partsFrom ⟨⟨T⟩⟩ 1 P.length (pK (P.length+r.length) S)=(ei r S).map PH
 |[],P,r,h=>by
  subst h;show[strSub _ _ _]=[PH r]
  congr 1
  apply Str.ext';apply xu.mp;rw[StrLaws.strSub_toList];show(((P++r++[]).drop P.length).take ((P++r++[]).length-P.length))=r;simp
 |c::S,P,r,h=>by
  rw[acw,ab4];by_cases a:c=10
  ·subst a;have b:=mB (T:=T) S (P++r++[10]) [] (by rw[h];simp);have e:(P++r++[10]).length=P.length+r.length+1:=by simp;exact rfl
   rw[e]at b;show strSub _ _ _::StrLaws.partsFrom _ 1 (P.length+r.length+1) _=PH r::(ei [] S).map PH
   congr 1
   apply Str.ext';apply xu.mp;rw[StrLaws.strSub_toList];show((T.drop P.length).take (P.length+r.length-P.length))=r;rw[h];simp
  ·rw[bu a,bu a];have b:=mB (T:=T) S P (r++[c]) (by rw[h];simp);rw[<-b,c5];rfl
theorem FV(T:List Nat):iX ⟨⟨T⟩⟩=(ei [] T).map PH:=by
 unfold iX;have a:(⟨⟨T⟩⟩:PySem.Str).length=T.length:=rfl;have ho:occurrences ⟨⟨T⟩⟩ va 0 (⟨⟨T⟩⟩:PySem.Str).length ((⟨⟨T⟩⟩:PySem.Str).length+1)=pK 0 T:=by
  rw[StrLaws.occ_eq,a];have:=FU (T.length+1-0) 0 #[] 0 (by exact Nat.add_comm _ _) (cO _) (cO _);rw[this];exact rfl
 rw[ho,StrLaws.partsBetween_eq];exact mB T [] [] rfl
theorem ou:∀(S r:List Nat),(ei r S).length<=S.length+1
 |[],r=>cO _
 |c::S,r=>by
  rw[ab4]
  split
  ·have:=ou S [];exact sE this
  ·have:=ou S (r++[c]);exact jd this
theorem mC:∀(S r:List Nat),∀x∈ei r S,x.length<=r.length+S.length
 |[],r,x,h=>by
  replace h:=eC.1 h
  subst h;exact cO _
 |c::S,r,x,h=>by
  rw[ab4]at h;rw[List.length_cons]
  split at h
  ·rcases c4.1 h with rfl|h
   ·exact h9 _ _
   ·have:=mC S [] x h;simp at this;omega
  ·have:=mC S (r++[c]) x h;simp at this;omega
set_option tactic.hygienic true in
theorem Ka(a:List MS):(jB [] [] a).cM.flatten=bM a/\∃init last,iX ⟨⟨bM a⟩⟩=init++[last]/\(∀x∈init,x.length<=(bM a).length)/\init.length<=(bM a).length/\last.cps.toList.length=gK (bM a)/\fz init last=hO (jB [] [] a).cM:=by
 have h:=PG a iS;change ((jB [] [] a).s.rows,(jB [] [] a).s.row)=(bM a).foldl zV ([],[])at h;have e:=qF (bM a) [] [];have d:=u7 (bM a) [] [];have g:=PF (bM a);have m:=FV (bM a);have r:=ou (bM a) [];have n:=mC (bM a) [];have b:=mY (bM a) [];rw[<-h]at e d g;simp only[List.nil_append,Prod.mk.injEq]at e;obtain⟨o,j⟩:=e;have f:=(C9 b).symm;have l:(jB [] [] a).cM=if(jB [] [] a).s.row=[]then(jB [] [] a).s.rows else(jB [] [] a).s.rows++[(jB [] [] a).s.row]:=rfl
 refine⟨?_,(ei [] (bM a)).dropLast.map PH,PH ((ei [] (bM a)).getLast b),?_,?_,?_,?_,?_⟩
 ·rw[l]
  split
  ·rename_i he;rw[he,dU]at d;exact d
  ·rw[xb];simpa using d
 ·rw[m]
  conv=>lhs;rw[f]
  rw[fc];rfl
 ·intro x p;obtain⟨y,q,rfl⟩:=dO.1 p;have:=n y (List.dropLast_subset _ q);simpa[PH,Str.length]using this
 ·rw[fb,List.length_dropLast];omega
 ·rw[<-g,j];rfl
 ·unfold fz;rw[l,<-j];have e2:((ei [] (bM a)).dropLast.map PH).map nlAdd=hO (jB [] [] a).s.rows:=by
   rw[o,jc];unfold hO;rw[jc];apply List.map_congr_left;intro x _;apply Str.ext';apply xu.mp;show(PH x++(⟨⟨[10]⟩⟩:PySem.Str)).cps.toList=x++[10];rw[PySem.Str.cps_append,Array.toList_append];rfl
  rw[e2];show hO _++(if(jB [] [] a).s.row=[]then[]else[PH (jB [] [] a).s.row])=_
  split
  ·simp
  ·rw[CP];rfl
end
section
set_option tactic.hygienic true in
theorem Ic:∀(a:List AI)(g:AG),((g.first=true->g.last≠none)\/∃i∈a,i.m≠fj)->(a.foldl ev g).first=true->(a.foldl ev g).last≠none
 |[],g,h=>by
  refine cm ?_;intro G0;rcases h with h|⟨i,d,_⟩
  ·exact h
  ·cases d
 |i::is,g,h=>by
  refine Ic is _ ?_;by_cases b:i.m=fj
  ·have e:ev g i=g:=by
    unfold ev;rw[b,bu (by decide),bu (by decide),bu (by decide),bP rfl]
   rw[e];refine cm ?_;intro G0;rcases h with h|⟨j,hj,c⟩
   ·exact .inl h
   ·refine cm ?_;intro G0;rcases c4.1 hj with rfl|hj
    ·exact absurd b c
    ·exact .inr ⟨j,hj,c⟩
  ·refine .inl ?_;unfold ev
   repeat' split
   all_goals first|(intro _ h;cases h;done)|(intro h;cases h;done)|(rename_i h;exact absurd h b)
theorem PJ:∀(a:List AI)(g:AG),(g.due≠[]\/∃i∈a,i.m≠ij/\i.m≠iB/\i.m≠d0/\i.m≠fj)->(a.foldl ev g).due≠[]
 |[],g,h=>by
  refine cm ?_;intro G0;rcases h with h|⟨i,c,_⟩
  ·exact h
  ·cases c
 |i::is,g,h=>by
  refine PJ is _ ?_;rcases h with h|⟨j,hj,b⟩
  ·left;unfold ev
   repeat' split
   all_goals first|exact h|(intro d;exact h (sB.1 d).1)
  ·rcases c4.1 hj with rfl|hj
   ·left;unfold ev;simp[b.1,b.2.1,b.2.2.1,b.2.2.2]
   ·exact .inr ⟨j,hj,b⟩
theorem u8(cuts:List Int)(fn:Value):∀(its:List MS)(s:PS),∀i∈fV cuts fn s its,∀c∈i.l,c.file=fn
 |[],Y,i,h=>by cases h
 |j::a,s,i,h=>by
  rcases c4.1 h with rfl|h
  ·exact oo cuts fn _ _
  ·exact u8 cuts fn a _ i h
theorem pL(cuts:List Int)(fn:Value):∀(its:List MS)(s:PS),(fV cuts fn s its).map (·.m)=its.map (·.1)
 |[],Y=>rfl
 |j::a,s=>by
  rw[acg,fN,fN,pL cuts fn a]
theorem FW(cuts:List Int)(fn:Value)(x:List Nat):∀(l:List MS)(s:PS),(∀i∈l,i.1≠d0)->kj (fV cuts fn s (l++[(d0,x)]))=some ((gJ x).bind λk=>(cx cuts fn ((bM l).foldl (iD cuts) s) x)[k]?)
 |[],s,Y=>by
  show kj [⟨d0,x,cx cuts fn s x⟩]=_;rfl
 |i::l,s,h=>by
  show kj (⟨i.1,i.2,cx cuts fn s i.2⟩::fV cuts fn (i.2.foldl (iD cuts) s) (l++[(d0,x)]))=_;rw[aci,bu (h i (.head _)),FW cuts fn x l _ λj a=>h j (.tail _ a),show bM (i::l)=i.2++bM l from rfl,nI]
theorem Ie(cuts:List Int)(fn:Value)(l:List MS)(s:PS)(h:∀i∈l,i.1≠d0):kj (fV cuts fn s l)=none:=by
 rw[pI];intro i a;have:=iE (f:=λi:AI=>i.m) a;rw[pL]at this;obtain⟨j,b,e⟩:=dO.1 this;rw[<-e];exact h j b
def YQ(j:Nat):Bool:=
 let l:=(rP j).its.map ms
 match l.getLast? with
 |none=>(rP j).told== -2
 |some (m,x)=>if m=d0 then l.dropLast.all (λi=>i.1!=d0)&&x.all (·!=9)&&x.all (·!=13)&&x !=[]&&(match gJ x with
   |none=>(rP j).told== -1
   |some k=>(rP j).told==Int.ofNat k&&decide (k∈[2,3])&&decide (k<x.length))
  else l.all (λi=>i.1!=d0)&&(rP j).told== -2
theorem FX:∀j<14,YQ j=true:=by decide +kernel
theorem YR:∀a<10,∀t<20,(pX a t).all (λi=>i.1!=d0)=true:=by decide +kernel
theorem PK(b:Int)(ns:List Int):∀i∈ns.flatMap (c8 b),i.1≠d0:=by
 intro i c;obtain⟨n,hn,c⟩:=rq.1 c;refine cm ?_;intro G0;obtain⟨a,t,d,f,_,e⟩:=uZ b n;rw[e]at c;have:=f0.1 (YR a d t f) i c;simpa using this
theorem Kb(ns:List Int):((gb ns).told = -2/\∀i∈ca ns,i.1≠d0)\/
  ∃l x,ca ns=l++[(d0,x)]/\(∀i∈l,i.1≠d0)/\(∀c∈x,c≠9)/\((gJ x=none/\(gb ns).told = -1)\/∃k,gJ x=some k/\(gb ns).told=Int.ofNat k/\k∈[2,3]/\k<x.length):=by
 have h:=FX _ (zM ns);have b:=PK ns.sum ns;rw[<-u6]at b;change (match((gb ns).its.map ms).getLast? with
 |none=>(gb ns).told== -2
 |some (m,x)=>if m=d0 then((gb ns).its.map ms).dropLast.all (λi=>i.1!=d0)&&x.all (·!=9)&&x.all (·!=13)&&x !=[]&&(match gJ x with
   |none=>(gb ns).told== -1
   |some k=>(gb ns).told==Int.ofNat k&&decide (k∈[2,3])&&decide (k<x.length))
  else((gb ns).its.map ms).all (λi=>i.1!=d0)&&(gb ns).told== -2)=true at h
 have a:ca ns=(kh ns).its++(gb ns).its.map ms:=rfl;generalize(gb ns).its.map ms=E at *;refine cm ?_;intro G0;cases d:E.getLast? with
 |none=>
  have n:=F8.1 d;refine cm ?_;intro G0;subst n;refine .inl ⟨by simpa using h,λi f=>?_⟩;rw[a,dU]at f;exact b i f
 |some p=>
  refine cm ?_;intro G0;obtain⟨m,x⟩:=p;rw[d]at h;simp only at h;have j:E≠[]:=λe=>by rw[e]at d;cases d
  have n:E=E.dropLast++[(m,x)]:=by
   have:=List.getLast?_eq_some_getLast j;rw[this]at d;injection d with d;rw[<-d];exact(C9 j).symm
  by_cases o:m=d0
  ·refine cm ?_;intro G0;subst o;rw[bP rfl]at h;simp only[eD,f0,kz]at h;refine cm ?_;intro G0;obtain⟨⟨⟨⟨r,s⟩,t⟩,u⟩,g⟩:=h;refine .inr ⟨(kh ns).its++E.dropLast,x,?_,λi f=>?_,s,?_⟩
   ·rw[a,bQ,<-n]
   ·exact(dw.1 f).elim (b i) (r i)
   ·cases q:gJ x with
    |none=>
     rw[q]at g;exact .inl ⟨rfl,by simpa using g⟩
    |some k=>
     rw[q]at g;simp only[eD,je,iF]at g;exact .inr ⟨k,rfl,g.1.1,g.1.2,g.2⟩
  ·rw[bu o]at h;simp only[eD,f0,kz,je]at h;refine .inl ⟨h.2,λi f=>?_⟩;rw[a]at f;exact(dw.1 f).elim (b i) (h.1 i)
section
variable{cuts:List Int}{sm:List Nat}
theorem qG(a:∀k,fP k sm=sm){l:List MS}{m x:List Nat}(h:∀i∈l++[(m,x)],i.2≠[]/\∀c∈i.2,c≠13):(jB cuts sm (l++[(m,x)])).s.bT=zO cuts ((bM l).foldl (iD cuts) qE) x:=by
 obtain⟨n,b,d,_⟩:=uP (fn:=.none) a l iS li0 (λi e=>h i (dQ _ e));have f:=h (m,x) (by simp);have j:=Pr (cuts:=cuts) (m:=m) a b f.2;unfold jB;rw[nI];show(gx (ow cuts) sm (l.foldl (λg i=>gx (ow cuts) sm g i.1 i.2) iS) m x).s.bT=_;rw[j,d];rfl
theorem CX:∀(x:List Nat)(s:PS),(zO cuts s x).length=x.length
 |[],Y=>rfl
 |c::x,s=>b8 (· + 1) (CX x _)
theorem PL(e:∀k,fP k sm=sm){b:List MS}(h:∀i∈b,i.2≠[]/\∀c∈i.2,c≠13):(jB cuts sm b).cM.length<=(bM b).count 10+cuts.length+1:=by
 refine cm ?_;intro G0;obtain⟨g,j,f,_⟩:=uP (fn:=.none) e b iS li0 h;have d:=b8 PS.r f;rw[abX]at d;have l:=Ib cuts (bM b) (fY iS.s).a;change ((jB cuts sm b).s.rows.length:Int)+1=(((0:Nat):Int)+1)+_+_ at d;have:(jB cuts sm b).cM.length<=(jB cuts sm b).s.rows.length+1:=by
  unfold ec.cM
  split
  ·exact h9 _ _
  ·rw[c5];exact cO _
 omega
theorem wZ{fn:Value}{sf:PS->List Ch}:∀(T:List Nat)(s:PS),T.length<=(hQ cuts sf fn s T).length
 |[],Y=>cO _
 |c::T,s=>by
  have a:=wZ (fn:=fn) (sf:=sf) T (iD cuts s c);obtain⟨d,b,e⟩:=mx cuts fn s c;rw[FZ,e,c5,c5,List.length_cons,List.length_cons];exact cu (Nat.add_comm ..▸lL (jE 1 _) a) (jE ..)
end
theorem lg(ns:List Int):fU ns=[92,10]\/fU ns=[92,13]\/(fU ns=[63,63,47,10]/\ns≠[]):=by
 have s1:(ns.sum.fdiv 14).fmod 3<3:=iG _ (by decide);unfold fU;have:((ns.sum.fdiv 14).fmod 3).toNat=0\/((ns.sum.fdiv 14).fmod 3).toNat=1\/((ns.sum.fdiv 14).fmod 3).toNat=2:=XZ ((Int.toNat_lt (i7 _ (by decide))).2 s1);rcases this with h|h|h
 ·rw[h];exact .inl rfl
 ·rw[h];exact .inr (.inl rfl)
 ·refine .inr (.inr ⟨by rw[h];rfl,λe=>?_⟩);subst e;revert h
  decide
theorem PM(ns:List Int):∀k,fP k (fU ns)=fU ns:=by
 intro k;rcases lg ns with h|h|⟨h,_⟩
 ·rw[h];rfl
 ·rw[h];rfl
 ·rw[h];rfl
theorem zQ{ns:List Int}(h:ns≠[]):2<=(bM (ca ns)).length/\∃i∈ca ns,i∈dv:=by
 cases ns with
 |nil=>exact absurd rfl h
 |cons n ns=>
  have hd:ca (n::ns)=c8 (n::ns).sum n++(ns.flatMap (c8 (n::ns).sum)++(gb (n::ns)).its.map ms):=by
   unfold ca;rw[u6,lI,bQ]
  have b:=YO (u0 (n::ns).sum n);constructor
  ·rw[hd,fW,c5];have:=b.two;omega
  ·refine cm ?_;intro G0;obtain⟨a,t,d,c,_,e⟩:=uZ (n::ns).sum n;refine⟨dv.getD t ([],[]),?_,?_⟩
   ·rw[hd,e];exact dQ _ (by unfold pX;simp)
   ·rw[lH,i8 (h:=c)];exact sF _
theorem acl:ca []=[(iB,[10])]:=by decide +kernel
theorem u9(ns:List Int):∃i∈ca ns,i.1≠fj:=by
 by_cases h:ns=[]
 ·subst h;exact⟨_,.head _,by decide⟩
 ·obtain⟨_,i,a,b⟩:=zQ h;exact⟨i,a,(mW i b).2.2.1⟩
section
variable{ns:List Int}{cuts:List Int}{sm:List Nat}
theorem zR(g:S5 ns)(l:∀k,fP k sm=sm):(jB cuts sm (ca ns)).first=true->(jB cuts sm (ca ns)).last≠none:=by
 obtain⟨d,_,_⟩:=pJ l (λi b=>⟨(g.it i b).1,λc m=>((g.it i b).2 c m).2⟩);have h:=Ic (fV cuts .none qE (ca ns)) ⟨[],[],true,none⟩ (.inr (by
  refine cm ?_;intro G0;obtain⟨i,b,n⟩:=u9 ns;have a:=iE (f:=λi:MS=>i.1) b;rw[<-pL cuts .none (ca ns) qE]at a;obtain⟨j,o,e⟩:=dO.1 a;exact⟨j,o,by rw[e];exact n⟩))
 rw[<-d]at h;exact h
theorem Ig(l:S5 ns)(m:∀k,fP k sm=sm):(jB cuts sm (ca ns)).gR≠[]:=by
 obtain⟨g,_,_⟩:=pJ (fn:=.none) m (λi b=>⟨(l.it i b).1,λc n=>((l.it i b).2 c n).2⟩);have hd:(jB cuts sm (ca ns)).due≠[]:=by
  show(jB cuts sm (ca ns)).ag.due≠[];rw[g];by_cases h:ns=[]
  ·subst h;intro h;cases h
  ·refine PJ _ _ (.inr ?_);refine cm ?_;intro G0;obtain⟨_,i,b,o⟩:=zQ h;have a:=iE (f:=λi:MS=>i.1) b;rw[<-pL cuts .none (ca ns) qE]at a;obtain⟨j,p,e⟩:=dO.1 a;have d:=mW i o;exact⟨j,p,by rw[e];exact d.1,by rw[e];exact d.2.1,by rw[e];exact d.2.2.2.1,by rw[e];exact d.2.2.1⟩
 unfold ec.gR
 split
 ·intro h;exact hd (sB.1 h).1
 ·exact hd
theorem w0(a:S5 ns)(d:∀k,fP k sm=sm):(jB cuts sm (ca ns)).s.bT.length<=9000:=by
 by_cases h:ca ns=[]
 ·rw[h];exact eo _
 ·have e:=C9 h;generalize(ca ns).getLast h=i at e;obtain⟨m,x⟩:=i;rw[<-e,qG d (by rw[e];exact λi b=>⟨(a.it i b).1,λc f=>((a.it i b).2 c f).2⟩),CX];have:=a.len;rw[<-e,fW,c5]at this;have e2:bM [(m,x)]=x:=by simp[bM]
  rw[e2]at this;exact cu (cu (jE _ _) this) (by decide)
end
theorem PN{ns:List Int}(P:ns.length<=4):sx ns:=by
 have b:=ad4 P;have d:=PM ns;have f:∀k,fP k []=[]:=λ_=>rfl;have n:∀i∈ca ns,i.2≠[]/\∀c∈i.2,c≠13:=λi g=>⟨(b.it i g).1,λc hc=>((b.it i g).2 c hc).2⟩
 have Q:=PD ns;have r:=b.len;have u:=b.num;have D:ca ns≠[]:=λh=>by
  obtain⟨i,g,_⟩:=u9 ns;rw[h]at g;cases g
 refine cm ?_;intro G0;obtain⟨p,init,last,E,F,R,S,v⟩:=Ka (ca ns);have o:ol ns=bM (ca ns):=p;have G:=λft q=>way (cuts:=dE ns) (fn:=jT ft) (nm:=jT q) b.sq b.it ⟨by exact cu r (by decide),by exact cu u (by decide)⟩ d (.inr ⟨_,_,rfl⟩) (λfs t e=>by injection e with e1 e2;injection e1 with e1;injection e1 with e1;subst e1;decide) (.inr ⟨_,_,rfl⟩) rfl (zR b d) (Ig b d) (nD ns);have H:=way (cuts:=[]) (sm:=[]) b.sq b.it ⟨by omega,by omega⟩ f (.inl rfl) (λfs t e=>by cases e) (.inl rfl) rfl (zR b f) (Ig b f) (nD ns);obtain⟨_,_,w⟩:=pJ (cuts:=[]) f n;rw[CN]at w;have y:∀s∈hO (jB [] [] (ca ns)).cM,jj s:=PE (sm:=[]) ⟨(λc hc=>by cases hc),eo _⟩ (λa h=>absurd h (by simp[ef])) (λi g c hc=>((b.it i g).2 c hc).1) (by omega);refine⟨λi g=>⟨(b.it i g).1,?_⟩,D,⟨by omega,by omega⟩,zR b f,zR b d,?_,⟨w0 b f,w0 b d⟩,?_,?_,init,last,by rw[o];exact E,λx U=>by have:=F x U;omega,by omega,by have:=b.tl;omega,by rw[v];exact y,λft q=>?_⟩
 ·rw[f0];intro c hc;exact i9 ((b.it i g).2 c hc).1
 ·have:=PL (cuts:=dE ns) d n;have:=b.nl;show(jB (dE ns) (fU ns) (ca ns)).cM.length<41;omega
 ·refine PE ?_ (λa _=>?_) (λi g c hc=>((b.it i g).2 c hc).1) (by omega)
  ·rcases lg ns with h|h|⟨h,_⟩
   ·rw[h];decide
   ·rw[h];decide
   ·rw[h];decide
  ·rcases lg ns with h|h|⟨h,_⟩
   ·rw[h];decide
   ·rw[h];decide
   ·rw[h];decide
 ·rw[o];refine⟨by omega,?_⟩;cases I:bM (ca ns)with
  |nil=>
   obtain⟨i,g,_⟩:=u9 ns;have M:i.2∈(ca ns).map (·.2):=iE g;unfold bM at I;rw[List.flatten_eq_nil_iff]at I;exact absurd (I _ M) (b.it i g).1
  |cons c T=>exact ox (eo _)
 ·obtain⟨w1,w2⟩:=G ft q;obtain⟨V,W⟩:=H;refine cm ?_;intro G0;obtain⟨_,_,z⟩:=pJ d n;have j:=(PC ns).ok;have J:∃A,(if nD ns then cf [] (cw (jT ft) 1 (hO (gq ns).cM))else some (cw (jT ft) 1 (hO (gq ns).cM)))=some A/\(∀c∈A,Kl c)/\lp A=cx (dE ns) (jT ft) qE (bM (ca ns)):=by
   change cw (jT ft) 1 (hO (gq ns).cM)=_ at z;rw[z,H4];unfold nD;rcases lg ns with h|h|⟨h,K⟩
   ·rw[h];refine⟨_,rfl,pG (λs c hc=>?_) _ _ b.gd,uR (λs=>⟨_,_,rfl,rfl,.inl rfl⟩) _ _ _ (cO _) b.gd j⟩;rcases c4.1 hc with rfl|hc
    ·exact .inl rfl
    ·rw[eC.1 hc];exact .inr (by show(10:Nat)∈qU;decide)
   ·rw[h];refine⟨_,rfl,pG (λs c hc=>?_) _ _ b.gd,uR (λs=>⟨_,_,rfl,rfl,.inr rfl⟩) _ _ _ (cO _) b.gd j⟩;rcases c4.1 hc with rfl|hc
    ·exact .inl rfl
    ·rw[eC.1 hc];exact .inr (by show(13:Nat)∈qU;decide)
   ·rw[h];have L:=CQ (cuts:=dE ns) (fn:=jT ft) (bM (ca ns)) qE b.gd;have M:=(zQ K).1;have hl:=wZ (cuts:=dE ns) (fn:=jT ft) (sf:=Y2 (jT ft)) (bM (ca ns)) qE;unfold oq at L;rw[bu (by omega)]at L;refine⟨_,L,pG (λs c hc=>?_) _ _ b.gd,uR (λs=>⟨_,_,rfl,rfl,.inl rfl⟩) _ _ _ (cO _) b.gd j⟩;rcases c4.1 hc with rfl|hc
    ·exact .inl rfl
    ·rw[eC.1 hc];exact .inr (by show(10:Nat)∈qU;decide)
  obtain⟨A,X,Y,Z⟩:=J;refine⟨A,_,_,_,_,X,Y,by rw[Z];exact w1,by rw[v,w];exact V,w2,W,?_,λc hc=>by rw[sA _ c (u8 _ _ _ _) hc],λc hc=>by rw[sA _ c (u8 _ _ _ _) hc]⟩;rcases Kb ns with⟨e1,e2⟩|⟨l,x,e1,e2,e3,e4⟩
  ·exact .inl ⟨e1,Ie _ _ _ _ e2,Ie _ _ _ _ e2⟩
  ·have N:=FW (dE ns) (jT ft) x l qE e2;have O:=FW [] .none x l qE e2;have s1:=qG (cuts:=dE ns) d (l:=l) (m:=d0) (x:=x) (by rw[<-e1];exact n);have s2:=qG (cuts:=[]) f (l:=l) (m:=d0) (x:=x) (by rw[<-e1];exact n);have p1:=qx (dE ns) (jT ft) x ((bM l).foldl (iD (dE ns)) qE) e3;have p2:=qx [] .none x ((bM l).foldl (iD []) qE) e3;have c1:=e7 (dE ns) (jT ft) x ((bM l).foldl (iD (dE ns)) qE) e3;have c2:=e7 [] .none x ((bM l).foldl (iD []) qE) e3;rw[<-p1]at s1;rw[<-p2]at s2;rw[<-e1]at N O s1 s2;rw[N,O];show Vy (gb ns).told (jB [] [] (ca ns)).s.bT (jB (dE ns) (fU ns) (ca ns)).s.bT _ _;rw[s1,s2];have l1:=b8 List.length c1;have l2:=b8 List.length c2;rw[fb]at l1 l2;generalize cx (dE ns) (jT ft) ((bM l).foldl (iD (dE ns)) qE) x=B at *;generalize cx [] .none ((bM l).foldl (iD []) qE) x=C at *;refine cm ?_;intro G0;rcases e4 with⟨b1,b2⟩|⟨k,b1,b2,b3,b4⟩
   ·refine .inr (.inl ⟨b2,?_,?_⟩)
    ·rw[b1];rfl
    ·rw[b1];rfl
   ·have g1:B[k]?=some B[k]:=i8 (by omega);have g2:C[k]?=some C[k]:=i8 (by omega);refine .inr (.inr ⟨k,B[k],C[k],b2,b3,?_,?_,?_,?_⟩)
    ·rw[b1];show some B[k]?=_;rw[g1]
    ·rw[b1];show some C[k]?=_;rw[g2]
    ·rw[lJ,g1];rfl
    ·rw[lJ,g2];rfl
end
section
variable{w₀:World}{s₀ s₁:Shared}{S:Addr}
theorem YS{o:Obj}{n:Option String}(h:Ly (some o)=some n)(hn:n=none\/n=some "dict"):jW o=false:=by
 unfold jW;unfold Ly at h;dsimp only at h;cases hd:o.data with
 |dict es k=>
  rw[hd]at h;cases a:o.cls with
  |type m=>
   rw[a]at h;dsimp only at h ⊢;injection h with h;rcases hn with rfl|rfl
   ·cases h
   ·injection h with h;subst h
    decide +kernel
  |_=>rfl
 |_=>rfl
structure Behind(P:Params)(h:Heap):Prop where(at_:∀p∈vP P,h.get? p.1=some p.2)(see:∀b,b<642->∃o,h.get? b=some o/\jW o=false)(size:h.objs.size=642)
theorem PO(P:Params):(Qj (bY P) 1 0).map (·.1)=Lx:=by kernel_rfl
theorem YT(P:Params):∀p∈Qj (bY P) 1 0,(bY P).get p.1=some p.2:=
 lK.1 (by kernel_rfl:(Qj (bY P) 1 0).map (λp=>(bY P).get p.1)=(Qj (bY P) 1 0).map λp=>some p.2)
theorem PQ(P:Params):(vP P).map (·.1)=oS:=by
 unfold vP oS;rw[fN,fc];exact b8 (λz=>225::(hv.map (·.1)++z)) (by rw[<-s0 P];exact PO P:(ktF P).map (·.1)=Lx)
theorem Kc{w:World}{s:Shared}(h:Dw s=IA w):Behind w.params s.heap:=by
 have a:oS.map s.heap.get?=(vP w.params).map (λp=>some p.2):=b8 (·.1) h;have d:(List.range 642).map (λb=>Ly (s.heap.get? b))=(List.range 642).map (λb=>some (if b∈Dv then some "dict" else none)):=b8 (·.2.1) h;refine⟨?_,λb e=>?_,b8 (·.2.2) h⟩
 ·rw[<-PQ w.params,jc]at a;exact lK.1 a
 ·have:=lK.1 d b (rA.2 e);cases ho:s.heap.get? b with
  |none=>rw[ho]at this;cases this
  |some o=>
   rw[ho]at this;refine⟨o,rfl,YS this ?_⟩;by_cases c:b∈Dv
   ·rw[bP c];exact .inr rfl
   ·rw[bu c];exact .inl rfl
def mD:List Nat:=(List.range 642).filter λb=>!(oS.contains b)
theorem CY{b:Nat}(h:b∈mD):b<642/\b∉oS:=by
 obtain⟨c,a⟩:=xw.1 h;exact⟨rA.1 c,λd=>by rw[List.contains_iff_mem.2 d]at a;cases a⟩
theorem S6(P:Params)(b:Nat)(c:b∈mD):(bY P).get b=none:=by
 cases h:(bY P).get b with
 |none=>rfl
 |some o=>
  have a:=mK _ 1 0 b o h;rw[Nat.one_mul,Nat.add_zero]at a;have d:b∈Lx:=by rw[<-PO P];exact dO.2 ⟨_,a,rfl⟩
  exact absurd (List.mem_cons_of_mem _ (dp _ d)) (CY c).2
theorem FY(P:Params):∀b∈642::(hv.map (·.1)++[225]),(bY P).get b=none:=
 lK.1 (by kernel_rfl:(642::(hv.map (·.1)++[225])).map (bY P).get=(642::(hv.map (·.1)++[225])).map λz=>none)
theorem Kd:(642::(hv.map (·.1)++[225])).Nodup:=by decide +kernel
theorem Ke:(642::(hv.map (·.1)++225::mD)).Nodup:=by
 have e:642::(hv.map (·.1)++225::mD)=(642::(hv.map (·.1)++[225]))++mD:=by simp
 rw[e];refine xp.2 ⟨Kd,List.Pairwise.filter _ List.nodup_range,λa ha b d=>?_⟩;rintro rfl;obtain⟨f,c⟩:=CY d;rcases c4.1 ha with rfl|ha
 ·exact pS _ f
 ·rcases dw.1 ha with ha|ha
  ·exact c (List.mem_cons_of_mem _ (dQ _ ha))
  ·rw[eC.1 ha]at c;exact c (.head _)
theorem YU(b:Nat)(a:b<642):b∈Lx\/b∈hv.map (·.1)\/b=225\/b∈mD:=by
 by_cases h:b∈oS
 ·rcases c4.1 h with h|h
  ·exact .inr (.inr (.inl h))
  ·rcases dw.1 h with h|h
   ·exact .inr (.inl h)
   ·exact .inl h
 ·refine .inr (.inr (.inr (xw.2 ⟨rA.2 a,?_⟩)));cases c:oS.contains b with
  |false=>rfl
  |true=>exact absurd (List.contains_iff_mem.1 c) h
theorem CZ:hv.all (λp=>!jW p.2)=true:=by decide +kernel
noncomputable def pM:List Int->Nat->List (Int×Nat)|[],Y=>[]|n::ns,t=>(n,t)::pM ns (t+1)
theorem w3:∀(ns:List Int)(t:Nat),(pM ns t).map (·.1)=ns
 |[],Y=>rfl
 |n::ns,t=>b8 (n::·) (w3 ns (t+1))
theorem lay_ints{R:WRecords}{cl:PySem.Str->Option Addr}{P:Params}{ord:List DictEntry->List DictEntry}:∀(ns:List Int)(s:Shared),layAllW R cl P ord (ofPys (ns.map PyData.int)) s=some (df (pM ns s.toks),{ s with toks:=s.toks+ns.length })
 |[],s=>by exact rfl
 |n::ns,s=>by
  have a:=lay_ints (R:=R) (cl:=cl) (P:=P) (ord:=ord) ns { s with toks:=s.toks+1 };simp only[fN,ofPys,ofPy,layAllW,layW];rw[a];have e:s.toks+1+ns.length=s.toks+(ns.length+1):=by exact xi _ _ _
  simp[show pM (n::ns) s.toks=(n,s.toks)::pM ns (s.toks+1)from rfl,df,e]
theorem S7:Az (w,os):=λS n ip a=>by
 have z:=Po (S:=S) (n:=n) a (PN (by rw[fb,ru];exact Nat.min_le_left _ _));rw[show lF 850 (Ay S (df ip) n) (star (ce hv) Pl) (λy=>nV) = @bO pz (wv w b1 b2) (bY w.params) os 850 (Ay S (df ip) n).c (Ay S (df ip) n).pre (star (ce hv) Pl) (Ay S (df ip) n).out (λy=>nV)from rfl,acG]at z;exact z
structure VF(s₀ s₁:Shared)(S:Addr)(ip:List (Int×Nat)):Prop where(S:S=642)(lst:s₁.heap.get? 642=some (br (df ip) 0))(old:∀b,b<642->s₁.heap.get? b=s₀.heap.get? b)(size:s₁.heap.objs.size=643)
theorem ab0{R:WRecords}{ns:List Int}{h:List Addr}(a:s₀.heap.objs.size=642)(L:Laid R w₀ s₀ s₁ [ofPy (PyData.list (ns.map PyData.int))] [.ref S] h):VF s₀ s₁ S (pM ns s₀.toks):=by
 obtain⟨ord,f,d⟩:=L.laid;simp only[layAllW,layW,ofPy,lay_ints]at d;injection d with d;injection d with c i;injection c with c;injection c with c;subst i;refine⟨?_,?_,λb g=>?_,?_⟩
 ·rw[<-c];exact a
 ·show(s₀.heap.push _).get? 642=_;rw[<-a];refine(rp _ rfl).trans ?_;unfold br;rw[<-oQ]
 ·exact Heap.get?_push_ne _ _ _ λe=>by rw[e,a]at g;exact pS _ g
 ·show(s₀.heap.push _).objs.size=643;rw[Heap.size_push,a]
def w4(s:Shared):bH:=mD.map λb=>(b,(s.heap.get? b).getD default)
theorem S8{c:List (Int×Nat)}(B:Behind w₀.params s₀.heap)(L:VF s₀ s₁ S c)(k:s₁.gens=#[]):
  Sat (bY w₀.params) s₁.os s₁ ([(642,br (df c) 0)]++((hv++[(225,mZ #[])])++w4 s₀)) ([]++[]):=by
 have f:∀{b o},s₀.heap.get? b=some o->b<642:=λh=>by have:=jG h;rw[B.size]at this;exact this
 have g:∀p∈vP w₀.params,s₁.heap.get? p.1=some p.2:=λp hp=>by
  have h:=B.at_ p hp;rw[L.old _ (f h)];exact h
 have j:∀p∈w4 s₀,s₁.heap.get? p.1=some p.2/\jW p.2=false:=λp hp=>by
  obtain⟨b,i,rfl⟩:=dO.1 hp;have d:b<642:=rA.1 (xw.1 i).1;obtain⟨o,ho,hd⟩:=B.see b d;refine⟨?_,?_⟩
  ·show s₁.heap.get? b=some ((s₀.heap.get? b).getD default);rw[L.old _ d,ho];rfl
  ·show jW ((s₀.heap.get? b).getD default)=false;rw[ho];exact hd
 have l:∀p∈hv,jW p.2=false:=λp hp=>by
  have:=f0.1 CZ p hp;simpa using this
 refine⟨λz=>#[],⟨λa o h=>?_,λp hp=>?_,λp hp=>?_,?_,eu,List.nodup_nil,?_,rfl⟩⟩
 ·have:=mK _ 1 0 a o h;rw[Nat.one_mul,Nat.add_zero]at this;exact g (a,o) (.tail _ (dp _ (by rw[<-s0];exact this)))
 ·rcases dw.1 hp with hp|hp
  ·rw[eC.1 hp];exact L.lst
  rcases dw.1 hp with hp|hp
  ·rcases dw.1 hp with hp|hp
   ·rw[lN (l p hp)];exact g p (.tail _ (dQ _ hp))
   ·rw[eC.1 hp];exact g _ (.head _)
  ·rw[lN (j p hp).2];exact(j p hp).1
 ·rcases dw.1 hp with hp|hp
  ·rw[eC.1 hp];exact FY w₀.params 642 (.head _)
  rcases dw.1 hp with hp|hp
  ·rcases dw.1 hp with hp|hp
   ·exact FY w₀.params p.1 (.tail _ (dQ _ (iE hp)))
   ·rw[eC.1 hp];exact FY w₀.params 225 (.tail _ (dp _ (.head _)))
  ·obtain⟨b,i,rfl⟩:=dO.1 hp;exact S6 w₀.params b i
 ·have e:([(642,br (df c) 0)]++((hv++[(225,mZ #[])])++w4 s₀)).map (λp:Nat×Obj=>p.1)=642::(hv.map (·.1)++225::mD):=by
   unfold w4;simp[fc,jc,Function.comp_def]
  rw[e];exact Ke
 ·exact .of_eq k
set_option tactic.hygienic true in
theorem PR{q:Program}{s:List PySem.Str}{XP:(PySem.Str->Option Value)->Heap->Prop}{d:DefRec}{D:List (PySem.Str×PySem.Expr)}(E:d.name=PySem.Challenge.rw_qt0012_01.row.name):WalkX q s XP Dw IA PySem.Challenge.rw_qt0012_01.row.toRowW d D λf vs=>PySem.call f vs:=by
 intro w₀ s₀ s₁ mg mb G Y fa o pm cd ac dV kV ho hd ae hD F hg aa ab as t v w H I J
 wrow_args v w H I J
 rename_i ns hs K af ai aj l4 l3 S M l0 hL ra w1 r0 hI hr ak al;refine enter_call ?_;have B:=Kc Y;have L:=ab0 B.size t;have x:(pM ns s₀.toks).length<=10000:=by
  have e:(pM ns s₀.toks).length=ns.length:=by
   have e:=b8 List.length (w3 ns s₀.toks);rwa [fb]at e
  omega
 obtain rfl:=L.S;have N:fa=641:=by
  obtain⟨o',es,ep,O,P,hk,hf⟩:=G.T.g;have h3:s₁.heap.get? 3=some (o3 w₀.params):=by
   rw[L.old 3 (by decide)];exact B.at_ (3,o3 w₀.params) (.tail _ (dp _ (by
    rw[<-s0];exact mK (bY w₀.params) 1 0 3 (o3 w₀.params) (by kernel_rfl))))
  have e:o'=o3 w₀.params:=by
   have:s₁.heap.get? 3=some o':=O;rw[h3]at this;injection this with this;exact this.symm
  subst e;have hn:=hf d.name;rw[F,E]at hn;have he:(o3 w₀.params).data=.dict es ep:=P;have e1:(match(o3 w₀.params).data with
   |.dict es V=>nsFind es PySem.Challenge.rw_qt0012_01.row.name
   |V=>none)=some (.ref 641):=by kernel_rfl
  rw[he]at e1;dsimp only at e1;rw[e1]at hn;injection hn with hn;injection hn with hn;exact hn.symm
 subst N;have z:=Iv S7 (w₀,s₁.os) 642 0 (pM ns s₀.toks) x;have sat:=S8 B L hg;show codeAny (model PySem.Challenge.pw_qt0012_01 w₀) callerA (.call (.ref 641) ⟨[.ref 642],[]⟩) _ s₁;rw[KQ];refine dj (z callerA s₁ (w4 s₀) [] (hv++[(225,mZ #[])]) [] ⟨rfl,by decide +kernel,by decide +kernel⟩ ⟨[],rfl,eu,λ_ q=>nomatch q⟩
  ⟨hv,[(225,mZ #[])],[],[],⟨rfl,rfl⟩,⟨mZ #[],rfl,rfl,⟨#[],rfl,trivial⟩⟩,.refl _,.refl _⟩ sat) ?_
 rintro r Q ⟨am,r1,g1,hE,er,SL,i⟩;obtain⟨p,B',j,⟨ps,C,an⟩,R,c⟩:=hE;subst er C;have own:∀q:Nat×Obj,jW q.2=false->q∈[(642,br (df (pM ns s₀.toks)) 0)]++(r1++w4 s₀)->Q.heap.get? q.1=some q.2:=λq hq y=>by
  have:=i.own q y;rwa [lN hq]at this
 have ao:∀{b o},s₀.heap.get? b=some o->b<642:=λh=>by have:=jG h;rw[B.size]at this;exact this
 have A:s₁.heap.get? 225=some (mZ #[]):=by
  rw[L.old 225 (by decide)];exact B.at_ _ (.head _)
 have m:Q.heap.get? 225=some (mZ ps):=own (225,mZ ps) rfl (dp _ (dQ _ (c.mem_iff.2 (.head _))));have key:∀b o,s₁.heap.get? b=some o->b≠225->Q.heap.get? b=some o:=λb o a U=>by
  have W:b<643:=by have:=jG a;rw[L.size]at this;exact this
  by_cases n:b=642
  ·subst n;rw[L.lst]at a;injection a with a;subst a;exact own _ rfl (.head _)
  have u:b<642:=Nat.lt_of_le_of_ne (Nat.le_of_lt_succ W) n;rw[L.old b u]at a;rcases YU b u with h|h|h|h
  ·rw[<-PO w₀.params]at h;obtain⟨p,C,rfl⟩:=dO.1 h;have k:=B.at_ p (.tail _ (dp _ (by rw[<-s0];exact C)));rw[a]at k;injection k with k;rw[k];exact i.old _ _ (YT w₀.params p C)
  ·obtain⟨⟨b',o'⟩,y,rfl⟩:=dO.1 h;have k:=B.at_ (b',o') (.tail _ (dQ _ y));rw[a]at k;injection k with k;subst k;have X:jW o=false:=by
    have:=f0.1 CZ _ y;simpa using this
   exact own (b',o) X (dp _ (dQ _ (c.mem_iff.2 (.tail _ (dQ _ (R _ y))))))
  ·exact absurd h U
  ·obtain⟨o2,l,Z⟩:=B.see b u;rw[a]at l;injection l with l;subst l;refine own (b,o) Z (dp _ (dp _ (dO.2 ⟨b,h,?_⟩)));rw[a];rfl
 refine⟨.inl ⟨.bool true,.bool true,[],rfl,λ_=>rfl,.bool true,?_,λ_=>⟨List.nodup_nil,eu⟩⟩,⟨λb o a=>?_,λb o a=>?_⟩,i.C0,i.bare⟩
 ·kernel_rfl
 ·by_cases h:b=225
  ·subst h;rw[A]at a;injection a with a;subst a;refine .inr (.inl ⟨?_,rfl,#[],ps,rfl,?_⟩)
   ·refine⟨229,Dp,_,?_,by kernel_rfl,rfl,rfl⟩;rw[L.old 229 (by decide)];exact B.at_ (229,Dp) (.tail _ (dp _ (by rw[<-s0];exact mK (bY w₀.params) 1 0 229 (Dp) (by kernel_rfl))))
   ·rw[m];show some (mZ ps)=some (mZ (#[]++ps));rw[Array.empty_append]
  ·exact .inl (key b o a h)
 ·by_cases h:b=225
  ·subst h;exact⟨_,m⟩
  ·exact⟨o,key b o a h⟩
end
end
end Mine.Internal
set_option maxHeartbeats 0 in
theorem PySem.Challenge.cw_qt0012_01_holds : PySem.Challenge.rw_qt0012_01.Holds := by
  w_on
  refine holds_law Mine.Internal.Zk λ_ => holds_openX (q := Mine.Internal.vq) (loose := Mine.Internal.s6) (Xt := λs => xlAt Mine.Internal.vq [] s && recOk (RowW.records PySem.Challenge.rw_qt0012_01.row.toRowW) s) (XP := XL Mine.Internal.vq []) (Yf := Mine.Internal.Dw) (Ya := Mine.Internal.IA) (N := 8650) Mine.Internal.Zj (λs e => xl_of s (Bool.and_eq_true_iff.mp e).1) XL.keeps (by rfl) (by rfl) (by rfl) (λs e => recFacts_of (Bool.and_eq_true_iff.mp e).2) (by rfl) (by first | assumption | decide +kernel) (by decide +kernel) ⟨rfl, rfl, rfl, rfl, rfl, by decide +kernel⟩ ?hw ?hc
  case hw => w_witness2
  case hc => exact Mine.Internal.PR (by rfl)
